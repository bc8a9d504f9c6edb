import JvmDerived
import JvmDerived.Pilot.@@N@@Statement
import JvmDerived.Pilot.@@N@@Code
set_option linter.unusedVariables false
set_option linter.unusedSimpArgs false
namespace Jvm.RoadKit
open Sem ClassFile Op Lib Jvm.Stand Jvm.Free Jvm.LawKit
section New
variable {p : Program} {l : Launch} {e : Env} {R : Room} {s : State} {m : MethodId} {args : Array Value} {below : List Frame} {meth : Method} {c : Code} {T : State} {locs : List Loc} {cells slots : Nat}
theorem retI (X : Stand p l e R s m args below meth c T locs cells slots) (hx : p.tables.exec = Jvm.exec) {pc : Nat} {Ls : Array Slot} {z : Int32} {rest : List Value} (hret : meth.sig.returnType = some .int) (hd : decode c.code pc = .ok (.ireturn, 1)) {fs : List Frame}
    (hl : ∀ (f : JFrame) (acts : List Action), f.method = m → f.locked = none → f.entered = [] → (doReturn e (T.setTop f) acts (some (.int z))).1 = T.setFrames fs) : Steps p.tables e below (T.setTop (mkF m pc Ls (.int z :: rest))) (T.setFrames fs) := by
  have hm' : T.vm.method? m = some meth := X.method'
  have hn : narrow .int (.int z) = .int z := rfl
  show Steps p.tables e below (T.setTop { method := m, pc := pc, locals := Ls, stack := _ :: rest, locked := none }) _
  jvm_step X.here [X.here.top, hx, hd, hm', hret, hn]
  first | (intro acts; rw [hl _ acts rfl rfl rfl]) | rw [hl _ _ rfl rfl rfl]
  exact Steps.refl _
end New
end Jvm.RoadKit
namespace Jvm.Pilot.@@N@@
open Jvm Jvm.ClassFile Sem Op Lib Jvm.Free Jvm.Stand Jvm.LawKit Jvm.RoadKit Bundle Jvm.Pilot.@@N@@.Jvm.D
/-- from A the run comes to its end, as the contract wants it -/
def Goes (p : Program) (e : Env) (below : List Frame) (En : Outcome → State → List Loc → Prop) (Q : Option Value → Heap → List Loc → Prop) (A : State) : Prop :=
  ∃ s₂ o, Steps p.tables e below A s₂ ∧ s₂.status = .running ∧ Ended s₂ below o ∧ ∃ v L, o = .returned v ∧ Q v s₂.heap L ∧ En o s₂ L
abbrev Met (l : Launch) (Z : State) (y : MethodName) (bytes : ByteArray) (maxL : Nat) (ret : Option FieldType) (rm : Room) (ws : List Jvm.Cond) (as : Array Value) (h0 : Heap) (Q : Option Value → Heap → List Loc → Prop) : Prop :=
  MetFree l y (head1 (Jvm.Cond.code y bytes maxL ret :: ws) rm) (fun aa U => aa = as ∧ Z.Warmed39 U.vm ∧ U.heap = h0) (fun _ _ _ _ _ => True) (fun _ U o U' => ∃ v L, o = .returned v ∧ Q v U'.heap L ∧ FrameEnd U o U' L rm.cells rm.slots)
abbrev MetW (l : Launch) (Z : State) (y : MethodName) (bytes : ByteArray) (maxL : Nat) (ret : Option FieldType) (rm : Room) (ws : List Jvm.Cond) (as : Array Value) (h0 : Heap) (Q : Option Value → Heap → List Loc → Prop) : Prop :=
  MetFree l y (head1 (Jvm.Cond.code y bytes maxL ret :: ws) rm) (fun aa U => aa = as ∧ Z.Warmed39 U.vm ∧ U.heap = h0) (fun _ _ _ _ _ => True) (fun _ U o U' => ∃ v L, o = .returned v ∧ Q v U'.heap L ∧ ReturnedEndW U o U' L rm.cells rm.slots)
theorem gw {a0 : Array Value} {Z : State} (hw : ∀ d ∈ tables_1, d.before a0 Z = true) (i : Nat) {d : Jvm.Cond} (h : tables_1[i]? = some d) : d.before a0 Z = true := hw _ (List.mem_of_getElem? h)
theorem w0 {n W : Nat} (h : n ≤ W) : 2 * 0 + n ≤ W := by omega
def Ob (h : Heap) (x : Addr) : Prop := ∀ c : Cell, h[x]? = some c → c.vm.isStatics = false
def NFc (Z : State) (K : String) : Prop := ∃ t kt, Z.vm.findClass K = some t ∧ Z.vm.classes[t]? = some kt ∧ kt.isInterface = false
set_option maxRecDepth 65536 in
theorem own_nsNo {Z : State} {a0 : Array Value} {C S K : String} (w : (Cond.superclass C S).before a0 Z = true) (wk : NFc Z K) (n : NS Z C K) (hn : C ≠ K) : ∃ c t, Z.vm.findClass C = some c ∧ Z.vm.findClass K = some t ∧ Z.vm.assignable c t = false := by
  obtain ⟨c, t, h0, g0, n3⟩ := n
  obtain ⟨p, k, kp, h1, h2, h3, h4, h5, -⟩ := Cond.superclass_spec h0 w
  obtain ⟨t', kt, g1, g2, g3⟩ := wk
  cases g0.symm.trans g1
  have ne := ids_ne h0 g0 hn
  refine ⟨c, t, h0, g0, ?_⟩
  show Z.vm.assignableAux (255 + 1) c t = false
  cases hq : kt.kind <;> simp [Vm.assignableAux, ne, h2, g2, h5, hq, g3, Vm.isSubclass, n3]
theorem own_selP {Z s : State} {a0 args : Array Value} {y : MethodName} {n : Nat} (hZ : Z.Warmed39 s.vm) (wi : (Cond.instantiable y.cls n).before a0 Z = true) (wp : (Cond.privateMethod y).before a0 Z = true) (wm : (Cond.instanceMethod y).before a0 Z = true) (hy : y.cls ≠ "java/lang/invoke/MethodHandle" ∧ y.cls ≠ "java/lang/invoke/VarHandle") : (Cond.selects y.cls y y).before args s = true := by
  obtain ⟨c, k, h1, h2, -, h4, -⟩ := Cond.instantiable_spec (mvT hZ wi : (Cond.instantiable y.cls n).before #[] s = true)
  exact selects_self_of_private h1 h2 (Bool.or_eq_false_iff.mp h4).1 (Cond.privateMethod_at (mvP hZ wp (args := #[]))) (mvT hZ wm) hy
section OwnSteps
variable {p : Program} {l : Launch} {e : Env} {R : Room} {s : State} {m : MethodId} {args : Array Value} {below : List Frame} {meth : Method} {c : Code} {T : State} {locs : List Loc} {cells slots : Nat}
theorem Goes.step {En : Outcome → State → List Loc → Prop} {Q : Option Value → Heap → List Loc → Prop} {A B : State} (st : ∀ t, Steps p.tables e below A t → Steps p.tables e below B t) (h : Goes p e below En Q A) : Goes p e below En Q B :=
  let ⟨s₂, o, h1, r⟩ := h; ⟨s₂, o, st _ h1, r⟩
theorem Gs {En : Outcome → State → List Loc → Prop} {Q : Option Value → Heap → List Loc → Prop} {A B : State} (st : ∀ t, Steps p.tables e below A t → Steps p.tables e below B t) (h : Goes p e below En Q A) : Goes p e below En Q B := Goes.step st h
theorem own_join {En : Outcome → State → List Loc → Prop} {Q : Option Value → Heap → List Loc → Prop} {A B : State} (hB : Goes p e below En Q B) (k : Goes p e below En Q B → Goes p e below En Q A) : Goes p e below En Q A := k hB
theorem own_joinP {En : Outcome → State → List Loc → Prop} {Q : Option Value → Heap → List Loc → Prop} {A : State} {B : Int32 → State} {P : Int32 → Prop} (hB : ∀ z, P z → Goes p e below En Q (B z)) (k : (∀ z, P z → Goes p e below En Q (B z)) → Goes p e below En Q A) : Goes p e below En Q A := k hB
theorem own_met {Z : State} {y : MethodName} {bytes : ByteArray} {maxL : Nat} {ret : Option FieldType} {rm : Room} {ws : List Jvm.Cond} {as : Array Value} {h0 : Heap} {Q : Option Value → Heap → List Loc → Prop} (hp : plainFor y = true)
    (body : ∀ p e s m below meth c s₁, meth.sig.returnType = ret → p.tables.exec = Jvm.exec → c.code = bytes → meth.locks = false → c.maxLocals = maxL → s.vm.findClass y.cls = some m.cls → meth.name = y.name → Stand p l e rm s m as below meth c s₁ [] 0 0 → s₁.heap = h0 → Z.Warmed39 s.vm → s.heap = h0 →
      Goes p e below (fun o u L => FrameEnd s o u L rm.cells rm.slots) Q (s₁.setTop (entryFrame m as maxL))) : Met l Z y bytes maxL ret rm ws as h0 Q := by
  refine MetFree.of_bodySF hp hisR ?_
  intro p e s m args below meth c s₁ Bd hml0 hP hK
  obtain ⟨rfl, hZ, hh⟩ := hP
  exact body p e s m below meth c s₁ Bd.returns Bd.exec Bd.bytes (BodyLoose.notSynchronized Bd) hml0 (findClass_of_methodNamed Bd.named) (name_of_methodNamed Bd.named Bd.method).1 (Stand.of_body Bd) (by rw [← hh, Bd.state]; rfl) hZ hh
theorem Goes.ret (X : Stand p l e R s m args below meth c T locs cells slots) {rc rs : Nat} {Q : Option Value → Heap → List Loc → Prop} {B : State} (v : Option Value) (hv : meth.sig.returnType = none → v = none) (hlk : meth.locks = false) (hc : cells ≤ rc) (hs : slots ≤ rs) (q : Q v T.heap locs)
    (k : ∀ fs, (∀ (f : JFrame) (acts : List Action), f.method = m → f.locked = none → f.entered = [] → (doReturn e (T.setTop f) acts v).1 = T.setFrames fs) → Steps p.tables e below B (T.setFrames fs)) : Goes p e below (fun o u L => FrameEnd s o u L rc rs) Q B := by
  obtain ⟨fs, hr, hrun, hended, hW, hsame⟩ := X.leave (v := v) hv hlk
  exact ⟨_, _, k fs hr, hrun, hended, _, _, rfl, q, ⟨_, rfl⟩, hW, hsame.mono hc hs⟩
theorem own_retN (X : Stand p l e R s m args below meth c T locs cells slots) (hx : p.tables.exec = Jvm.exec) {pc : Nat} {Ls : Array Slot} {z : Int32} {t : FieldType} {rest : List Value} (hret : meth.sig.returnType = some t) (ht : t = .boolean ∨ t = .byte ∨ t = .char ∨ t = .short) (hn : nar t z = z) (hd : decode c.code pc = .ok (.ireturn, 1)) {fs : List Frame}
    (hl : ∀ (f : JFrame) (acts : List Action), f.method = m → f.locked = none → f.entered = [] → (doReturn e (T.setTop f) acts (some (.int z))).1 = T.setFrames fs) : Steps p.tables e below (T.setTop (mkF m pc Ls (.int z :: rest))) (T.setFrames fs) :=
  retN X hx hret ht hd (by rw [hn]; exact hl)
theorem own_retA (X : Stand p l e R s m args below meth c T locs cells slots) (hx : p.tables.exec = Jvm.exec) {pc : Nat} {Ls : Array Slot} {z : Value} {t : FieldType} {rest : List Value} (hret : meth.sig.returnType = some t) (ht : t.isReference = true) (hz : z.isRef = true) (hd : decode c.code pc = .ok (.areturn, 1)) {fs : List Frame}
    (hl : ∀ (f : JFrame) (acts : List Action), f.method = m → f.locked = none → f.entered = [] → (doReturn e (T.setTop f) acts (some z)).1 = T.setFrames fs) : Steps p.tables e below (T.setTop (mkF m pc Ls (z :: rest))) (T.setFrames fs) := by
  have hm' : T.vm.method? m = some meth := X.method'
  show Steps p.tables e below (T.setTop { method := m, pc := pc, locals := Ls, stack := _ :: rest, locked := none }) _
  jvm_step X.here [X.here.top, hx, hd, hm', hret, hz, ht]
  first | (intro acts; rw [hl _ acts rfl rfl rfl]) | rw [hl _ _ rfl rfl rfl]
  exact Steps.refl _
end OwnSteps
abbrev mN0 : MethodName := ⟨"java/util/Arrays", "fill", "([II)V"⟩
abbrev mN1 : MethodName := ⟨"com/example/tandemtrie/tandemtrie/build/CodePointCounts", "unused", "(I)[I"⟩
abbrev mN2 : MethodName := ⟨"com/example/tandemtrie/tandemtrie/build/CodePointCounts", "<init>", "()V"⟩
abbrev mN3 : MethodName := ⟨"java/lang/Integer", "numberOfLeadingZeros", "(I)I"⟩
abbrev mN4 : MethodName := ⟨"com/example/tandemtrie/tandemtrie/build/CodePointCounts", "slotOf", "([II)I"⟩
abbrev mN5 : MethodName := ⟨"com/example/tandemtrie/tandemtrie/build/CodePointCounts", "grow", "()V"⟩
abbrev mN6 : MethodName := ⟨"com/example/tandemtrie/tandemtrie/build/CodePointCounts", "count", "(I)V"⟩
abbrev mN7 : MethodName := ⟨"com/example/tandemtrie/tandemtrie/build/CodePointCountsCountPinLaw", "codePointOf", "(IIIZ)I"⟩
abbrev mN8 : MethodName := ⟨"com/example/tandemtrie/tandemtrie/build/CodePointCountsCountPinLaw", "feed", "(Lcom/example/tandemtrie/tandemtrie/build/CodePointCounts;IIIIIZ)V"⟩
abbrev mN9 : MethodName := ⟨"java/util/DualPivotQuicksort", "insertionSort", "([JII)V"⟩
abbrev mN10 : MethodName := ⟨"java/util/DualPivotQuicksort", "sort", "(Ljava/util/DualPivotQuicksort$Sorter;[JIII)V"⟩
abbrev mN11 : MethodName := ⟨"java/util/DualPivotQuicksort", "sort", "([JIII)V"⟩
abbrev mN12 : MethodName := ⟨"java/util/Arrays", "sort", "([J)V"⟩
abbrev mN13 : MethodName := ⟨"com/example/tandemtrie/tandemtrie/build/CodePointCounts", "ranked", "()[I"⟩
abbrev mN14 : MethodName := ⟨"com/example/tandemtrie/tandemtrie/build/CodePointCountsCountPinLaw", "at", "([IIIZIII)Z"⟩
abbrev vi (x : Int32) : Slot := .val (.int x)
abbrev vr (x : Addr) : Slot := .val (.ref x)
abbrev vu : Slot := .unset
abbrev fT (T : State) (m : MethodId) (pc : Nat) (ls : Array Slot) (st : List Value) : State := T.setTop (mkF m pc ls st)
theorem Gz {p : Program} {e : Env} {below : List Frame} {En : Outcome → State → List Loc → Prop} {Q : Option Value → Heap → List Loc → Prop} {A B : State} (st : ∀ {t}, Steps p.tables e below A t → Steps p.tables e below B t) (h : Goes p e below En Q A) : Goes p e below En Q B := Goes.step (fun _ => st) h
abbrev HW (a0 : Array Value) (Z : State) : Prop := ∀ d ∈ tables_1, d.before a0 Z = true
theorem gz {Z s : State} {a0 args : Array Value} {d : Jvm.Cond} (hZ : Z.Warmed39 s.vm) (hw : HW a0 Z) (i : Nat) (h : tables_1[i]? = some d) (hd : (d.onTables && d.keepsFace) = true := by first | rfl | simp [Cond.onTables, Cond.keepsFace, Cond.keeps, Cond.steady]) : d.before args s = true := mvT hZ (gw hw i h) hd
theorem wz {n W : Nat} (h : n = W) : 2 * 0 + n ≤ W := w0 (Nat.le_of_eq h)
theorem gN {p : Program} {l : Launch} {e : Env} {R : Room} {s : State} {m : MethodId} {as : Array Value} {below : List Frame} {meth : Method} {c : Code} {T : State} {L : List Loc} {C S : Nat} {En : Outcome → State → List Loc → Prop} {Q : Option Value → Heap → List Loc → Prop} {code : ByteArray} {g : JFrame} {k : Fin 4} {v : Int32} (X : Stand p l e R s m as below meth c T L C S) (hx : p.tables.exec = Jvm.exec) (hby : c.code = code) (hd : decode code g.pc = .ok (.iload_n k, 1)) (hg : g.method = m) (hl : g.locals[k.val]? = some (.val (.int v))) (h : Goes p e below En Q (T.setTop { g with pc := g.pc + 1, stack := .int v :: g.stack })) : Goes p e below En Q (T.setTop g) := Gz (XS.iloadN X.here hx hg (hb hby hd) hl) h
theorem gI {p : Program} {l : Launch} {e : Env} {R : Room} {s : State} {m : MethodId} {as : Array Value} {below : List Frame} {meth : Method} {c : Code} {T : State} {L : List Loc} {C S : Nat} {En : Outcome → State → List Loc → Prop} {Q : Option Value → Heap → List Loc → Prop} {code : ByteArray} {g : JFrame} {k : Nat} {v : Int32} (X : Stand p l e R s m as below meth c T L C S) (hx : p.tables.exec = Jvm.exec) (hby : c.code = code) (hd : decode code g.pc = .ok (.iload k, 2)) (hg : g.method = m) (hl : g.locals[k]? = some (.val (.int v))) (h : Goes p e below En Q (T.setTop { g with pc := g.pc + 2, stack := .int v :: g.stack })) : Goes p e below En Q (T.setTop g) := Gz (XS.iload X.here hx hg (hb hby hd) hl) h
theorem gA {p : Program} {l : Launch} {e : Env} {R : Room} {s : State} {m : MethodId} {as : Array Value} {below : List Frame} {meth : Method} {c : Code} {T : State} {L : List Loc} {C S : Nat} {En : Outcome → State → List Loc → Prop} {Q : Option Value → Heap → List Loc → Prop} {code : ByteArray} {g : JFrame} {k : Fin 4} {v : Value} (X : Stand p l e R s m as below meth c T L C S) (hx : p.tables.exec = Jvm.exec) (hby : c.code = code) (hd : decode code g.pc = .ok (.aload_n k, 1)) (hg : g.method = m) (hl : g.locals[k.val]? = some (.val v)) (hv : v.isRef = true) (h : Goes p e below En Q (T.setTop { g with pc := g.pc + 1, stack := v :: g.stack })) : Goes p e below En Q (T.setTop g) := Gz (XS.aloadN X.here hx hg (hb hby hd) hl hv) h
theorem own_loopT {p : Program} {l : Launch} {e : Env} {R : Room} {s : State} {m : MethodId} {as : Array Value} {below : List Frame} {meth : Method} {c : Code} {T0 : State} {L0 : List Loc} {C S : Nat} {H : Heap} {n0 : Nat} {En : Outcome → State → List Loc → Prop} {Q : Option Value → Heap → List Loc → Prop} {A : State}
    (X : Stand p l e R s m as below meth c T0 L0 C S) (E : T0.heap = H) (N : Fr n0 L0) {ι : Type} {μ : ι → Nat} {I : ι → Prop} {B : ι → State → State}
    (step : ∀ (i : ι) (T : State) (L : List Loc), Stand p l e R s m as below meth c T L C S → T.heap = H → Fr n0 L → I i → (∀ (j : ι) (T : State) (L : List Loc), μ j < μ i → I j → Stand p l e R s m as below meth c T L C S → T.heap = H → Fr n0 L → Goes p e below En Q (B j T)) → Goes p e below En Q (B i T))
    (i0 : ι) (hi : I i0) (hA : A = B i0 T0) : Goes p e below En Q A := by
  have key : ∀ (k : Nat) (i : ι), μ i ≤ k → I i → ∀ (T : State) (L : List Loc), Stand p l e R s m as below meth c T L C S → T.heap = H → Fr n0 L → Goes p e below En Q (B i T) := by
    intro k
    induction k with
    | zero => intro i hk h T L X E N; exact step i T L X E N h (fun j T L hj => absurd hj (by omega))
    | succ k ih => intro i hk h T L X E N; exact step i T L X E N h (fun j T L hj hI X E N => ih j (by omega) hI T L X E N)
  rw [hA]; exact key _ i0 (Nat.le_refl _) hi T0 L0 X E N
abbrev DK (c : ByteArray) (pc : Nat) (i : Instr) (n : Nat) : Prop := decode c pc = .ok (i, n)
theorem gS {p : Program} {l : Launch} {e : Env} {R : Room} {s : State} {m : MethodId} {as : Array Value} {below : List Frame} {meth : Method} {c : Code} {T : State} {L : List Loc} {C S : Nat} {En : Outcome → State → List Loc → Prop} {Q : Option Value → Heap → List Loc → Prop} {code : ByteArray} {g : JFrame} {k : Nat} {x : Int32} {rest : List Value} (X : Stand p l e R s m as below meth c T L C S) (hx : p.tables.exec = Jvm.exec) (hby : c.code = code) (hd : decode code g.pc = .ok (.istore k, 2)) (l' : Array Slot) (h : Goes p e below En Q (T.setTop { g with pc := g.pc + 2, stack := rest, locals := l' })) (hg : g.method = m := by rfl) (hs : g.stack = .int x :: rest := by rfl) (hl : storeLocals g.locals k (.int x) = some l' := by rfl) : Goes p e below En Q (T.setTop g) := Gz (XS.istore X.here hx hg (hb hby hd) hs hl) h
theorem gs {p : Program} {l : Launch} {e : Env} {R : Room} {s : State} {m : MethodId} {as : Array Value} {below : List Frame} {meth : Method} {c : Code} {T : State} {L : List Loc} {C S : Nat} {En : Outcome → State → List Loc → Prop} {Q : Option Value → Heap → List Loc → Prop} {code : ByteArray} {g : JFrame} {k : Fin 4} {x : Int32} {rest : List Value} (X : Stand p l e R s m as below meth c T L C S) (hx : p.tables.exec = Jvm.exec) (hby : c.code = code) (hd : decode code g.pc = .ok (.istore_n k, 1)) (l' : Array Slot) (h : Goes p e below En Q (T.setTop { g with pc := g.pc + 1, stack := rest, locals := l' })) (hg : g.method = m := by rfl) (hs : g.stack = .int x :: rest := by rfl) (hl : storeLocals g.locals k.val (.int x) = some l' := by rfl) : Goes p e below En Q (T.setTop g) := Gz (XS.istoreN X.here hx hg (hb hby hd) hs hl) h
theorem gC {p : Program} {l : Launch} {e : Env} {R : Room} {s : State} {m : MethodId} {as : Array Value} {below : List Frame} {meth : Method} {c : Code} {T : State} {L : List Loc} {C S : Nat} {En : Outcome → State → List Loc → Prop} {Q : Option Value → Heap → List Loc → Prop} {code : ByteArray} {g : JFrame} {i : Int} (X : Stand p l e R s m as below meth c T L C S) (hx : p.tables.exec = Jvm.exec) (hby : c.code = code) (hd : decode code g.pc = .ok (.iconst i, 1)) (h : Goes p e below En Q (T.setTop { g with pc := g.pc + 1, stack := .int (Int32.ofInt i) :: g.stack })) (hg : g.method = m := by rfl) : Goes p e below En Q (T.setTop g) := Gz (XS.iconst X.here hx hg (hb hby hd)) h
theorem gB {p : Program} {l : Launch} {e : Env} {R : Room} {s : State} {m : MethodId} {as : Array Value} {below : List Frame} {meth : Method} {c : Code} {T : State} {L : List Loc} {C S : Nat} {En : Outcome → State → List Loc → Prop} {Q : Option Value → Heap → List Loc → Prop} {code : ByteArray} {g : JFrame} {i : Int} (X : Stand p l e R s m as below meth c T L C S) (hx : p.tables.exec = Jvm.exec) (hby : c.code = code) (hd : decode code g.pc = .ok (.bipush i, 2)) (h : Goes p e below En Q (T.setTop { g with pc := g.pc + 2, stack := .int (Int8.ofInt i).toInt32 :: g.stack })) (hg : g.method = m := by rfl) : Goes p e below En Q (T.setTop g) := Gz (XS.bipush X.here hx hg (hb hby hd)) h
theorem gG {p : Program} {l : Launch} {e : Env} {R : Room} {s : State} {m : MethodId} {as : Array Value} {below : List Frame} {meth : Method} {c : Code} {T : State} {L : List Loc} {C S : Nat} {En : Outcome → State → List Loc → Prop} {Q : Option Value → Heap → List Loc → Prop} {code : ByteArray} {g : JFrame} {o : Int} (X : Stand p l e R s m as below meth c T L C S) (hx : p.tables.exec = Jvm.exec) (hby : c.code = code) (hd : decode code g.pc = .ok (.goto o, 3)) (pc0 pc' : Nat) (h : Goes p e below En Q (T.setTop { g with pc := pc' })) (hg : g.method = m := by rfl) (hpc : g.pc = pc0 := by rfl) (ho : 0 ≤ (pc0 : Int) + o := by decide) (hp : ((pc0 : Int) + o).toNat = pc' := by decide) : Goes p e below En Q (T.setTop g) := Gz (XS.goto X.here hx hg hpc (hb hby hd) ho hp) h
theorem gY {p : Program} {l : Launch} {e : Env} {R : Room} {s : State} {m : MethodId} {as : Array Value} {below : List Frame} {meth : Method} {c : Code} {T : State} {L : List Loc} {C S : Nat} {En : Outcome → State → List Loc → Prop} {Q : Option Value → Heap → List Loc → Prop} {code : ByteArray} {g : JFrame} {cd : ClassFile.Cond} {o : Int} {x y : Int32} {rest : List Value} (X : Stand p l e R s m as below meth c T L C S) (hx : p.tables.exec = Jvm.exec) (hby : c.code = code) (hd : decode code g.pc = .ok (.if_icmp cd o, 3)) (pc0 pc' : Nat) (hc : if_icmp.holds cd x y = true) (h : Goes p e below En Q (T.setTop { g with pc := pc', stack := rest })) (hg : g.method = m := by rfl) (hpc : g.pc = pc0 := by rfl) (hs : g.stack = .int y :: .int x :: rest := by rfl) (ho : 0 ≤ (pc0 : Int) + o := by decide) (hp : ((pc0 : Int) + o).toNat = pc' := by decide) : Goes p e below En Q (T.setTop g) := Gz (XS.icmpYes X.here hx hg hpc (hb hby hd) hs hc ho hp) h
theorem gU {p : Program} {l : Launch} {e : Env} {R : Room} {s : State} {m : MethodId} {as : Array Value} {below : List Frame} {meth : Method} {c : Code} {T : State} {L : List Loc} {C S : Nat} {En : Outcome → State → List Loc → Prop} {Q : Option Value → Heap → List Loc → Prop} {code : ByteArray} {g : JFrame} {cd : ClassFile.Cond} {o : Int} {x y : Int32} {rest : List Value} (X : Stand p l e R s m as below meth c T L C S) (hx : p.tables.exec = Jvm.exec) (hby : c.code = code) (hd : decode code g.pc = .ok (.if_icmp cd o, 3)) (hc : if_icmp.holds cd x y = false) (h : Goes p e below En Q (T.setTop { g with pc := g.pc + 3, stack := rest })) (hg : g.method = m := by rfl) (hs : g.stack = .int y :: .int x :: rest := by rfl) : Goes p e below En Q (T.setTop g) := Gz (XS.icmpNo X.here hx hg (hb hby hd) hs hc) h
theorem gy {p : Program} {l : Launch} {e : Env} {R : Room} {s : State} {m : MethodId} {as : Array Value} {below : List Frame} {meth : Method} {c : Code} {T : State} {L : List Loc} {C S : Nat} {En : Outcome → State → List Loc → Prop} {Q : Option Value → Heap → List Loc → Prop} {code : ByteArray} {g : JFrame} {cd : ClassFile.Cond} {o : Int} {x : Int32} {rest : List Value} (X : Stand p l e R s m as below meth c T L C S) (hx : p.tables.exec = Jvm.exec) (hby : c.code = code) (hd : decode code g.pc = .ok (.ifCond cd o, 3)) (pc0 pc' : Nat) (hc : ifCond.holds cd x = true) (h : Goes p e below En Q (T.setTop { g with pc := pc', stack := rest })) (hg : g.method = m := by rfl) (hpc : g.pc = pc0 := by rfl) (hs : g.stack = .int x :: rest := by rfl) (ho : 0 ≤ (pc0 : Int) + o := by decide) (hp : ((pc0 : Int) + o).toNat = pc' := by decide) : Goes p e below En Q (T.setTop g) := Gz (XS.ifYes X.here hx hg hpc (hb hby hd) hs hc ho hp) h
theorem gu {p : Program} {l : Launch} {e : Env} {R : Room} {s : State} {m : MethodId} {as : Array Value} {below : List Frame} {meth : Method} {c : Code} {T : State} {L : List Loc} {C S : Nat} {En : Outcome → State → List Loc → Prop} {Q : Option Value → Heap → List Loc → Prop} {code : ByteArray} {g : JFrame} {cd : ClassFile.Cond} {o : Int} {x : Int32} {rest : List Value} (X : Stand p l e R s m as below meth c T L C S) (hx : p.tables.exec = Jvm.exec) (hby : c.code = code) (hd : decode code g.pc = .ok (.ifCond cd o, 3)) (hc : ifCond.holds cd x = false) (h : Goes p e below En Q (T.setTop { g with pc := g.pc + 3, stack := rest })) (hg : g.method = m := by rfl) (hs : g.stack = .int x :: rest := by rfl) : Goes p e below En Q (T.setTop g) := Gz (XS.ifNo X.here hx hg (hb hby hd) hs hc) h
theorem cVg {Z : State} {a0 : Array Value} {p : Program} {l : Launch} {e : Env} {R : Room} {s : State} {m : MethodId} {args : Array Value} {below : List Frame} {meth : Method} {c : Code} {T : State} {locs : List Loc} {cells slots : Nat} {En : Outcome → State → List Loc → Prop} {Q : Option Value → Heap → List Loc → Prop} {h : Heap} {ml : Nat} {code bytes : ByteArray} {maxL idx : Nat} {ret : Option FieldType} {rm : Room} {vs : Array Value} {Qc : Option Value → Heap → List Loc → Prop} {own C : String} {argsL rest st : List Value} {pc : Nat} {ls : Array Slot} {A : State} (X : Stand p l e R s m args below meth c T locs cells slots) (hx : p.tables.exec = Jvm.exec) (hZ : Z.Warmed39 s.vm) (hw : HW a0 Z) (hown : s.vm.findClass own = some m.cls) (hby : c.code = code) (hml : c.maxLocals = ml) (eT : T.heap = h) (y : MethodName) (i1 i2 i3 i4 i5 i6 W : Nat) (hM : Met l Z y bytes maxL ret rm [] vs h Qc) {b : Addr} (E : Exa Z h b C) (hd : decode code pc = .ok (.invokevirtual idx, 3)) (len : ∀ sig, parseMethodDescriptor y.desc = some sig → argsL.length = sig.parameters.length) (k : ∀ (v : Option Value) (T' : State) (L : List Loc), Stand p l e R s m args below meth c T' (locs ++ L) (cells + rm.cells) (slots + rm.slots) → Qc v T'.heap L → Goes p e below En Q (T'.setTop (mkF m (pc + 3) ls (v.toList ++ rest))))(hA : A = T.setTop (mkF m pc ls st) := by rfl) (w1 : tables_1[i1]? = some (.methodLink own idx y) := by rfl) (w2 : tables_1[i2]? = some (.declares y) := by rfl) (w3 : tables_1[i3]? = some (.selects C y y) := by rfl) (w4 : tables_1[i4]? = some (.instanceMethod y) := by rfl) (w5 : tables_1[i5]? = some (.code y bytes maxL ret) := by rfl) (w6 : tables_1[i6]? = some (.initialized y.cls) := by rfl) (hy : y.cls ≠ "java/lang/invoke/MethodHandle" ∧ y.cls ≠ "java/lang/invoke/VarHandle" := by decide) (hf : rm.frames + 1 ≤ R.frames := by decide) (hl : W + (maxL + 11) + rm.locals ≤ R.locals := by decide) (hc : cells + rm.cells ≤ R.cells := by decide) (hs : slots + rm.slots ≤ R.slots := by decide) (hls : ls.size = ml := by rfl) (hvs : vs = (.ref b :: argsL).toArray := by rfl) (hst : st = argsL.reverse ++ .ref b :: rest := by rfl) (hW : (rest.map fun v => v.category).sum = W := by rfl) : Goes p e below En Q A := by
  subst hA
  obtain ⟨cq, kq, qa, qb, qc⟩ := isOf hZ eT E
  subst hvs
  obtain ⟨v, _, ⟨T', L', k', n'⟩, -, X', ⟨Lc, hQ, l', y', z'⟩, st'⟩ := X.virtualBack hx (y := y) (z := y) hown (gz hZ hw i1 w1) (gz hZ hw i2 w2) (notFace_of_selects (args := #[]) (gz hZ hw i3 w3)) (gz hZ hw i3 w3) (gz hZ hw i4 w4) hy (backOf (W := W) hM hZ (gw hw i5 w5) (gw hw i6 w6) hf hl) qa qc (g := mkF m pc ls st) rfl (hls.trans hml.symm) (Steps.refl _) (argsL := argsL) (rest := rest) len hst (w0 (Nat.le_of_eq hW)) (hb hby hd) (fun _ _ => ⟨rfl, eT, hc, hs⟩)
  dsimp only [Pt.U, Pt.locs, Pt.cells, Pt.slots] at X' l' y' z' st' hQ
  subst l' y' z'
  exact Gs (fun _ tk => st'.trans tk) (k v T' Lc X' hQ)
theorem cSg {Z : State} {a0 : Array Value} {p : Program} {l : Launch} {e : Env} {R : Room} {s : State} {m : MethodId} {args : Array Value} {below : List Frame} {meth : Method} {c : Code} {T : State} {locs : List Loc} {cells slots : Nat} {En : Outcome → State → List Loc → Prop} {Q : Option Value → Heap → List Loc → Prop} {h : Heap} {ml : Nat} {code bytes : ByteArray} {maxL idx : Nat} {ret : Option FieldType} {rm : Room} {vs : Array Value} {Qc : Option Value → Heap → List Loc → Prop} {own : String} {argsL rest st : List Value} {pc : Nat} {ls : Array Slot} {A : State} (X : Stand p l e R s m args below meth c T locs cells slots) (hx : p.tables.exec = Jvm.exec) (hZ : Z.Warmed39 s.vm) (hw : HW a0 Z) (hown : s.vm.findClass own = some m.cls) (hby : c.code = code) (hml : c.maxLocals = ml) (eT : T.heap = h) (y : MethodName) (i1 i2 i5 i6 W : Nat) (hM : Met l Z y bytes maxL ret rm [] vs h Qc) (hd : decode code pc = .ok (.invokestatic idx, 3)) (len : ∀ sig, parseMethodDescriptor y.desc = some sig → argsL.length = sig.parameters.length) (k : ∀ (v : Option Value) (T' : State) (L : List Loc), Stand p l e R s m args below meth c T' (locs ++ L) (cells + rm.cells) (slots + rm.slots) → Qc v T'.heap L → Goes p e below En Q (T'.setTop (mkF m (pc + 3) ls (v.toList ++ rest))))(hA : A = T.setTop (mkF m pc ls st) := by rfl) (w1 : tables_1[i1]? = some (.methodLink own idx y) := by rfl) (w2 : tables_1[i2]? = some (.static y) := by rfl) (w5 : tables_1[i5]? = some (.code y bytes maxL ret) := by rfl) (w6 : tables_1[i6]? = some (.initialized y.cls) := by rfl) (hy : y.cls ≠ "java/lang/invoke/MethodHandle" ∧ y.cls ≠ "java/lang/invoke/VarHandle" := by decide) (hf : rm.frames + 1 ≤ R.frames := by decide) (hl : W + (maxL + 11) + rm.locals ≤ R.locals := by decide) (hc : cells + rm.cells ≤ R.cells := by decide) (hs : slots + rm.slots ≤ R.slots := by decide) (hls : ls.size = ml := by rfl) (hvs : vs = (argsL).toArray := by rfl) (hst : st = argsL.reverse ++ rest := by rfl) (hW : (rest.map fun v => v.category).sum = W := by rfl) : Goes p e below En Q A := by
  subst hA
  subst hvs
  obtain ⟨v, _, ⟨T', L', k', n'⟩, -, X', ⟨Lc, hQ, l', y', z'⟩, st'⟩ := Jvm.LawKit.callS X hx (y := y) hown (gz hZ hw i1 w1) (gz hZ hw i2 w2) (gz hZ hw i6 w6) (gz hZ hw i5 w5) hy (backOf (W := W) hM hZ (gw hw i5 w5) (gw hw i6 w6) hf hl) (g := mkF m pc ls st) rfl (hls.trans hml.symm) (argsL := argsL) (rest := rest) len hst (w0 (Nat.le_of_eq hW)) (hb hby hd) (fun _ _ => ⟨rfl, eT, hc, hs⟩)
  dsimp only [Pt.U, Pt.locs, Pt.cells, Pt.slots] at X' l' y' z' st' hQ
  subst l' y' z'
  exact Gs st' (k v T' Lc X' hQ)
theorem cS {n0 : Nat} {r : Option Value} {Z : State} {a0 : Array Value} {p : Program} {l : Launch} {e : Env} {R : Room} {s : State} {m : MethodId} {args : Array Value} {below : List Frame} {meth : Method} {c : Code} {T : State} {locs : List Loc} {cells slots : Nat} {En : Outcome → State → List Loc → Prop} {Q : Option Value → Heap → List Loc → Prop} {h : Heap} {ml : Nat} {code bytes : ByteArray} {maxL idx : Nat} {ret : Option FieldType} {rm : Room} {vs : Array Value} {Qc : Option Value → Heap → List Loc → Prop} {own : String} {argsL rest st : List Value} {pc : Nat} {ls : Array Slot} {A : State} (X : Stand p l e R s m args below meth c T locs cells slots) (hx : p.tables.exec = Jvm.exec) (hZ : Z.Warmed39 s.vm) (hw : HW a0 Z) (hown : s.vm.findClass own = some m.cls) (hby : c.code = code) (hml : c.maxLocals = ml) (eT : T.heap = h) (y : MethodName) (i1 i2 i5 i6 W : Nat) (hM : Met l Z y bytes maxL ret rm [] vs h Qc) (hd : decode code pc = .ok (.invokestatic idx, 3)) (len : ∀ sig, parseMethodDescriptor y.desc = some sig → argsL.length = sig.parameters.length) (N : Fr n0 locs) (k : ∀ (T' : State) (L : List Loc), Stand p l e R s m args below meth c T' L cells slots → T'.heap = h → Fr n0 L → Goes p e below En Q (T'.setTop (mkF m (pc + 3) ls (r.toList ++ rest))))(hA : A = T.setTop (mkF m pc ls st) := by rfl) (w1 : tables_1[i1]? = some (.methodLink own idx y) := by rfl) (w2 : tables_1[i2]? = some (.static y) := by rfl) (w5 : tables_1[i5]? = some (.code y bytes maxL ret) := by rfl) (w6 : tables_1[i6]? = some (.initialized y.cls) := by rfl) (hy : y.cls ≠ "java/lang/invoke/MethodHandle" ∧ y.cls ≠ "java/lang/invoke/VarHandle" := by decide) (hf : rm.frames + 1 ≤ R.frames := by decide) (hl : W + (maxL + 11) + rm.locals ≤ R.locals := by decide) (hc : cells + rm.cells ≤ R.cells := by decide) (hs : slots + rm.slots ≤ R.slots := by decide) (hls : ls.size = ml := by rfl) (hvs : vs = (argsL).toArray := by rfl) (hst : st = argsL.reverse ++ rest := by rfl) (hW : (rest.map fun v => v.category).sum = W := by rfl)(hQ : ∀ v h' L, Qc v h' L → v = r ∧ Fr n0 L ∧ h' = h := by exact fun _ _ _ q => q) (c0 : rm.cells = 0 := by rfl) (s0 : rm.slots = 0 := by rfl)  : Goes p e below En Q A := by
  subst hA
  refine cSg X hx hZ hw hown hby hml eT y i1 i2 i5 i6 W hM  hd len (fun v T' L X' q => ?_) rfl w1 w2 w5 w6 hy hf hl hc hs hls hvs hst hW
  obtain ⟨rfl, N', e'⟩ := hQ _ _ _ q
  rw [c0, s0] at X'
  exact k T' _ X' e' (N.app N')
theorem cIg {Z : State} {a0 : Array Value} {p : Program} {l : Launch} {e : Env} {R : Room} {s : State} {m : MethodId} {args : Array Value} {below : List Frame} {meth : Method} {c : Code} {T : State} {locs : List Loc} {cells slots : Nat} {En : Outcome → State → List Loc → Prop} {Q : Option Value → Heap → List Loc → Prop} {h : Heap} {ml : Nat} {code bytes : ByteArray} {maxL idx : Nat} {rm : Room} {vs : Array Value} {Qc : Option Value → Heap → List Loc → Prop} {own : String} {argsL rest st : List Value} {pc : Nat} {ls : Array Slot} {A : State} (X : Stand p l e R s m args below meth c T locs cells slots) (hx : p.tables.exec = Jvm.exec) (hZ : Z.Warmed39 s.vm) (hw : HW a0 Z) (hown : s.vm.findClass own = some m.cls) (hby : c.code = code) (hml : c.maxLocals = ml) (eT : T.heap = h) (y : MethodName) (i1 i4 i5 i6 W : Nat) (hM : Met l Z y bytes maxL none rm [] vs h Qc) {b : Addr} (hd : decode code pc = .ok (.invokespecial idx, 3)) (len : ∀ sig, parseMethodDescriptor y.desc = some sig → argsL.length = sig.parameters.length) (k : ∀ (v : Option Value) (T' : State) (L : List Loc), Stand p l e R s m args below meth c T' (locs ++ L) (cells + rm.cells) (slots + rm.slots) → Qc v T'.heap L → Goes p e below En Q (T'.setTop (mkF m (pc + 3) ls (v.toList ++ rest))))(hA : A = T.setTop (mkF m pc ls st) := by rfl) (w1 : tables_1[i1]? = some (.methodLink own idx y) := by rfl) (w4 : tables_1[i4]? = some (.instanceMethod y) := by rfl) (w5 : tables_1[i5]? = some (.code y bytes maxL none) := by rfl) (w6 : tables_1[i6]? = some (.initialized y.cls) := by rfl) (hi : y.name = "<init>" := by rfl) (hy : y.cls ≠ "java/lang/invoke/MethodHandle" ∧ y.cls ≠ "java/lang/invoke/VarHandle" := by decide) (hf : rm.frames + 1 ≤ R.frames := by decide) (hl : W + (maxL + 11) + rm.locals ≤ R.locals := by decide) (hc : cells + rm.cells ≤ R.cells := by decide) (hs : slots + rm.slots ≤ R.slots := by decide) (hls : ls.size = ml := by rfl) (hvs : vs = (.ref b :: argsL).toArray := by rfl) (hst : st = argsL.reverse ++ .ref b :: rest := by rfl) (hW : (rest.map fun v => v.category).sum = W := by rfl) : Goes p e below En Q A := by
  subst hA
  subst hvs
  obtain ⟨v, _, ⟨T', L', k', n'⟩, -, X', ⟨Lc, hQ, l', y', z'⟩, st'⟩ := X.specialBack hx (y := y) hi hown (gz hZ hw i1 w1) (gz hZ hw i4 w4) (gz hZ hw i5 w5) hy (backOf (W := W) hM hZ (gw hw i5 w5) (gw hw i6 w6) hf hl) (g := mkF m pc ls st) rfl (hls.trans hml.symm) (Steps.refl _) (a := b) (argsL := argsL) (rest := rest) len hst (w0 (Nat.le_of_eq hW)) (hb hby hd) (fun _ _ => ⟨rfl, eT, hc, hs⟩)
  dsimp only [Pt.U, Pt.locs, Pt.cells, Pt.slots] at X' l' y' z' st' hQ
  subst l' y' z'
  exact Gs (fun _ tk => st'.trans tk) (k v T' Lc X' hQ)
theorem own_arvE {Z : State} {h : Heap} {a : Addr} {k : ClassId} {ty : FieldType} {z : Int32} {vs vs' : List Value} {d : Value} (V : Arv Z h a k ty z vs d) (e : vs = vs') : Arv Z h a k ty z vs' d := e ▸ V
theorem own_tnO {n : Nat} (h : n ≤ 1000) : (Int32.ofNat n).toNatClampNeg = n ∧ ¬ Int32.ofNat n < 0 ∧ (Int32.ofNat n).toInt = n := by
  have l : (Int32.ofNat n).toInt = n := Int32.toInt_ofNat_of_lt (by omega)
  have e0 : (0 : Int32).toInt = 0 := by decide
  refine ⟨?_, ?_, l⟩
  · show (Int32.ofNat n).toInt.toNat = n
    rw [l]; omega
  · rw [Int32.lt_iff_toInt_lt, l, e0]; omega
theorem own_padN {Z : State} {h : Heap} {a : Addr} {k : ClassId} {ty : FieldType} {z : Int32} {dv : Value} {vs : List Value} (F : Arv Z h a k ty z vs dv) (n : Nat) : Arv Z h a k ty z (vs ++ List.replicate n dv) dv := F.pad (pad_rep vs dv n)
theorem own_ofS (i : Nat) : Int32.ofNat i + 1 = Int32.ofNat (i + 1) := by rw [Int32.ofNat_add]; rfl
theorem own_ltO {L i : Nat} {z : Int32} (hz : z.toInt = (i : Int)) (hL : L ≤ 1000) : z < Int32.ofNat L ↔ i < L := by
  have l1 : (Int32.ofNat L).toInt = (L : Nat) := Int32.toInt_ofNat_of_lt (by omega)
  rw [Int32.lt_iff_toInt_lt, l1, hz]; omega
theorem own_ltN {L i : Nat} (hi : i ≤ 1000) (hL : L ≤ 1000) : Int32.ofNat i < Int32.ofNat L ↔ i < L := own_ltO (Int32.toInt_ofNat_of_lt (by omega)) hL
theorem own_loopG {p : Program} {l : Launch} {e : Env} {R : Room} {s : State} {m : MethodId} {as : Array Value} {below : List Frame} {meth : Method} {c : Code} {C S : Nat} {En : Outcome → State → List Loc → Prop} {Q : Option Value → Heap → List Loc → Prop} {T0 : State} {L0 : List Loc}
    {ι : Type} {μ : ι → Nat} {I : ι → State → List Loc → Prop} {B : ι → State → State}
    (step : ∀ (i : ι) (T : State) (L : List Loc), Stand p l e R s m as below meth c T L C S → I i T L → (∀ (j : ι) (T' : State) (L' : List Loc), μ j < μ i → Stand p l e R s m as below meth c T' L' C S → I j T' L' → Goes p e below En Q (B j T')) → Goes p e below En Q (B i T))
    (i0 : ι) (X : Stand p l e R s m as below meth c T0 L0 C S) (hi : I i0 T0 L0) : Goes p e below En Q (B i0 T0) := by
  have key : ∀ (k : Nat) (i : ι), μ i ≤ k → ∀ (T : State) (L : List Loc), Stand p l e R s m as below meth c T L C S → I i T L → Goes p e below En Q (B i T) := by
    intro k
    induction k with
    | zero => intro i hk T L X h; exact step i T L X h (fun j T L hj => absurd hj (by omega))
    | succ k ih => intro i hk T L X h; exact step i T L X h (fun j T L hj X hI => ih j (by omega) T L X hI)
  exact key _ i0 (Nat.le_refl _) T0 L0 X hi
def own_pr (n : Nat) (T : List Int32) (c : Int32) : Nat → Nat → Nat
  | 0, s => s
  | f + 1, s => if T.getD s 0 = -1 ∨ T.getD s 0 = c then s else own_pr n T c f ((s + 1) % n)
theorem own_prP {n : Nat} (hn : n = 16 ∨ n = 32) {T : List Int32} {c : Int32} {e : Nat} (he : e < n) (hT : T.getD e 0 = -1) : ∀ f s, s < n → (e + n - s) % n < f → own_pr n T c f s < n ∧ (T.getD (own_pr n T c f s) 0 = -1 ∨ T.getD (own_pr n T c f s) 0 = c) := by
  intro f
  induction f with
  | zero => intro s _ h; omega
  | succ f ih =>
    intro s hs h
    unfold own_pr
    split
    · rename_i q; exact ⟨hs, q⟩
    · rename_i q
      have hse : s ≠ e := fun z => q (Or.inl (z ▸ hT))
      apply ih
      · rcases hn with rfl | rfl <;> omega
      · rcases hn with rfl | rfl <;> omega
theorem own_prS {n : Nat} {T T' : List Int32} {c : Int32} {r : Nat} (h1 : ∀ k, k ≠ r → ¬ (T.getD k 0 = -1 ∨ T.getD k 0 = c) → ¬ (T'.getD k 0 = -1 ∨ T'.getD k 0 = c)) (hr : T.getD r 0 = -1 ∨ T.getD r 0 = c) (hr' : T'.getD r 0 = -1 ∨ T'.getD r 0 = c) : ∀ f s, own_pr n T c f s = r → own_pr n T' c f s = r := by
  intro f
  induction f with
  | zero => intro s h; exact h
  | succ f ih =>
    intro s h
    unfold own_pr at h ⊢
    by_cases e : s = r
    · subst e; rw [if_pos hr']
    · by_cases q : T.getD s 0 = -1 ∨ T.getD s 0 = c
      · rw [if_pos q] at h; exact absurd h e
      · rw [if_neg q] at h; rw [if_neg (h1 s e q)]; exact ih _ h
def own_ents (T K : List Int32) : List (Int32 × Int32) := (T.zip K).filter fun p => decide (p.1 ≠ -1)
theorem own_entsA {T T' K K' : List Int32} (h : T.length = K.length) : own_ents (T ++ T') (K ++ K') = own_ents T K ++ own_ents T' K' := by
  unfold own_ents; rw [List.zip_append h, List.filter_append]
theorem own_split {T : List Int32} {s : Nat} (h : s < T.length) : T = T.take s ++ (T.getD s 0 :: T.drop (s + 1)) := by
  conv => lhs; rw [← List.take_append_drop s T, List.drop_eq_getElem_cons h]
  simp [List.getD, h]
theorem own_entsC (c v : Int32) (T K : List Int32) : own_ents (c :: T) (v :: K) = (if c = -1 then [] else [(c, v)]) ++ own_ents T K := by
  unfold own_ents
  by_cases q : c = -1 <;> simp [q]
theorem own_entsS {T K : List Int32} {s : Nat} (h : s < T.length) (e : T.length = K.length) : own_ents T K = own_ents (T.take s) (K.take s) ++ ((if T.getD s 0 = -1 then [] else [(T.getD s 0, K.getD s 0)]) ++ own_ents (T.drop (s + 1)) (K.drop (s + 1))) := by
  conv => lhs; rw [own_split h, own_split (T := K) (s := s) (by omega), own_entsA (by simp; omega), own_entsC]
theorem own_getS {T : List Int32} {s : Nat} (h : s < T.length) (c : Int32) : (T.set s c).getD s 0 = c := by simp [List.getD, h]
theorem own_getN {T : List Int32} {s k : Nat} (h : k ≠ s) (c : Int32) : (T.set s c).getD k 0 = T.getD k 0 := by
  simp only [List.getD]; rw [List.getElem?_set]; rw [if_neg (fun q => h q.symm)]
theorem own_entsU {T K : List Int32} {s : Nat} (h : s < T.length) (e : T.length = K.length) (c v : Int32) : own_ents (T.set s c) (K.set s v) = own_ents (T.take s) (K.take s) ++ ((if c = -1 then [] else [(c, v)]) ++ own_ents (T.drop (s + 1)) (K.drop (s + 1))) := by
  rw [own_entsS (s := s) (by simpa using h) (by simpa using e), own_getS h, own_getS (by omega), List.take_set_of_le (Nat.le_refl _), List.take_set_of_le (Nat.le_refl _), List.drop_set_of_lt (by omega), List.drop_set_of_lt (by omega)]
theorem own_entsI {T K : List Int32} {c v : Int32} (h : (c, v) ∈ own_ents T K) : c ≠ -1 ∧ ∃ i, i < T.length ∧ T.getD i 0 = c ∧ K.getD i 0 = v := by
  unfold own_ents at h
  obtain ⟨h1, h2⟩ := List.mem_filter.mp h
  refine ⟨by simpa using h2, ?_⟩
  obtain ⟨i, hi, e⟩ := List.mem_iff_getElem.mp h1
  rw [List.length_zip] at hi
  rw [List.getElem_zip] at e
  have h3 := congrArg Prod.fst e
  have h4 := congrArg Prod.snd e
  dsimp only at h3 h4
  have q1 : i < T.length := by omega
  have q2 : i < K.length := by omega
  exact ⟨i, q1, by simp [List.getD, q1, h3], by simp [List.getD, q2, h4]⟩
def Oinv (hs : Int32 → Nat) (n : Nat) (T K : List Int32) (E : List (Int32 × Int32)) : Prop :=
  (n = 16 ∨ n = 32) ∧ T.length = n ∧ K.length = n ∧ (∀ i, i < n → T.getD i 0 = -1 → K.getD i 0 = 0) ∧ (∀ i, i < n → T.getD i 0 ≠ -1 → own_pr n T (T.getD i 0) n (hs (T.getD i 0)) = i) ∧ (own_ents T K).Perm E
theorem Oinv.n2 {hs : Int32 → Nat} {n : Nat} {T K : List Int32} {E : List (Int32 × Int32)} (I : Oinv hs n T K E) : n = 16 ∨ n = 32 := I.1
theorem Oinv.lt {hs : Int32 → Nat} {n : Nat} {T K : List Int32} {E : List (Int32 × Int32)} (I : Oinv hs n T K E) : T.length = n := I.2.1
theorem Oinv.lk {hs : Int32 → Nat} {n : Nat} {T K : List Int32} {E : List (Int32 × Int32)} (I : Oinv hs n T K E) : K.length = n := I.2.2.1
theorem Oinv.z {hs : Int32 → Nat} {n : Nat} {T K : List Int32} {E : List (Int32 × Int32)} (I : Oinv hs n T K E) : ∀ i, i < n → T.getD i 0 = -1 → K.getD i 0 = 0 := I.2.2.2.1
theorem Oinv.f {hs : Int32 → Nat} {n : Nat} {T K : List Int32} {E : List (Int32 × Int32)} (I : Oinv hs n T K E) : ∀ i, i < n → T.getD i 0 ≠ -1 → own_pr n T (T.getD i 0) n (hs (T.getD i 0)) = i := I.2.2.2.2.1
theorem Oinv.p {hs : Int32 → Nat} {n : Nat} {T K : List Int32} {E : List (Int32 × Int32)} (I : Oinv hs n T K E) : (own_ents T K).Perm E := I.2.2.2.2.2
theorem Oinv.perm {hs : Int32 → Nat} {n : Nat} {T K : List Int32} {E E' : List (Int32 × Int32)} (I : Oinv hs n T K E) (h : E.Perm E') : Oinv hs n T K E' := ⟨I.n2, I.lt, I.lk, I.z, I.f, I.p.trans h⟩
theorem Oinv.empty {hs : Int32 → Nat} {n : Nat} {T K : List Int32} {E : List (Int32 × Int32)} (I : Oinv hs n T K E) (h : E.length < n) : ∃ e, e < n ∧ T.getD e 0 = -1 := by
  apply Classical.byContradiction
  intro q
  have q' : ∀ i, i < n → T.getD i 0 ≠ -1 := fun i hi z => q ⟨i, hi, z⟩
  have hall : own_ents T K = T.zip K := by
    unfold own_ents
    apply List.filter_eq_self.mpr
    intro p hp
    obtain ⟨i, hi, e⟩ := List.mem_iff_getElem.mp hp
    rw [List.length_zip] at hi
    have q1 : i < T.length := by omega
    have := q' i (by rw [← I.lt]; exact q1)
    rw [List.getElem_zip] at e
    have h3 := congrArg Prod.fst e
    simp only [List.getD, List.getElem?_eq_getElem q1, Option.getD_some] at this
    simpa [← h3] using this
  have hl := I.p.length_eq
  rw [hall, List.length_zip, I.lt, I.lk] at hl
  omega
theorem Oinv.slot {hs : Int32 → Nat} {n : Nat} {T K : List Int32} {E : List (Int32 × Int32)} (I : Oinv hs n T K E) (h : E.length < n) {c : Int32} (hh : hs c < n) : own_pr n T c n (hs c) < n ∧ (T.getD (own_pr n T c n (hs c)) 0 = -1 ∨ T.getD (own_pr n T c n (hs c)) 0 = c) := by
  obtain ⟨e, he, hT⟩ := I.empty h
  exact own_prP I.n2 he hT n _ hh (Nat.mod_lt _ (by omega))
theorem Oinv.key {hs : Int32 → Nat} {n : Nat} {T K : List Int32} {E : List (Int32 × Int32)} (I : Oinv hs n T K E) {i : Nat} (hi : i < n) (hT : T.getD i 0 ≠ -1) : (T.getD i 0, K.getD i 0) ∈ E := by
  refine I.p.mem_iff.mp ?_
  rw [own_entsS (s := i) (by rw [I.lt]; exact hi) (by rw [I.lt, I.lk]), if_neg hT]
  simp
theorem Oinv.new {hs : Int32 → Nat} {n : Nat} {T K : List Int32} {E : List (Int32 × Int32)} (I : Oinv hs n T K E) (h : E.length < n) {c : Int32} (hh : hs c < n) (hc : c ≠ -1) (hN : ∀ v, (c, v) ∉ E) {r : Nat} (hr : own_pr n T c n (hs c) = r) : r < n ∧ T.getD r 0 = -1 ∧ K.getD r 0 = 0 ∧ ∀ v, Oinv hs n (T.set r c) (K.set r v) ((c, v) :: E) := by
  have hsl := I.slot h hh
  rw [hr] at hsl
  obtain ⟨h1, h2⟩ := hsl
  have h3 : T.getD r 0 = -1 := by
    rcases h2 with q | q
    · exact q
    · exact absurd (q ▸ I.key h1 (by rw [q]; exact hc)) (hN _)
  refine ⟨h1, h3, I.z _ h1 h3, fun v => ⟨I.n2, by rw [List.length_set, I.lt], by rw [List.length_set, I.lk], ?_, ?_, ?_⟩⟩
  · intro i hi hz
    by_cases e : i = r
    · subst e; rw [own_getS (by rw [I.lt]; exact hi)] at hz; exact absurd hz hc
    · rw [own_getN e] at hz ⊢; exact I.z i hi hz
  · intro i hi hz
    by_cases e : i = r
    · subst e
      rw [own_getS (by rw [I.lt]; exact hi)]
      refine own_prS (T := T) (fun k hk q => ?_) (Or.inl h3) (Or.inr (own_getS (by rw [I.lt]; exact hi) _)) _ _ hr
      rw [own_getN hk]; exact q
    · rw [own_getN e] at hz ⊢
      refine own_prS (T := T) (fun k hk q => ?_) (Or.inr rfl) (Or.inr (own_getN e _)) _ _ (I.f i hi hz)
      by_cases e2 : k = r
      · subst e2; exact absurd (Or.inl h3) q
      · rw [own_getN e2]; exact q
  · have hl : r < T.length := by rw [I.lt]; exact h1
    have he : T.length = K.length := by rw [I.lt, I.lk]
    have hp := I.p
    rw [own_entsS hl he, if_pos h3] at hp
    rw [own_entsU hl he, if_neg hc]
    exact List.perm_middle.trans (hp.cons _)
theorem Oinv.old {hs : Int32 → Nat} {n : Nat} {T K : List Int32} {E : List (Int32 × Int32)} {c v : Int32} (I : Oinv hs n T K ((c, v) :: E)) {r : Nat} (hr : own_pr n T c n (hs c) = r) : r < n ∧ T.getD r 0 = c ∧ c ≠ -1 ∧ K.getD r 0 = v ∧ ∀ v', Oinv hs n T (K.set r v') ((c, v') :: E) := by
  obtain ⟨hc, i, hi, h1, h2⟩ := own_entsI (I.p.mem_iff.mpr (List.mem_cons_self ..))
  rw [I.lt] at hi
  have hf := I.f i hi (by rw [h1]; exact hc)
  rw [h1, hr] at hf
  subst hf
  refine ⟨hi, h1, hc, h2, fun v' => ⟨I.n2, I.lt, by rw [List.length_set, I.lk], ?_, I.f, ?_⟩⟩
  · intro k hk hz
    by_cases e : k = r
    · subst e; rw [h1] at hz; exact absurd hz hc
    · rw [own_getN e]; exact I.z k hk hz
  · have hl : r < T.length := by rw [I.lt]; exact hi
    have he : T.length = K.length := by rw [I.lt, I.lk]
    have hp := I.p
    rw [own_entsS hl he, h1, h2, if_neg hc] at hp
    have hT : T = T.set r c := by
      apply List.ext_getElem?
      intro k
      rw [List.getElem?_set]
      by_cases e : r = k
      · subst e; rw [if_pos rfl, if_pos hl, ← h1]; simp [List.getD, hl]
      · rw [if_neg e]
    rw [hT, own_entsU hl he, if_neg hc]
    exact List.perm_middle.trans ((List.perm_cons _).mpr (List.perm_cons _ |>.mp (List.perm_middle.symm.trans hp)))
theorem own_entsR (n : Nat) : own_ents (List.replicate n (-1)) (List.replicate n 0) = [] := by
  induction n with
  | zero => rfl
  | succ n ih => rw [List.replicate_succ, List.replicate_succ, own_entsC, if_pos rfl, ih]; rfl
theorem own_getR {n i : Nat} (v : Int32) (h : i < n) : (List.replicate n v).getD i 0 = v := by simp [List.getD, h]
theorem Oinv.init (hs : Int32 → Nat) {n : Nat} (hn : n = 16 ∨ n = 32) : Oinv hs n (List.replicate n (-1)) (List.replicate n 0) [] :=
  ⟨hn, List.length_replicate, List.length_replicate, fun i hi _ => own_getR _ hi, fun i hi h => absurd (own_getR _ hi) h, by rw [own_entsR]⟩
theorem own_entsT {T K : List Int32} {i : Nat} (h : i < T.length) (e : T.length = K.length) : own_ents (T.take (i + 1)) (K.take (i + 1)) = own_ents (T.take i) (K.take i) ++ (if T.getD i 0 = -1 then [] else [(T.getD i 0, K.getD i 0)]) := by
  have e1 : ∀ (L : List Int32), i < L.length → L.take (i + 1) = L.take i ++ [L.getD i 0] := fun L hL => by
    rw [List.take_add_one]; simp [List.getD, hL]
  rw [e1 T h, e1 K (by omega), own_entsA (by simp; omega), own_entsC]
  simp [own_ents]
theorem own_entsN {T K : List Int32} {i : Nat} (h : i < T.length) (e : T.length = K.length) (q : T.getD i 0 = -1) : own_ents (T.take (i + 1)) (K.take (i + 1)) = own_ents (T.take i) (K.take i) := by rw [own_entsT h e, if_pos q, List.append_nil]
theorem own_entsY {T K : List Int32} {i : Nat} (h : i < T.length) (e : T.length = K.length) (q : T.getD i 0 ≠ -1) : own_ents (T.take (i + 1)) (K.take (i + 1)) = own_ents (T.take i) (K.take i) ++ [(T.getD i 0, K.getD i 0)] := by rw [own_entsT h e, if_neg q]
theorem own_entsL (T K : List Int32) : (own_ents T K).length ≤ T.length := by
  unfold own_ents
  refine Nat.le_trans (List.length_filter_le _ _) ?_
  rw [List.length_zip]; omega
theorem own_entsF {hs : Int32 → Nat} {n : Nat} {T K : List Int32} {E : List (Int32 × Int32)} (I : Oinv hs n T K E) {i : Nat} (hi : i < n) (q : T.getD i 0 ≠ -1) : ∀ v, (T.getD i 0, v) ∉ own_ents (T.take i) (K.take i) := by
  intro v hm
  obtain ⟨-, k, hk, h1, -⟩ := own_entsI hm
  rw [List.length_take] at hk
  have h2 : T.getD k 0 = T.getD i 0 := by rw [← h1]; simp only [List.getD]; rw [List.getElem?_take_of_lt (by omega)]
  have f1 := I.f k (by omega) (by rw [h2]; exact q)
  have f2 := I.f i hi q
  rw [h2, f2] at f1
  omega
theorem own_entsP {T K : List Int32} {n : Nat} (h : T.length = n) (e : K.length = n) : own_ents (T.take n) (K.take n) = own_ents T K := by rw [List.take_of_length_le (by omega), List.take_of_length_le (by omega)]
-- insertion
def own_le (a b : Int64) : Prop := a.toInt ≤ b.toInt
def own_C (P : List Int64) (i : Nat) (x : Int64) (S : List Int64) : List Int64 := P.take i ++ x :: (P.drop i ++ S)
theorem own_CL {P S : List Int64} {i : Nat} {x : Int64} (h : i ≤ P.length) : (own_C P i x S).length = P.length + 1 + S.length := by
  simp only [own_C, List.length_append, List.length_cons, List.length_take, List.length_drop]; omega
theorem own_Cget {P S : List Int64} {i : Nat} {x : Int64} (h : i ≤ P.length) {k : Nat} (hk : k < i) : (own_C P i x S).getD k 0 = P.getD k 0 := by
  simp only [own_C, List.getD]; rw [List.getElem?_append_left (by simp; omega), List.getElem?_take_of_lt hk]
theorem own_Cset {P S : List Int64} {i : Nat} {x : Int64} (h : i ≤ P.length) (y : Int64) : (own_C P i x S).set i y = own_C P i y S := by
  have hl : (P.take i).length = i := by simp; omega
  unfold own_C
  rw [List.set_append_right _ _ (by omega), hl, Nat.sub_self]; rfl
theorem own_Cdown {P S : List Int64} {i : Nat} (h : i < P.length) : own_C P (i + 1) (P.getD i 0) S = own_C P i (P.getD i 0) S := by
  have e : P.getD i 0 = P[i] := by simp [List.getD, h]
  have e1 : P.take (i + 1) = P.take i ++ [P[i]] := by rw [List.take_add_one]; simp [h]
  have e2 : P.drop i = P[i] :: P.drop (i + 1) := List.drop_eq_getElem_cons h
  unfold own_C
  rw [e, e1, e2, List.append_assoc]; rfl
theorem own_C0 {A : List Int64} {k : Nat} (h : k < A.length) : own_C (A.take k) k (A.getD k 0) (A.drop (k + 1)) = A := by
  have hl : (A.take k).length = k := by simp; omega
  unfold own_C
  rw [List.take_of_length_le (by omega), List.drop_eq_nil_of_le (by omega), List.nil_append]
  conv => rhs; rw [← List.take_append_drop k A, List.drop_eq_getElem_cons h]
  simp [List.getD, h]
theorem own_Cperm {P S : List Int64} {i : Nat} {x : Int64} : (own_C P i x S).Perm (P ++ x :: S) := by
  unfold own_C
  refine List.perm_middle.trans (List.Perm.trans ?_ List.perm_middle.symm)
  rw [← List.append_assoc, List.take_append_drop]
theorem own_Csort {P S : List Int64} {i : Nat} {x : Int64} (hP : P.Pairwise own_le) (h1 : i ≤ P.length) (h2 : ∀ k, i ≤ k → k < P.length → own_le x (P.getD k 0)) (h3 : i = 0 ∨ own_le (P.getD (i - 1) 0) x) : ((own_C P i x S).take (P.length + 1)).Pairwise own_le := by
  have hs : (own_C P i x S).take (P.length + 1) = P.take i ++ x :: P.drop i := by
    unfold own_C
    rw [← List.cons_append, ← List.append_assoc, List.take_append_of_le_length (by simp; omega), List.take_of_length_le (by simp; omega)]
  rw [hs]
  have hP' := hP
  rw [← List.take_append_drop i P] at hP'
  obtain ⟨p1, p2, p3⟩ := List.pairwise_append.mp hP'
  have gD : ∀ k, k < P.length → P[k]? = some (P.getD k 0) := fun k hk => by simp [List.getD, hk]
  refine List.pairwise_append.mpr ⟨p1, List.pairwise_cons.mpr ⟨?_, p2⟩, ?_⟩
  · intro b hb
    obtain ⟨k, hk⟩ := List.mem_iff_getElem?.mp hb
    rw [List.getElem?_drop] at hk
    have hk2 : i + k < P.length := by
      rcases Nat.lt_or_ge (i + k) P.length with z | z
      · exact z
      · rw [List.getElem?_eq_none z] at hk; cases hk
    rw [gD _ hk2] at hk
    cases hk
    exact h2 _ (by omega) hk2
  · intro a ha b hb
    have hax : own_le a x := by
      obtain ⟨k, hk⟩ := List.mem_iff_getElem?.mp ha
      have hki : k < i := by
        rcases Nat.lt_or_ge k i with z | z
        · exact z
        · rw [List.getElem?_eq_none (by simp; omega)] at hk; cases hk
      rw [List.getElem?_take_of_lt hki, gD _ (by omega)] at hk
      cases hk
      rcases h3 with rfl | h3
      · omega
      · by_cases e : k = i - 1
        · subst e; exact h3
        · refine Int.le_trans ?_ h3
          have := List.pairwise_iff_getElem.mp hP k (i - 1) (by omega) (by omega) (by omega)
          have e1 : P.getD k 0 = P[k]'(by omega) := by simp [List.getD, show k < P.length by omega]
          have e2 : P.getD (i - 1) 0 = P[i - 1]'(by omega) := by simp [List.getD, show i - 1 < P.length by omega]
          rw [e1, e2]; exact this
    rcases List.mem_cons.mp hb with rfl | hb
    · exact hax
    · exact p3 a ha b hb
theorem own_ofI {n : Nat} (h : n ≤ 1000) : (Int32.ofNat n).toInt = n := Int32.toInt_ofNat_of_lt (by omega)
theorem own_eqI {x : Int32} {n : Nat} (hn : n ≤ 1000) (h : x.toInt = (n : Int)) : x = Int32.ofNat n := Int32.toInt_inj.mp (by rw [own_ofI hn]; exact h)
theorem own_tnI {x : Int32} {n : Nat} (hn : n ≤ 1000) (h : x.toInt = (n : Int)) : x = Int32.ofNat x.toNatClampNeg := by
  have e : x.toNatClampNeg = n := by show x.toInt.toNat = n; rw [h]; rfl
  rw [e]; exact own_eqI hn h
def own_h (n : Nat) (c : Int32) : Nat := (((c * (-1640531527 : Int32)).toUInt32 >>> ((if n = 16 then (28 : Int32) else (27 : Int32)) &&& 31).toUInt32).toInt32).toNatClampNeg
theorem own_hB {x : Int32} {k : Nat} (h : 0 ≤ x.toInt) (h2 : x.toInt < k) (hk : k ≤ 1000) : x.toNatClampNeg < k ∧ x = Int32.ofNat x.toNatClampNeg := by
  have e : x.toInt = (x.toNatClampNeg : Int) := by show x.toInt = (x.toInt.toNat : Int); omega
  exact ⟨by omega, own_tnI (n := x.toNatClampNeg) (by omega) e⟩
theorem own_h16 (c : Int32) : own_h 16 c < 16 ∧ ((c * (-1640531527 : Int32)).toUInt32 >>> ((28 : Int32) &&& 31).toUInt32).toInt32 = Int32.ofNat (own_h 16 c) := by
  have q := c_iushr (c * (-1640531527 : Int32)) 28 28 (by decide) (by decide)
  exact own_hB (x := ((c * (-1640531527 : Int32)).toUInt32 >>> ((28 : Int32) &&& 31).toUInt32).toInt32) (k := 16) (by omega) (by omega) (by decide)
theorem own_h32 (c : Int32) : own_h 32 c < 32 ∧ ((c * (-1640531527 : Int32)).toUInt32 >>> ((27 : Int32) &&& 31).toUInt32).toInt32 = Int32.ofNat (own_h 32 c) := by
  have q := c_iushr (c * (-1640531527 : Int32)) 27 27 (by decide) (by decide)
  exact own_hB (x := ((c * (-1640531527 : Int32)).toUInt32 >>> ((27 : Int32) &&& 31).toUInt32).toInt32) (k := 32) (by omega) (by omega) (by decide)
theorem own_and16 {s : Nat} (h : s ≤ 16) : Int32.ofNat s &&& (15 : Int32) = Int32.ofNat (s % 16) := by
  have q := c_mask (Int32.ofNat s) 15 4 (by decide) (by decide)
  rw [own_ofI (by omega)] at q
  exact own_eqI (by omega) (by omega)
theorem own_and32 {s : Nat} (h : s ≤ 32) : Int32.ofNat s &&& (31 : Int32) = Int32.ofNat (s % 32) := by
  have q := c_mask (Int32.ofNat s) 31 5 (by decide) (by decide)
  rw [own_ofI (by omega)] at q
  exact own_eqI (by omega) (by omega)
theorem own_g7 {k : Nat} (h : k ≤ 7) : ¬ ((16 : Int32) < (2 : Int32) * (Int32.ofNat k + (1 : Int32))) := by
  have : ∀ k : Fin 8, ¬ ((16 : Int32) < (2 : Int32) * (Int32.ofNat k.val + (1 : Int32))) := by decide
  exact this ⟨k, by omega⟩
theorem own_g8 {k : Nat} (h : k = 8) : (16 : Int32) < (2 : Int32) * (Int32.ofNat k + (1 : Int32)) := by subst h; decide
-- keys
def own_key (c v : Int32) : Int64 := (((-v).toInt64) <<< ((32 : Int32) &&& 0x3f).toInt64) ||| c.toInt64
theorem own_keyI {c v : Int32} (hc : 0 ≤ c.toInt) (hv : 1 ≤ v.toInt ∧ v.toInt ≤ 2) : (own_key c v).toInt = c.toInt - v.toInt * 4294967296 := by
  have n1 := c_ineg v
  have r1 := rng32 (-v)
  have r2 := rng32 c
  have i1 := c_i2l (-v)
  have i2 := c_i2l c
  have s1 := c_lshl ((-v).toInt64) 32 32 (by decide)
  have r3 := rng64 (((-v).toInt64) <<< ((32 : Int32) &&& 0x3f).toInt64)
  have o := c_orL (((-v).toInt64) <<< ((32 : Int32) &&& 0x3f).toInt64) c.toInt64 32 (by decide) 4294967296 (by decide)
  have r4 := rng64 (own_key c v)
  have e : (own_key c v).toInt = ((((-v).toInt64) <<< ((32 : Int32) &&& 0x3f).toInt64) ||| c.toInt64).toInt := rfl
  rw [e] at r4 ⊢
  rw [i1] at s1
  rw [i2] at o
  generalize (((-v).toInt64) <<< ((32 : Int32) &&& 0x3f).toInt64) = sh at *
  have hsh : sh.toInt = -v.toInt * 4294967296 := by omega
  have o' := o (by omega) (by omega) (by omega)
  omega
theorem own_keyC {c v : Int32} (hc : 0 ≤ c.toInt) (hv : 1 ≤ v.toInt ∧ v.toInt ≤ 2) : (own_key c v).toInt32 = c := by
  have q := c_l2i (own_key c v)
  rw [own_keyI hc hv] at q
  have r1 := rng32 c
  have r2 := rng32 (own_key c v).toInt32
  apply Int32.toInt_inj.mp
  omega
-- positions
def Bnd (bs st : Int32) : Prop := 0 ≤ bs.toInt ∧ 1 ≤ st.toInt ∧ bs.toInt + 8 * st.toInt < 1114112
theorem Bnd.b0 {bs st : Int32} (B : Bnd bs st) : 0 ≤ bs.toInt := B.1
theorem Bnd.s1 {bs st : Int32} (B : Bnd bs st) : 1 ≤ st.toInt := B.2.1
theorem Bnd.up {bs st : Int32} (B : Bnd bs st) : bs.toInt + 8 * st.toInt < 1114112 := B.2.2
def own_ps (z : Int32) (i : Nat) : Nat := if z = 0 then 8 - i else i
theorem own_psL {z : Int32} {i : Nat} (h : i ≤ 8) : own_ps z i ≤ 8 := by unfold own_ps; split <;> omega
theorem own_FI {bs st : Int32} (B : Bnd bs st) {q : Nat} (h : q ≤ 8) : (bs + Int32.ofNat q * st).toInt = bs.toInt + q * st.toInt := by
  obtain ⟨h1, h2, h3⟩ := B
  have m := c_imul (Int32.ofNat q) st
  have a := c_iadd bs (Int32.ofNat q * st)
  have r1 := rng32 (Int32.ofNat q * st)
  have r2 := rng32 (bs + Int32.ofNat q * st)
  rw [own_ofI (by omega)] at m
  have b1 : (q : Int) * st.toInt ≤ 8 * st.toInt := Int.mul_le_mul_of_nonneg_right (by omega) (by omega)
  have b2 : 0 ≤ (q : Int) * st.toInt := Int.mul_nonneg (by omega) (by omega)
  generalize (q : Int) * st.toInt = w at *
  omega
def own_F (bs st z : Int32) (i : Nat) : Int32 := bs + Int32.ofNat (own_ps z i) * st
theorem own_F0 {bs st z : Int32} (B : Bnd bs st) {i : Nat} (h : i ≤ 8) : 0 ≤ (own_F bs st z i).toInt := by
  rw [own_F, own_FI B (own_psL h)]
  have : 0 ≤ (own_ps z i : Int) * st.toInt := Int.mul_nonneg (by omega) (by have := B.s1; omega)
  have := B.b0
  omega
theorem own_Fi {bs st z : Int32} (B : Bnd bs st) {i k : Nat} (h : i ≤ 8) (h' : k ≤ 8) (e : own_F bs st z i = own_F bs st z k) : i = k := by
  have e2 := congrArg Int32.toInt e
  rw [own_F, own_F, own_FI B (own_psL h), own_FI B (own_psL h')] at e2
  have e3 : (own_ps z i : Int) * st.toInt = (own_ps z k : Int) * st.toInt := by omega
  have e4 := Int.eq_of_mul_eq_mul_right (by have := B.s1; omega) e3
  have e5 : own_ps z i = own_ps z k := by omega
  unfold own_ps at e5
  split at e5 <;> omega
theorem own_Fn {bs st z : Int32} (B : Bnd bs st) {i : Nat} (h : i ≤ 8) : own_F bs st z i ≠ -1 := fun e => by
  have q := own_F0 (z := z) B h
  rw [e] at q
  revert q; decide
theorem own_cA {bs st z : Int32} (hz : ¬ z = 0) (i : Nat) : bs + Int32.ofNat i * st = own_F bs st z i := by rw [own_F, own_ps, if_neg hz]
theorem own_cD {bs st z : Int32} (hz : z = 0) {i : Nat} (h : i ≤ 8) : bs + ((8 : Int32) - Int32.ofNat i) * st = own_F bs st z i := by
  rw [own_F, own_ps, if_pos hz]
  have : (8 : Int32) - Int32.ofNat i = Int32.ofNat (8 - i) := by
    have q := c_isub 8 (Int32.ofNat i)
    have r := rng32 ((8 : Int32) - Int32.ofNat i)
    rw [own_ofI (by omega), show (8 : Int32).toInt = 8 from by decide] at q
    exact own_eqI (by omega) (by omega)
  rw [this]
-- what has been fed
def own_Ei (n j : Nat) : Nat → List (Nat × Nat)
  | 0 => []
  | i + 1 => if i < n then (i, if i = j then 2 else 1) :: own_Ei n j i else own_Ei n j i
theorem own_EiL (n j i : Nat) : (own_Ei n j i).length = min i n := by
  induction i with
  | zero => simp [own_Ei]
  | succ i ih =>
    unfold own_Ei
    split
    · rw [List.length_cons, ih]; omega
    · rw [ih]; omega
theorem own_EiM {n j i : Nat} : ∀ p ∈ own_Ei n j i, p.1 < i ∧ 1 ≤ p.2 ∧ p.2 ≤ 2 := by
  induction i with
  | zero => intro p h; simp [own_Ei] at h
  | succ i ih =>
    intro p h
    unfold own_Ei at h
    split at h
    · rcases List.mem_cons.mp h with rfl | h
      · refine ⟨by dsimp only; omega, ?_⟩
        dsimp only
        split <;> omega
      · have := ih p h; omega
    · have := ih p h; omega
def own_E (bs st z : Int32) (n j i : Nat) : List (Int32 × Int32) := (own_Ei n j i).map fun p => (own_F bs st z p.1, Int32.ofNat p.2)
theorem own_EL (bs st z : Int32) (n j i : Nat) : (own_E bs st z n j i).length = min i n := by rw [own_E, List.length_map, own_EiL]
theorem own_EN {bs st z : Int32} {n j i : Nat} (h : ¬ i < n) : own_E bs st z n j (i + 1) = own_E bs st z n j i := by
  unfold own_E; rw [own_Ei, if_neg h]
theorem own_E1 {bs st z : Int32} {n j i : Nat} (h : i < n) (q : ¬ i = j) : own_E bs st z n j (i + 1) = (own_F bs st z i, 1) :: own_E bs st z n j i := by
  unfold own_E; rw [own_Ei, if_pos h, if_neg q]; rfl
theorem own_E2 {bs st z : Int32} {n j i : Nat} (h : i < n) (q : i = j) : own_E bs st z n j (i + 1) = (own_F bs st z i, 1 + 1) :: own_E bs st z n j i := by
  unfold own_E; rw [own_Ei, if_pos h, if_pos q]; rfl
theorem own_Ek {bs st z : Int32} (B : Bnd bs st) {n j i : Nat} (h : i ≤ 8) : ∀ v, (own_F bs st z i, v) ∉ own_E bs st z n j i := by
  intro v hm
  obtain ⟨p, hp, e⟩ := List.mem_map.mp hm
  have q := own_EiM p hp
  have e1 := congrArg Prod.fst e
  have := own_Fi B (by omega) h e1
  omega
-- the expected order
def own_jn (u : Bool) (n j : Nat) : Nat := if u then j else n - 1 - j
def own_xq (u : Bool) (n j p : Nat) : Nat := (if u then 0 else 9 - n) + (if j < n then (if p = 0 then own_jn u n j else if p - 1 < own_jn u n j then p - 1 else p) else p)
def own_xv (n j p : Nat) : Nat := if j < n ∧ p = 0 then 2 else 1
def own_X (u : Bool) (n j : Nat) : List (Nat × Nat) := (List.range n).map fun p => (own_xq u n j p, own_xv n j p)
def own_pq (u : Bool) (i : Nat) : Nat := if u then i else 8 - i
set_option maxRecDepth 100000 in
theorem own_XP : ∀ u : Bool, ∀ n : Fin 10, ∀ j : Fin 10, ((own_Ei n.val j.val 9).map fun p => (own_pq u p.1, p.2)).isPerm (own_X u n.val j.val) = true := by decide +kernel
abbrev own_lx (p q : Nat × Nat) : Prop := (q.2 < p.2 ∨ p.2 = q.2 ∧ p.1 < q.1) ∧ p.1 ≤ 8 ∧ q.1 ≤ 8 ∧ 1 ≤ p.2 ∧ p.2 ≤ 2 ∧ 1 ≤ q.2 ∧ q.2 ≤ 2
set_option maxRecDepth 100000 in
theorem own_XS : ∀ u : Bool, ∀ n : Fin 10, ∀ j : Fin 10, (own_X u n.val j.val).Pairwise own_lx := by decide +kernel
set_option maxRecDepth 100000 in
theorem own_XB : ∀ u : Bool, ∀ n : Fin 10, ∀ j : Fin 10, ∀ p ∈ own_X u n.val j.val, p.1 ≤ 8 ∧ 1 ≤ p.2 ∧ p.2 ≤ 2 := by decide +kernel
def own_qq (p dp jj : Int32) : Int32 := if dp = 0 then p else if p = 0 then jj else if p - 1 < jj then p - 1 else p
def own_jj (z n j : Int32) : Int32 := if z = 0 then (n - 1) - j else j
def own_lo (z bs st n : Int32) : Int32 := if z = 0 then bs + ((9 : Int32) - n) * st else bs
def own_of (u : Bool) (n : Int32) : Int32 := if u then 0 else 9 - n
set_option maxRecDepth 100000 in
theorem own_XQ : ∀ u : Bool, ∀ n : Fin 10, ∀ j : Fin 10, ∀ p : Fin 9, p.val < n.val → own_of u (Int32.ofNat n.val) + own_qq (Int32.ofNat p.val) (if j.val < n.val then 1 else 0) (own_jj (if u then 1 else 0) (Int32.ofNat n.val) (Int32.ofNat j.val)) = Int32.ofNat (own_xq u n.val j.val p.val) := by decide +kernel
def own_kp (p : Int32 × Int32) : Int64 := own_key p.1 p.2
def own_kx (bs st : Int32) (p : Nat × Nat) : Int64 := own_key (bs + Int32.ofNat p.1 * st) (Int32.ofNat p.2)
theorem own_v12 {v : Nat} (h : 1 ≤ v ∧ v ≤ 2) : 1 ≤ (Int32.ofNat v).toInt ∧ (Int32.ofNat v).toInt ≤ 2 := by rw [own_ofI (by omega)]; omega
theorem own_kxL {bs st : Int32} (B : Bnd bs st) {p q : Nat × Nat} (h : own_lx p q) : own_le (own_kx bs st p) (own_kx bs st q) := by
  obtain ⟨h1, h2, h3, h4, h5, h6, h7⟩ := h
  have f1 := own_FI B h2
  have f2 := own_FI B h3
  have s1 := B.s1; have b0 := B.b0; have up := B.up
  have p1 : (p.1 : Int) * st.toInt ≤ 8 * st.toInt := Int.mul_le_mul_of_nonneg_right (by omega) (by omega)
  have p2 : (q.1 : Int) * st.toInt ≤ 8 * st.toInt := Int.mul_le_mul_of_nonneg_right (by omega) (by omega)
  have n1 : 0 ≤ (p.1 : Int) * st.toInt := Int.mul_nonneg (by omega) (by omega)
  have n2 : 0 ≤ (q.1 : Int) * st.toInt := Int.mul_nonneg (by omega) (by omega)
  show (own_key _ _).toInt ≤ (own_key _ _).toInt
  rw [own_keyI (by omega) (own_v12 ⟨h4, h5⟩), own_keyI (by omega) (own_v12 ⟨h6, h7⟩), f1, f2, own_ofI (by omega), own_ofI (by omega)]
  rcases h1 with h1 | ⟨h1, h1'⟩
  · omega
  · have : (p.1 : Int) * st.toInt ≤ (q.1 : Int) * st.toInt := Int.mul_le_mul_of_nonneg_right (by omega) (by omega)
    omega
theorem own_fin {bs st z : Int32} (B : Bnd bs st) {u : Bool} (hz : z = if u then 1 else 0) {n j : Nat} (hn : n ≤ 9) (hj : j ≤ 9) {L : List Int64} (hp : L.Perm ((own_E bs st z n j 9).map own_kp)) (hs : L.Pairwise own_le) : L = (own_X u n j).map (own_kx bs st) := by
  have e1 : (own_E bs st z n j 9).map own_kp = ((own_Ei n j 9).map fun p => (own_pq u p.1, p.2)).map (own_kx bs st) := by
    rw [own_E, List.map_map, List.map_map]
    apply List.map_congr_left
    intro p _
    show own_key (own_F bs st z p.1) (Int32.ofNat p.2) = own_key (bs + Int32.ofNat (own_pq u p.1) * st) (Int32.ofNat p.2)
    rw [own_F, show own_ps z p.1 = own_pq u p.1 from by rw [hz, own_ps, own_pq]; cases u <;> rfl]
  have hx := (List.isPerm_iff.mp (own_XP u ⟨n, by omega⟩ ⟨j, by omega⟩)).map (own_kx bs st)
  rw [e1] at hp
  refine List.Perm.eq_of_pairwise (le := own_le) (fun a b _ _ h1 h2 => Int64.toInt_inj.mp (Int.le_antisymm h1 h2)) hs ?_ (hp.trans hx)
  rw [List.pairwise_map]
  exact (own_XS u ⟨n, by omega⟩ ⟨j, by omega⟩).imp fun h => own_kxL B h
theorem own_res {bs st z dp : Int32} (B : Bnd bs st) {u : Bool} (hz : z = if u then 1 else 0) {n j p : Nat} (hd : dp = if j < n then 1 else 0) (hn : n ≤ 9) (hj : j ≤ 9) (hp : p < n) : (((own_X u n j).map (own_kx bs st)).map Int64.toInt32).getD p 0 = own_lo z bs st (Int32.ofNat n) + own_qq (Int32.ofNat p) dp (own_jj z (Int32.ofNat n) (Int32.ofNat j)) * st := by
  have hq := own_XQ u ⟨n, by omega⟩ ⟨j, by omega⟩ ⟨p, by omega⟩ hp
  dsimp only at hq
  have hm : (own_xq u n j p, own_xv n j p) ∈ own_X u n j := List.mem_map.mpr ⟨p, List.mem_range.mpr hp, rfl⟩
  have hb : own_xq u n j p ≤ 8 ∧ 1 ≤ own_xv n j p ∧ own_xv n j p ≤ 2 := own_XB u ⟨n, by omega⟩ ⟨j, by omega⟩ _ hm
  have hf := own_FI B hb.1
  have hf2 := Int.mul_nonneg (a := (own_xq u n j p : Int)) (b := st.toInt) (by omega) (by have := B.s1; omega)
  have hf3 := B.b0
  have hx : (((own_X u n j).map (own_kx bs st)).map Int64.toInt32).getD p 0 = (own_kx bs st (own_xq u n j p, own_xv n j p)).toInt32 := by
    simp [own_X, List.getD, hp]
  rw [hx, own_kx, own_keyC (c := bs + Int32.ofNat (own_xq u n j p) * st) (v := Int32.ofNat (own_xv n j p)) (by omega) (own_v12 hb.2), ← hq, ← hd, ← hz]
  cases u
  · rw [if_neg (by decide)] at hz
    rw [own_lo, if_pos hz, own_of, if_neg (by decide), Int32.add_mul, Int32.add_assoc]
  · rw [if_pos rfl] at hz
    rw [own_lo, if_neg (by rw [hz]; decide), own_of, if_pos rfl, Int32.zero_add]
-- values
def iV (T : List Int32) : List Value := T.map .int
def jV (A : List Int64) : List Value := A.map .long
theorem own_iVg (T : List Int32) (k : Nat) : (iV T).getD k (.int 0) = .int (T.getD k 0) := by
  simp only [iV, List.getD, List.getElem?_map]; cases T[k]? <;> rfl
theorem own_iVs (T : List Int32) (k : Nat) (v : Int32) : (iV T).set k (.int v) = iV (T.set k v) := by simp [iV]
theorem own_iVL (T : List Int32) : (iV T).length = T.length := by simp [iV]
theorem own_jVg (A : List Int64) (k : Nat) : (jV A).getD k (.long 0) = .long (A.getD k 0) := by
  simp only [jV, List.getD, List.getElem?_map]; cases A[k]? <;> rfl
theorem own_jVs (A : List Int64) (k : Nat) (v : Int64) : (jV A).set k (.long v) = jV (A.set k v) := by simp [jV]
theorem own_jVL (A : List Int64) : (jV A).length = A.length := by simp [jV]
theorem own_jVa (A : List Int64) (v : Int64) : (jV A ++ List.replicate 1 (Value.long 0)).set A.length (.long v) = jV (A ++ [v]) := by
  rw [← own_jVL, List.set_append_right _ _ (Nat.le_refl _), Nat.sub_self]; simp [jV]
theorem own_iVa (A : List Int32) (v : Int32) : (iV A ++ List.replicate 1 (Value.int 0)).set A.length (.int v) = iV (A ++ [v]) := by
  rw [← own_iVL, List.set_append_right _ _ (Nat.le_refl _), Nat.sub_self]; simp [iV]
theorem own_lcL {x y : Int64} : (lcmpW x y) < 0 ↔ x.toInt < y.toInt := by
  have e0 : (0 : Int32).toInt = 0 := by decide
  have q := c_lcmp x y
  rw [Int32.lt_iff_toInt_lt, e0]
  constructor
  · intro h
    rcases Int.lt_or_le x.toInt y.toInt with z | z
    · exact z
    · rcases Int.lt_or_eq_of_le z with z | z
      · have := q.2.2 z; omega
      · have := q.2.1 z.symm; omega
  · intro h; have := q.1 h; omega
-- the law's numbers
theorem own_stp (x : Int32) : 1 ≤ ((1 : Int32) + ((x &&& (2147483647 : Int32)) % (139263 : Int32))).toInt ∧ ((1 : Int32) + ((x &&& (2147483647 : Int32)) % (139263 : Int32))).toInt ≤ 139263 := by
  have a := c_and x 2147483647 (by decide)
  have b := (c_irem (x &&& (2147483647 : Int32)) 139263 139263 (by decide)).1 a.1
  have c := c_iadd 1 ((x &&& (2147483647 : Int32)) % (139263 : Int32))
  have r := rng32 ((1 : Int32) + ((x &&& (2147483647 : Int32)) % (139263 : Int32)))
  rw [show (1 : Int32).toInt = 1 from by decide] at c
  omega
theorem own_dvd {st : Int32} (h : 1 ≤ st.toInt ∧ st.toInt ≤ 139263) : ((1114112 : Int32) - ((8 : Int32) * st)).toInt = 1114112 - 8 * st.toInt := by
  have a := c_imul 8 st
  have b := c_isub 1114112 ((8 : Int32) * st)
  have r1 := rng32 ((8 : Int32) * st)
  have r2 := rng32 ((1114112 : Int32) - ((8 : Int32) * st))
  rw [show (8 : Int32).toInt = 8 from by decide] at a
  rw [show (1114112 : Int32).toInt = 1114112 from by decide] at b
  omega
theorem own_dnz {st : Int32} (h : 1 ≤ st.toInt ∧ st.toInt ≤ 139263) : ((1114112 : Int32) - ((8 : Int32) * st)) ≠ 0 := fun e => by
  have q := own_dvd h
  rw [e, show (0 : Int32).toInt = 0 from by decide] at q
  omega
theorem own_bnd {st : Int32} (h : 1 ≤ st.toInt ∧ st.toInt ≤ 139263) (x : Int32) : Bnd ((x &&& (2147483647 : Int32)) % ((1114112 : Int32) - ((8 : Int32) * st))) st := by
  have a := c_and x 2147483647 (by decide)
  have d := own_dvd h
  have b := (c_irem (x &&& (2147483647 : Int32)) _ _ d).1 a.1
  have e := Int.emod_nonneg (x &&& (2147483647 : Int32)).toInt (b := 1114112 - 8 * st.toInt) (by omega)
  have f := Int.emod_lt_of_pos (x &&& (2147483647 : Int32)).toInt (b := 1114112 - 8 * st.toInt) (by omega)
  exact ⟨by omega, h.1, by omega⟩
theorem own_nn9 (x : Int32) : ∃ n : Nat, 1 ≤ n ∧ n ≤ 9 ∧ (1 : Int32) + ((x &&& (2147483647 : Int32)) % (9 : Int32)) = Int32.ofNat n := by
  have a := c_and x 2147483647 (by decide)
  have b := (c_irem (x &&& (2147483647 : Int32)) 9 9 (by decide)).1 a.1
  have c := c_iadd 1 ((x &&& (2147483647 : Int32)) % (9 : Int32))
  have r := rng32 ((1 : Int32) + ((x &&& (2147483647 : Int32)) % (9 : Int32)))
  rw [show (1 : Int32).toInt = 1 from by decide] at c
  have e := own_hB (x := (1 : Int32) + ((x &&& (2147483647 : Int32)) % (9 : Int32))) (k := 10) (by omega) (by omega) (by decide)
  refine ⟨_, ?_, by omega, e.2⟩
  have : ((1 : Int32) + ((x &&& (2147483647 : Int32)) % (9 : Int32))).toInt.toNat = ((1 : Int32) + ((x &&& (2147483647 : Int32)) % (9 : Int32))).toNatClampNeg := rfl
  omega
theorem own_jn9 (x : Int32) : ∃ n : Nat, n ≤ 9 ∧ ((x &&& (2147483647 : Int32)) % (10 : Int32)) = Int32.ofNat n := by
  have a := c_and x 2147483647 (by decide)
  have b := (c_irem (x &&& (2147483647 : Int32)) 10 10 (by decide)).1 a.1
  have e := own_hB (x := ((x &&& (2147483647 : Int32)) % (10 : Int32))) (k := 10) (by omega) (by omega) (by decide)
  exact ⟨_, by omega, e.2⟩
theorem own_fillS (i : Nat) (fv : Int32) : (iV (List.replicate i fv) ++ List.replicate 1 (Value.int 0)).set i (.int fv) = iV (List.replicate (i + 1) fv) := by
  have q := own_iVa (List.replicate i fv) fv
  rw [List.length_replicate] at q
  rw [q, ← List.replicate_succ']
theorem own_ofP {k : Nat} : Int32.ofNat (k + 1) - (1 : Int32) = Int32.ofNat k := by rw [← own_ofS, Int32.add_sub_cancel]
theorem own_ofM {k : Nat} : Int32.ofNat (k + 1) + (-1 : Int32) = Int32.ofNat k := by rw [← Int32.sub_eq_add_neg, own_ofP]
theorem own_ofE {i j : Nat} (hi : i ≤ 1000) (hj : j ≤ 1000) (h : Int32.ofNat i = Int32.ofNat j) : i = j := by
  have q := congrArg Int32.toInt h
  rw [own_ofI hi, own_ofI hj] at q; omega
theorem own_srt1 (A : List Int64) : (A.take (0 + 1)).Pairwise own_le := by
  cases A with
  | nil => exact List.Pairwise.nil
  | cons a t => exact List.pairwise_singleton _ _
theorem own_srtC {B : List Int64} {j q : Nat} (hPl : (B.take (j + 1)).length = j + 1) (hs : (B.take (j + 1)).Pairwise own_le) (hq : q ≤ j + 1) (hall : ∀ t, q ≤ t → t < (B.take (j + 1)).length → own_le (B.getD (j + 1) 0) ((B.take (j + 1)).getD t 0)) (h3 : q = 0 ∨ own_le ((B.take (j + 1)).getD (q - 1) 0) (B.getD (j + 1) 0)) : ((own_C (B.take (j + 1)) q (B.getD (j + 1) 0) (B.drop (j + 1 + 1))).take (j + 1 + 1)).Pairwise own_le := by
  have r := own_Csort (S := B.drop (j + 1 + 1)) hs (by omega) hall h3
  rw [hPl] at r; exact r
theorem own_srtA {B : List Int64} {j : Nat} (h : j + 1 < B.length) (hs : (B.take (j + 1)).Pairwise own_le) (hl : (B.getD j 0).toInt ≤ (B.getD (j + 1) 0).toInt) : (B.take (j + 1 + 1)).Pairwise own_le := by
  have hPl : (B.take (j + 1)).length = j + 1 := by rw [List.length_take]; omega
  have g : (B.take (j + 1)).getD j 0 = B.getD j 0 := by simp only [List.getD]; rw [List.getElem?_take_of_lt (by omega)]
  have r := own_srtC (q := j + 1) hPl hs (Nat.le_refl _) (fun t h1 h2 => absurd h2 (by omega)) (Or.inr (by show own_le ((B.take (j + 1)).getD j 0) _; rw [g]; exact hl))
  rw [own_C0 h] at r; exact r
theorem own_C1 {B : List Int64} {k : Nat} (h : k < B.length) : B.take k ++ B.getD k 0 :: B.drop (k + 1) = B := by
  conv => rhs; rw [← List.take_append_drop k B, List.drop_eq_getElem_cons h]
  simp [List.getD, h]
theorem own_allD {P : List Int64} {x : Int64} {q : Nat} (h : ∀ t, q + 1 ≤ t → t < P.length → own_le x (P.getD t 0)) (h1 : x.toInt ≤ (P.getD q 0).toInt) : ∀ t, q ≤ t → t < P.length → own_le x (P.getD t 0) := by
  intro t ht hl
  rcases Nat.eq_or_lt_of_le ht with rfl | z
  · exact h1
  · exact h t z hl
theorem own_entsB {hs : Int32 → Nat} {n : Nat} {T K : List Int32} {E : List (Int32 × Int32)} (I : Oinv hs n T K E) {i : Nat} (hi : i < n) (q : T.getD i 0 ≠ -1) : (own_ents (T.take i) (K.take i)).length < E.length := by
  have h := I.p.length_eq
  rw [own_entsS (s := i) (by rw [I.lt]; exact hi) (by rw [I.lt, I.lk]), if_neg q, List.length_append, List.length_append] at h
  simp only [List.length_cons, List.length_nil] at h
  omega
theorem own_rkS {T K : List Int32} {i : Nat} (eY : own_ents (T.take (i + 1)) (K.take (i + 1)) = own_ents (T.take i) (K.take i) ++ [(T.getD i 0, K.getD i 0)]) : (jV ((own_ents (T.take i) (K.take i)).map own_kp) ++ List.replicate 1 (Value.long 0)).set (own_ents (T.take i) (K.take i)).length (.long (own_key (T.getD i 0) (K.getD i 0))) = jV ((own_ents (T.take (i + 1)) (K.take (i + 1))).map own_kp) := by
  have q := own_jVa ((own_ents (T.take i) (K.take i)).map own_kp) (own_key (T.getD i 0) (K.getD i 0))
  rw [List.length_map] at q
  rw [q, eY, List.map_append]; rfl
theorem own_rk2 {A : List Int64} {t : Nat} (h : t < A.length) : (iV ((A.take t).map Int64.toInt32) ++ List.replicate 1 (Value.int 0)).set t (.int (A.getD t 0).toInt32) = iV ((A.take (t + 1)).map Int64.toInt32) := by
  have q := own_iVa ((A.take t).map Int64.toInt32) (A.getD t 0).toInt32
  rw [List.length_map, List.length_take, Nat.min_eq_left (by omega)] at q
  rw [q, List.take_add_one, List.map_append]
  simp [List.getD, h]
def own_os : Option Int32 → Slot
  | none => .unset
  | some v => .val (.int v)
def own_o3 : Option (Int32 × Int64) → Slot
  | none => .unset
  | some q => .val (.int q.1)
def own_o5 : Option (Int32 × Int64) → Slot
  | none => .unset
  | some q => .val (.long q.2)
def own_o6 : Option (Int32 × Int64) → Slot
  | none => .unset
  | some _ => .second
set_option maxRecDepth 65536
set_option maxHeartbeats 40000000
abbrev kc0 := jdk_2529_method_12_code
abbrev kc1 := jdk_2529_method_13_code
abbrev kc2 := jdk_2529_method_15_code
abbrev kc3 := jdk_33_method_47_code
abbrev kc4 := jdk_65_method_103_code
abbrev kc5 := jdk_65_method_4_code
abbrev kc6 := prog_10_method_1_code
abbrev kc7 := prog_10_method_2_code
abbrev kc8 := prog_10_method_3_code
abbrev kc9 := prog_10_method_4_code
abbrev kc10 := prog_10_method_5_code
abbrev kc11 := prog_10_method_6_code
theorem d0_0 : DK kc4 0 (.iconst 0) 1 := by decide +kernel
theorem d0_1 : DK kc4 1 (.istore_n 2) 1 := by decide +kernel
theorem d0_2 : DK kc4 2 (.aload_n 0) 1 := by decide +kernel
theorem d0_3 : DK kc4 3 .arraylength 1 := by decide +kernel
theorem d0_4 : DK kc4 4 (.istore_n 3) 1 := by decide +kernel
theorem d0_5 : DK kc4 5 (.iload_n 2) 1 := by decide +kernel
theorem d0_6 : DK kc4 6 (.iload_n 3) 1 := by decide +kernel
theorem d0_7 : DK kc4 7 (.if_icmp .ge 13) 3 := by decide +kernel
theorem d0_10 : DK kc4 10 (.aload_n 0) 1 := by decide +kernel
theorem d0_11 : DK kc4 11 (.iload_n 2) 1 := by decide +kernel
theorem d0_12 : DK kc4 12 (.iload_n 1) 1 := by decide +kernel
theorem d0_13 : DK kc4 13 .iastore 1 := by decide +kernel
theorem d0_14 : DK kc4 14 (.iinc 2 1) 3 := by decide +kernel
theorem d0_17 : DK kc4 17 (.goto (-12)) 3 := by decide +kernel
theorem d0_20 : DK kc4 20 .return_ 1 := by decide +kernel
theorem own_pn0 : plainName "java/util/Arrays" = true := by first | (simp [plainName, overriddenIn]; done) | decide +kernel
theorem own_ef_rm_fill (m : MethodId) (x0 : Addr) (x1 : Int32) : entryFrame m #[(.ref x0), (.int x1)] 4 = mkF m 0 #[vr x0, vi x1, vu, vu] [] := by first | (simp [entryFrame, mkF, argsToLocals, Value.category]; done) | rfl
def Q_rm_fill (Z : State) (a : Addr) (k : ClassId) (n : Nat) (fv : Int32) (h0 : Heap) (n0 : Nat) (v : Option Value) (h : Heap) (L : List Loc) : Prop := v = none ∧ Fr n0 L ∧ Keep h0 h [a] ∧ Arv Z h a k .int (Int32.ofNat n) (iV (List.replicate n fv)) (.int 0)
theorem rm_fill (l : Launch) (Z : State) (a0 : Array Value) (hw : HW a0 Z) (ws : List Jvm.Cond) (a : Addr) (k : ClassId) (n : Nat) (fv : Int32) (h0 : Heap) (n0 : Nat) (Z0 : n0 ≤ h0.size) (V_a : Arv Z h0 a k .int (Int32.ofNat n) [] (.int 0)) (g_a : n0 ≤ a) (hn : n ≤ 1000) :
  Met l Z mN0 jdk_65_method_103_code 4 none ({ frames := 0, cells := 0, slots := 0, locals := 0 } : Room) ws #[(.ref a), (.int fv)] h0 (Q_rm_fill Z a k n fv h0 n0) := by
 refine own_met (plainFor_of_name own_pn0) ?_
 intro p e s m below meth c s₁ hret hx hby hlk hml hown hnm X0 e0 hZ hh
 have N0 := Fr.nil n0
 refine Gz (castTop (own_ef_rm_fill m a fv)) ?_
 have KP : Keep h0 h0 [a] := Keep.refl _ _
 show Goes _ _ _ _ _ (fT s₁ m 0 #[vr a, vi fv, vu, vu] [])
 refine gC X0 hx hby d0_0 ?_
 refine gs X0 hx hby d0_1 #[vr a, vi fv, vi 0, vu] ?_
 refine gA X0 hx hby d0_2 rfl rfl rfl ?_
 obtain ⟨cl1, Ar1, -, S1, N1z, -, -⟩ := id V_a
 refine Gs (fun _ tk => X0.arraylength hx (by rw [e0]; exact Ar1.1) (State.isArrayOf_alike hZ.alike Ar1.2.1) (g := (mkF m 3 #[vr a, vi fv, vi 0, vu] [(.ref a)])) rfl rfl (hb hby d0_3) _ tk) ?_
 rw [len_of S1 N1z]
 show Goes _ _ _ _ _ (fT s₁ m 4 #[vr a, vi fv, vi 0, vu] [(.int (Int32.ofNat n))])
 refine gs X0 hx hby d0_4 #[vr a, vi fv, vi 0, vi (Int32.ofNat n)] ?_
 show Goes _ _ _ _ _ (fT s₁ m 5 #[vr a, vi fv, vi 0, vi (Int32.ofNat n)] [])
 refine own_loopG (ι := Nat) (μ := fun i => n - i) (I := fun i T L => i ≤ n ∧ Fr n0 L ∧ n0 ≤ T.heap.size ∧ Keep h0 T.heap [a] ∧ Arv Z T.heap a k .int (Int32.ofNat n) (iV (List.replicate i fv)) (.int 0)) (B := fun i T => T.setTop (mkF m 5 #[vr a, vi fv, vi (Int32.ofNat i), vi (Int32.ofNat n)] [])) ?_ 0 X0 ⟨Nat.zero_le _, N0, (by rw [e0]; exact Z0), (by rw [e0]; exact KP), (by rw [e0]; exact V_a)⟩
 intro i T5 L5 X5 hI J5
 obtain ⟨hi, N5, Z0, KP, V_a⟩ := hI
 dsimp only at J5 ⊢
 show Goes _ _ _ _ _ (fT T5 m 5 #[vr a, vi fv, vi (Int32.ofNat i), vi (Int32.ofNat n)] [])
 refine gN X5 hx hby d0_5 rfl rfl ?_
 refine gN X5 hx hby d0_6 rfl rfl ?_
 by_cases hc7_2 : (Int32.ofNat i) < (Int32.ofNat n)
 ·refine gU X5 hx hby d0_7 (tlt hc7_2).2.1 ?_
  have hlt : i < n := (own_ltN (by omega) hn).mp hc7_2
  refine gA X5 hx hby d0_10 rfl rfl rfl ?_
  refine gN X5 hx hby d0_11 rfl rfl ?_
  refine gN X5 hx hby d0_12 rfl rfl ?_
  show Goes _ _ _ _ _ (fT T5 m 13 #[vr a, vi fv, vi (Int32.ofNat i), vi (Int32.ofNat n)] [(.int fv), (.int (Int32.ofNat i)), (.ref a)])
  replace V_a := own_padN V_a 1
  obtain ⟨cl3, Ar3, q3, S3, N3z, H3, G3⟩ := V_a
  have hin3 : ¬ ((Int32.ofNat i) < 0 ∨ cl3.slots.size ≤ ((Int32.ofNat i)).toNatClampNeg) := inb_of S3 ⟨(own_tnO (n := i) (by omega)).2.1, hc7_2⟩
  obtain ⟨T3, h3, X3, e3, W3, st3⟩ := stI X5 hx hZ rfl Ar3 (j := (Int32.ofNat i)) hin3 (g := (mkF m 13 #[vr a, vi fv, vi (Int32.ofNat i), vi (Int32.ofNat n)] [(.int fv), (.int (Int32.ofNat i)), (.ref a)])) rfl rfl (hb hby d0_13)
  have Vn3 := Arv.set Ar3 q3 S3 N3z H3 G3 rfl W3 (i) (own_tnO (by omega)).1 (by rw [List.length_append, own_iVL, List.length_replicate, List.length_replicate]; omega)
  have N3 := Fr.snoc X3 N5 g_a
  replace KP := KP.wr W3 (Or.inl (List.mem_of_getElem? (i := 0) rfl))
  have V_a : Arv Z h3 a k .int (Int32.ofNat n) (iV (List.replicate (i + 1) fv)) (.int 0) := own_arvE Vn3 (own_fillS i fv)
  replace Z0 : n0 ≤ h3.size := by rw [W3.size]; exact Z0
  refine Gs st3 ?_
  show Goes _ _ _ _ _ (fT T3 m 14 #[vr a, vi fv, vi (Int32.ofNat i), vi (Int32.ofNat n)] [])
  refine Gz (XS.iinc X3.here hx rfl (hb hby d0_14) rfl (l' := #[vr a, vi fv, vi ((Int32.ofNat i) + 1), vi (Int32.ofNat n)]) rfl) ?_
  show Goes _ _ _ _ _ (fT T3 m 17 #[vr a, vi fv, vi ((Int32.ofNat i) + 1), vi (Int32.ofNat n)] [])
  refine gG X3 hx hby d0_17 17 5 ?_
  show Goes _ _ _ _ _ (fT T3 m 5 #[vr a, vi fv, vi ((Int32.ofNat i) + 1), vi (Int32.ofNat n)] [])
  rw [own_ofS]
  exact J5 (i + 1) _ _ (by omega) X3 ⟨hlt, N3, (by rw [e3]; exact Z0), (by rw [e3]; exact KP), (by rw [e3]; exact V_a)⟩
 ·refine gY X5 hx hby d0_7 7 20 (flt hc7_2).2.1 ?_
  have hin : i = n := by
   rcases Nat.lt_or_ge i n with z | z
   ·exact absurd ((own_ltN (by omega) hn).mpr z) hc7_2
   ·omega
  rw [hin] at V_a
  refine Goes.ret X5 none (fun _ => rfl) hlk (by decide) (by decide) ?_ (fun fs hr => ?_)
  ·exact ⟨rfl, N5, KP, V_a⟩
  ·exact X5.returnOut hx hret (hb hby d0_20) hr
theorem d1_0 : DK kc11 0 (.iload_n 0) 1 := by decide +kernel
theorem d1_1 : DK kc11 1 (.newarray .int) 2 := by decide +kernel
theorem d1_3 : DK kc11 3 (.astore_n 1) 1 := by decide +kernel
theorem d1_4 : DK kc11 4 (.aload_n 1) 1 := by decide +kernel
theorem d1_5 : DK kc11 5 (.iconst (-1)) 1 := by decide +kernel
theorem d1_6 : DK kc11 6 (.invokestatic 44) 3 := by decide +kernel
theorem own_pd0 : parseMethodDescriptor "([II)V" = some ⟨[(.array .int), .int], none⟩ := by decide +kernel
theorem d1_9 : DK kc11 9 (.aload_n 1) 1 := by decide +kernel
theorem d1_10 : DK kc11 10 .areturn 1 := by decide +kernel
theorem own_pn1 : plainName "com/example/tandemtrie/tandemtrie/build/CodePointCounts" = true := by first | (simp [plainName, overriddenIn]; done) | decide +kernel
theorem own_ef_rm_un (m : MethodId) (x0 : Int32) : entryFrame m #[(.int x0)] 2 = mkF m 0 #[vi x0, vu] [] := by first | (simp [entryFrame, mkF, argsToLocals, Value.category]; done) | rfl
def Q_rm_un (Z : State) (n : Nat) (h0 : Heap) (n0 : Nat) (v : Option Value) (h : Heap) (L : List Loc) : Prop := ∃ y : Addr, ∃ ky : ClassId, v = some (.ref y) ∧ Fr n0 L ∧ Keep h0 h [] ∧ Arv Z h y ky .int (Int32.ofNat n) (iV (List.replicate n (-1 : Int32))) (.int 0) ∧ n0 ≤ y ∧ h0.size ≤ y
theorem rm_un (l : Launch) (Z : State) (a0 : Array Value) (hw : HW a0 Z) (ws : List Jvm.Cond) (n : Nat) (h0 : Heap) (n0 : Nat) (Z0 : n0 ≤ h0.size) (hn2 : n = 16 ∨ n = 32) :
  Met l Z mN1 prog_10_method_6_code 2 (some (.array .int)) ({ frames := 1, cells := 1, slots := 32, locals := 15 } : Room) ws #[(.int (Int32.ofNat n))] h0 (Q_rm_un Z n h0 n0) := by
 refine own_met (plainFor_of_name own_pn1) ?_
 intro p e s m below meth c s₁ hret hx hby hlk hml hown hnm X0 e0 hZ hh
 have N0 := Fr.nil n0
 refine Gz (castTop (own_ef_rm_un m (Int32.ofNat n))) ?_
 have KP : Keep h0 h0 [] := Keep.refl _ _
 show Goes _ _ _ _ _ (fT s₁ m 0 #[vi (Int32.ofNat n), vu] [])
 have oc := own_tnO (n := n) (by omega)
 refine gN X0 hx hby d1_0 rfl rfl ?_
 obtain ⟨T1, h1, k1, X1, e1, E1, A1, st1⟩ := newP X0 hx hZ (gw hw 15 rfl) e0 (g := (mkF m 1 #[vi (Int32.ofNat n), vu] [(.int (Int32.ofNat n))])) rfl (hb hby d1_1) rfl oc.2.1 (cap := 32) (by rw [oc.1]; omega) (by decide) (by decide) (by decide)
 obtain ⟨b1, gq1⟩ : ∃ z, z = h0.size := ⟨_, rfl⟩
 rw [← gq1] at A1 st1
 have g_b1 : n0 ≤ b1 := by rw [gq1]; exact Z0
 have sz_b1 : h0.size ≤ b1 := by rw [gq1]; exact KP.1
 replace KP := KP.ext E1
 replace Z0 : n0 ≤ h1.size := Nat.le_trans Z0 E1.1
 have V_b1 : Arv Z h1 b1 k1 .int (Int32.ofNat n) [] (.int 0) := Arv.new A1 oc.2.1
 refine Gs st1 ?_
 show Goes _ _ _ _ _ (fT T1 m 3 #[vi (Int32.ofNat n), vu] [(.ref b1)])
 refine Gz (XS.astoreN X1.here hx rfl (hb hby d1_3) rfl rfl (l' := #[vi (Int32.ofNat n), vr b1]) rfl) ?_
 refine gA X1 hx hby d1_4 rfl rfl rfl ?_
 refine gC X1 hx hby d1_5 ?_
 refine cSg X1 hx hZ hw hown hby hml e1 mN0 16 17 19 18 0 (rm_fill l Z a0 hw [] b1 k1 n (-1 : Int32) h1 n0 Z0 V_b1 g_b1 (by omega)) d1_6 (lenOf own_pd0 rfl) (fun _ T2 L2 X2 hQ2 => ?_)
 obtain ⟨rfl, N2q, K2, V_b1_2'⟩ := hQ2
 have N2 := Fr.app N0 N2q
 replace KP := KP.trans K2 (allS (Or.inr sz_b1) all0)
 replace Z0 := Nat.le_trans Z0 K2.1
 have V_b1 := V_b1_2'
 show Goes _ _ _ _ _ (fT T2 m 9 #[vi (Int32.ofNat n), vr b1] [])
 refine gA X2 hx hby d1_9 rfl rfl rfl ?_
 refine Goes.ret X2 (some (.ref b1)) (fun h => by rw [hret] at h; cases h) hlk (by decide) (by decide) ?_ (fun fs hr => ?_)
 ·exact ⟨b1, k1, rfl, N2, KP, V_b1, g_b1, sz_b1⟩
 ·exact own_retA X2 hx hret rfl rfl (hb hby d1_10) hr
theorem d2_0 : DK kc6 0 (.aload_n 0) 1 := by decide +kernel
theorem d2_1 : DK kc6 1 (.invokespecial 1) 3 := by decide +kernel
theorem d2_4 : DK kc6 4 (.aload_n 0) 1 := by decide +kernel
theorem d2_5 : DK kc6 5 (.bipush 16) 2 := by decide +kernel
theorem d2_7 : DK kc6 7 (.invokestatic 9) 3 := by decide +kernel
theorem own_pd1 : parseMethodDescriptor "(I)[I" = some ⟨[.int], some (.array .int)⟩ := by decide +kernel
theorem d2_10 : DK kc6 10 (.putfield 13) 3 := by decide +kernel
theorem d2_13 : DK kc6 13 (.aload_n 0) 1 := by decide +kernel
theorem d2_14 : DK kc6 14 (.bipush 16) 2 := by decide +kernel
theorem d2_16 : DK kc6 16 (.newarray .int) 2 := by decide +kernel
theorem d2_18 : DK kc6 18 (.putfield 17) 3 := by decide +kernel
theorem d2_21 : DK kc6 21 .return_ 1 := by decide +kernel
theorem own_ef_rm_ini (m : MethodId) (x0 : Addr) : entryFrame m #[(.ref x0)] 1 = mkF m 0 #[vr x0] [] := by first | (simp [entryFrame, mkF, argsToLocals, Value.category]; done) | rfl
def Q_rm_ini (Z : State) (a : Addr) (h0 : Heap) (n0 : Nat) (v : Option Value) (h : Heap) (L : List Loc) : Prop := ∃ b : Addr, ∃ kb : ClassId, ∃ d : Addr, ∃ kd : ClassId, v = none ∧ Fr n0 L ∧ Keep h0 h [a] ∧ Fld Z h a "com/example/tandemtrie/tandemtrie/build/CodePointCounts" "codePoints" "[I" (.ref b) ∧ Fld Z h a "com/example/tandemtrie/tandemtrie/build/CodePointCounts" "counts" "[I" (.ref d) ∧ Fld Z h a "com/example/tandemtrie/tandemtrie/build/CodePointCounts" "size" "I" (.int 0) ∧ Arv Z h b kb .int (Int32.ofNat 16) (iV (List.replicate 16 (-1 : Int32))) (.int 0) ∧ Arv Z h d kd .int (Int32.ofNat 16) (iV (List.replicate 16 (0 : Int32))) (.int 0) ∧ n0 ≤ b ∧ n0 ≤ d ∧ h0.size ≤ b ∧ h0.size ≤ d ∧ b ≠ d
theorem rm_ini (l : Launch) (Z : State) (a0 : Array Value) (hw : HW a0 Z) (ws : List Jvm.Cond) (a : Addr) (h0 : Heap) (n0 : Nat) (Z0 : n0 ≤ h0.size) (A_a : Exa Z h0 a "com/example/tandemtrie/tandemtrie/build/CodePointCounts") (F_codePoints_a : Fld Z h0 a "com/example/tandemtrie/tandemtrie/build/CodePointCounts" "codePoints" "[I" .null) (F_counts_a : Fld Z h0 a "com/example/tandemtrie/tandemtrie/build/CodePointCounts" "counts" "[I" .null) (F_size_a : Fld Z h0 a "com/example/tandemtrie/tandemtrie/build/CodePointCounts" "size" "I" (.int 0)) (g_a : n0 ≤ a) :
  Met l Z mN2 prog_10_method_1_code 1 none ({ frames := 2, cells := 2, slots := 48, locals := 29 } : Room) ws #[(.ref a)] h0 (Q_rm_ini Z a h0 n0) := by
 refine own_met (plainFor_of_name own_pn1) ?_
 intro p e s m below meth c s₁ hret hx hby hlk hml hown hnm X0 e0 hZ hh
 have N0 := Fr.nil n0
 refine Gz (castTop (own_ef_rm_ini m a)) ?_
 have KP : Keep h0 h0 [a] := Keep.refl _ _
 show Goes _ _ _ _ _ (fT s₁ m 0 #[vr a] [])
 refine gA X0 hx hby d2_0 rfl rfl rfl ?_
 obtain ⟨T1, X1, e1, st1⟩ := initO X0 hx hZ hown (gw hw 9 rfl) (gw hw 10 rfl) (gw hw 11 rfl) e0 (g := (mkF m 1 #[vr a] [(.ref a)])) rfl hml.symm rfl (hb hby d2_1) (by decide) (W := 0) (wz rfl) (by decide)
 refine Gs st1 ?_
 show Goes _ _ _ _ _ (fT T1 m 4 #[vr a] [])
 refine gA X1 hx hby d2_4 rfl rfl rfl ?_
 refine gB X1 hx hby d2_5 ?_
 show Goes _ _ _ _ _ (fT T1 m 7 #[vr a] [(.int (Int32.ofNat 16)), (.ref a)])
 have ltc2_a : a < h0.size := A_a.lt
 have szs2 : h0.size ≤ h0.size := KP.1
 refine cSg X1 hx hZ hw hown hby hml e1 mN1 12 13 14 5 1 (rm_un l Z a0 hw [] 16 h0 n0 Z0 (Or.inl rfl)) d2_7 (lenOf own_pd1 rfl) (fun _ T2 L2 X2 hQ2 => ?_)
 obtain ⟨y2, ky2, rfl, N2q, K2, V_y2_2', g_y2_2', sz_y2_2'⟩ := hQ2
 have N2 := Fr.app N0 N2q
 replace A_a := A_a.keep K2
 replace F_codePoints_a := F_codePoints_a.keep K2 nin0
 replace F_counts_a := F_counts_a.keep K2 nin0
 replace F_size_a := F_size_a.keep K2 nin0
 replace KP := KP.trans K2 all0
 replace Z0 := Nat.le_trans Z0 K2.1
 have V_y2 := V_y2_2'
 have g_y2 := g_y2_2'
 have szc_y2 := sz_y2_2'
 have ne_a_y2 : a ≠ y2 := Nat.ne_of_lt (Nat.lt_of_lt_of_le ltc2_a szc_y2)
 have sz_y2 : h0.size ≤ y2 := Nat.le_trans szs2 szc_y2
 show Goes _ _ _ _ _ (fT T2 m 10 #[vr a] [(.ref y2), (.ref a)])
 obtain ⟨T3, h3, X3, e3, W3, st3⟩ := putF X2 hx hZ hown (host := "") (Or.inl (gw hw 20 rfl)) Via.refl rfl F_codePoints_a A_a (Or.inl (gw hw 21 rfl)) (gw hw 4 rfl) (ty := (.array .int)) (by decide) rfl rfl (g := (mkF m 10 #[vr a] [(.ref y2), (.ref a)])) rfl rfl (hb hby d2_10)
 have N3 := Fr.snoc X3 N2 g_a
 replace A_a := A_a.wr W3
 replace F_counts_a := F_counts_a.other W3 (Or.inr (slot_ne (Or.inl (gw hw 23 rfl)) (Or.inl (gw hw 21 rfl)) (by decide) (t := (.array .int)) (t' := (.array .int)) (by decide) (by decide)))
 replace F_size_a := F_size_a.other W3 (Or.inr (slot_ne (Or.inl (gw hw 46 rfl)) (Or.inl (gw hw 21 rfl)) (by decide) (t := .int) (t' := (.array .int)) (by decide) (by decide)))
 replace V_y2 := V_y2.other W3 (Ne.symm ne_a_y2)
 replace KP := KP.wr W3 (Or.inl (List.mem_of_getElem? (i := 0) rfl))
 replace F_codePoints_a := F_codePoints_a.same W3
 replace Z0 : n0 ≤ h3.size := by rw [W3.size]; exact Z0
 refine Gs st3 ?_
 show Goes _ _ _ _ _ (fT T3 m 13 #[vr a] [])
 refine gA X3 hx hby d2_13 rfl rfl rfl ?_
 refine gB X3 hx hby d2_14 ?_
 obtain ⟨T4, h4, k4, X4, e4, E4, A4, st4⟩ := newP X3 hx hZ (gw hw 15 rfl) e3 (g := (mkF m 16 #[vr a] [(.int 16), (.ref a)])) rfl (hb hby d2_16) rfl (by decide) (cap := 16) (by decide) (by decide) (by decide) (by decide)
 obtain ⟨b4, gq4⟩ : ∃ z, z = h3.size := ⟨_, rfl⟩
 rw [← gq4] at A4 st4
 have g_b4 : n0 ≤ b4 := by rw [gq4]; exact Z0
 have sz_b4 : h0.size ≤ b4 := by rw [gq4]; exact KP.1
 have ne_a_b4 : a ≠ b4 := by rw [gq4]; exact Nat.ne_of_lt A_a.lt
 have ne_y2_b4 : y2 ≠ b4 := by rw [gq4]; exact Nat.ne_of_lt V_y2.lt
 replace A_a := A_a.ext E4
 replace F_codePoints_a := F_codePoints_a.ext E4
 replace F_counts_a := F_counts_a.ext E4
 replace F_size_a := F_size_a.ext E4
 replace V_y2 := V_y2.ext E4
 replace KP := KP.ext E4
 replace Z0 : n0 ≤ h4.size := Nat.le_trans Z0 E4.1
 have V_b4 : Arv Z h4 b4 k4 .int 16 [(.int 0), (.int 0), (.int 0), (.int 0), (.int 0), (.int 0), (.int 0), (.int 0), (.int 0), (.int 0), (.int 0), (.int 0), (.int 0), (.int 0), (.int 0), (.int 0)] (.int 0) := (Arv.new A4 (by decide)).pad (pad_rep [] (.int 0) 16)
 refine Gs st4 ?_
 show Goes _ _ _ _ _ (fT T4 m 18 #[vr a] [(.ref b4), (.ref a)])
 obtain ⟨T5, h5, X5, e5, W5, st5⟩ := putF X4 hx hZ hown (host := "") (Or.inl (gw hw 22 rfl)) Via.refl e4 F_counts_a A_a (Or.inl (gw hw 23 rfl)) (gw hw 4 rfl) (ty := (.array .int)) (by decide) rfl rfl (g := (mkF m 18 #[vr a] [(.ref b4), (.ref a)])) rfl rfl (hb hby d2_18)
 have N5 := Fr.snoc X5 N3 g_a
 replace F_codePoints_a := F_codePoints_a.other W5 (Or.inr (slot_ne (Or.inl (gw hw 21 rfl)) (Or.inl (gw hw 23 rfl)) (by decide) (t := (.array .int)) (t' := (.array .int)) (by decide) (by decide)))
 replace F_size_a := F_size_a.other W5 (Or.inr (slot_ne (Or.inl (gw hw 46 rfl)) (Or.inl (gw hw 23 rfl)) (by decide) (t := .int) (t' := (.array .int)) (by decide) (by decide)))
 replace V_y2 := V_y2.other W5 (Ne.symm ne_a_y2)
 replace V_b4 := V_b4.other W5 (Ne.symm ne_a_b4)
 replace KP := KP.wr W5 (Or.inl (List.mem_of_getElem? (i := 0) rfl))
 replace F_counts_a := F_counts_a.same W5
 replace Z0 : n0 ≤ h5.size := by rw [W5.size]; exact Z0
 refine Gs st5 ?_
 show Goes _ _ _ _ _ (fT T5 m 21 #[vr a] [])
 replace V_b4 : Arv Z h5 b4 k4 .int (Int32.ofNat 16) (iV (List.replicate 16 (0 : Int32))) (.int 0) := V_b4
 refine Goes.ret X5 none (fun _ => rfl) hlk (by decide) (by decide) ?_ (fun fs hr => ?_)
 ·rw [e5]; exact ⟨y2, ky2, b4, k4, rfl, N5, KP, F_codePoints_a, F_counts_a, F_size_a, V_y2, V_b4, g_y2, g_b4, sz_y2, sz_b4, ne_y2_b4⟩
 ·exact X5.returnOut hx hret (hb hby d2_21) hr
theorem d3_0 : DK kc3 0 (.iload_n 0) 1 := by decide +kernel
theorem d3_1 : DK kc3 1 (.ifCond .gt 14) 3 := by decide +kernel
theorem d3_15 : DK kc3 15 (.bipush 31) 2 := by decide +kernel
theorem d3_17 : DK kc3 17 (.istore_n 1) 1 := by decide +kernel
theorem d3_18 : DK kc3 18 (.iload_n 0) 1 := by decide +kernel
theorem d3_19 : DK kc3 19 (.ldc_w 264) 3 := by decide +kernel
theorem d3_22 : DK kc3 22 (.if_icmp .lt 11) 3 := by decide +kernel
theorem d3_33 : DK kc3 33 (.iload_n 0) 1 := by decide +kernel
theorem d3_34 : DK kc3 34 (.sipush 256) 3 := by decide +kernel
theorem d3_37 : DK kc3 37 (.if_icmp .lt 11) 3 := by decide +kernel
theorem d3_48 : DK kc3 48 (.iload_n 0) 1 := by decide +kernel
theorem d3_49 : DK kc3 49 (.bipush 16) 2 := by decide +kernel
theorem d3_51 : DK kc3 51 (.if_icmp .lt 10) 3 := by decide +kernel
theorem d3_61 : DK kc3 61 (.iload_n 0) 1 := by decide +kernel
theorem d3_62 : DK kc3 62 (.iconst 4) 1 := by decide +kernel
theorem d3_63 : DK kc3 63 (.if_icmp .lt 10) 3 := by decide +kernel
theorem d3_66 : DK kc3 66 (.iinc 1 (-2)) 3 := by decide +kernel
theorem d3_69 : DK kc3 69 (.iload_n 0) 1 := by decide +kernel
theorem d3_70 : DK kc3 70 (.iconst 2) 1 := by decide +kernel
theorem d3_71 : DK kc3 71 .iushr 1 := by decide +kernel
theorem d3_72 : DK kc3 72 (.istore_n 0) 1 := by decide +kernel
theorem d3_73 : DK kc3 73 (.iload_n 1) 1 := by decide +kernel
theorem d3_74 : DK kc3 74 (.iload_n 0) 1 := by decide +kernel
theorem d3_75 : DK kc3 75 (.iconst 1) 1 := by decide +kernel
theorem d3_76 : DK kc3 76 .iushr 1 := by decide +kernel
theorem d3_77 : DK kc3 77 .isub 1 := by decide +kernel
theorem d3_78 : DK kc3 78 .ireturn 1 := by decide +kernel
theorem own_pn2 : plainName "java/lang/Integer" = true := by first | (simp [plainName, overriddenIn]; done) | decide +kernel
theorem own_ef_rm_nlz15 (m : MethodId)  : entryFrame m #[(.int 15)] 2 = mkF m 0 #[vi 15, vu] [] := by first | (simp [entryFrame, mkF, argsToLocals, Value.category]; done) | rfl
def Q_rm_nlz15 (Z : State)  (h0 : Heap) (n0 : Nat) (v : Option Value) (h : Heap) (L : List Loc) : Prop := v = some (.int 28) ∧ Fr n0 L ∧ h = h0
theorem rm_nlz15 (l : Launch) (Z : State) (a0 : Array Value) (hw : HW a0 Z) (ws : List Jvm.Cond)  (h0 : Heap) (n0 : Nat) (Z0 : n0 ≤ h0.size) :
  Met l Z mN3 jdk_33_method_47_code 2 (some .int) ({ frames := 0, cells := 0, slots := 0, locals := 0 } : Room) ws #[(.int 15)] h0 (Q_rm_nlz15 Z  h0 n0) := by
 refine own_met (plainFor_of_name own_pn2) ?_
 intro p e s m below meth c s₁ hret hx hby hlk hml hown hnm X0 e0 hZ hh
 have N0 := Fr.nil n0
 refine Gz (castTop (own_ef_rm_nlz15 m )) ?_
 show Goes _ _ _ _ _ (fT s₁ m 0 #[vi 15, vu] [])
 refine gN X0 hx hby d3_0 rfl rfl ?_
 refine gy X0 hx hby d3_1 1 15 ((if0 _ _).trans (tlt (by decide : ((0 : Int32) < (15 : Int32)))).2.2.1) ?_
 refine gB X0 hx hby d3_15 ?_
 refine gs X0 hx hby d3_17 #[vi 15, vi 31] ?_
 refine gN X0 hx hby d3_18 rfl rfl ?_
 refine Gs (fun _ tk => Jvm.Stand.ldcWI X0 hx hown (gz hZ hw 44 rfl) rfl (hb hby d3_19) tk) ?_
 show Goes _ _ _ _ _ (fT s₁ m 22 #[vi 15, vi 31] [(.int 65536), (.int 15)])
 refine gY X0 hx hby d3_22 22 33 (tlt (by decide : ((15 : Int32) < (65536 : Int32)))).1 ?_
 refine gN X0 hx hby d3_33 rfl rfl ?_
 refine Gz (XS.sipush X0.here hx rfl (hb hby d3_34)) ?_
 refine gY X0 hx hby d3_37 37 48 (tlt (by decide : ((15 : Int32) < (256 : Int32)))).1 ?_
 refine gN X0 hx hby d3_48 rfl rfl ?_
 refine gB X0 hx hby d3_49 ?_
 show Goes _ _ _ _ _ (fT s₁ m 51 #[vi 15, vi 31] [(.int 16), (.int 15)])
 refine gY X0 hx hby d3_51 51 61 (tlt (by decide : ((15 : Int32) < (16 : Int32)))).1 ?_
 refine gN X0 hx hby d3_61 rfl rfl ?_
 refine gC X0 hx hby d3_62 ?_
 refine gU X0 hx hby d3_63 (flt (by decide : ¬ ((15 : Int32) < (4 : Int32)))).1 ?_
 show Goes _ _ _ _ _ (fT s₁ m 66 #[vi 15, vi 31] [])
 refine Gz (XS.iinc X0.here hx rfl (hb hby d3_66) rfl (l' := #[vi 15, vi ((31 : Int32) + (-2 : Int32))]) rfl) ?_
 show Goes _ _ _ _ _ (fT s₁ m 69 #[vi 15, vi 29] [])
 refine gN X0 hx hby d3_69 rfl rfl ?_
 refine gC X0 hx hby d3_70 ?_
 show Goes _ _ _ _ _ (fT s₁ m 71 #[vi 15, vi 29] [(.int 2), (.int 15)])
 refine Gz (XS.iushr X0.here hx rfl (hb hby d3_71) rfl) ?_
 rw [show (((15 : Int32).toUInt32 >>> ((2 : Int32) &&& 31).toUInt32).toInt32) = (3 : Int32) from by decide]
 show Goes _ _ _ _ _ (fT s₁ m 72 #[vi 15, vi 29] [(.int 3)])
 refine gs X0 hx hby d3_72 #[vi 3, vi 29] ?_
 refine gN X0 hx hby d3_73 rfl rfl ?_
 refine gN X0 hx hby d3_74 rfl rfl ?_
 refine gC X0 hx hby d3_75 ?_
 show Goes _ _ _ _ _ (fT s₁ m 76 #[vi 3, vi 29] [(.int 1), (.int 3), (.int 29)])
 refine Gz (XS.iushr X0.here hx rfl (hb hby d3_76) rfl) ?_
 rw [show (((3 : Int32).toUInt32 >>> ((1 : Int32) &&& 31).toUInt32).toInt32) = (1 : Int32) from by decide]
 show Goes _ _ _ _ _ (fT s₁ m 77 #[vi 3, vi 29] [(.int 1), (.int 29)])
 refine Gz (XS.isub X0.here hx rfl (hb hby d3_77) rfl) ?_
 show Goes _ _ _ _ _ (fT s₁ m 78 #[vi 3, vi 29] [(.int 28)])
 refine Goes.ret X0 (some (.int 28)) (fun h => by rw [hret] at h; cases h) hlk (by decide) (by decide) ?_ (fun fs hr => ?_)
 ·exact ⟨rfl, N0, e0⟩
 ·exact retI X0 hx hret (hb hby d3_78) hr
theorem d3_54 : DK kc3 54 (.iinc 1 (-4)) 3 := by decide +kernel
theorem d3_57 : DK kc3 57 (.iload_n 0) 1 := by decide +kernel
theorem d3_58 : DK kc3 58 (.iconst 4) 1 := by decide +kernel
theorem d3_59 : DK kc3 59 .iushr 1 := by decide +kernel
theorem d3_60 : DK kc3 60 (.istore_n 0) 1 := by decide +kernel
theorem own_ef_rm_nlz31 (m : MethodId)  : entryFrame m #[(.int 31)] 2 = mkF m 0 #[vi 31, vu] [] := by first | (simp [entryFrame, mkF, argsToLocals, Value.category]; done) | rfl
def Q_rm_nlz31 (Z : State)  (h0 : Heap) (n0 : Nat) (v : Option Value) (h : Heap) (L : List Loc) : Prop := v = some (.int 27) ∧ Fr n0 L ∧ h = h0
theorem rm_nlz31 (l : Launch) (Z : State) (a0 : Array Value) (hw : HW a0 Z) (ws : List Jvm.Cond)  (h0 : Heap) (n0 : Nat) (Z0 : n0 ≤ h0.size) :
  Met l Z mN3 jdk_33_method_47_code 2 (some .int) ({ frames := 0, cells := 0, slots := 0, locals := 0 } : Room) ws #[(.int 31)] h0 (Q_rm_nlz31 Z  h0 n0) := by
 refine own_met (plainFor_of_name own_pn2) ?_
 intro p e s m below meth c s₁ hret hx hby hlk hml hown hnm X0 e0 hZ hh
 have N0 := Fr.nil n0
 refine Gz (castTop (own_ef_rm_nlz31 m )) ?_
 show Goes _ _ _ _ _ (fT s₁ m 0 #[vi 31, vu] [])
 refine gN X0 hx hby d3_0 rfl rfl ?_
 refine gy X0 hx hby d3_1 1 15 ((if0 _ _).trans (tlt (by decide : ((0 : Int32) < (31 : Int32)))).2.2.1) ?_
 refine gB X0 hx hby d3_15 ?_
 refine gs X0 hx hby d3_17 #[vi 31, vi 31] ?_
 refine gN X0 hx hby d3_18 rfl rfl ?_
 refine Gs (fun _ tk => Jvm.Stand.ldcWI X0 hx hown (gz hZ hw 44 rfl) rfl (hb hby d3_19) tk) ?_
 show Goes _ _ _ _ _ (fT s₁ m 22 #[vi 31, vi 31] [(.int 65536), (.int 31)])
 refine gY X0 hx hby d3_22 22 33 (tlt (by decide : ((31 : Int32) < (65536 : Int32)))).1 ?_
 refine gN X0 hx hby d3_33 rfl rfl ?_
 refine Gz (XS.sipush X0.here hx rfl (hb hby d3_34)) ?_
 refine gY X0 hx hby d3_37 37 48 (tlt (by decide : ((31 : Int32) < (256 : Int32)))).1 ?_
 refine gN X0 hx hby d3_48 rfl rfl ?_
 refine gB X0 hx hby d3_49 ?_
 show Goes _ _ _ _ _ (fT s₁ m 51 #[vi 31, vi 31] [(.int 16), (.int 31)])
 refine gU X0 hx hby d3_51 (flt (by decide : ¬ ((31 : Int32) < (16 : Int32)))).1 ?_
 show Goes _ _ _ _ _ (fT s₁ m 54 #[vi 31, vi 31] [])
 refine Gz (XS.iinc X0.here hx rfl (hb hby d3_54) rfl (l' := #[vi 31, vi ((31 : Int32) + (-4 : Int32))]) rfl) ?_
 show Goes _ _ _ _ _ (fT s₁ m 57 #[vi 31, vi 27] [])
 refine gN X0 hx hby d3_57 rfl rfl ?_
 refine gC X0 hx hby d3_58 ?_
 show Goes _ _ _ _ _ (fT s₁ m 59 #[vi 31, vi 27] [(.int 4), (.int 31)])
 refine Gz (XS.iushr X0.here hx rfl (hb hby d3_59) rfl) ?_
 rw [show (((31 : Int32).toUInt32 >>> ((4 : Int32) &&& 31).toUInt32).toInt32) = (1 : Int32) from by decide]
 show Goes _ _ _ _ _ (fT s₁ m 60 #[vi 31, vi 27] [(.int 1)])
 refine gs X0 hx hby d3_60 #[vi 1, vi 27] ?_
 refine gN X0 hx hby d3_61 rfl rfl ?_
 refine gC X0 hx hby d3_62 ?_
 refine gY X0 hx hby d3_63 63 73 (tlt (by decide : ((1 : Int32) < (4 : Int32)))).1 ?_
 refine gN X0 hx hby d3_73 rfl rfl ?_
 refine gN X0 hx hby d3_74 rfl rfl ?_
 show Goes _ _ _ _ _ (fT s₁ m 75 #[vi 1, vi 27] [(.int 1), (.int 27)])
 refine gC X0 hx hby d3_75 ?_
 show Goes _ _ _ _ _ (fT s₁ m 76 #[vi 1, vi 27] [(.int 1), (.int 1), (.int 27)])
 refine Gz (XS.iushr X0.here hx rfl (hb hby d3_76) rfl) ?_
 rw [show (((1 : Int32).toUInt32 >>> ((1 : Int32) &&& 31).toUInt32).toInt32) = (0 : Int32) from by decide]
 show Goes _ _ _ _ _ (fT s₁ m 77 #[vi 1, vi 27] [(.int 0), (.int 27)])
 refine Gz (XS.isub X0.here hx rfl (hb hby d3_77) rfl) ?_
 show Goes _ _ _ _ _ (fT s₁ m 78 #[vi 1, vi 27] [(.int 27)])
 refine Goes.ret X0 (some (.int 27)) (fun h => by rw [hret] at h; cases h) hlk (by decide) (by decide) ?_ (fun fs hr => ?_)
 ·exact ⟨rfl, N0, e0⟩
 ·exact retI X0 hx hret (hb hby d3_78) hr
theorem d4_0 : DK kc10 0 (.aload_n 0) 1 := by decide +kernel
theorem d4_1 : DK kc10 1 .arraylength 1 := by decide +kernel
theorem d4_2 : DK kc10 2 (.iconst 1) 1 := by decide +kernel
theorem d4_3 : DK kc10 3 .isub 1 := by decide +kernel
theorem d4_4 : DK kc10 4 (.istore_n 2) 1 := by decide +kernel
theorem d4_5 : DK kc10 5 (.iload_n 1) 1 := by decide +kernel
theorem d4_6 : DK kc10 6 (.ldc 39) 2 := by decide +kernel
theorem d4_8 : DK kc10 8 .imul 1 := by decide +kernel
theorem d4_9 : DK kc10 9 (.iload_n 2) 1 := by decide +kernel
theorem d4_10 : DK kc10 10 (.invokestatic 40) 3 := by decide +kernel
theorem own_pd2 : parseMethodDescriptor "(I)I" = some ⟨[.int], some .int⟩ := by decide +kernel
theorem d4_13 : DK kc10 13 .iushr 1 := by decide +kernel
theorem d4_14 : DK kc10 14 (.istore_n 3) 1 := by decide +kernel
theorem d4_15 : DK kc10 15 (.aload_n 0) 1 := by decide +kernel
theorem d4_16 : DK kc10 16 (.iload_n 3) 1 := by decide +kernel
theorem d4_17 : DK kc10 17 .iaload 1 := by decide +kernel
theorem d4_18 : DK kc10 18 (.iconst (-1)) 1 := by decide +kernel
theorem d4_19 : DK kc10 19 (.if_icmp .eq 19) 3 := by decide +kernel
theorem d4_38 : DK kc10 38 (.iload_n 3) 1 := by decide +kernel
theorem d4_39 : DK kc10 39 .ireturn 1 := by decide +kernel
theorem d4_22 : DK kc10 22 (.aload_n 0) 1 := by decide +kernel
theorem d4_23 : DK kc10 23 (.iload_n 3) 1 := by decide +kernel
theorem d4_24 : DK kc10 24 .iaload 1 := by decide +kernel
theorem d4_25 : DK kc10 25 (.iload_n 1) 1 := by decide +kernel
theorem d4_26 : DK kc10 26 (.if_icmp .eq 12) 3 := by decide +kernel
theorem d4_29 : DK kc10 29 (.iload_n 3) 1 := by decide +kernel
theorem d4_30 : DK kc10 30 (.iconst 1) 1 := by decide +kernel
theorem d4_31 : DK kc10 31 .iadd 1 := by decide +kernel
theorem d4_32 : DK kc10 32 (.iload_n 2) 1 := by decide +kernel
theorem d4_33 : DK kc10 33 .iand 1 := by decide +kernel
theorem d4_34 : DK kc10 34 (.istore_n 3) 1 := by decide +kernel
theorem d4_35 : DK kc10 35 (.goto (-20)) 3 := by decide +kernel
theorem own_ef_rm_slo (m : MethodId) (x0 : Addr) (x1 : Int32) : entryFrame m #[(.ref x0), (.int x1)] 4 = mkF m 0 #[vr x0, vi x1, vu, vu] [] := by first | (simp [entryFrame, mkF, argsToLocals, Value.category]; done) | rfl
def Q_rm_slo (Z : State) (b : Addr) (kb : ClassId) (n : Nat) (T : List Int32) (cc : Int32) (h0 : Heap) (n0 : Nat) (v : Option Value) (h : Heap) (L : List Loc) : Prop := v = some (.int (Int32.ofNat (own_pr n T cc n (own_h n cc)))) ∧ Fr n0 L ∧ h = h0
theorem rm_slo (l : Launch) (Z : State) (a0 : Array Value) (hw : HW a0 Z) (ws : List Jvm.Cond) (b : Addr) (kb : ClassId) (n : Nat) (T : List Int32) (cc : Int32) (h0 : Heap) (n0 : Nat) (Z0 : n0 ≤ h0.size) (V_b : Arv Z h0 b kb .int (Int32.ofNat n) (iV T) (.int 0)) (hn2 : n = 16 ∨ n = 32) (hE : ∃ k, k < n ∧ T.getD k 0 = -1) :
  Met l Z mN4 prog_10_method_5_code 4 (some .int) ({ frames := 1, cells := 0, slots := 0, locals := 14 } : Room) ws #[(.ref b), (.int cc)] h0 (Q_rm_slo Z b kb n T cc h0 n0) := by
 refine own_met (plainFor_of_name own_pn1) ?_
 intro p e s m below meth c s₁ hret hx hby hlk hml hown hnm X0 e0 hZ hh
 have N0 := Fr.nil n0
 refine Gz (castTop (own_ef_rm_slo m b cc)) ?_
 show Goes _ _ _ _ _ (fT s₁ m 0 #[vr b, vi cc, vu, vu] [])
 obtain ⟨ee, he, hTe⟩ := hE
 rcases hn2 with rfl | rfl
 ·replace V_b : Arv Z h0 b kb .int 16 (iV T) (.int 0) := V_b
  show Goes _ _ _ _ _ (fT s₁ m 0 #[vr b, vi cc, vu, vu] [])
  refine gA X0 hx hby d4_0 rfl rfl rfl ?_
  obtain ⟨cl1, Ar1, -, S1, N1z, -, -⟩ := id V_b
  refine Gs (fun _ tk => X0.arraylength hx (by rw [e0]; exact Ar1.1) (State.isArrayOf_alike hZ.alike Ar1.2.1) (g := (mkF m 1 #[vr b, vi cc, vu, vu] [(.ref b)])) rfl rfl (hb hby d4_1) _ tk) ?_
  rw [len_of S1 N1z]
  show Goes _ _ _ _ _ (fT s₁ m 2 #[vr b, vi cc, vu, vu] [(.int 16)])
  refine gC X0 hx hby d4_2 ?_
  show Goes _ _ _ _ _ (fT s₁ m 3 #[vr b, vi cc, vu, vu] [(.int 1), (.int 16)])
  refine Gz (XS.isub X0.here hx rfl (hb hby d4_3) rfl) ?_
  show Goes _ _ _ _ _ (fT s₁ m 4 #[vr b, vi cc, vu, vu] [(.int 15)])
  refine gs X0 hx hby d4_4 #[vr b, vi cc, vi 15, vu] ?_
  refine gN X0 hx hby d4_5 rfl rfl ?_
  refine Gz (Jvm.Stand.ldcI X0 hx hown (gz hZ hw 39 rfl) rfl (hb hby d4_6)) ?_
  show Goes _ _ _ _ _ (fT s₁ m 8 #[vr b, vi cc, vi 15, vu] [(.int (-1640531527 : Int32)), (.int cc)])
  refine Gz (XS.imul X0.here hx rfl (hb hby d4_8) rfl) ?_
  show Goes _ _ _ _ _ (fT s₁ m 9 #[vr b, vi cc, vi 15, vu] [(.int (cc * (-1640531527 : Int32)))])
  refine gN X0 hx hby d4_9 rfl rfl ?_
  refine cS X0 hx hZ hw hown hby hml e0 mN3 40 41 43 42 1 (rm_nlz15 l Z a0 hw []  h0 n0 Z0) d4_10 (lenOf own_pd2 rfl) N0 (fun T2 L2 X2 e2 N2 => ?_)
  show Goes _ _ _ _ _ (fT T2 m 13 #[vr b, vi cc, vi 15, vu] [(.int 28), (.int (cc * (-1640531527 : Int32)))])
  refine Gz (XS.iushr X2.here hx rfl (hb hby d4_13) rfl) ?_
  show Goes _ _ _ _ _ (fT T2 m 14 #[vr b, vi cc, vi 15, vu] [(.int (((cc * (-1640531527 : Int32)).toUInt32 >>> ((28 : Int32) &&& 31).toUInt32).toInt32))])
  rw [(own_h16 cc).2]
  show Goes _ _ _ _ _ (fT T2 m 14 #[vr b, vi cc, vi 15, vu] [(.int (Int32.ofNat (own_h 16 cc)))])
  refine gs X2 hx hby d4_14 #[vr b, vi cc, vi 15, vi (Int32.ofNat (own_h 16 cc))] ?_
  show Goes _ _ _ _ _ (fT T2 m 15 #[vr b, vi cc, vi 15, vi (Int32.ofNat (own_h 16 cc))] [])
  refine own_loopT X2 e2 N2 (ι := Nat × Nat) (μ := fun i => i.1) (I := fun i => i.2 < 16 ∧ (ee + 16 - i.2) % 16 < i.1 ∧ own_pr 16 T cc i.1 i.2 = (own_pr 16 T cc 16 (own_h 16 cc))) (B := fun i T => T.setTop (mkF m 15 #[vr b, vi cc, vi 15, vi (Int32.ofNat i.2)] [])) ?_ (16, own_h 16 cc) ⟨(own_h16 cc).1, Nat.mod_lt _ (by decide), rfl⟩ rfl
  intro i5 T5 L5 X5 e5 N5 hI ih
  obtain ⟨f5, s5⟩ := i5
  obtain ⟨h1, h2, h3⟩ := hI
  dsimp only at h1 h2 h3 ih ⊢
  obtain ⟨f6, rfl⟩ : ∃ f6, f5 = f6 + 1 := ⟨f5 - 1, by omega⟩
  rw [own_pr] at h3
  show Goes _ _ _ _ _ (fT T5 m 15 #[vr b, vi cc, vi 15, vi (Int32.ofNat s5)] [])
  refine gA X5 hx hby d4_15 rfl rfl rfl ?_
  refine gN X5 hx hby d4_16 rfl rfl ?_
  obtain ⟨cl3, Ar3, -, S3, N3z, H3, -⟩ := id V_b
  have hin3 : ¬ ((Int32.ofNat s5) < 0 ∨ cl3.slots.size ≤ ((Int32.ofNat s5)).toNatClampNeg) := inb_of S3 ⟨(own_tnO (n := s5) (by omega)).2.1, (own_ltN (L := 16) (by omega) (by decide)).mpr h1⟩
  have hat3 : cl3.slots[((Int32.ofNat s5)).toNatClampNeg]? = some (.int (T.getD s5 0)) := Has.at H3 hin3 (by rw [(own_tnO (n := s5) (by omega)).1, own_iVg])
  refine Gs (fun _ tk => X5.iaload hx (j := (Int32.ofNat s5)) (v := (.int (T.getD s5 0))) (by rw [e5]; exact Ar3.1) (State.isArrayOf_alike hZ.alike Ar3.2.1) Ar3.2.2 hin3 hat3 (g := (mkF m 17 #[vr b, vi cc, vi 15, vi (Int32.ofNat s5)] [(.int (Int32.ofNat s5)), (.ref b)])) rfl rfl (hb hby d4_17) _ tk) ?_
  show Goes _ _ _ _ _ (fT T5 m 18 #[vr b, vi cc, vi 15, vi (Int32.ofNat s5)] [(.int (T.getD s5 0))])
  refine gC X5 hx hby d4_18 ?_
  by_cases hc19_4 : (T.getD s5 0) = (-1 : Int32)
  ·refine gY X5 hx hby d4_19 19 38 (teq hc19_4).1 ?_
   rw [if_pos (Or.inl hc19_4)] at h3
   refine gN X5 hx hby d4_38 rfl rfl ?_
   refine Goes.ret X5 (some (.int (Int32.ofNat s5))) (fun h => by rw [hret] at h; cases h) hlk (by decide) (by decide) ?_ (fun fs hr => ?_)
   ·exact ⟨(by rw [← h3]), N5, e5⟩
   ·exact retI X5 hx hret (hb hby d4_39) hr
  ·refine gU X5 hx hby d4_19 (feq hc19_4).1 ?_
   refine gA X5 hx hby d4_22 rfl rfl rfl ?_
   refine gN X5 hx hby d4_23 rfl rfl ?_
   obtain ⟨cl5, Ar5, -, S5, N5z, H5, -⟩ := id V_b
   have hin5 : ¬ ((Int32.ofNat s5) < 0 ∨ cl5.slots.size ≤ ((Int32.ofNat s5)).toNatClampNeg) := inb_of S5 ⟨(own_tnO (n := s5) (by omega)).2.1, (own_ltN (L := 16) (by omega) (by decide)).mpr h1⟩
   have hat5 : cl5.slots[((Int32.ofNat s5)).toNatClampNeg]? = some (.int (T.getD s5 0)) := Has.at H5 hin5 (by rw [(own_tnO (n := s5) (by omega)).1, own_iVg])
   refine Gs (fun _ tk => X5.iaload hx (j := (Int32.ofNat s5)) (v := (.int (T.getD s5 0))) (by rw [e5]; exact Ar5.1) (State.isArrayOf_alike hZ.alike Ar5.2.1) Ar5.2.2 hin5 hat5 (g := (mkF m 24 #[vr b, vi cc, vi 15, vi (Int32.ofNat s5)] [(.int (Int32.ofNat s5)), (.ref b)])) rfl rfl (hb hby d4_24) _ tk) ?_
   show Goes _ _ _ _ _ (fT T5 m 25 #[vr b, vi cc, vi 15, vi (Int32.ofNat s5)] [(.int (T.getD s5 0))])
   refine gN X5 hx hby d4_25 rfl rfl ?_
   by_cases hc26_6 : (T.getD s5 0) = cc
   ·refine gY X5 hx hby d4_26 26 38 (teq hc26_6).1 ?_
    rw [if_pos (Or.inr hc26_6)] at h3
    refine gN X5 hx hby d4_38 rfl rfl ?_
    refine Goes.ret X5 (some (.int (Int32.ofNat s5))) (fun h => by rw [hret] at h; cases h) hlk (by decide) (by decide) ?_ (fun fs hr => ?_)
    ·exact ⟨(by rw [← h3]), N5, e5⟩
    ·exact retI X5 hx hret (hb hby d4_39) hr
   ·refine gU X5 hx hby d4_26 (feq hc26_6).1 ?_
    rw [if_neg (not_or.mpr ⟨hc19_4, hc26_6⟩)] at h3
    have hse : s5 ≠ ee := fun q => hc19_4 (by rw [q]; exact hTe)
    refine gN X5 hx hby d4_29 rfl rfl ?_
    refine gC X5 hx hby d4_30 ?_
    show Goes _ _ _ _ _ (fT T5 m 31 #[vr b, vi cc, vi 15, vi (Int32.ofNat s5)] [(.int 1), (.int (Int32.ofNat s5))])
    refine Gz (XS.iadd X5.here hx rfl (hb hby d4_31) rfl) ?_
    show Goes _ _ _ _ _ (fT T5 m 32 #[vr b, vi cc, vi 15, vi (Int32.ofNat s5)] [(.int ((Int32.ofNat s5) + 1))])
    rw [own_ofS]
    show Goes _ _ _ _ _ (fT T5 m 32 #[vr b, vi cc, vi 15, vi (Int32.ofNat s5)] [(.int (Int32.ofNat (s5 + 1)))])
    refine gN X5 hx hby d4_32 rfl rfl ?_
    show Goes _ _ _ _ _ (fT T5 m 33 #[vr b, vi cc, vi 15, vi (Int32.ofNat s5)] [(.int 15), (.int (Int32.ofNat (s5 + 1)))])
    refine Gz (XS.iand X5.here hx rfl (hb hby d4_33) rfl) ?_
    show Goes _ _ _ _ _ (fT T5 m 34 #[vr b, vi cc, vi 15, vi (Int32.ofNat s5)] [(.int ((Int32.ofNat (s5 + 1)) &&& 15))])
    rw [own_and16 (by omega)]
    show Goes _ _ _ _ _ (fT T5 m 34 #[vr b, vi cc, vi 15, vi (Int32.ofNat s5)] [(.int (Int32.ofNat ((s5 + 1) % 16)))])
    refine gs X5 hx hby d4_34 #[vr b, vi cc, vi 15, vi (Int32.ofNat ((s5 + 1) % 16))] ?_
    refine gG X5 hx hby d4_35 35 15 ?_
    show Goes _ _ _ _ _ (fT T5 m 15 #[vr b, vi cc, vi 15, vi (Int32.ofNat ((s5 + 1) % 16))] [])
    exact ih (f6, (s5 + 1) % 16) _ _ (Nat.lt_succ_self f6) ⟨Nat.mod_lt _ (by decide), (by dsimp only; omega), h3⟩ X5 e5 N5
 ·replace V_b : Arv Z h0 b kb .int 32 (iV T) (.int 0) := V_b
  show Goes _ _ _ _ _ (fT s₁ m 0 #[vr b, vi cc, vu, vu] [])
  refine gA X0 hx hby d4_0 rfl rfl rfl ?_
  obtain ⟨cl7, Ar7, -, S7, N7z, -, -⟩ := id V_b
  refine Gs (fun _ tk => X0.arraylength hx (by rw [e0]; exact Ar7.1) (State.isArrayOf_alike hZ.alike Ar7.2.1) (g := (mkF m 1 #[vr b, vi cc, vu, vu] [(.ref b)])) rfl rfl (hb hby d4_1) _ tk) ?_
  rw [len_of S7 N7z]
  show Goes _ _ _ _ _ (fT s₁ m 2 #[vr b, vi cc, vu, vu] [(.int 32)])
  refine gC X0 hx hby d4_2 ?_
  show Goes _ _ _ _ _ (fT s₁ m 3 #[vr b, vi cc, vu, vu] [(.int 1), (.int 32)])
  refine Gz (XS.isub X0.here hx rfl (hb hby d4_3) rfl) ?_
  show Goes _ _ _ _ _ (fT s₁ m 4 #[vr b, vi cc, vu, vu] [(.int 31)])
  refine gs X0 hx hby d4_4 #[vr b, vi cc, vi 31, vu] ?_
  refine gN X0 hx hby d4_5 rfl rfl ?_
  refine Gz (Jvm.Stand.ldcI X0 hx hown (gz hZ hw 39 rfl) rfl (hb hby d4_6)) ?_
  show Goes _ _ _ _ _ (fT s₁ m 8 #[vr b, vi cc, vi 31, vu] [(.int (-1640531527 : Int32)), (.int cc)])
  refine Gz (XS.imul X0.here hx rfl (hb hby d4_8) rfl) ?_
  show Goes _ _ _ _ _ (fT s₁ m 9 #[vr b, vi cc, vi 31, vu] [(.int (cc * (-1640531527 : Int32)))])
  refine gN X0 hx hby d4_9 rfl rfl ?_
  refine cS X0 hx hZ hw hown hby hml e0 mN3 40 41 43 42 1 (rm_nlz31 l Z a0 hw []  h0 n0 Z0) d4_10 (lenOf own_pd2 rfl) N0 (fun T8 L8 X8 e8 N8 => ?_)
  show Goes _ _ _ _ _ (fT T8 m 13 #[vr b, vi cc, vi 31, vu] [(.int 27), (.int (cc * (-1640531527 : Int32)))])
  refine Gz (XS.iushr X8.here hx rfl (hb hby d4_13) rfl) ?_
  show Goes _ _ _ _ _ (fT T8 m 14 #[vr b, vi cc, vi 31, vu] [(.int (((cc * (-1640531527 : Int32)).toUInt32 >>> ((27 : Int32) &&& 31).toUInt32).toInt32))])
  rw [(own_h32 cc).2]
  show Goes _ _ _ _ _ (fT T8 m 14 #[vr b, vi cc, vi 31, vu] [(.int (Int32.ofNat (own_h 32 cc)))])
  refine gs X8 hx hby d4_14 #[vr b, vi cc, vi 31, vi (Int32.ofNat (own_h 32 cc))] ?_
  show Goes _ _ _ _ _ (fT T8 m 15 #[vr b, vi cc, vi 31, vi (Int32.ofNat (own_h 32 cc))] [])
  refine own_loopT X8 e8 N8 (ι := Nat × Nat) (μ := fun i => i.1) (I := fun i => i.2 < 32 ∧ (ee + 32 - i.2) % 32 < i.1 ∧ own_pr 32 T cc i.1 i.2 = (own_pr 32 T cc 32 (own_h 32 cc))) (B := fun i T => T.setTop (mkF m 15 #[vr b, vi cc, vi 31, vi (Int32.ofNat i.2)] [])) ?_ (32, own_h 32 cc) ⟨(own_h32 cc).1, Nat.mod_lt _ (by decide), rfl⟩ rfl
  intro i5 T5 L5 X5 e5 N5 hI ih
  obtain ⟨f5, s5⟩ := i5
  obtain ⟨h1, h2, h3⟩ := hI
  dsimp only at h1 h2 h3 ih ⊢
  obtain ⟨f6, rfl⟩ : ∃ f6, f5 = f6 + 1 := ⟨f5 - 1, by omega⟩
  rw [own_pr] at h3
  show Goes _ _ _ _ _ (fT T5 m 15 #[vr b, vi cc, vi 31, vi (Int32.ofNat s5)] [])
  refine gA X5 hx hby d4_15 rfl rfl rfl ?_
  refine gN X5 hx hby d4_16 rfl rfl ?_
  obtain ⟨cl9, Ar9, -, S9, N9z, H9, -⟩ := id V_b
  have hin9 : ¬ ((Int32.ofNat s5) < 0 ∨ cl9.slots.size ≤ ((Int32.ofNat s5)).toNatClampNeg) := inb_of S9 ⟨(own_tnO (n := s5) (by omega)).2.1, (own_ltN (L := 32) (by omega) (by decide)).mpr h1⟩
  have hat9 : cl9.slots[((Int32.ofNat s5)).toNatClampNeg]? = some (.int (T.getD s5 0)) := Has.at H9 hin9 (by rw [(own_tnO (n := s5) (by omega)).1, own_iVg])
  refine Gs (fun _ tk => X5.iaload hx (j := (Int32.ofNat s5)) (v := (.int (T.getD s5 0))) (by rw [e5]; exact Ar9.1) (State.isArrayOf_alike hZ.alike Ar9.2.1) Ar9.2.2 hin9 hat9 (g := (mkF m 17 #[vr b, vi cc, vi 31, vi (Int32.ofNat s5)] [(.int (Int32.ofNat s5)), (.ref b)])) rfl rfl (hb hby d4_17) _ tk) ?_
  show Goes _ _ _ _ _ (fT T5 m 18 #[vr b, vi cc, vi 31, vi (Int32.ofNat s5)] [(.int (T.getD s5 0))])
  refine gC X5 hx hby d4_18 ?_
  by_cases hc19_10 : (T.getD s5 0) = (-1 : Int32)
  ·refine gY X5 hx hby d4_19 19 38 (teq hc19_10).1 ?_
   rw [if_pos (Or.inl hc19_10)] at h3
   refine gN X5 hx hby d4_38 rfl rfl ?_
   refine Goes.ret X5 (some (.int (Int32.ofNat s5))) (fun h => by rw [hret] at h; cases h) hlk (by decide) (by decide) ?_ (fun fs hr => ?_)
   ·exact ⟨(by rw [← h3]), N5, e5⟩
   ·exact retI X5 hx hret (hb hby d4_39) hr
  ·refine gU X5 hx hby d4_19 (feq hc19_10).1 ?_
   refine gA X5 hx hby d4_22 rfl rfl rfl ?_
   refine gN X5 hx hby d4_23 rfl rfl ?_
   obtain ⟨cl11, Ar11, -, S11, N11z, H11, -⟩ := id V_b
   have hin11 : ¬ ((Int32.ofNat s5) < 0 ∨ cl11.slots.size ≤ ((Int32.ofNat s5)).toNatClampNeg) := inb_of S11 ⟨(own_tnO (n := s5) (by omega)).2.1, (own_ltN (L := 32) (by omega) (by decide)).mpr h1⟩
   have hat11 : cl11.slots[((Int32.ofNat s5)).toNatClampNeg]? = some (.int (T.getD s5 0)) := Has.at H11 hin11 (by rw [(own_tnO (n := s5) (by omega)).1, own_iVg])
   refine Gs (fun _ tk => X5.iaload hx (j := (Int32.ofNat s5)) (v := (.int (T.getD s5 0))) (by rw [e5]; exact Ar11.1) (State.isArrayOf_alike hZ.alike Ar11.2.1) Ar11.2.2 hin11 hat11 (g := (mkF m 24 #[vr b, vi cc, vi 31, vi (Int32.ofNat s5)] [(.int (Int32.ofNat s5)), (.ref b)])) rfl rfl (hb hby d4_24) _ tk) ?_
   show Goes _ _ _ _ _ (fT T5 m 25 #[vr b, vi cc, vi 31, vi (Int32.ofNat s5)] [(.int (T.getD s5 0))])
   refine gN X5 hx hby d4_25 rfl rfl ?_
   by_cases hc26_12 : (T.getD s5 0) = cc
   ·refine gY X5 hx hby d4_26 26 38 (teq hc26_12).1 ?_
    rw [if_pos (Or.inr hc26_12)] at h3
    refine gN X5 hx hby d4_38 rfl rfl ?_
    refine Goes.ret X5 (some (.int (Int32.ofNat s5))) (fun h => by rw [hret] at h; cases h) hlk (by decide) (by decide) ?_ (fun fs hr => ?_)
    ·exact ⟨(by rw [← h3]), N5, e5⟩
    ·exact retI X5 hx hret (hb hby d4_39) hr
   ·refine gU X5 hx hby d4_26 (feq hc26_12).1 ?_
    rw [if_neg (not_or.mpr ⟨hc19_10, hc26_12⟩)] at h3
    have hse : s5 ≠ ee := fun q => hc19_10 (by rw [q]; exact hTe)
    refine gN X5 hx hby d4_29 rfl rfl ?_
    refine gC X5 hx hby d4_30 ?_
    show Goes _ _ _ _ _ (fT T5 m 31 #[vr b, vi cc, vi 31, vi (Int32.ofNat s5)] [(.int 1), (.int (Int32.ofNat s5))])
    refine Gz (XS.iadd X5.here hx rfl (hb hby d4_31) rfl) ?_
    show Goes _ _ _ _ _ (fT T5 m 32 #[vr b, vi cc, vi 31, vi (Int32.ofNat s5)] [(.int ((Int32.ofNat s5) + 1))])
    rw [own_ofS]
    show Goes _ _ _ _ _ (fT T5 m 32 #[vr b, vi cc, vi 31, vi (Int32.ofNat s5)] [(.int (Int32.ofNat (s5 + 1)))])
    refine gN X5 hx hby d4_32 rfl rfl ?_
    show Goes _ _ _ _ _ (fT T5 m 33 #[vr b, vi cc, vi 31, vi (Int32.ofNat s5)] [(.int 31), (.int (Int32.ofNat (s5 + 1)))])
    refine Gz (XS.iand X5.here hx rfl (hb hby d4_33) rfl) ?_
    show Goes _ _ _ _ _ (fT T5 m 34 #[vr b, vi cc, vi 31, vi (Int32.ofNat s5)] [(.int ((Int32.ofNat (s5 + 1)) &&& 31))])
    rw [own_and32 (by omega)]
    show Goes _ _ _ _ _ (fT T5 m 34 #[vr b, vi cc, vi 31, vi (Int32.ofNat s5)] [(.int (Int32.ofNat ((s5 + 1) % 32)))])
    refine gs X5 hx hby d4_34 #[vr b, vi cc, vi 31, vi (Int32.ofNat ((s5 + 1) % 32))] ?_
    refine gG X5 hx hby d4_35 35 15 ?_
    show Goes _ _ _ _ _ (fT T5 m 15 #[vr b, vi cc, vi 31, vi (Int32.ofNat ((s5 + 1) % 32))] [])
    exact ih (f6, (s5 + 1) % 32) _ _ (Nat.lt_succ_self f6) ⟨Nat.mod_lt _ (by decide), (by dsimp only; omega), h3⟩ X5 e5 N5
theorem d5_0 : DK kc9 0 (.aload_n 0) 1 := by decide +kernel
theorem d5_1 : DK kc9 1 (.getfield 13) 3 := by decide +kernel
theorem d5_4 : DK kc9 4 (.astore_n 1) 1 := by decide +kernel
theorem d5_5 : DK kc9 5 (.aload_n 0) 1 := by decide +kernel
theorem d5_6 : DK kc9 6 (.getfield 17) 3 := by decide +kernel
theorem d5_9 : DK kc9 9 (.astore_n 2) 1 := by decide +kernel
theorem d5_10 : DK kc9 10 (.aload_n 0) 1 := by decide +kernel
theorem d5_11 : DK kc9 11 (.iconst 2) 1 := by decide +kernel
theorem d5_12 : DK kc9 12 (.aload_n 1) 1 := by decide +kernel
theorem d5_13 : DK kc9 13 .arraylength 1 := by decide +kernel
theorem d5_14 : DK kc9 14 .imul 1 := by decide +kernel
theorem d5_15 : DK kc9 15 (.invokestatic 9) 3 := by decide +kernel
theorem d5_18 : DK kc9 18 (.putfield 13) 3 := by decide +kernel
theorem d5_21 : DK kc9 21 (.aload_n 0) 1 := by decide +kernel
theorem d5_22 : DK kc9 22 (.aload_n 0) 1 := by decide +kernel
theorem d5_23 : DK kc9 23 (.getfield 13) 3 := by decide +kernel
theorem d5_26 : DK kc9 26 .arraylength 1 := by decide +kernel
theorem d5_27 : DK kc9 27 (.newarray .int) 2 := by decide +kernel
theorem d5_29 : DK kc9 29 (.putfield 17) 3 := by decide +kernel
theorem d5_32 : DK kc9 32 (.iconst 0) 1 := by decide +kernel
theorem d5_33 : DK kc9 33 (.istore_n 3) 1 := by decide +kernel
theorem d5_34 : DK kc9 34 (.iload_n 3) 1 := by decide +kernel
theorem d5_35 : DK kc9 35 (.aload_n 1) 1 := by decide +kernel
theorem d5_36 : DK kc9 36 .arraylength 1 := by decide +kernel
theorem d5_37 : DK kc9 37 (.if_icmp .ge 48) 3 := by decide +kernel
theorem d5_40 : DK kc9 40 (.aload_n 1) 1 := by decide +kernel
theorem d5_41 : DK kc9 41 (.iload_n 3) 1 := by decide +kernel
theorem d5_42 : DK kc9 42 .iaload 1 := by decide +kernel
theorem d5_43 : DK kc9 43 (.iconst (-1)) 1 := by decide +kernel
theorem d5_44 : DK kc9 44 (.if_icmp .eq 35) 3 := by decide +kernel
theorem d5_79 : DK kc9 79 (.iinc 3 1) 3 := by decide +kernel
theorem d5_82 : DK kc9 82 (.goto (-48)) 3 := by decide +kernel
theorem d5_47 : DK kc9 47 (.aload_n 0) 1 := by decide +kernel
theorem d5_48 : DK kc9 48 (.getfield 13) 3 := by decide +kernel
theorem d5_51 : DK kc9 51 (.aload_n 1) 1 := by decide +kernel
theorem d5_52 : DK kc9 52 (.iload_n 3) 1 := by decide +kernel
theorem d5_53 : DK kc9 53 .iaload 1 := by decide +kernel
theorem d5_54 : DK kc9 54 (.invokestatic 20) 3 := by decide +kernel
theorem own_pd3 : parseMethodDescriptor "([II)I" = some ⟨[(.array .int), .int], some .int⟩ := by decide +kernel
theorem d5_57 : DK kc9 57 (.istore 4) 2 := by decide +kernel
theorem d5_59 : DK kc9 59 (.aload_n 0) 1 := by decide +kernel
theorem d5_60 : DK kc9 60 (.getfield 13) 3 := by decide +kernel
theorem d5_63 : DK kc9 63 (.iload 4) 2 := by decide +kernel
theorem d5_65 : DK kc9 65 (.aload_n 1) 1 := by decide +kernel
theorem d5_66 : DK kc9 66 (.iload_n 3) 1 := by decide +kernel
theorem d5_67 : DK kc9 67 .iaload 1 := by decide +kernel
theorem d5_68 : DK kc9 68 .iastore 1 := by decide +kernel
theorem d5_69 : DK kc9 69 (.aload_n 0) 1 := by decide +kernel
theorem d5_70 : DK kc9 70 (.getfield 17) 3 := by decide +kernel
theorem d5_73 : DK kc9 73 (.iload 4) 2 := by decide +kernel
theorem d5_75 : DK kc9 75 (.aload_n 2) 1 := by decide +kernel
theorem d5_76 : DK kc9 76 (.iload_n 3) 1 := by decide +kernel
theorem d5_77 : DK kc9 77 .iaload 1 := by decide +kernel
theorem d5_78 : DK kc9 78 .iastore 1 := by decide +kernel
theorem d5_85 : DK kc9 85 .return_ 1 := by decide +kernel
theorem own_ef_rm_gr (m : MethodId) (x0 : Addr) : entryFrame m #[(.ref x0)] 5 = mkF m 0 #[vr x0, vu, vu, vu, vu] [] := by first | (simp [entryFrame, mkF, argsToLocals, Value.category]; done) | rfl
def Q_rm_gr (Z : State) (a : Addr) (b : Addr) (kb : ClassId) (d : Addr) (kd : ClassId) (T : List Int32) (K : List Int32) (E : List (Int32 × Int32)) (h0 : Heap) (n0 : Nat) (v : Option Value) (h : Heap) (L : List Loc) : Prop := ∃ b2 : Addr, ∃ kb2 : ClassId, ∃ d2 : Addr, ∃ kd2 : ClassId, ∃ T2 : List Int32, ∃ K2 : List Int32, v = none ∧ Fr n0 L ∧ Keep h0 h [a] ∧ Fld Z h a "com/example/tandemtrie/tandemtrie/build/CodePointCounts" "codePoints" "[I" (.ref b2) ∧ Fld Z h a "com/example/tandemtrie/tandemtrie/build/CodePointCounts" "counts" "[I" (.ref d2) ∧ Fld Z h a "com/example/tandemtrie/tandemtrie/build/CodePointCounts" "size" "I" (.int (Int32.ofNat E.length)) ∧ Arv Z h b2 kb2 .int (Int32.ofNat 32) (iV T2) (.int 0) ∧ Arv Z h d2 kd2 .int (Int32.ofNat 32) (iV K2) (.int 0) ∧ n0 ≤ b2 ∧ n0 ≤ d2 ∧ h0.size ≤ b2 ∧ h0.size ≤ d2 ∧ b2 ≠ d2 ∧ Oinv (own_h 32) 32 T2 K2 E
theorem rm_gr (l : Launch) (Z : State) (a0 : Array Value) (hw : HW a0 Z) (ws : List Jvm.Cond) (a : Addr) (b : Addr) (kb : ClassId) (d : Addr) (kd : ClassId) (T : List Int32) (K : List Int32) (E : List (Int32 × Int32)) (h0 : Heap) (n0 : Nat) (Z0 : n0 ≤ h0.size) (A_a : Exa Z h0 a "com/example/tandemtrie/tandemtrie/build/CodePointCounts") (F_codePoints_a : Fld Z h0 a "com/example/tandemtrie/tandemtrie/build/CodePointCounts" "codePoints" "[I" (.ref b)) (F_counts_a : Fld Z h0 a "com/example/tandemtrie/tandemtrie/build/CodePointCounts" "counts" "[I" (.ref d)) (F_size_a : Fld Z h0 a "com/example/tandemtrie/tandemtrie/build/CodePointCounts" "size" "I" (.int (Int32.ofNat E.length))) (V_b : Arv Z h0 b kb .int (Int32.ofNat 16) (iV T) (.int 0)) (V_d : Arv Z h0 d kd .int (Int32.ofNat 16) (iV K) (.int 0)) (g_a : n0 ≤ a) (g_b : n0 ≤ b) (g_d : n0 ≤ d) (ne_a_b : a ≠ b) (ne_a_d : a ≠ d) (ne_b_d : b ≠ d) (hO : Oinv (own_h 16) 16 T K E) :
  Met l Z mN5 prog_10_method_4_code 5 none ({ frames := 2, cells := 2, slots := 64, locals := 29 } : Room) ws #[(.ref a)] h0 (Q_rm_gr Z a b kb d kd T K E h0 n0) := by
 refine own_met (plainFor_of_name own_pn1) ?_
 intro p e s m below meth c s₁ hret hx hby hlk hml hown hnm X0 e0 hZ hh
 have N0 := Fr.nil n0
 refine Gz (castTop (own_ef_rm_gr m a)) ?_
 have KP : Keep h0 h0 [a] := Keep.refl _ _
 show Goes _ _ _ _ _ (fT s₁ m 0 #[vr a, vu, vu, vu, vu] [])
 replace V_b : Arv Z h0 b kb .int 16 (iV T) (.int 0) := V_b
 replace V_d : Arv Z h0 d kd .int 16 (iV K) (.int 0) := V_d
 refine gA X0 hx hby d5_0 rfl rfl rfl ?_
 obtain ⟨T1, X1, e1, st1⟩ := getF X0 hx hZ hown (host := "") (Or.inl (gw hw 20 rfl)) Via.refl e0 F_codePoints_a (g := (mkF m 1 #[vr a, vu, vu, vu, vu] [(.ref a)])) rfl rfl (hb hby d5_1)
 refine Gs st1 ?_
 show Goes _ _ _ _ _ (fT T1 m 4 #[vr a, vu, vu, vu, vu] [(.ref b)])
 refine Gz (XS.astoreN X1.here hx rfl (hb hby d5_4) rfl rfl (l' := #[vr a, vr b, vu, vu, vu]) rfl) ?_
 refine gA X1 hx hby d5_5 rfl rfl rfl ?_
 obtain ⟨T2, X2, e2, st2⟩ := getF X1 hx hZ hown (host := "") (Or.inl (gw hw 22 rfl)) Via.refl e1 F_counts_a (g := (mkF m 6 #[vr a, vr b, vu, vu, vu] [(.ref a)])) rfl rfl (hb hby d5_6)
 refine Gs st2 ?_
 show Goes _ _ _ _ _ (fT T2 m 9 #[vr a, vr b, vu, vu, vu] [(.ref d)])
 refine Gz (XS.astoreN X2.here hx rfl (hb hby d5_9) rfl rfl (l' := #[vr a, vr b, vr d, vu, vu]) rfl) ?_
 refine gA X2 hx hby d5_10 rfl rfl rfl ?_
 refine gC X2 hx hby d5_11 ?_
 refine gA X2 hx hby d5_12 rfl rfl rfl ?_
 obtain ⟨cl3, Ar3, -, S3, N3z, -, -⟩ := id V_b
 refine Gs (fun _ tk => X2.arraylength hx (by rw [e2]; exact Ar3.1) (State.isArrayOf_alike hZ.alike Ar3.2.1) (g := (mkF m 13 #[vr a, vr b, vr d, vu, vu] [(.ref b), (.int 2), (.ref a)])) rfl rfl (hb hby d5_13) _ tk) ?_
 rw [len_of S3 N3z]
 show Goes _ _ _ _ _ (fT T2 m 14 #[vr a, vr b, vr d, vu, vu] [(.int 16), (.int 2), (.ref a)])
 refine Gz (XS.imul X2.here hx rfl (hb hby d5_14) rfl) ?_
 show Goes _ _ _ _ _ (fT T2 m 15 #[vr a, vr b, vr d, vu, vu] [(.int (Int32.ofNat 32)), (.ref a)])
 have ltc4_a : a < h0.size := A_a.lt
 have ltc4_b : b < h0.size := V_b.lt
 have ltc4_d : d < h0.size := V_d.lt
 have szs4 : h0.size ≤ h0.size := KP.1
 refine cSg X2 hx hZ hw hown hby hml e2 mN1 12 13 14 5 1 (rm_un l Z a0 hw [] 32 h0 n0 Z0 (Or.inr rfl)) d5_15 (lenOf own_pd1 rfl) (fun _ T4 L4 X4 hQ4 => ?_)
 obtain ⟨y4, ky4, rfl, N4q, K4, V_y4_4', g_y4_4', sz_y4_4'⟩ := hQ4
 have N4 := Fr.app N0 N4q
 replace A_a := A_a.keep K4
 replace F_codePoints_a := F_codePoints_a.keep K4 nin0
 replace F_counts_a := F_counts_a.keep K4 nin0
 replace F_size_a := F_size_a.keep K4 nin0
 replace V_b := V_b.keep K4 nin0
 replace V_d := V_d.keep K4 nin0
 replace KP := KP.trans K4 all0
 replace Z0 := Nat.le_trans Z0 K4.1
 have V_y4 := V_y4_4'
 have g_y4 := g_y4_4'
 have szc_y4 := sz_y4_4'
 have ne_a_y4 : a ≠ y4 := Nat.ne_of_lt (Nat.lt_of_lt_of_le ltc4_a szc_y4)
 have ne_b_y4 : b ≠ y4 := Nat.ne_of_lt (Nat.lt_of_lt_of_le ltc4_b szc_y4)
 have ne_d_y4 : d ≠ y4 := Nat.ne_of_lt (Nat.lt_of_lt_of_le ltc4_d szc_y4)
 have sz_y4 : h0.size ≤ y4 := Nat.le_trans szs4 szc_y4
 show Goes _ _ _ _ _ (fT T4 m 18 #[vr a, vr b, vr d, vu, vu] [(.ref y4), (.ref a)])
 replace V_y4 : Arv Z T4.heap y4 ky4 .int 32 (iV (List.replicate 32 (-1 : Int32))) (.int 0) := V_y4
 obtain ⟨T5, h5, X5, e5, W5, st5⟩ := putF X4 hx hZ hown (host := "") (Or.inl (gw hw 20 rfl)) Via.refl rfl F_codePoints_a A_a (Or.inl (gw hw 21 rfl)) (gw hw 4 rfl) (ty := (.array .int)) (by decide) rfl rfl (g := (mkF m 18 #[vr a, vr b, vr d, vu, vu] [(.ref y4), (.ref a)])) rfl rfl (hb hby d5_18)
 have N5 := Fr.snoc X5 N4 g_a
 replace A_a := A_a.wr W5
 replace F_counts_a := F_counts_a.other W5 (Or.inr (slot_ne (Or.inl (gw hw 23 rfl)) (Or.inl (gw hw 21 rfl)) (by decide) (t := (.array .int)) (t' := (.array .int)) (by decide) (by decide)))
 replace F_size_a := F_size_a.other W5 (Or.inr (slot_ne (Or.inl (gw hw 46 rfl)) (Or.inl (gw hw 21 rfl)) (by decide) (t := .int) (t' := (.array .int)) (by decide) (by decide)))
 replace V_b := V_b.other W5 (Ne.symm ne_a_b)
 replace V_d := V_d.other W5 (Ne.symm ne_a_d)
 replace V_y4 := V_y4.other W5 (Ne.symm ne_a_y4)
 replace KP := KP.wr W5 (Or.inl (List.mem_of_getElem? (i := 0) rfl))
 replace F_codePoints_a := F_codePoints_a.same W5
 replace Z0 : n0 ≤ h5.size := by rw [W5.size]; exact Z0
 refine Gs st5 ?_
 show Goes _ _ _ _ _ (fT T5 m 21 #[vr a, vr b, vr d, vu, vu] [])
 refine gA X5 hx hby d5_21 rfl rfl rfl ?_
 refine gA X5 hx hby d5_22 rfl rfl rfl ?_
 obtain ⟨T6, X6, e6, st6⟩ := getF X5 hx hZ hown (host := "") (Or.inl (gw hw 20 rfl)) Via.refl e5 F_codePoints_a (g := (mkF m 23 #[vr a, vr b, vr d, vu, vu] [(.ref a), (.ref a)])) rfl rfl (hb hby d5_23)
 refine Gs st6 ?_
 show Goes _ _ _ _ _ (fT T6 m 26 #[vr a, vr b, vr d, vu, vu] [(.ref y4), (.ref a)])
 obtain ⟨cl7, Ar7, -, S7, N7z, -, -⟩ := id V_y4
 refine Gs (fun _ tk => X6.arraylength hx (by rw [e6]; exact Ar7.1) (State.isArrayOf_alike hZ.alike Ar7.2.1) (g := (mkF m 26 #[vr a, vr b, vr d, vu, vu] [(.ref y4), (.ref a)])) rfl rfl (hb hby d5_26) _ tk) ?_
 rw [len_of S7 N7z]
 show Goes _ _ _ _ _ (fT T6 m 27 #[vr a, vr b, vr d, vu, vu] [(.int 32), (.ref a)])
 obtain ⟨T8, h8, k8, X8, e8, E8, A8, st8⟩ := newP X6 hx hZ (gw hw 15 rfl) e6 (g := (mkF m 27 #[vr a, vr b, vr d, vu, vu] [(.int 32), (.ref a)])) rfl (hb hby d5_27) rfl (by decide) (cap := 32) (by decide) (by decide) (by decide) (by decide)
 obtain ⟨b8, gq8⟩ : ∃ z, z = h5.size := ⟨_, rfl⟩
 rw [← gq8] at A8 st8
 have g_b8 : n0 ≤ b8 := by rw [gq8]; exact Z0
 have sz_b8 : h0.size ≤ b8 := by rw [gq8]; exact KP.1
 have ne_a_b8 : a ≠ b8 := by rw [gq8]; exact Nat.ne_of_lt A_a.lt
 have ne_b_b8 : b ≠ b8 := by rw [gq8]; exact Nat.ne_of_lt V_b.lt
 have ne_d_b8 : d ≠ b8 := by rw [gq8]; exact Nat.ne_of_lt V_d.lt
 have ne_y4_b8 : y4 ≠ b8 := by rw [gq8]; exact Nat.ne_of_lt V_y4.lt
 replace A_a := A_a.ext E8
 replace F_codePoints_a := F_codePoints_a.ext E8
 replace F_counts_a := F_counts_a.ext E8
 replace F_size_a := F_size_a.ext E8
 replace V_b := V_b.ext E8
 replace V_d := V_d.ext E8
 replace V_y4 := V_y4.ext E8
 replace KP := KP.ext E8
 replace Z0 : n0 ≤ h8.size := Nat.le_trans Z0 E8.1
 have V_b8 : Arv Z h8 b8 k8 .int 32 [(.int 0), (.int 0), (.int 0), (.int 0), (.int 0), (.int 0), (.int 0), (.int 0), (.int 0), (.int 0), (.int 0), (.int 0), (.int 0), (.int 0), (.int 0), (.int 0), (.int 0), (.int 0), (.int 0), (.int 0), (.int 0), (.int 0), (.int 0), (.int 0), (.int 0), (.int 0), (.int 0), (.int 0), (.int 0), (.int 0), (.int 0), (.int 0)] (.int 0) := (Arv.new A8 (by decide)).pad (pad_rep [] (.int 0) 32)
 refine Gs st8 ?_
 show Goes _ _ _ _ _ (fT T8 m 29 #[vr a, vr b, vr d, vu, vu] [(.ref b8), (.ref a)])
 obtain ⟨T9, h9, X9, e9, W9, st9⟩ := putF X8 hx hZ hown (host := "") (Or.inl (gw hw 22 rfl)) Via.refl e8 F_counts_a A_a (Or.inl (gw hw 23 rfl)) (gw hw 4 rfl) (ty := (.array .int)) (by decide) rfl rfl (g := (mkF m 29 #[vr a, vr b, vr d, vu, vu] [(.ref b8), (.ref a)])) rfl rfl (hb hby d5_29)
 have N9 := Fr.snoc X9 N5 g_a
 replace A_a := A_a.wr W9
 replace F_codePoints_a := F_codePoints_a.other W9 (Or.inr (slot_ne (Or.inl (gw hw 21 rfl)) (Or.inl (gw hw 23 rfl)) (by decide) (t := (.array .int)) (t' := (.array .int)) (by decide) (by decide)))
 replace F_size_a := F_size_a.other W9 (Or.inr (slot_ne (Or.inl (gw hw 46 rfl)) (Or.inl (gw hw 23 rfl)) (by decide) (t := .int) (t' := (.array .int)) (by decide) (by decide)))
 replace V_b := V_b.other W9 (Ne.symm ne_a_b)
 replace V_d := V_d.other W9 (Ne.symm ne_a_d)
 replace V_y4 := V_y4.other W9 (Ne.symm ne_a_y4)
 replace V_b8 := V_b8.other W9 (Ne.symm ne_a_b8)
 replace KP := KP.wr W9 (Or.inl (List.mem_of_getElem? (i := 0) rfl))
 replace F_counts_a := F_counts_a.same W9
 replace Z0 : n0 ≤ h9.size := by rw [W9.size]; exact Z0
 refine Gs st9 ?_
 show Goes _ _ _ _ _ (fT T9 m 32 #[vr a, vr b, vr d, vu, vu] [])
 refine gC X9 hx hby d5_32 ?_
 refine gs X9 hx hby d5_33 #[vr a, vr b, vr d, vi 0, vu] ?_
 show Goes _ _ _ _ _ (fT T9 m 34 #[vr a, vr b, vr d, vi 0, vu] [])
 replace V_b8 : Arv Z h9 b8 k8 .int (Int32.ofNat 32) (iV (List.replicate 32 (0 : Int32))) (.int 0) := V_b8
 replace V_y4 : Arv Z h9 y4 ky4 .int (Int32.ofNat 32) (iV (List.replicate 32 (-1 : Int32))) (.int 0) := V_y4
 refine own_loopG (ι := Nat × Option Int32) (μ := fun i => 16 - i.1) (I := fun i T5 L => i.1 ≤ 16 ∧ Fr n0 L ∧ n0 ≤ T5.heap.size ∧ Keep h0 T5.heap [a] ∧ Exa Z T5.heap a "com/example/tandemtrie/tandemtrie/build/CodePointCounts" ∧ Fld Z T5.heap a "com/example/tandemtrie/tandemtrie/build/CodePointCounts" "codePoints" "[I" (.ref y4) ∧ Fld Z T5.heap a "com/example/tandemtrie/tandemtrie/build/CodePointCounts" "counts" "[I" (.ref b8) ∧ Fld Z T5.heap a "com/example/tandemtrie/tandemtrie/build/CodePointCounts" "size" "I" (.int (Int32.ofNat E.length)) ∧ Arv Z T5.heap b kb .int 16 (iV T) (.int 0) ∧ Arv Z T5.heap d kd .int 16 (iV K) (.int 0) ∧ ∃ N M, Arv Z T5.heap y4 ky4 .int (Int32.ofNat 32) (iV N) (.int 0) ∧ Arv Z T5.heap b8 k8 .int (Int32.ofNat 32) (iV M) (.int 0) ∧ Oinv (own_h 32) 32 N M (own_ents (T.take i.1) (K.take i.1))) (B := fun i T => T.setTop (mkF m 34 #[vr a, vr b, vr d, vi (Int32.ofNat i.1), (own_os i.2)] [])) ?_ (0, none) X9 ⟨Nat.zero_le _, N9, (by rw [e9]; exact Z0), (by rw [e9]; exact KP), (by rw [e9]; exact A_a), (by rw [e9]; exact F_codePoints_a), (by rw [e9]; exact F_counts_a), (by rw [e9]; exact F_size_a), (by rw [e9]; exact V_b), (by rw [e9]; exact V_d), _, _, (by rw [e9]; exact V_y4), (by rw [e9]; exact V_b8), Oinv.init _ (Or.inr rfl)⟩
 intro i5 T5 L5 X5 hI ih
 obtain ⟨i, o5⟩ := i5
 obtain ⟨hi, N5, Z0, KP, A_a, F_codePoints_a, F_counts_a, F_size_a, V_b, V_d, N, M_, V_y4, V_b8, hI2⟩ := hI
 dsimp only at hi hI2 ih ⊢
 rcases o5 with _ | v5
 ·show Goes _ _ _ _ _ (fT T5 m 34 #[vr a, vr b, vr d, vi (Int32.ofNat i), vu] [])
  refine gN X5 hx hby d5_34 rfl rfl ?_
  refine gA X5 hx hby d5_35 rfl rfl rfl ?_
  obtain ⟨cl10, Ar10, -, S10, N10z, -, -⟩ := id V_b
  refine Gs (fun _ tk => X5.arraylength hx Ar10.1 (State.isArrayOf_alike hZ.alike Ar10.2.1) (g := (mkF m 36 #[vr a, vr b, vr d, vi (Int32.ofNat i), vu] [(.ref b), (.int (Int32.ofNat i))])) rfl rfl (hb hby d5_36) _ tk) ?_
  rw [len_of S10 N10z]
  show Goes _ _ _ _ _ (fT T5 m 37 #[vr a, vr b, vr d, vi (Int32.ofNat i), vu] [(.int 16), (.int (Int32.ofNat i))])
  by_cases hc37_11 : (Int32.ofNat i) < 16
  ·refine gU X5 hx hby d5_37 (tlt hc37_11).2.1 ?_
   have hlt : i < 16 := (own_ltN (L := 16) (by omega) (by decide)).mp hc37_11
   refine gA X5 hx hby d5_40 rfl rfl rfl ?_
   refine gN X5 hx hby d5_41 rfl rfl ?_
   obtain ⟨cl12, Ar12, -, S12, N12z, H12, -⟩ := id V_b
   have hin12 : ¬ ((Int32.ofNat i) < 0 ∨ cl12.slots.size ≤ ((Int32.ofNat i)).toNatClampNeg) := inb_of S12 ⟨(own_tnO (n := i) (by omega)).2.1, hc37_11⟩
   have hat12 : cl12.slots[((Int32.ofNat i)).toNatClampNeg]? = some (.int (T.getD i 0)) := Has.at H12 hin12 (by rw [(own_tnO (n := i) (by omega)).1, own_iVg])
   refine Gs (fun _ tk => X5.iaload hx (j := (Int32.ofNat i)) (v := (.int (T.getD i 0))) Ar12.1 (State.isArrayOf_alike hZ.alike Ar12.2.1) Ar12.2.2 hin12 hat12 (g := (mkF m 42 #[vr a, vr b, vr d, vi (Int32.ofNat i), vu] [(.int (Int32.ofNat i)), (.ref b)])) rfl rfl (hb hby d5_42) _ tk) ?_
   show Goes _ _ _ _ _ (fT T5 m 43 #[vr a, vr b, vr d, vi (Int32.ofNat i), vu] [(.int (T.getD i 0))])
   refine gC X5 hx hby d5_43 ?_
   by_cases hc44_13 : (T.getD i 0) = (-1 : Int32)
   ·refine gY X5 hx hby d5_44 44 79 (teq hc44_13).1 ?_
    show Goes _ _ _ _ _ (fT T5 m 79 #[vr a, vr b, vr d, vi (Int32.ofNat i), vu] [])
    refine Gz (XS.iinc X5.here hx rfl (hb hby d5_79) rfl (l' := #[vr a, vr b, vr d, vi ((Int32.ofNat i) + 1), vu]) rfl) ?_
    show Goes _ _ _ _ _ (fT T5 m 82 #[vr a, vr b, vr d, vi ((Int32.ofNat i) + 1), vu] [])
    refine gG X5 hx hby d5_82 82 34 ?_
    show Goes _ _ _ _ _ (fT T5 m 34 #[vr a, vr b, vr d, vi ((Int32.ofNat i) + 1), vu] [])
    rw [own_ofS]
    have eN := own_entsN (T := T) (K := K) (i := i) (by rw [hO.lt]; exact hlt) (by rw [hO.lt, hO.lk]) hc44_13
    exact ih (i + 1, none) _ _ (by dsimp only; omega) X5 ⟨hlt, N5, Z0, KP, A_a, F_codePoints_a, F_counts_a, F_size_a, V_b, V_d, _, _, V_y4, V_b8, (by dsimp only; rw [eN]; exact hI2)⟩
   ·refine gU X5 hx hby d5_44 (feq hc44_13).1 ?_
    have hl32 : (own_ents (T.take i) (K.take i)).length < 32 := Nat.lt_of_le_of_lt (own_entsL _ _) (by rw [List.length_take]; omega)
    refine gA X5 hx hby d5_47 rfl rfl rfl ?_
    obtain ⟨T14, X14, e14, st14⟩ := getF X5 hx hZ hown (host := "") (Or.inl (gw hw 20 rfl)) Via.refl rfl F_codePoints_a (g := (mkF m 48 #[vr a, vr b, vr d, vi (Int32.ofNat i), vu] [(.ref a)])) rfl rfl (hb hby d5_48)
    refine Gs st14 ?_
    show Goes _ _ _ _ _ (fT T14 m 51 #[vr a, vr b, vr d, vi (Int32.ofNat i), vu] [(.ref y4)])
    refine gA X14 hx hby d5_51 rfl rfl rfl ?_
    refine gN X14 hx hby d5_52 rfl rfl ?_
    obtain ⟨cl15, Ar15, -, S15, N15z, H15, -⟩ := id V_b
    have hin15 : ¬ ((Int32.ofNat i) < 0 ∨ cl15.slots.size ≤ ((Int32.ofNat i)).toNatClampNeg) := inb_of S15 ⟨(own_tnO (n := i) (by omega)).2.1, hc37_11⟩
    have hat15 : cl15.slots[((Int32.ofNat i)).toNatClampNeg]? = some (.int (T.getD i 0)) := Has.at H15 hin15 (by rw [(own_tnO (n := i) (by omega)).1, own_iVg])
    refine Gs (fun _ tk => X14.iaload hx (j := (Int32.ofNat i)) (v := (.int (T.getD i 0))) (by rw [e14]; exact Ar15.1) (State.isArrayOf_alike hZ.alike Ar15.2.1) Ar15.2.2 hin15 hat15 (g := (mkF m 53 #[vr a, vr b, vr d, vi (Int32.ofNat i), vu] [(.int (Int32.ofNat i)), (.ref b), (.ref y4)])) rfl rfl (hb hby d5_53) _ tk) ?_
    show Goes _ _ _ _ _ (fT T14 m 54 #[vr a, vr b, vr d, vi (Int32.ofNat i), vu] [(.int (T.getD i 0)), (.ref y4)])
    refine cS X14 hx hZ hw hown hby hml e14 mN4 36 37 38 5 0 (rm_slo l Z a0 hw [] y4 ky4 32 N (T.getD i 0) T5.heap n0 Z0 V_y4 (Or.inr rfl) (hI2.empty hl32)) d5_54 (lenOf own_pd3 rfl) N5 (fun T16 L16 X16 e16 N16 => ?_)
    show Goes _ _ _ _ _ (fT T16 m 57 #[vr a, vr b, vr d, vi (Int32.ofNat i), vu] [(.int (Int32.ofNat (own_pr 32 N (T.getD i 0) 32 (own_h 32 (T.getD i 0)))))])
    obtain ⟨r, hr⟩ : ∃ r, (own_pr 32 N (T.getD i 0) 32 (own_h 32 (T.getD i 0))) = r := ⟨_, rfl⟩
    rw [hr]
    show Goes _ _ _ _ _ (fT T16 m 57 #[vr a, vr b, vr d, vi (Int32.ofNat i), vu] [(.int (Int32.ofNat r))])
    obtain ⟨hr1, hr2, hr3, hI3⟩ := hI2.new hl32 (own_h32 _).1 hc44_13 (own_entsF hO hlt hc44_13) hr
    refine gS X16 hx hby d5_57 #[vr a, vr b, vr d, vi (Int32.ofNat i), vi (Int32.ofNat r)] ?_
    refine gA X16 hx hby d5_59 rfl rfl rfl ?_
    obtain ⟨T17, X17, e17, st17⟩ := getF X16 hx hZ hown (host := "") (Or.inl (gw hw 20 rfl)) Via.refl e16 F_codePoints_a (g := (mkF m 60 #[vr a, vr b, vr d, vi (Int32.ofNat i), vi (Int32.ofNat r)] [(.ref a)])) rfl rfl (hb hby d5_60)
    refine Gs st17 ?_
    show Goes _ _ _ _ _ (fT T17 m 63 #[vr a, vr b, vr d, vi (Int32.ofNat i), vi (Int32.ofNat r)] [(.ref y4)])
    refine gI X17 hx hby d5_63 rfl rfl ?_
    refine gA X17 hx hby d5_65 rfl rfl rfl ?_
    refine gN X17 hx hby d5_66 rfl rfl ?_
    obtain ⟨cl18, Ar18, -, S18, N18z, H18, -⟩ := id V_b
    have hin18 : ¬ ((Int32.ofNat i) < 0 ∨ cl18.slots.size ≤ ((Int32.ofNat i)).toNatClampNeg) := inb_of S18 ⟨(own_tnO (n := i) (by omega)).2.1, hc37_11⟩
    have hat18 : cl18.slots[((Int32.ofNat i)).toNatClampNeg]? = some (.int (T.getD i 0)) := Has.at H18 hin18 (by rw [(own_tnO (n := i) (by omega)).1, own_iVg])
    refine Gs (fun _ tk => X17.iaload hx (j := (Int32.ofNat i)) (v := (.int (T.getD i 0))) (by rw [e17]; exact Ar18.1) (State.isArrayOf_alike hZ.alike Ar18.2.1) Ar18.2.2 hin18 hat18 (g := (mkF m 67 #[vr a, vr b, vr d, vi (Int32.ofNat i), vi (Int32.ofNat r)] [(.int (Int32.ofNat i)), (.ref b), (.int (Int32.ofNat r)), (.ref y4)])) rfl rfl (hb hby d5_67) _ tk) ?_
    show Goes _ _ _ _ _ (fT T17 m 68 #[vr a, vr b, vr d, vi (Int32.ofNat i), vi (Int32.ofNat r)] [(.int (T.getD i 0)), (.int (Int32.ofNat r)), (.ref y4)])
    obtain ⟨cl19, Ar19, q19, S19, N19z, H19, G19⟩ := V_y4
    have hin19 : ¬ ((Int32.ofNat r) < 0 ∨ cl19.slots.size ≤ ((Int32.ofNat r)).toNatClampNeg) := inb_of S19 ⟨(own_tnO (n := r) (by omega)).2.1, (own_ltN (L := 32) (by omega) (by decide)).mpr hr1⟩
    obtain ⟨T19, h19, X19, e19, W19, st19⟩ := stI X17 hx hZ e17 Ar19 (j := (Int32.ofNat r)) hin19 (g := (mkF m 68 #[vr a, vr b, vr d, vi (Int32.ofNat i), vi (Int32.ofNat r)] [(.int (T.getD i 0)), (.int (Int32.ofNat r)), (.ref y4)])) rfl rfl (hb hby d5_68)
    have Vn19 := Arv.set Ar19 q19 S19 N19z H19 G19 rfl W19 (r) (own_tnO (by omega)).1 (by rw [own_iVL, hI2.lt]; exact hr1)
    have N19 := Fr.snoc X19 N16 g_y4
    replace A_a := A_a.wr W19
    replace F_codePoints_a := F_codePoints_a.other W19 (Or.inl ne_a_y4)
    replace F_counts_a := F_counts_a.other W19 (Or.inl ne_a_y4)
    replace F_size_a := F_size_a.other W19 (Or.inl ne_a_y4)
    replace V_b := V_b.other W19 ne_b_y4
    replace V_d := V_d.other W19 ne_d_y4
    replace V_b8 := V_b8.other W19 (Ne.symm ne_y4_b8)
    replace KP := KP.wr W19 (Or.inr sz_y4)
    have V_y4 : Arv Z h19 y4 ky4 .int (Int32.ofNat 32) (iV (N.set r (T.getD i 0))) (.int 0) := own_arvE Vn19 (own_iVs _ _ _)
    replace Z0 : n0 ≤ h19.size := by rw [W19.size]; exact Z0
    refine Gs st19 ?_
    show Goes _ _ _ _ _ (fT T19 m 69 #[vr a, vr b, vr d, vi (Int32.ofNat i), vi (Int32.ofNat r)] [])
    refine gA X19 hx hby d5_69 rfl rfl rfl ?_
    obtain ⟨T20, X20, e20, st20⟩ := getF X19 hx hZ hown (host := "") (Or.inl (gw hw 22 rfl)) Via.refl e19 F_counts_a (g := (mkF m 70 #[vr a, vr b, vr d, vi (Int32.ofNat i), vi (Int32.ofNat r)] [(.ref a)])) rfl rfl (hb hby d5_70)
    refine Gs st20 ?_
    show Goes _ _ _ _ _ (fT T20 m 73 #[vr a, vr b, vr d, vi (Int32.ofNat i), vi (Int32.ofNat r)] [(.ref b8)])
    refine gI X20 hx hby d5_73 rfl rfl ?_
    refine gA X20 hx hby d5_75 rfl rfl rfl ?_
    refine gN X20 hx hby d5_76 rfl rfl ?_
    obtain ⟨cl21, Ar21, -, S21, N21z, H21, -⟩ := id V_d
    have hin21 : ¬ ((Int32.ofNat i) < 0 ∨ cl21.slots.size ≤ ((Int32.ofNat i)).toNatClampNeg) := inb_of S21 ⟨(own_tnO (n := i) (by omega)).2.1, hc37_11⟩
    have hat21 : cl21.slots[((Int32.ofNat i)).toNatClampNeg]? = some (.int (K.getD i 0)) := Has.at H21 hin21 (by rw [(own_tnO (n := i) (by omega)).1, own_iVg])
    refine Gs (fun _ tk => X20.iaload hx (j := (Int32.ofNat i)) (v := (.int (K.getD i 0))) (by rw [e20]; exact Ar21.1) (State.isArrayOf_alike hZ.alike Ar21.2.1) Ar21.2.2 hin21 hat21 (g := (mkF m 77 #[vr a, vr b, vr d, vi (Int32.ofNat i), vi (Int32.ofNat r)] [(.int (Int32.ofNat i)), (.ref d), (.int (Int32.ofNat r)), (.ref b8)])) rfl rfl (hb hby d5_77) _ tk) ?_
    show Goes _ _ _ _ _ (fT T20 m 78 #[vr a, vr b, vr d, vi (Int32.ofNat i), vi (Int32.ofNat r)] [(.int (K.getD i 0)), (.int (Int32.ofNat r)), (.ref b8)])
    obtain ⟨cl22, Ar22, q22, S22, N22z, H22, G22⟩ := V_b8
    have hin22 : ¬ ((Int32.ofNat r) < 0 ∨ cl22.slots.size ≤ ((Int32.ofNat r)).toNatClampNeg) := inb_of S22 ⟨(own_tnO (n := r) (by omega)).2.1, (own_ltN (L := 32) (by omega) (by decide)).mpr hr1⟩
    obtain ⟨T22, h22, X22, e22, W22, st22⟩ := stI X20 hx hZ e20 Ar22 (j := (Int32.ofNat r)) hin22 (g := (mkF m 78 #[vr a, vr b, vr d, vi (Int32.ofNat i), vi (Int32.ofNat r)] [(.int (K.getD i 0)), (.int (Int32.ofNat r)), (.ref b8)])) rfl rfl (hb hby d5_78)
    have Vn22 := Arv.set Ar22 q22 S22 N22z H22 G22 rfl W22 (r) (own_tnO (by omega)).1 (by rw [own_iVL, hI2.lk]; exact hr1)
    have N22 := Fr.snoc X22 N19 g_b8
    replace A_a := A_a.wr W22
    replace F_codePoints_a := F_codePoints_a.other W22 (Or.inl ne_a_b8)
    replace F_counts_a := F_counts_a.other W22 (Or.inl ne_a_b8)
    replace F_size_a := F_size_a.other W22 (Or.inl ne_a_b8)
    replace V_b := V_b.other W22 ne_b_b8
    replace V_d := V_d.other W22 ne_d_b8
    replace V_y4 := V_y4.other W22 ne_y4_b8
    replace KP := KP.wr W22 (Or.inr sz_b8)
    have V_b8 : Arv Z h22 b8 k8 .int (Int32.ofNat 32) (iV (M_.set r (K.getD i 0))) (.int 0) := own_arvE Vn22 (own_iVs _ _ _)
    replace Z0 : n0 ≤ h22.size := by rw [W22.size]; exact Z0
    refine Gs st22 ?_
    show Goes _ _ _ _ _ (fT T22 m 79 #[vr a, vr b, vr d, vi (Int32.ofNat i), vi (Int32.ofNat r)] [])
    refine Gz (XS.iinc X22.here hx rfl (hb hby d5_79) rfl (l' := #[vr a, vr b, vr d, vi ((Int32.ofNat i) + 1), vi (Int32.ofNat r)]) rfl) ?_
    show Goes _ _ _ _ _ (fT T22 m 82 #[vr a, vr b, vr d, vi ((Int32.ofNat i) + 1), vi (Int32.ofNat r)] [])
    refine gG X22 hx hby d5_82 82 34 ?_
    show Goes _ _ _ _ _ (fT T22 m 34 #[vr a, vr b, vr d, vi ((Int32.ofNat i) + 1), vi (Int32.ofNat r)] [])
    rw [own_ofS]
    have eY := own_entsY (T := T) (K := K) (i := i) (by rw [hO.lt]; exact hlt) (by rw [hO.lt, hO.lk]) hc44_13
    exact ih (i + 1, some (Int32.ofNat r)) _ _ (by dsimp only; omega) X22 ⟨hlt, N22, (by rw [e22]; exact Z0), (by rw [e22]; exact KP), (by rw [e22]; exact A_a), (by rw [e22]; exact F_codePoints_a), (by rw [e22]; exact F_counts_a), (by rw [e22]; exact F_size_a), (by rw [e22]; exact V_b), (by rw [e22]; exact V_d), _, _, (by rw [e22]; exact V_y4), (by rw [e22]; exact V_b8), (Oinv.perm (hI3 _) (by dsimp only; rw [eY]; exact (List.perm_append_singleton _ _).symm))⟩
  ·refine gY X5 hx hby d5_37 37 85 (flt hc37_11).2.1 ?_
   have hin : i = 16 := by
    rcases Nat.lt_or_ge i 16 with z | z
    ·exact absurd ((own_ltN (L := 16) (by omega) (by decide)).mpr z) hc37_11
    ·omega
   have hO2 : Oinv (own_h 32) 32 N M_ E := Oinv.perm (by rw [hin, own_entsP hO.lt hO.lk] at hI2; exact hI2) hO.p
   refine Goes.ret X5 none (fun _ => rfl) hlk (by decide) (by decide) ?_ (fun fs hr => ?_)
   ·exact ⟨y4, ky4, b8, k8, N, M_, rfl, N5, KP, F_codePoints_a, F_counts_a, F_size_a, V_y4, V_b8, g_y4, g_b8, sz_y4, sz_b8, ne_y4_b8, hO2⟩
   ·exact X5.returnOut hx hret (hb hby d5_85) hr
 ·show Goes _ _ _ _ _ (fT T5 m 34 #[vr a, vr b, vr d, vi (Int32.ofNat i), vi v5] [])
  refine gN X5 hx hby d5_34 rfl rfl ?_
  refine gA X5 hx hby d5_35 rfl rfl rfl ?_
  obtain ⟨cl23, Ar23, -, S23, N23z, -, -⟩ := id V_b
  refine Gs (fun _ tk => X5.arraylength hx Ar23.1 (State.isArrayOf_alike hZ.alike Ar23.2.1) (g := (mkF m 36 #[vr a, vr b, vr d, vi (Int32.ofNat i), vi v5] [(.ref b), (.int (Int32.ofNat i))])) rfl rfl (hb hby d5_36) _ tk) ?_
  rw [len_of S23 N23z]
  show Goes _ _ _ _ _ (fT T5 m 37 #[vr a, vr b, vr d, vi (Int32.ofNat i), vi v5] [(.int 16), (.int (Int32.ofNat i))])
  by_cases hc37_24 : (Int32.ofNat i) < 16
  ·refine gU X5 hx hby d5_37 (tlt hc37_24).2.1 ?_
   have hlt : i < 16 := (own_ltN (L := 16) (by omega) (by decide)).mp hc37_24
   refine gA X5 hx hby d5_40 rfl rfl rfl ?_
   refine gN X5 hx hby d5_41 rfl rfl ?_
   obtain ⟨cl25, Ar25, -, S25, N25z, H25, -⟩ := id V_b
   have hin25 : ¬ ((Int32.ofNat i) < 0 ∨ cl25.slots.size ≤ ((Int32.ofNat i)).toNatClampNeg) := inb_of S25 ⟨(own_tnO (n := i) (by omega)).2.1, hc37_24⟩
   have hat25 : cl25.slots[((Int32.ofNat i)).toNatClampNeg]? = some (.int (T.getD i 0)) := Has.at H25 hin25 (by rw [(own_tnO (n := i) (by omega)).1, own_iVg])
   refine Gs (fun _ tk => X5.iaload hx (j := (Int32.ofNat i)) (v := (.int (T.getD i 0))) Ar25.1 (State.isArrayOf_alike hZ.alike Ar25.2.1) Ar25.2.2 hin25 hat25 (g := (mkF m 42 #[vr a, vr b, vr d, vi (Int32.ofNat i), vi v5] [(.int (Int32.ofNat i)), (.ref b)])) rfl rfl (hb hby d5_42) _ tk) ?_
   show Goes _ _ _ _ _ (fT T5 m 43 #[vr a, vr b, vr d, vi (Int32.ofNat i), vi v5] [(.int (T.getD i 0))])
   refine gC X5 hx hby d5_43 ?_
   by_cases hc44_26 : (T.getD i 0) = (-1 : Int32)
   ·refine gY X5 hx hby d5_44 44 79 (teq hc44_26).1 ?_
    show Goes _ _ _ _ _ (fT T5 m 79 #[vr a, vr b, vr d, vi (Int32.ofNat i), vi v5] [])
    refine Gz (XS.iinc X5.here hx rfl (hb hby d5_79) rfl (l' := #[vr a, vr b, vr d, vi ((Int32.ofNat i) + 1), vi v5]) rfl) ?_
    show Goes _ _ _ _ _ (fT T5 m 82 #[vr a, vr b, vr d, vi ((Int32.ofNat i) + 1), vi v5] [])
    refine gG X5 hx hby d5_82 82 34 ?_
    show Goes _ _ _ _ _ (fT T5 m 34 #[vr a, vr b, vr d, vi ((Int32.ofNat i) + 1), vi v5] [])
    rw [own_ofS]
    have eN := own_entsN (T := T) (K := K) (i := i) (by rw [hO.lt]; exact hlt) (by rw [hO.lt, hO.lk]) hc44_26
    exact ih (i + 1, some v5) _ _ (by dsimp only; omega) X5 ⟨hlt, N5, Z0, KP, A_a, F_codePoints_a, F_counts_a, F_size_a, V_b, V_d, _, _, V_y4, V_b8, (by dsimp only; rw [eN]; exact hI2)⟩
   ·refine gU X5 hx hby d5_44 (feq hc44_26).1 ?_
    have hl32 : (own_ents (T.take i) (K.take i)).length < 32 := Nat.lt_of_le_of_lt (own_entsL _ _) (by rw [List.length_take]; omega)
    refine gA X5 hx hby d5_47 rfl rfl rfl ?_
    obtain ⟨T27, X27, e27, st27⟩ := getF X5 hx hZ hown (host := "") (Or.inl (gw hw 20 rfl)) Via.refl rfl F_codePoints_a (g := (mkF m 48 #[vr a, vr b, vr d, vi (Int32.ofNat i), vi v5] [(.ref a)])) rfl rfl (hb hby d5_48)
    refine Gs st27 ?_
    show Goes _ _ _ _ _ (fT T27 m 51 #[vr a, vr b, vr d, vi (Int32.ofNat i), vi v5] [(.ref y4)])
    refine gA X27 hx hby d5_51 rfl rfl rfl ?_
    refine gN X27 hx hby d5_52 rfl rfl ?_
    obtain ⟨cl28, Ar28, -, S28, N28z, H28, -⟩ := id V_b
    have hin28 : ¬ ((Int32.ofNat i) < 0 ∨ cl28.slots.size ≤ ((Int32.ofNat i)).toNatClampNeg) := inb_of S28 ⟨(own_tnO (n := i) (by omega)).2.1, hc37_24⟩
    have hat28 : cl28.slots[((Int32.ofNat i)).toNatClampNeg]? = some (.int (T.getD i 0)) := Has.at H28 hin28 (by rw [(own_tnO (n := i) (by omega)).1, own_iVg])
    refine Gs (fun _ tk => X27.iaload hx (j := (Int32.ofNat i)) (v := (.int (T.getD i 0))) (by rw [e27]; exact Ar28.1) (State.isArrayOf_alike hZ.alike Ar28.2.1) Ar28.2.2 hin28 hat28 (g := (mkF m 53 #[vr a, vr b, vr d, vi (Int32.ofNat i), vi v5] [(.int (Int32.ofNat i)), (.ref b), (.ref y4)])) rfl rfl (hb hby d5_53) _ tk) ?_
    show Goes _ _ _ _ _ (fT T27 m 54 #[vr a, vr b, vr d, vi (Int32.ofNat i), vi v5] [(.int (T.getD i 0)), (.ref y4)])
    refine cS X27 hx hZ hw hown hby hml e27 mN4 36 37 38 5 0 (rm_slo l Z a0 hw [] y4 ky4 32 N (T.getD i 0) T5.heap n0 Z0 V_y4 (Or.inr rfl) (hI2.empty hl32)) d5_54 (lenOf own_pd3 rfl) N5 (fun T29 L29 X29 e29 N29 => ?_)
    show Goes _ _ _ _ _ (fT T29 m 57 #[vr a, vr b, vr d, vi (Int32.ofNat i), vi v5] [(.int (Int32.ofNat (own_pr 32 N (T.getD i 0) 32 (own_h 32 (T.getD i 0)))))])
    obtain ⟨r, hr⟩ : ∃ r, (own_pr 32 N (T.getD i 0) 32 (own_h 32 (T.getD i 0))) = r := ⟨_, rfl⟩
    rw [hr]
    show Goes _ _ _ _ _ (fT T29 m 57 #[vr a, vr b, vr d, vi (Int32.ofNat i), vi v5] [(.int (Int32.ofNat r))])
    obtain ⟨hr1, hr2, hr3, hI3⟩ := hI2.new hl32 (own_h32 _).1 hc44_26 (own_entsF hO hlt hc44_26) hr
    refine gS X29 hx hby d5_57 #[vr a, vr b, vr d, vi (Int32.ofNat i), vi (Int32.ofNat r)] ?_
    refine gA X29 hx hby d5_59 rfl rfl rfl ?_
    obtain ⟨T30, X30, e30, st30⟩ := getF X29 hx hZ hown (host := "") (Or.inl (gw hw 20 rfl)) Via.refl e29 F_codePoints_a (g := (mkF m 60 #[vr a, vr b, vr d, vi (Int32.ofNat i), vi (Int32.ofNat r)] [(.ref a)])) rfl rfl (hb hby d5_60)
    refine Gs st30 ?_
    show Goes _ _ _ _ _ (fT T30 m 63 #[vr a, vr b, vr d, vi (Int32.ofNat i), vi (Int32.ofNat r)] [(.ref y4)])
    refine gI X30 hx hby d5_63 rfl rfl ?_
    refine gA X30 hx hby d5_65 rfl rfl rfl ?_
    refine gN X30 hx hby d5_66 rfl rfl ?_
    obtain ⟨cl31, Ar31, -, S31, N31z, H31, -⟩ := id V_b
    have hin31 : ¬ ((Int32.ofNat i) < 0 ∨ cl31.slots.size ≤ ((Int32.ofNat i)).toNatClampNeg) := inb_of S31 ⟨(own_tnO (n := i) (by omega)).2.1, hc37_24⟩
    have hat31 : cl31.slots[((Int32.ofNat i)).toNatClampNeg]? = some (.int (T.getD i 0)) := Has.at H31 hin31 (by rw [(own_tnO (n := i) (by omega)).1, own_iVg])
    refine Gs (fun _ tk => X30.iaload hx (j := (Int32.ofNat i)) (v := (.int (T.getD i 0))) (by rw [e30]; exact Ar31.1) (State.isArrayOf_alike hZ.alike Ar31.2.1) Ar31.2.2 hin31 hat31 (g := (mkF m 67 #[vr a, vr b, vr d, vi (Int32.ofNat i), vi (Int32.ofNat r)] [(.int (Int32.ofNat i)), (.ref b), (.int (Int32.ofNat r)), (.ref y4)])) rfl rfl (hb hby d5_67) _ tk) ?_
    show Goes _ _ _ _ _ (fT T30 m 68 #[vr a, vr b, vr d, vi (Int32.ofNat i), vi (Int32.ofNat r)] [(.int (T.getD i 0)), (.int (Int32.ofNat r)), (.ref y4)])
    obtain ⟨cl32, Ar32, q32, S32, N32z, H32, G32⟩ := V_y4
    have hin32 : ¬ ((Int32.ofNat r) < 0 ∨ cl32.slots.size ≤ ((Int32.ofNat r)).toNatClampNeg) := inb_of S32 ⟨(own_tnO (n := r) (by omega)).2.1, (own_ltN (L := 32) (by omega) (by decide)).mpr hr1⟩
    obtain ⟨T32, h32, X32, e32, W32, st32⟩ := stI X30 hx hZ e30 Ar32 (j := (Int32.ofNat r)) hin32 (g := (mkF m 68 #[vr a, vr b, vr d, vi (Int32.ofNat i), vi (Int32.ofNat r)] [(.int (T.getD i 0)), (.int (Int32.ofNat r)), (.ref y4)])) rfl rfl (hb hby d5_68)
    have Vn32 := Arv.set Ar32 q32 S32 N32z H32 G32 rfl W32 (r) (own_tnO (by omega)).1 (by rw [own_iVL, hI2.lt]; exact hr1)
    have N32 := Fr.snoc X32 N29 g_y4
    replace A_a := A_a.wr W32
    replace F_codePoints_a := F_codePoints_a.other W32 (Or.inl ne_a_y4)
    replace F_counts_a := F_counts_a.other W32 (Or.inl ne_a_y4)
    replace F_size_a := F_size_a.other W32 (Or.inl ne_a_y4)
    replace V_b := V_b.other W32 ne_b_y4
    replace V_d := V_d.other W32 ne_d_y4
    replace V_b8 := V_b8.other W32 (Ne.symm ne_y4_b8)
    replace KP := KP.wr W32 (Or.inr sz_y4)
    have V_y4 : Arv Z h32 y4 ky4 .int (Int32.ofNat 32) (iV (N.set r (T.getD i 0))) (.int 0) := own_arvE Vn32 (own_iVs _ _ _)
    replace Z0 : n0 ≤ h32.size := by rw [W32.size]; exact Z0
    refine Gs st32 ?_
    show Goes _ _ _ _ _ (fT T32 m 69 #[vr a, vr b, vr d, vi (Int32.ofNat i), vi (Int32.ofNat r)] [])
    refine gA X32 hx hby d5_69 rfl rfl rfl ?_
    obtain ⟨T33, X33, e33, st33⟩ := getF X32 hx hZ hown (host := "") (Or.inl (gw hw 22 rfl)) Via.refl e32 F_counts_a (g := (mkF m 70 #[vr a, vr b, vr d, vi (Int32.ofNat i), vi (Int32.ofNat r)] [(.ref a)])) rfl rfl (hb hby d5_70)
    refine Gs st33 ?_
    show Goes _ _ _ _ _ (fT T33 m 73 #[vr a, vr b, vr d, vi (Int32.ofNat i), vi (Int32.ofNat r)] [(.ref b8)])
    refine gI X33 hx hby d5_73 rfl rfl ?_
    refine gA X33 hx hby d5_75 rfl rfl rfl ?_
    refine gN X33 hx hby d5_76 rfl rfl ?_
    obtain ⟨cl34, Ar34, -, S34, N34z, H34, -⟩ := id V_d
    have hin34 : ¬ ((Int32.ofNat i) < 0 ∨ cl34.slots.size ≤ ((Int32.ofNat i)).toNatClampNeg) := inb_of S34 ⟨(own_tnO (n := i) (by omega)).2.1, hc37_24⟩
    have hat34 : cl34.slots[((Int32.ofNat i)).toNatClampNeg]? = some (.int (K.getD i 0)) := Has.at H34 hin34 (by rw [(own_tnO (n := i) (by omega)).1, own_iVg])
    refine Gs (fun _ tk => X33.iaload hx (j := (Int32.ofNat i)) (v := (.int (K.getD i 0))) (by rw [e33]; exact Ar34.1) (State.isArrayOf_alike hZ.alike Ar34.2.1) Ar34.2.2 hin34 hat34 (g := (mkF m 77 #[vr a, vr b, vr d, vi (Int32.ofNat i), vi (Int32.ofNat r)] [(.int (Int32.ofNat i)), (.ref d), (.int (Int32.ofNat r)), (.ref b8)])) rfl rfl (hb hby d5_77) _ tk) ?_
    show Goes _ _ _ _ _ (fT T33 m 78 #[vr a, vr b, vr d, vi (Int32.ofNat i), vi (Int32.ofNat r)] [(.int (K.getD i 0)), (.int (Int32.ofNat r)), (.ref b8)])
    obtain ⟨cl35, Ar35, q35, S35, N35z, H35, G35⟩ := V_b8
    have hin35 : ¬ ((Int32.ofNat r) < 0 ∨ cl35.slots.size ≤ ((Int32.ofNat r)).toNatClampNeg) := inb_of S35 ⟨(own_tnO (n := r) (by omega)).2.1, (own_ltN (L := 32) (by omega) (by decide)).mpr hr1⟩
    obtain ⟨T35, h35, X35, e35, W35, st35⟩ := stI X33 hx hZ e33 Ar35 (j := (Int32.ofNat r)) hin35 (g := (mkF m 78 #[vr a, vr b, vr d, vi (Int32.ofNat i), vi (Int32.ofNat r)] [(.int (K.getD i 0)), (.int (Int32.ofNat r)), (.ref b8)])) rfl rfl (hb hby d5_78)
    have Vn35 := Arv.set Ar35 q35 S35 N35z H35 G35 rfl W35 (r) (own_tnO (by omega)).1 (by rw [own_iVL, hI2.lk]; exact hr1)
    have N35 := Fr.snoc X35 N32 g_b8
    replace A_a := A_a.wr W35
    replace F_codePoints_a := F_codePoints_a.other W35 (Or.inl ne_a_b8)
    replace F_counts_a := F_counts_a.other W35 (Or.inl ne_a_b8)
    replace F_size_a := F_size_a.other W35 (Or.inl ne_a_b8)
    replace V_b := V_b.other W35 ne_b_b8
    replace V_d := V_d.other W35 ne_d_b8
    replace V_y4 := V_y4.other W35 ne_y4_b8
    replace KP := KP.wr W35 (Or.inr sz_b8)
    have V_b8 : Arv Z h35 b8 k8 .int (Int32.ofNat 32) (iV (M_.set r (K.getD i 0))) (.int 0) := own_arvE Vn35 (own_iVs _ _ _)
    replace Z0 : n0 ≤ h35.size := by rw [W35.size]; exact Z0
    refine Gs st35 ?_
    show Goes _ _ _ _ _ (fT T35 m 79 #[vr a, vr b, vr d, vi (Int32.ofNat i), vi (Int32.ofNat r)] [])
    refine Gz (XS.iinc X35.here hx rfl (hb hby d5_79) rfl (l' := #[vr a, vr b, vr d, vi ((Int32.ofNat i) + 1), vi (Int32.ofNat r)]) rfl) ?_
    show Goes _ _ _ _ _ (fT T35 m 82 #[vr a, vr b, vr d, vi ((Int32.ofNat i) + 1), vi (Int32.ofNat r)] [])
    refine gG X35 hx hby d5_82 82 34 ?_
    show Goes _ _ _ _ _ (fT T35 m 34 #[vr a, vr b, vr d, vi ((Int32.ofNat i) + 1), vi (Int32.ofNat r)] [])
    rw [own_ofS]
    have eY := own_entsY (T := T) (K := K) (i := i) (by rw [hO.lt]; exact hlt) (by rw [hO.lt, hO.lk]) hc44_26
    exact ih (i + 1, some (Int32.ofNat r)) _ _ (by dsimp only; omega) X35 ⟨hlt, N35, (by rw [e35]; exact Z0), (by rw [e35]; exact KP), (by rw [e35]; exact A_a), (by rw [e35]; exact F_codePoints_a), (by rw [e35]; exact F_counts_a), (by rw [e35]; exact F_size_a), (by rw [e35]; exact V_b), (by rw [e35]; exact V_d), _, _, (by rw [e35]; exact V_y4), (by rw [e35]; exact V_b8), (Oinv.perm (hI3 _) (by dsimp only; rw [eY]; exact (List.perm_append_singleton _ _).symm))⟩
  ·refine gY X5 hx hby d5_37 37 85 (flt hc37_24).2.1 ?_
   have hin : i = 16 := by
    rcases Nat.lt_or_ge i 16 with z | z
    ·exact absurd ((own_ltN (L := 16) (by omega) (by decide)).mpr z) hc37_24
    ·omega
   have hO2 : Oinv (own_h 32) 32 N M_ E := Oinv.perm (by rw [hin, own_entsP hO.lt hO.lk] at hI2; exact hI2) hO.p
   refine Goes.ret X5 none (fun _ => rfl) hlk (by decide) (by decide) ?_ (fun fs hr => ?_)
   ·exact ⟨y4, ky4, b8, k8, N, M_, rfl, N5, KP, F_codePoints_a, F_counts_a, F_size_a, V_y4, V_b8, g_y4, g_b8, sz_y4, sz_b8, ne_y4_b8, hO2⟩
   ·exact X5.returnOut hx hret (hb hby d5_85) hr
theorem d6_0 : DK kc7 0 (.aload_n 0) 1 := by decide +kernel
theorem d6_1 : DK kc7 1 (.getfield 13) 3 := by decide +kernel
theorem d6_4 : DK kc7 4 (.iload_n 1) 1 := by decide +kernel
theorem d6_5 : DK kc7 5 (.invokestatic 20) 3 := by decide +kernel
theorem d6_8 : DK kc7 8 (.istore_n 2) 1 := by decide +kernel
theorem d6_9 : DK kc7 9 (.aload_n 0) 1 := by decide +kernel
theorem d6_10 : DK kc7 10 (.getfield 13) 3 := by decide +kernel
theorem d6_13 : DK kc7 13 (.iload_n 2) 1 := by decide +kernel
theorem d6_14 : DK kc7 14 .iaload 1 := by decide +kernel
theorem d6_15 : DK kc7 15 (.iconst (-1)) 1 := by decide +kernel
theorem d6_16 : DK kc7 16 (.if_icmp .ne 49) 3 := by decide +kernel
theorem d6_19 : DK kc7 19 (.iconst 2) 1 := by decide +kernel
theorem d6_20 : DK kc7 20 (.aload_n 0) 1 := by decide +kernel
theorem d6_21 : DK kc7 21 (.getfield 24) 3 := by decide +kernel
theorem d6_24 : DK kc7 24 (.iconst 1) 1 := by decide +kernel
theorem d6_25 : DK kc7 25 .iadd 1 := by decide +kernel
theorem d6_26 : DK kc7 26 .imul 1 := by decide +kernel
theorem d6_27 : DK kc7 27 (.aload_n 0) 1 := by decide +kernel
theorem d6_28 : DK kc7 28 (.getfield 13) 3 := by decide +kernel
theorem d6_31 : DK kc7 31 .arraylength 1 := by decide +kernel
theorem d6_32 : DK kc7 32 (.if_icmp .le 16) 3 := by decide +kernel
theorem d6_48 : DK kc7 48 (.aload_n 0) 1 := by decide +kernel
theorem d6_49 : DK kc7 49 (.getfield 13) 3 := by decide +kernel
theorem d6_52 : DK kc7 52 (.iload_n 2) 1 := by decide +kernel
theorem d6_53 : DK kc7 53 (.iload_n 1) 1 := by decide +kernel
theorem d6_54 : DK kc7 54 .iastore 1 := by decide +kernel
theorem d6_55 : DK kc7 55 (.aload_n 0) 1 := by decide +kernel
theorem d6_56 : DK kc7 56 .dup 1 := by decide +kernel
theorem d6_57 : DK kc7 57 (.getfield 24) 3 := by decide +kernel
theorem d6_60 : DK kc7 60 (.iconst 1) 1 := by decide +kernel
theorem d6_61 : DK kc7 61 .iadd 1 := by decide +kernel
theorem d6_62 : DK kc7 62 (.putfield 24) 3 := by decide +kernel
theorem d6_65 : DK kc7 65 (.aload_n 0) 1 := by decide +kernel
theorem d6_66 : DK kc7 66 (.getfield 17) 3 := by decide +kernel
theorem d6_69 : DK kc7 69 (.iload_n 2) 1 := by decide +kernel
theorem d6_70 : DK kc7 70 .dup2 1 := by decide +kernel
theorem d6_71 : DK kc7 71 .iaload 1 := by decide +kernel
theorem d6_72 : DK kc7 72 (.iconst 1) 1 := by decide +kernel
theorem d6_73 : DK kc7 73 .iadd 1 := by decide +kernel
theorem d6_74 : DK kc7 74 .iastore 1 := by decide +kernel
theorem d6_75 : DK kc7 75 .return_ 1 := by decide +kernel
theorem own_ef_rm_ctn (m : MethodId) (x0 : Addr) (x1 : Int32) : entryFrame m #[(.ref x0), (.int x1)] 3 = mkF m 0 #[vr x0, vi x1, vu] [] := by first | (simp [entryFrame, mkF, argsToLocals, Value.category]; done) | rfl
def Q_rm_ctn (Z : State) (a : Addr) (b : Addr) (kb : ClassId) (d : Addr) (kd : ClassId) (T : List Int32) (K : List Int32) (E : List (Int32 × Int32)) (cc : Int32) (h0 : Heap) (n0 : Nat) (v : Option Value) (h : Heap) (L : List Loc) : Prop := ∃ T2 : List Int32, ∃ K2 : List Int32, v = none ∧ Fr n0 L ∧ Keep h0 h [a, b, d] ∧ Fld Z h a "com/example/tandemtrie/tandemtrie/build/CodePointCounts" "codePoints" "[I" (.ref b) ∧ Fld Z h a "com/example/tandemtrie/tandemtrie/build/CodePointCounts" "counts" "[I" (.ref d) ∧ Fld Z h a "com/example/tandemtrie/tandemtrie/build/CodePointCounts" "size" "I" (.int (Int32.ofNat ((cc, (1 : Int32)) :: E).length)) ∧ Arv Z h b kb .int (Int32.ofNat 16) (iV T2) (.int 0) ∧ Arv Z h d kd .int (Int32.ofNat 16) (iV K2) (.int 0) ∧ Oinv (own_h 16) 16 T2 K2 ((cc, (1 : Int32)) :: E)
theorem rm_ctn (l : Launch) (Z : State) (a0 : Array Value) (hw : HW a0 Z) (ws : List Jvm.Cond) (a : Addr) (b : Addr) (kb : ClassId) (d : Addr) (kd : ClassId) (T : List Int32) (K : List Int32) (E : List (Int32 × Int32)) (cc : Int32) (h0 : Heap) (n0 : Nat) (Z0 : n0 ≤ h0.size) (A_a : Exa Z h0 a "com/example/tandemtrie/tandemtrie/build/CodePointCounts") (F_codePoints_a : Fld Z h0 a "com/example/tandemtrie/tandemtrie/build/CodePointCounts" "codePoints" "[I" (.ref b)) (F_counts_a : Fld Z h0 a "com/example/tandemtrie/tandemtrie/build/CodePointCounts" "counts" "[I" (.ref d)) (F_size_a : Fld Z h0 a "com/example/tandemtrie/tandemtrie/build/CodePointCounts" "size" "I" (.int (Int32.ofNat E.length))) (V_b : Arv Z h0 b kb .int (Int32.ofNat 16) (iV T) (.int 0)) (V_d : Arv Z h0 d kd .int (Int32.ofNat 16) (iV K) (.int 0)) (g_a : n0 ≤ a) (g_b : n0 ≤ b) (g_d : n0 ≤ d) (ne_a_b : a ≠ b) (ne_a_d : a ≠ d) (ne_b_d : b ≠ d) (hO : Oinv (own_h 16) 16 T K E) (hcc : cc ≠ -1) (hnk : ∀ v, (cc, v) ∉ E) (h7 : E.length ≤ 7) :
  Met l Z mN6 prog_10_method_2_code 3 none ({ frames := 2, cells := 0, slots := 0, locals := 29 } : Room) ws #[(.ref a), (.int cc)] h0 (Q_rm_ctn Z a b kb d kd T K E cc h0 n0) := by
 refine own_met (plainFor_of_name own_pn1) ?_
 intro p e s m below meth c s₁ hret hx hby hlk hml hown hnm X0 e0 hZ hh
 have N0 := Fr.nil n0
 refine Gz (castTop (own_ef_rm_ctn m a cc)) ?_
 have KP : Keep h0 h0 [a, b, d] := Keep.refl _ _
 show Goes _ _ _ _ _ (fT s₁ m 0 #[vr a, vi cc, vu] [])
 refine gA X0 hx hby d6_0 rfl rfl rfl ?_
 obtain ⟨T1, X1, e1, st1⟩ := getF X0 hx hZ hown (host := "") (Or.inl (gw hw 20 rfl)) Via.refl e0 F_codePoints_a (g := (mkF m 1 #[vr a, vi cc, vu] [(.ref a)])) rfl rfl (hb hby d6_1)
 refine Gs st1 ?_
 show Goes _ _ _ _ _ (fT T1 m 4 #[vr a, vi cc, vu] [(.ref b)])
 refine gN X1 hx hby d6_4 rfl rfl ?_
 refine cS X1 hx hZ hw hown hby hml e1 mN4 36 37 38 5 0 (rm_slo l Z a0 hw [] b kb 16 T cc h0 n0 Z0 V_b (Or.inl rfl) (hO.empty (by omega))) d6_5 (lenOf own_pd3 rfl) N0 (fun T2 L2 X2 e2 N2 => ?_)
 show Goes _ _ _ _ _ (fT T2 m 8 #[vr a, vi cc, vu] [(.int (Int32.ofNat (own_pr 16 T cc 16 (own_h 16 cc))))])
 obtain ⟨r16, hr16⟩ : ∃ r, (own_pr 16 T cc 16 (own_h 16 cc)) = r := ⟨_, rfl⟩
 rw [hr16]
 show Goes _ _ _ _ _ (fT T2 m 8 #[vr a, vi cc, vu] [(.int (Int32.ofNat r16))])
 obtain ⟨hr161, hr162, hr163, hr16I⟩ := hO.new (by omega) (own_h16 _).1 hcc hnk hr16
 refine gs X2 hx hby d6_8 #[vr a, vi cc, vi (Int32.ofNat r16)] ?_
 refine gA X2 hx hby d6_9 rfl rfl rfl ?_
 obtain ⟨T3, X3, e3, st3⟩ := getF X2 hx hZ hown (host := "") (Or.inl (gw hw 20 rfl)) Via.refl e2 F_codePoints_a (g := (mkF m 10 #[vr a, vi cc, vi (Int32.ofNat r16)] [(.ref a)])) rfl rfl (hb hby d6_10)
 refine Gs st3 ?_
 show Goes _ _ _ _ _ (fT T3 m 13 #[vr a, vi cc, vi (Int32.ofNat r16)] [(.ref b)])
 refine gN X3 hx hby d6_13 rfl rfl ?_
 obtain ⟨cl4, Ar4, -, S4, N4z, H4, -⟩ := id V_b
 have hin4 : ¬ ((Int32.ofNat r16) < 0 ∨ cl4.slots.size ≤ ((Int32.ofNat r16)).toNatClampNeg) := inb_of S4 ⟨(own_tnO (n := r16) (by omega)).2.1, (own_ltN (by omega) (by omega)).mpr hr161⟩
 have hat4 : cl4.slots[((Int32.ofNat r16)).toNatClampNeg]? = some (.int (-1 : Int32)) := Has.at H4 hin4 (by rw [(own_tnO (n := r16) (by omega)).1, own_iVg, hr162])
 refine Gs (fun _ tk => X3.iaload hx (j := (Int32.ofNat r16)) (v := (.int (-1 : Int32))) (by rw [e3]; exact Ar4.1) (State.isArrayOf_alike hZ.alike Ar4.2.1) Ar4.2.2 hin4 hat4 (g := (mkF m 14 #[vr a, vi cc, vi (Int32.ofNat r16)] [(.int (Int32.ofNat r16)), (.ref b)])) rfl rfl (hb hby d6_14) _ tk) ?_
 show Goes _ _ _ _ _ (fT T3 m 15 #[vr a, vi cc, vi (Int32.ofNat r16)] [(.int (-1 : Int32))])
 refine gC X3 hx hby d6_15 ?_
 refine gU X3 hx hby d6_16 (teq (by decide : ((-1 : Int32) = (-1 : Int32)))).2 ?_
 refine gC X3 hx hby d6_19 ?_
 refine gA X3 hx hby d6_20 rfl rfl rfl ?_
 obtain ⟨T5, X5, e5, st5⟩ := getF X3 hx hZ hown (host := "") (Or.inl (gw hw 45 rfl)) Via.refl e3 F_size_a (g := (mkF m 21 #[vr a, vi cc, vi (Int32.ofNat r16)] [(.ref a), (.int 2)])) rfl rfl (hb hby d6_21)
 refine Gs st5 ?_
 show Goes _ _ _ _ _ (fT T5 m 24 #[vr a, vi cc, vi (Int32.ofNat r16)] [(.int (Int32.ofNat E.length)), (.int 2)])
 refine gC X5 hx hby d6_24 ?_
 show Goes _ _ _ _ _ (fT T5 m 25 #[vr a, vi cc, vi (Int32.ofNat r16)] [(.int 1), (.int (Int32.ofNat E.length)), (.int 2)])
 refine Gz (XS.iadd X5.here hx rfl (hb hby d6_25) rfl) ?_
 show Goes _ _ _ _ _ (fT T5 m 26 #[vr a, vi cc, vi (Int32.ofNat r16)] [(.int ((Int32.ofNat E.length) + 1)), (.int 2)])
 refine Gz (XS.imul X5.here hx rfl (hb hby d6_26) rfl) ?_
 show Goes _ _ _ _ _ (fT T5 m 27 #[vr a, vi cc, vi (Int32.ofNat r16)] [(.int ((2 : Int32) * ((Int32.ofNat E.length) + 1)))])
 refine gA X5 hx hby d6_27 rfl rfl rfl ?_
 obtain ⟨T6, X6, e6, st6⟩ := getF X5 hx hZ hown (host := "") (Or.inl (gw hw 20 rfl)) Via.refl e5 F_codePoints_a (g := (mkF m 28 #[vr a, vi cc, vi (Int32.ofNat r16)] [(.ref a), (.int ((2 : Int32) * ((Int32.ofNat E.length) + 1)))])) rfl rfl (hb hby d6_28)
 refine Gs st6 ?_
 show Goes _ _ _ _ _ (fT T6 m 31 #[vr a, vi cc, vi (Int32.ofNat r16)] [(.ref b), (.int ((2 : Int32) * ((Int32.ofNat E.length) + 1)))])
 obtain ⟨cl7, Ar7, -, S7, N7z, -, -⟩ := id V_b
 refine Gs (fun _ tk => X6.arraylength hx (by rw [e6]; exact Ar7.1) (State.isArrayOf_alike hZ.alike Ar7.2.1) (g := (mkF m 31 #[vr a, vi cc, vi (Int32.ofNat r16)] [(.ref b), (.int ((2 : Int32) * ((Int32.ofNat E.length) + 1)))])) rfl rfl (hb hby d6_31) _ tk) ?_
 rw [len_of S7 N7z]
 show Goes _ _ _ _ _ (fT T6 m 32 #[vr a, vi cc, vi (Int32.ofNat r16)] [(.int (Int32.ofNat 16)), (.int ((2 : Int32) * ((Int32.ofNat E.length) + 1)))])
 refine gY X6 hx hby d6_32 32 48 (flt (own_g7 h7)).2.2.2 ?_
 refine gA X6 hx hby d6_48 rfl rfl rfl ?_
 obtain ⟨T8, X8, e8, st8⟩ := getF X6 hx hZ hown (host := "") (Or.inl (gw hw 20 rfl)) Via.refl e6 F_codePoints_a (g := (mkF m 49 #[vr a, vi cc, vi (Int32.ofNat r16)] [(.ref a)])) rfl rfl (hb hby d6_49)
 refine Gs st8 ?_
 show Goes _ _ _ _ _ (fT T8 m 52 #[vr a, vi cc, vi (Int32.ofNat r16)] [(.ref b)])
 refine gN X8 hx hby d6_52 rfl rfl ?_
 refine gN X8 hx hby d6_53 rfl rfl ?_
 show Goes _ _ _ _ _ (fT T8 m 54 #[vr a, vi cc, vi (Int32.ofNat r16)] [(.int cc), (.int (Int32.ofNat r16)), (.ref b)])
 obtain ⟨cl9, Ar9, q9, S9, N9z, H9, G9⟩ := V_b
 have hin9 : ¬ ((Int32.ofNat r16) < 0 ∨ cl9.slots.size ≤ ((Int32.ofNat r16)).toNatClampNeg) := inb_of S9 ⟨(own_tnO (n := r16) (by omega)).2.1, (own_ltN (by omega) (by omega)).mpr hr161⟩
 obtain ⟨T9, h9, X9, e9, W9, st9⟩ := stI X8 hx hZ e8 Ar9 (j := (Int32.ofNat r16)) hin9 (g := (mkF m 54 #[vr a, vi cc, vi (Int32.ofNat r16)] [(.int cc), (.int (Int32.ofNat r16)), (.ref b)])) rfl rfl (hb hby d6_54)
 have Vn9 := Arv.set Ar9 q9 S9 N9z H9 G9 rfl W9 (r16) (own_tnO (by omega)).1 (by rw [own_iVL, hO.lt]; exact hr161)
 have N9 := Fr.snoc X9 N2 g_b
 replace A_a := A_a.wr W9
 replace F_codePoints_a := F_codePoints_a.other W9 (Or.inl ne_a_b)
 replace F_counts_a := F_counts_a.other W9 (Or.inl ne_a_b)
 replace F_size_a := F_size_a.other W9 (Or.inl ne_a_b)
 replace V_d := V_d.other W9 (Ne.symm ne_b_d)
 replace KP := KP.wr W9 (Or.inl (List.mem_of_getElem? (i := 1) rfl))
 have V_b : Arv Z h9 b kb .int (Int32.ofNat 16) (iV (T.set r16 cc)) (.int 0) := own_arvE Vn9 (own_iVs _ _ _)
 replace Z0 : n0 ≤ h9.size := by rw [W9.size]; exact Z0
 refine Gs st9 ?_
 show Goes _ _ _ _ _ (fT T9 m 55 #[vr a, vi cc, vi (Int32.ofNat r16)] [])
 refine gA X9 hx hby d6_55 rfl rfl rfl ?_
 refine Gz (XS.dup X9.here hx rfl (hb hby d6_56) rfl rfl) ?_
 obtain ⟨T10, X10, e10, st10⟩ := getF X9 hx hZ hown (host := "") (Or.inl (gw hw 45 rfl)) Via.refl e9 F_size_a (g := (mkF m 57 #[vr a, vi cc, vi (Int32.ofNat r16)] [(.ref a), (.ref a)])) rfl rfl (hb hby d6_57)
 refine Gs st10 ?_
 show Goes _ _ _ _ _ (fT T10 m 60 #[vr a, vi cc, vi (Int32.ofNat r16)] [(.int (Int32.ofNat E.length)), (.ref a)])
 refine gC X10 hx hby d6_60 ?_
 show Goes _ _ _ _ _ (fT T10 m 61 #[vr a, vi cc, vi (Int32.ofNat r16)] [(.int 1), (.int (Int32.ofNat E.length)), (.ref a)])
 refine Gz (XS.iadd X10.here hx rfl (hb hby d6_61) rfl) ?_
 show Goes _ _ _ _ _ (fT T10 m 62 #[vr a, vi cc, vi (Int32.ofNat r16)] [(.int ((Int32.ofNat E.length) + 1)), (.ref a)])
 rw [show ((Int32.ofNat E.length) + 1) = (Int32.ofNat ((cc, (1 : Int32)) :: E).length) from own_ofS _]
 show Goes _ _ _ _ _ (fT T10 m 62 #[vr a, vi cc, vi (Int32.ofNat r16)] [(.int (Int32.ofNat ((cc, (1 : Int32)) :: E).length)), (.ref a)])
 obtain ⟨T11, h11, X11, e11, W11, st11⟩ := putF X10 hx hZ hown (host := "") (Or.inl (gw hw 45 rfl)) Via.refl e10 F_size_a A_a (Or.inl (gw hw 46 rfl)) (gw hw 4 rfl) (ty := .int) (by decide) rfl rfl (g := (mkF m 62 #[vr a, vi cc, vi (Int32.ofNat r16)] [(.int (Int32.ofNat ((cc, (1 : Int32)) :: E).length)), (.ref a)])) rfl rfl (hb hby d6_62)
 have N11 := Fr.snoc X11 N9 g_a
 replace F_codePoints_a := F_codePoints_a.other W11 (Or.inr (slot_ne (Or.inl (gw hw 21 rfl)) (Or.inl (gw hw 46 rfl)) (by decide) (t := (.array .int)) (t' := .int) (by decide) (by decide)))
 replace F_counts_a := F_counts_a.other W11 (Or.inr (slot_ne (Or.inl (gw hw 23 rfl)) (Or.inl (gw hw 46 rfl)) (by decide) (t := (.array .int)) (t' := .int) (by decide) (by decide)))
 replace V_d := V_d.other W11 (Ne.symm ne_a_d)
 replace V_b := V_b.other W11 (Ne.symm ne_a_b)
 replace KP := KP.wr W11 (Or.inl (List.mem_of_getElem? (i := 0) rfl))
 replace F_size_a := F_size_a.same W11
 replace Z0 : n0 ≤ h11.size := by rw [W11.size]; exact Z0
 refine Gs st11 ?_
 show Goes _ _ _ _ _ (fT T11 m 65 #[vr a, vi cc, vi (Int32.ofNat r16)] [])
 refine gA X11 hx hby d6_65 rfl rfl rfl ?_
 obtain ⟨T12, X12, e12, st12⟩ := getF X11 hx hZ hown (host := "") (Or.inl (gw hw 22 rfl)) Via.refl e11 F_counts_a (g := (mkF m 66 #[vr a, vi cc, vi (Int32.ofNat r16)] [(.ref a)])) rfl rfl (hb hby d6_66)
 refine Gs st12 ?_
 show Goes _ _ _ _ _ (fT T12 m 69 #[vr a, vi cc, vi (Int32.ofNat r16)] [(.ref d)])
 refine gN X12 hx hby d6_69 rfl rfl ?_
 refine Gs (fun _ tk => Jvm.Free.XT.dup2 X12.here hx rfl (hb hby d6_70) rfl rfl rfl tk) ?_
 show Goes _ _ _ _ _ (fT T12 m 71 #[vr a, vi cc, vi (Int32.ofNat r16)] [(.int (Int32.ofNat r16)), (.ref d), (.int (Int32.ofNat r16)), (.ref d)])
 obtain ⟨cl13, Ar13, -, S13, N13z, H13, -⟩ := id V_d
 have hin13 : ¬ ((Int32.ofNat r16) < 0 ∨ cl13.slots.size ≤ ((Int32.ofNat r16)).toNatClampNeg) := inb_of S13 ⟨(own_tnO (n := r16) (by omega)).2.1, (own_ltN (by omega) (by omega)).mpr hr161⟩
 have hat13 : cl13.slots[((Int32.ofNat r16)).toNatClampNeg]? = some (.int 0) := Has.at H13 hin13 (by rw [(own_tnO (n := r16) (by omega)).1, own_iVg, hr163])
 refine Gs (fun _ tk => X12.iaload hx (j := (Int32.ofNat r16)) (v := (.int 0)) (by rw [e12]; exact Ar13.1) (State.isArrayOf_alike hZ.alike Ar13.2.1) Ar13.2.2 hin13 hat13 (g := (mkF m 71 #[vr a, vi cc, vi (Int32.ofNat r16)] [(.int (Int32.ofNat r16)), (.ref d), (.int (Int32.ofNat r16)), (.ref d)])) rfl rfl (hb hby d6_71) _ tk) ?_
 show Goes _ _ _ _ _ (fT T12 m 72 #[vr a, vi cc, vi (Int32.ofNat r16)] [(.int 0), (.int (Int32.ofNat r16)), (.ref d)])
 refine gC X12 hx hby d6_72 ?_
 show Goes _ _ _ _ _ (fT T12 m 73 #[vr a, vi cc, vi (Int32.ofNat r16)] [(.int 1), (.int 0), (.int (Int32.ofNat r16)), (.ref d)])
 refine Gz (XS.iadd X12.here hx rfl (hb hby d6_73) rfl) ?_
 show Goes _ _ _ _ _ (fT T12 m 74 #[vr a, vi cc, vi (Int32.ofNat r16)] [(.int 1), (.int (Int32.ofNat r16)), (.ref d)])
 obtain ⟨cl14, Ar14, q14, S14, N14z, H14, G14⟩ := V_d
 have hin14 : ¬ ((Int32.ofNat r16) < 0 ∨ cl14.slots.size ≤ ((Int32.ofNat r16)).toNatClampNeg) := inb_of S14 ⟨(own_tnO (n := r16) (by omega)).2.1, (own_ltN (by omega) (by omega)).mpr hr161⟩
 obtain ⟨T14, h14, X14, e14, W14, st14⟩ := stI X12 hx hZ e12 Ar14 (j := (Int32.ofNat r16)) hin14 (g := (mkF m 74 #[vr a, vi cc, vi (Int32.ofNat r16)] [(.int 1), (.int (Int32.ofNat r16)), (.ref d)])) rfl rfl (hb hby d6_74)
 have Vn14 := Arv.set Ar14 q14 S14 N14z H14 G14 rfl W14 (r16) (own_tnO (by omega)).1 (by rw [own_iVL, hO.lk]; exact hr161)
 have N14 := Fr.snoc X14 N11 g_d
 replace F_codePoints_a := F_codePoints_a.other W14 (Or.inl ne_a_d)
 replace F_counts_a := F_counts_a.other W14 (Or.inl ne_a_d)
 replace F_size_a := F_size_a.other W14 (Or.inl ne_a_d)
 replace V_b := V_b.other W14 ne_b_d
 replace KP := KP.wr W14 (Or.inl (List.mem_of_getElem? (i := 2) rfl))
 have V_d : Arv Z h14 d kd .int (Int32.ofNat 16) (iV (K.set r16 (1 : Int32))) (.int 0) := own_arvE Vn14 (own_iVs _ _ _)
 replace Z0 : n0 ≤ h14.size := by rw [W14.size]; exact Z0
 refine Gs st14 ?_
 show Goes _ _ _ _ _ (fT T14 m 75 #[vr a, vi cc, vi (Int32.ofNat r16)] [])
 refine Goes.ret X14 none (fun _ => rfl) hlk (by decide) (by decide) ?_ (fun fs hr => ?_)
 ·rw [e14]; exact ⟨(T.set r16 cc), (K.set r16 (1 : Int32)), rfl, N14, KP, F_codePoints_a, F_counts_a, F_size_a, V_b, V_d, (hr16I _)⟩
 ·exact X14.returnOut hx hret (hb hby d6_75) hr
theorem d6_35 : DK kc7 35 (.aload_n 0) 1 := by decide +kernel
theorem d6_36 : DK kc7 36 (.invokevirtual 28) 3 := by decide +kernel
theorem own_pd4 : parseMethodDescriptor "()V" = some ⟨[], none⟩ := by decide +kernel
theorem d6_39 : DK kc7 39 (.aload_n 0) 1 := by decide +kernel
theorem d6_40 : DK kc7 40 (.getfield 13) 3 := by decide +kernel
theorem d6_43 : DK kc7 43 (.iload_n 1) 1 := by decide +kernel
theorem d6_44 : DK kc7 44 (.invokestatic 20) 3 := by decide +kernel
theorem d6_47 : DK kc7 47 (.istore_n 2) 1 := by decide +kernel
theorem own_ef_rm_ctg (m : MethodId) (x0 : Addr) (x1 : Int32) : entryFrame m #[(.ref x0), (.int x1)] 3 = mkF m 0 #[vr x0, vi x1, vu] [] := by first | (simp [entryFrame, mkF, argsToLocals, Value.category]; done) | rfl
def Q_rm_ctg (Z : State) (a : Addr) (b : Addr) (kb : ClassId) (d : Addr) (kd : ClassId) (T : List Int32) (K : List Int32) (E : List (Int32 × Int32)) (cc : Int32) (h0 : Heap) (n0 : Nat) (v : Option Value) (h : Heap) (L : List Loc) : Prop := ∃ b2 : Addr, ∃ kb2 : ClassId, ∃ d2 : Addr, ∃ kd2 : ClassId, ∃ T2 : List Int32, ∃ K2 : List Int32, v = none ∧ Fr n0 L ∧ Keep h0 h [a] ∧ Fld Z h a "com/example/tandemtrie/tandemtrie/build/CodePointCounts" "codePoints" "[I" (.ref b2) ∧ Fld Z h a "com/example/tandemtrie/tandemtrie/build/CodePointCounts" "counts" "[I" (.ref d2) ∧ Fld Z h a "com/example/tandemtrie/tandemtrie/build/CodePointCounts" "size" "I" (.int (Int32.ofNat ((cc, (1 : Int32)) :: E).length)) ∧ Arv Z h b2 kb2 .int (Int32.ofNat 32) (iV T2) (.int 0) ∧ Arv Z h d2 kd2 .int (Int32.ofNat 32) (iV K2) (.int 0) ∧ n0 ≤ b2 ∧ n0 ≤ d2 ∧ h0.size ≤ b2 ∧ h0.size ≤ d2 ∧ b2 ≠ d2 ∧ Oinv (own_h 32) 32 T2 K2 ((cc, (1 : Int32)) :: E)
theorem rm_ctg (l : Launch) (Z : State) (a0 : Array Value) (hw : HW a0 Z) (ws : List Jvm.Cond) (a : Addr) (b : Addr) (kb : ClassId) (d : Addr) (kd : ClassId) (T : List Int32) (K : List Int32) (E : List (Int32 × Int32)) (cc : Int32) (h0 : Heap) (n0 : Nat) (Z0 : n0 ≤ h0.size) (A_a : Exa Z h0 a "com/example/tandemtrie/tandemtrie/build/CodePointCounts") (F_codePoints_a : Fld Z h0 a "com/example/tandemtrie/tandemtrie/build/CodePointCounts" "codePoints" "[I" (.ref b)) (F_counts_a : Fld Z h0 a "com/example/tandemtrie/tandemtrie/build/CodePointCounts" "counts" "[I" (.ref d)) (F_size_a : Fld Z h0 a "com/example/tandemtrie/tandemtrie/build/CodePointCounts" "size" "I" (.int (Int32.ofNat E.length))) (V_b : Arv Z h0 b kb .int (Int32.ofNat 16) (iV T) (.int 0)) (V_d : Arv Z h0 d kd .int (Int32.ofNat 16) (iV K) (.int 0)) (g_a : n0 ≤ a) (g_b : n0 ≤ b) (g_d : n0 ≤ d) (ne_a_b : a ≠ b) (ne_a_d : a ≠ d) (ne_b_d : b ≠ d) (hO : Oinv (own_h 16) 16 T K E) (hcc : cc ≠ -1) (hnk : ∀ v, (cc, v) ∉ E) (h8 : E.length = 8) :
  Met l Z mN6 prog_10_method_2_code 3 none ({ frames := 3, cells := 2, slots := 64, locals := 45 } : Room) ws #[(.ref a), (.int cc)] h0 (Q_rm_ctg Z a b kb d kd T K E cc h0 n0) := by
 refine own_met (plainFor_of_name own_pn1) ?_
 intro p e s m below meth c s₁ hret hx hby hlk hml hown hnm X0 e0 hZ hh
 have N0 := Fr.nil n0
 refine Gz (castTop (own_ef_rm_ctg m a cc)) ?_
 have KP : Keep h0 h0 [a] := Keep.refl _ _
 show Goes _ _ _ _ _ (fT s₁ m 0 #[vr a, vi cc, vu] [])
 refine gA X0 hx hby d6_0 rfl rfl rfl ?_
 obtain ⟨T1, X1, e1, st1⟩ := getF X0 hx hZ hown (host := "") (Or.inl (gw hw 20 rfl)) Via.refl e0 F_codePoints_a (g := (mkF m 1 #[vr a, vi cc, vu] [(.ref a)])) rfl rfl (hb hby d6_1)
 refine Gs st1 ?_
 show Goes _ _ _ _ _ (fT T1 m 4 #[vr a, vi cc, vu] [(.ref b)])
 refine gN X1 hx hby d6_4 rfl rfl ?_
 refine cS X1 hx hZ hw hown hby hml e1 mN4 36 37 38 5 0 (rm_slo l Z a0 hw [] b kb 16 T cc h0 n0 Z0 V_b (Or.inl rfl) (hO.empty (by omega))) d6_5 (lenOf own_pd3 rfl) N0 (fun T2 L2 X2 e2 N2 => ?_)
 show Goes _ _ _ _ _ (fT T2 m 8 #[vr a, vi cc, vu] [(.int (Int32.ofNat (own_pr 16 T cc 16 (own_h 16 cc))))])
 obtain ⟨r16, hr16⟩ : ∃ r, (own_pr 16 T cc 16 (own_h 16 cc)) = r := ⟨_, rfl⟩
 rw [hr16]
 show Goes _ _ _ _ _ (fT T2 m 8 #[vr a, vi cc, vu] [(.int (Int32.ofNat r16))])
 obtain ⟨hr161, hr162, hr163, hr16I⟩ := hO.new (by omega) (own_h16 _).1 hcc hnk hr16
 refine gs X2 hx hby d6_8 #[vr a, vi cc, vi (Int32.ofNat r16)] ?_
 refine gA X2 hx hby d6_9 rfl rfl rfl ?_
 obtain ⟨T3, X3, e3, st3⟩ := getF X2 hx hZ hown (host := "") (Or.inl (gw hw 20 rfl)) Via.refl e2 F_codePoints_a (g := (mkF m 10 #[vr a, vi cc, vi (Int32.ofNat r16)] [(.ref a)])) rfl rfl (hb hby d6_10)
 refine Gs st3 ?_
 show Goes _ _ _ _ _ (fT T3 m 13 #[vr a, vi cc, vi (Int32.ofNat r16)] [(.ref b)])
 refine gN X3 hx hby d6_13 rfl rfl ?_
 obtain ⟨cl4, Ar4, -, S4, N4z, H4, -⟩ := id V_b
 have hin4 : ¬ ((Int32.ofNat r16) < 0 ∨ cl4.slots.size ≤ ((Int32.ofNat r16)).toNatClampNeg) := inb_of S4 ⟨(own_tnO (n := r16) (by omega)).2.1, (own_ltN (by omega) (by omega)).mpr hr161⟩
 have hat4 : cl4.slots[((Int32.ofNat r16)).toNatClampNeg]? = some (.int (-1 : Int32)) := Has.at H4 hin4 (by rw [(own_tnO (n := r16) (by omega)).1, own_iVg, hr162])
 refine Gs (fun _ tk => X3.iaload hx (j := (Int32.ofNat r16)) (v := (.int (-1 : Int32))) (by rw [e3]; exact Ar4.1) (State.isArrayOf_alike hZ.alike Ar4.2.1) Ar4.2.2 hin4 hat4 (g := (mkF m 14 #[vr a, vi cc, vi (Int32.ofNat r16)] [(.int (Int32.ofNat r16)), (.ref b)])) rfl rfl (hb hby d6_14) _ tk) ?_
 show Goes _ _ _ _ _ (fT T3 m 15 #[vr a, vi cc, vi (Int32.ofNat r16)] [(.int (-1 : Int32))])
 refine gC X3 hx hby d6_15 ?_
 refine gU X3 hx hby d6_16 (teq (by decide : ((-1 : Int32) = (-1 : Int32)))).2 ?_
 refine gC X3 hx hby d6_19 ?_
 refine gA X3 hx hby d6_20 rfl rfl rfl ?_
 obtain ⟨T5, X5, e5, st5⟩ := getF X3 hx hZ hown (host := "") (Or.inl (gw hw 45 rfl)) Via.refl e3 F_size_a (g := (mkF m 21 #[vr a, vi cc, vi (Int32.ofNat r16)] [(.ref a), (.int 2)])) rfl rfl (hb hby d6_21)
 refine Gs st5 ?_
 show Goes _ _ _ _ _ (fT T5 m 24 #[vr a, vi cc, vi (Int32.ofNat r16)] [(.int (Int32.ofNat E.length)), (.int 2)])
 refine gC X5 hx hby d6_24 ?_
 show Goes _ _ _ _ _ (fT T5 m 25 #[vr a, vi cc, vi (Int32.ofNat r16)] [(.int 1), (.int (Int32.ofNat E.length)), (.int 2)])
 refine Gz (XS.iadd X5.here hx rfl (hb hby d6_25) rfl) ?_
 show Goes _ _ _ _ _ (fT T5 m 26 #[vr a, vi cc, vi (Int32.ofNat r16)] [(.int ((Int32.ofNat E.length) + 1)), (.int 2)])
 refine Gz (XS.imul X5.here hx rfl (hb hby d6_26) rfl) ?_
 show Goes _ _ _ _ _ (fT T5 m 27 #[vr a, vi cc, vi (Int32.ofNat r16)] [(.int ((2 : Int32) * ((Int32.ofNat E.length) + 1)))])
 refine gA X5 hx hby d6_27 rfl rfl rfl ?_
 obtain ⟨T6, X6, e6, st6⟩ := getF X5 hx hZ hown (host := "") (Or.inl (gw hw 20 rfl)) Via.refl e5 F_codePoints_a (g := (mkF m 28 #[vr a, vi cc, vi (Int32.ofNat r16)] [(.ref a), (.int ((2 : Int32) * ((Int32.ofNat E.length) + 1)))])) rfl rfl (hb hby d6_28)
 refine Gs st6 ?_
 show Goes _ _ _ _ _ (fT T6 m 31 #[vr a, vi cc, vi (Int32.ofNat r16)] [(.ref b), (.int ((2 : Int32) * ((Int32.ofNat E.length) + 1)))])
 obtain ⟨cl7, Ar7, -, S7, N7z, -, -⟩ := id V_b
 refine Gs (fun _ tk => X6.arraylength hx (by rw [e6]; exact Ar7.1) (State.isArrayOf_alike hZ.alike Ar7.2.1) (g := (mkF m 31 #[vr a, vi cc, vi (Int32.ofNat r16)] [(.ref b), (.int ((2 : Int32) * ((Int32.ofNat E.length) + 1)))])) rfl rfl (hb hby d6_31) _ tk) ?_
 rw [len_of S7 N7z]
 show Goes _ _ _ _ _ (fT T6 m 32 #[vr a, vi cc, vi (Int32.ofNat r16)] [(.int (Int32.ofNat 16)), (.int ((2 : Int32) * ((Int32.ofNat E.length) + 1)))])
 refine gU X6 hx hby d6_32 (tlt (own_g8 h8)).2.2.2 ?_
 refine gA X6 hx hby d6_35 rfl rfl rfl ?_
 have ltc8_a : a < h0.size := A_a.lt
 have ltc8_b : b < h0.size := V_b.lt
 have ltc8_d : d < h0.size := V_d.lt
 have szs8 : h0.size ≤ h0.size := KP.1
 obtain ⟨cq8, q8, q8'⟩ := A_a.cell
 obtain ⟨_, _, ⟨T8, L8, k8, n8⟩, -, X8, ⟨Lc8, hQ8, l8, y8, z8⟩, st8⟩ := X6.privateBack hx (y := mN5) hown (gz hZ hw 69 rfl) (gz hZ hw 70 rfl) (own_selP hZ (gw hw 4 rfl) (gw hw 71 rfl) (gw hw 70 rfl) (by decide)) (Cond.privateMethod_at (mvP hZ (gw hw 71 rfl) (args := #[]))) (gz hZ hw 72 rfl) (by decide) (backOf (W := 0) (rm_gr l Z a0 hw [] a b kb d kd T K E h0 n0 Z0 A_a F_codePoints_a F_counts_a F_size_a V_b V_d g_a g_b g_d ne_a_b ne_a_d ne_b_d hO) hZ (gw hw 72 rfl) (gw hw 5 rfl) (by decide) (by decide)) (g := (mkF m 36 #[vr a, vi cc, vi (Int32.ofNat r16)] [(.ref a)])) rfl hml.symm (Steps.refl _) (a := a) (by rw [e6]; exact q8) q8' (argsL := []) (rest := []) (lenOf own_pd4 rfl) rfl (wz rfl) (hb hby d6_36) (fun _ _ => ⟨rfl, e6, (by decide : 0 + 2 ≤ _), (by decide : 0 + 64 ≤ _)⟩)
 dsimp only [Pt.U, Pt.locs, Pt.cells, Pt.slots] at X8 l8 y8 z8 st8 hQ8
 subst l8 y8 z8
 obtain ⟨b28, kb28, d28, kd28, T28, K28, rfl, N8q, K8, F_codePoints_a_8', F_counts_a_8', F_size_a_8', V_b28_8', V_d28_8', g_b28_8', g_d28_8', sz_b28_8', sz_d28_8', ne_b28_d28_8', hO_8'⟩ := hQ8
 have N8 := Fr.app N2 N8q
 replace A_a := A_a.keep K8
 replace KP := KP.trans K8 (allS (Or.inl (List.mem_of_getElem? (i := 0) rfl)) all0)
 replace Z0 := Nat.le_trans Z0 K8.1
 have F_codePoints_a := F_codePoints_a_8'
 have F_counts_a := F_counts_a_8'
 have F_size_a := F_size_a_8'
 have V_b28 := V_b28_8'
 have V_d28 := V_d28_8'
 have g_b28 := g_b28_8'
 have g_d28 := g_d28_8'
 have szc_b28 := sz_b28_8'
 have ne_a_b28 : a ≠ b28 := Nat.ne_of_lt (Nat.lt_of_lt_of_le ltc8_a szc_b28)
 have ne_b_b28 : b ≠ b28 := Nat.ne_of_lt (Nat.lt_of_lt_of_le ltc8_b szc_b28)
 have ne_d_b28 : d ≠ b28 := Nat.ne_of_lt (Nat.lt_of_lt_of_le ltc8_d szc_b28)
 have sz_b28 : h0.size ≤ b28 := Nat.le_trans szs8 szc_b28
 have szc_d28 := sz_d28_8'
 have ne_a_d28 : a ≠ d28 := Nat.ne_of_lt (Nat.lt_of_lt_of_le ltc8_a szc_d28)
 have ne_b_d28 : b ≠ d28 := Nat.ne_of_lt (Nat.lt_of_lt_of_le ltc8_b szc_d28)
 have ne_d_d28 : d ≠ d28 := Nat.ne_of_lt (Nat.lt_of_lt_of_le ltc8_d szc_d28)
 have sz_d28 : h0.size ≤ d28 := Nat.le_trans szs8 szc_d28
 have ne_b28_d28 := ne_b28_d28_8'
 have hO8 := hO_8'
 refine Gs (fun _ tk => st8.trans tk) ?_
 show Goes _ _ _ _ _ (fT T8 m 39 #[vr a, vi cc, vi (Int32.ofNat r16)] [])
 refine gA X8 hx hby d6_39 rfl rfl rfl ?_
 obtain ⟨T9, X9, e9, st9⟩ := getF X8 hx hZ hown (host := "") (Or.inl (gw hw 20 rfl)) Via.refl rfl F_codePoints_a (g := (mkF m 40 #[vr a, vi cc, vi (Int32.ofNat r16)] [(.ref a)])) rfl rfl (hb hby d6_40)
 refine Gs st9 ?_
 show Goes _ _ _ _ _ (fT T9 m 43 #[vr a, vi cc, vi (Int32.ofNat r16)] [(.ref b28)])
 refine gN X9 hx hby d6_43 rfl rfl ?_
 refine cS X9 hx hZ hw hown hby hml e9 mN4 36 37 38 5 0 (rm_slo l Z a0 hw [] b28 kb28 32 T28 cc T8.heap n0 Z0 V_b28 (Or.inr rfl) (hO8.empty (by omega))) d6_44 (lenOf own_pd3 rfl) N8 (fun T10 L10 X10 e10 N10 => ?_)
 show Goes _ _ _ _ _ (fT T10 m 47 #[vr a, vi cc, vi (Int32.ofNat r16)] [(.int (Int32.ofNat (own_pr 32 T28 cc 32 (own_h 32 cc))))])
 obtain ⟨r32, hr32⟩ : ∃ r, (own_pr 32 T28 cc 32 (own_h 32 cc)) = r := ⟨_, rfl⟩
 rw [hr32]
 show Goes _ _ _ _ _ (fT T10 m 47 #[vr a, vi cc, vi (Int32.ofNat r16)] [(.int (Int32.ofNat r32))])
 obtain ⟨hr321, hr322, hr323, hr32I⟩ := hO8.new (by omega) (own_h32 _).1 hcc hnk hr32
 refine gs X10 hx hby d6_47 #[vr a, vi cc, vi (Int32.ofNat r32)] ?_
 refine gA X10 hx hby d6_48 rfl rfl rfl ?_
 obtain ⟨T11, X11, e11, st11⟩ := getF X10 hx hZ hown (host := "") (Or.inl (gw hw 20 rfl)) Via.refl e10 F_codePoints_a (g := (mkF m 49 #[vr a, vi cc, vi (Int32.ofNat r32)] [(.ref a)])) rfl rfl (hb hby d6_49)
 refine Gs st11 ?_
 show Goes _ _ _ _ _ (fT T11 m 52 #[vr a, vi cc, vi (Int32.ofNat r32)] [(.ref b28)])
 refine gN X11 hx hby d6_52 rfl rfl ?_
 refine gN X11 hx hby d6_53 rfl rfl ?_
 show Goes _ _ _ _ _ (fT T11 m 54 #[vr a, vi cc, vi (Int32.ofNat r32)] [(.int cc), (.int (Int32.ofNat r32)), (.ref b28)])
 obtain ⟨cl12, Ar12, q12, S12, N12z, H12, G12⟩ := V_b28
 have hin12 : ¬ ((Int32.ofNat r32) < 0 ∨ cl12.slots.size ≤ ((Int32.ofNat r32)).toNatClampNeg) := inb_of S12 ⟨(own_tnO (n := r32) (by omega)).2.1, (own_ltN (by omega) (by omega)).mpr hr321⟩
 obtain ⟨T12, h12, X12, e12, W12, st12⟩ := stI X11 hx hZ e11 Ar12 (j := (Int32.ofNat r32)) hin12 (g := (mkF m 54 #[vr a, vi cc, vi (Int32.ofNat r32)] [(.int cc), (.int (Int32.ofNat r32)), (.ref b28)])) rfl rfl (hb hby d6_54)
 have Vn12 := Arv.set Ar12 q12 S12 N12z H12 G12 rfl W12 (r32) (own_tnO (by omega)).1 (by rw [own_iVL, hO8.lt]; exact hr321)
 have N12 := Fr.snoc X12 N10 g_b28
 replace A_a := A_a.wr W12
 replace F_codePoints_a := F_codePoints_a.other W12 (Or.inl ne_a_b28)
 replace F_counts_a := F_counts_a.other W12 (Or.inl ne_a_b28)
 replace F_size_a := F_size_a.other W12 (Or.inl ne_a_b28)
 replace V_d28 := V_d28.other W12 (Ne.symm ne_b28_d28)
 replace KP := KP.wr W12 (Or.inr sz_b28)
 have V_b28 : Arv Z h12 b28 kb28 .int (Int32.ofNat 32) (iV (T28.set r32 cc)) (.int 0) := own_arvE Vn12 (own_iVs _ _ _)
 replace Z0 : n0 ≤ h12.size := by rw [W12.size]; exact Z0
 refine Gs st12 ?_
 show Goes _ _ _ _ _ (fT T12 m 55 #[vr a, vi cc, vi (Int32.ofNat r32)] [])
 refine gA X12 hx hby d6_55 rfl rfl rfl ?_
 refine Gz (XS.dup X12.here hx rfl (hb hby d6_56) rfl rfl) ?_
 obtain ⟨T13, X13, e13, st13⟩ := getF X12 hx hZ hown (host := "") (Or.inl (gw hw 45 rfl)) Via.refl e12 F_size_a (g := (mkF m 57 #[vr a, vi cc, vi (Int32.ofNat r32)] [(.ref a), (.ref a)])) rfl rfl (hb hby d6_57)
 refine Gs st13 ?_
 show Goes _ _ _ _ _ (fT T13 m 60 #[vr a, vi cc, vi (Int32.ofNat r32)] [(.int (Int32.ofNat E.length)), (.ref a)])
 refine gC X13 hx hby d6_60 ?_
 show Goes _ _ _ _ _ (fT T13 m 61 #[vr a, vi cc, vi (Int32.ofNat r32)] [(.int 1), (.int (Int32.ofNat E.length)), (.ref a)])
 refine Gz (XS.iadd X13.here hx rfl (hb hby d6_61) rfl) ?_
 show Goes _ _ _ _ _ (fT T13 m 62 #[vr a, vi cc, vi (Int32.ofNat r32)] [(.int ((Int32.ofNat E.length) + 1)), (.ref a)])
 rw [show ((Int32.ofNat E.length) + 1) = (Int32.ofNat ((cc, (1 : Int32)) :: E).length) from own_ofS _]
 show Goes _ _ _ _ _ (fT T13 m 62 #[vr a, vi cc, vi (Int32.ofNat r32)] [(.int (Int32.ofNat ((cc, (1 : Int32)) :: E).length)), (.ref a)])
 obtain ⟨T14, h14, X14, e14, W14, st14⟩ := putF X13 hx hZ hown (host := "") (Or.inl (gw hw 45 rfl)) Via.refl e13 F_size_a A_a (Or.inl (gw hw 46 rfl)) (gw hw 4 rfl) (ty := .int) (by decide) rfl rfl (g := (mkF m 62 #[vr a, vi cc, vi (Int32.ofNat r32)] [(.int (Int32.ofNat ((cc, (1 : Int32)) :: E).length)), (.ref a)])) rfl rfl (hb hby d6_62)
 have N14 := Fr.snoc X14 N12 g_a
 replace F_codePoints_a := F_codePoints_a.other W14 (Or.inr (slot_ne (Or.inl (gw hw 21 rfl)) (Or.inl (gw hw 46 rfl)) (by decide) (t := (.array .int)) (t' := .int) (by decide) (by decide)))
 replace F_counts_a := F_counts_a.other W14 (Or.inr (slot_ne (Or.inl (gw hw 23 rfl)) (Or.inl (gw hw 46 rfl)) (by decide) (t := (.array .int)) (t' := .int) (by decide) (by decide)))
 replace V_d28 := V_d28.other W14 (Ne.symm ne_a_d28)
 replace V_b28 := V_b28.other W14 (Ne.symm ne_a_b28)
 replace KP := KP.wr W14 (Or.inl (List.mem_of_getElem? (i := 0) rfl))
 replace F_size_a := F_size_a.same W14
 replace Z0 : n0 ≤ h14.size := by rw [W14.size]; exact Z0
 refine Gs st14 ?_
 show Goes _ _ _ _ _ (fT T14 m 65 #[vr a, vi cc, vi (Int32.ofNat r32)] [])
 refine gA X14 hx hby d6_65 rfl rfl rfl ?_
 obtain ⟨T15, X15, e15, st15⟩ := getF X14 hx hZ hown (host := "") (Or.inl (gw hw 22 rfl)) Via.refl e14 F_counts_a (g := (mkF m 66 #[vr a, vi cc, vi (Int32.ofNat r32)] [(.ref a)])) rfl rfl (hb hby d6_66)
 refine Gs st15 ?_
 show Goes _ _ _ _ _ (fT T15 m 69 #[vr a, vi cc, vi (Int32.ofNat r32)] [(.ref d28)])
 refine gN X15 hx hby d6_69 rfl rfl ?_
 refine Gs (fun _ tk => Jvm.Free.XT.dup2 X15.here hx rfl (hb hby d6_70) rfl rfl rfl tk) ?_
 show Goes _ _ _ _ _ (fT T15 m 71 #[vr a, vi cc, vi (Int32.ofNat r32)] [(.int (Int32.ofNat r32)), (.ref d28), (.int (Int32.ofNat r32)), (.ref d28)])
 obtain ⟨cl16, Ar16, -, S16, N16z, H16, -⟩ := id V_d28
 have hin16 : ¬ ((Int32.ofNat r32) < 0 ∨ cl16.slots.size ≤ ((Int32.ofNat r32)).toNatClampNeg) := inb_of S16 ⟨(own_tnO (n := r32) (by omega)).2.1, (own_ltN (by omega) (by omega)).mpr hr321⟩
 have hat16 : cl16.slots[((Int32.ofNat r32)).toNatClampNeg]? = some (.int 0) := Has.at H16 hin16 (by rw [(own_tnO (n := r32) (by omega)).1, own_iVg, hr323])
 refine Gs (fun _ tk => X15.iaload hx (j := (Int32.ofNat r32)) (v := (.int 0)) (by rw [e15]; exact Ar16.1) (State.isArrayOf_alike hZ.alike Ar16.2.1) Ar16.2.2 hin16 hat16 (g := (mkF m 71 #[vr a, vi cc, vi (Int32.ofNat r32)] [(.int (Int32.ofNat r32)), (.ref d28), (.int (Int32.ofNat r32)), (.ref d28)])) rfl rfl (hb hby d6_71) _ tk) ?_
 show Goes _ _ _ _ _ (fT T15 m 72 #[vr a, vi cc, vi (Int32.ofNat r32)] [(.int 0), (.int (Int32.ofNat r32)), (.ref d28)])
 refine gC X15 hx hby d6_72 ?_
 show Goes _ _ _ _ _ (fT T15 m 73 #[vr a, vi cc, vi (Int32.ofNat r32)] [(.int 1), (.int 0), (.int (Int32.ofNat r32)), (.ref d28)])
 refine Gz (XS.iadd X15.here hx rfl (hb hby d6_73) rfl) ?_
 show Goes _ _ _ _ _ (fT T15 m 74 #[vr a, vi cc, vi (Int32.ofNat r32)] [(.int 1), (.int (Int32.ofNat r32)), (.ref d28)])
 obtain ⟨cl17, Ar17, q17, S17, N17z, H17, G17⟩ := V_d28
 have hin17 : ¬ ((Int32.ofNat r32) < 0 ∨ cl17.slots.size ≤ ((Int32.ofNat r32)).toNatClampNeg) := inb_of S17 ⟨(own_tnO (n := r32) (by omega)).2.1, (own_ltN (by omega) (by omega)).mpr hr321⟩
 obtain ⟨T17, h17, X17, e17, W17, st17⟩ := stI X15 hx hZ e15 Ar17 (j := (Int32.ofNat r32)) hin17 (g := (mkF m 74 #[vr a, vi cc, vi (Int32.ofNat r32)] [(.int 1), (.int (Int32.ofNat r32)), (.ref d28)])) rfl rfl (hb hby d6_74)
 have Vn17 := Arv.set Ar17 q17 S17 N17z H17 G17 rfl W17 (r32) (own_tnO (by omega)).1 (by rw [own_iVL, hO8.lk]; exact hr321)
 have N17 := Fr.snoc X17 N14 g_d28
 replace F_codePoints_a := F_codePoints_a.other W17 (Or.inl ne_a_d28)
 replace F_counts_a := F_counts_a.other W17 (Or.inl ne_a_d28)
 replace F_size_a := F_size_a.other W17 (Or.inl ne_a_d28)
 replace V_b28 := V_b28.other W17 ne_b28_d28
 replace KP := KP.wr W17 (Or.inr sz_d28)
 have V_d28 : Arv Z h17 d28 kd28 .int (Int32.ofNat 32) (iV (K28.set r32 (1 : Int32))) (.int 0) := own_arvE Vn17 (own_iVs _ _ _)
 replace Z0 : n0 ≤ h17.size := by rw [W17.size]; exact Z0
 refine Gs st17 ?_
 show Goes _ _ _ _ _ (fT T17 m 75 #[vr a, vi cc, vi (Int32.ofNat r32)] [])
 refine Goes.ret X17 none (fun _ => rfl) hlk (by decide) (by decide) ?_ (fun fs hr => ?_)
 ·rw [e17]; exact ⟨b28, kb28, d28, kd28, (T28.set r32 cc), (K28.set r32 (1 : Int32)), rfl, N17, KP, F_codePoints_a, F_counts_a, F_size_a, V_b28, V_d28, g_b28, g_d28, sz_b28, sz_d28, ne_b28_d28, (hr32I _)⟩
 ·exact X17.returnOut hx hret (hb hby d6_75) hr
theorem own_ef_rm_cto (m : MethodId) (x0 : Addr) (x1 : Int32) : entryFrame m #[(.ref x0), (.int x1)] 3 = mkF m 0 #[vr x0, vi x1, vu] [] := by first | (simp [entryFrame, mkF, argsToLocals, Value.category]; done) | rfl
def Q_rm_cto (Z : State) (n : Nat) (a : Addr) (b : Addr) (kb : ClassId) (d : Addr) (kd : ClassId) (T : List Int32) (K : List Int32) (E : List (Int32 × Int32)) (cc : Int32) (vv : Int32) (h0 : Heap) (n0 : Nat) (v : Option Value) (h : Heap) (L : List Loc) : Prop := ∃ K2 : List Int32, v = none ∧ Fr n0 L ∧ Keep h0 h [d] ∧ Arv Z h d kd .int (Int32.ofNat n) (iV K2) (.int 0) ∧ Oinv (own_h n) n T K2 ((cc, (vv + 1)) :: E)
theorem rm_cto (l : Launch) (Z : State) (a0 : Array Value) (hw : HW a0 Z) (ws : List Jvm.Cond) (n : Nat) (a : Addr) (b : Addr) (kb : ClassId) (d : Addr) (kd : ClassId) (T : List Int32) (K : List Int32) (E : List (Int32 × Int32)) (cc : Int32) (vv : Int32) (h0 : Heap) (n0 : Nat) (Z0 : n0 ≤ h0.size) (A_a : Exa Z h0 a "com/example/tandemtrie/tandemtrie/build/CodePointCounts") (F_codePoints_a : Fld Z h0 a "com/example/tandemtrie/tandemtrie/build/CodePointCounts" "codePoints" "[I" (.ref b)) (F_counts_a : Fld Z h0 a "com/example/tandemtrie/tandemtrie/build/CodePointCounts" "counts" "[I" (.ref d)) (V_b : Arv Z h0 b kb .int (Int32.ofNat n) (iV T) (.int 0)) (V_d : Arv Z h0 d kd .int (Int32.ofNat n) (iV K) (.int 0)) (g_a : n0 ≤ a) (g_b : n0 ≤ b) (g_d : n0 ≤ d) (ne_a_b : a ≠ b) (ne_a_d : a ≠ d) (ne_b_d : b ≠ d) (hO : Oinv (own_h n) n T K ((cc, vv) :: E)) (hl : E.length + 1 < n) :
  Met l Z mN6 prog_10_method_2_code 3 none ({ frames := 2, cells := 0, slots := 0, locals := 29 } : Room) ws #[(.ref a), (.int cc)] h0 (Q_rm_cto Z n a b kb d kd T K E cc vv h0 n0) := by
 refine own_met (plainFor_of_name own_pn1) ?_
 intro p e s m below meth c s₁ hret hx hby hlk hml hown hnm X0 e0 hZ hh
 have N0 := Fr.nil n0
 refine Gz (castTop (own_ef_rm_cto m a cc)) ?_
 have KP : Keep h0 h0 [d] := Keep.refl _ _
 show Goes _ _ _ _ _ (fT s₁ m 0 #[vr a, vi cc, vu] [])
 have hn2 := hO.n2
 refine gA X0 hx hby d6_0 rfl rfl rfl ?_
 obtain ⟨T1, X1, e1, st1⟩ := getF X0 hx hZ hown (host := "") (Or.inl (gw hw 20 rfl)) Via.refl e0 F_codePoints_a (g := (mkF m 1 #[vr a, vi cc, vu] [(.ref a)])) rfl rfl (hb hby d6_1)
 refine Gs st1 ?_
 show Goes _ _ _ _ _ (fT T1 m 4 #[vr a, vi cc, vu] [(.ref b)])
 refine gN X1 hx hby d6_4 rfl rfl ?_
 refine cS X1 hx hZ hw hown hby hml e1 mN4 36 37 38 5 0 (rm_slo l Z a0 hw [] b kb n T cc h0 n0 Z0 V_b hO.n2 (hO.empty hl)) d6_5 (lenOf own_pd3 rfl) N0 (fun T2 L2 X2 e2 N2 => ?_)
 show Goes _ _ _ _ _ (fT T2 m 8 #[vr a, vi cc, vu] [(.int (Int32.ofNat (own_pr n T cc n (own_h n cc))))])
 obtain ⟨r, hr⟩ : ∃ r, (own_pr n T cc n (own_h n cc)) = r := ⟨_, rfl⟩
 rw [hr]
 show Goes _ _ _ _ _ (fT T2 m 8 #[vr a, vi cc, vu] [(.int (Int32.ofNat r))])
 obtain ⟨hr1, hr2, hcc, hr3, hrI⟩ := hO.old hr
 refine gs X2 hx hby d6_8 #[vr a, vi cc, vi (Int32.ofNat r)] ?_
 refine gA X2 hx hby d6_9 rfl rfl rfl ?_
 obtain ⟨T3, X3, e3, st3⟩ := getF X2 hx hZ hown (host := "") (Or.inl (gw hw 20 rfl)) Via.refl e2 F_codePoints_a (g := (mkF m 10 #[vr a, vi cc, vi (Int32.ofNat r)] [(.ref a)])) rfl rfl (hb hby d6_10)
 refine Gs st3 ?_
 show Goes _ _ _ _ _ (fT T3 m 13 #[vr a, vi cc, vi (Int32.ofNat r)] [(.ref b)])
 refine gN X3 hx hby d6_13 rfl rfl ?_
 obtain ⟨cl4, Ar4, -, S4, N4z, H4, -⟩ := id V_b
 have hin4 : ¬ ((Int32.ofNat r) < 0 ∨ cl4.slots.size ≤ ((Int32.ofNat r)).toNatClampNeg) := inb_of S4 ⟨(own_tnO (n := r) (by omega)).2.1, (own_ltN (by omega) (by omega)).mpr hr1⟩
 have hat4 : cl4.slots[((Int32.ofNat r)).toNatClampNeg]? = some (.int cc) := Has.at H4 hin4 (by rw [(own_tnO (n := r) (by omega)).1, own_iVg, hr2])
 refine Gs (fun _ tk => X3.iaload hx (j := (Int32.ofNat r)) (v := (.int cc)) (by rw [e3]; exact Ar4.1) (State.isArrayOf_alike hZ.alike Ar4.2.1) Ar4.2.2 hin4 hat4 (g := (mkF m 14 #[vr a, vi cc, vi (Int32.ofNat r)] [(.int (Int32.ofNat r)), (.ref b)])) rfl rfl (hb hby d6_14) _ tk) ?_
 show Goes _ _ _ _ _ (fT T3 m 15 #[vr a, vi cc, vi (Int32.ofNat r)] [(.int cc)])
 refine gC X3 hx hby d6_15 ?_
 refine gY X3 hx hby d6_16 16 65 (feq hcc).2 ?_
 refine gA X3 hx hby d6_65 rfl rfl rfl ?_
 obtain ⟨T5, X5, e5, st5⟩ := getF X3 hx hZ hown (host := "") (Or.inl (gw hw 22 rfl)) Via.refl e3 F_counts_a (g := (mkF m 66 #[vr a, vi cc, vi (Int32.ofNat r)] [(.ref a)])) rfl rfl (hb hby d6_66)
 refine Gs st5 ?_
 show Goes _ _ _ _ _ (fT T5 m 69 #[vr a, vi cc, vi (Int32.ofNat r)] [(.ref d)])
 refine gN X5 hx hby d6_69 rfl rfl ?_
 refine Gs (fun _ tk => Jvm.Free.XT.dup2 X5.here hx rfl (hb hby d6_70) rfl rfl rfl tk) ?_
 show Goes _ _ _ _ _ (fT T5 m 71 #[vr a, vi cc, vi (Int32.ofNat r)] [(.int (Int32.ofNat r)), (.ref d), (.int (Int32.ofNat r)), (.ref d)])
 obtain ⟨cl6, Ar6, -, S6, N6z, H6, -⟩ := id V_d
 have hin6 : ¬ ((Int32.ofNat r) < 0 ∨ cl6.slots.size ≤ ((Int32.ofNat r)).toNatClampNeg) := inb_of S6 ⟨(own_tnO (n := r) (by omega)).2.1, (own_ltN (by omega) (by omega)).mpr hr1⟩
 have hat6 : cl6.slots[((Int32.ofNat r)).toNatClampNeg]? = some (.int vv) := Has.at H6 hin6 (by rw [(own_tnO (n := r) (by omega)).1, own_iVg, hr3])
 refine Gs (fun _ tk => X5.iaload hx (j := (Int32.ofNat r)) (v := (.int vv)) (by rw [e5]; exact Ar6.1) (State.isArrayOf_alike hZ.alike Ar6.2.1) Ar6.2.2 hin6 hat6 (g := (mkF m 71 #[vr a, vi cc, vi (Int32.ofNat r)] [(.int (Int32.ofNat r)), (.ref d), (.int (Int32.ofNat r)), (.ref d)])) rfl rfl (hb hby d6_71) _ tk) ?_
 show Goes _ _ _ _ _ (fT T5 m 72 #[vr a, vi cc, vi (Int32.ofNat r)] [(.int vv), (.int (Int32.ofNat r)), (.ref d)])
 refine gC X5 hx hby d6_72 ?_
 show Goes _ _ _ _ _ (fT T5 m 73 #[vr a, vi cc, vi (Int32.ofNat r)] [(.int 1), (.int vv), (.int (Int32.ofNat r)), (.ref d)])
 refine Gz (XS.iadd X5.here hx rfl (hb hby d6_73) rfl) ?_
 show Goes _ _ _ _ _ (fT T5 m 74 #[vr a, vi cc, vi (Int32.ofNat r)] [(.int (vv + 1)), (.int (Int32.ofNat r)), (.ref d)])
 obtain ⟨cl7, Ar7, q7, S7, N7z, H7, G7⟩ := V_d
 have hin7 : ¬ ((Int32.ofNat r) < 0 ∨ cl7.slots.size ≤ ((Int32.ofNat r)).toNatClampNeg) := inb_of S7 ⟨(own_tnO (n := r) (by omega)).2.1, (own_ltN (by omega) (by omega)).mpr hr1⟩
 obtain ⟨T7, h7, X7, e7, W7, st7⟩ := stI X5 hx hZ e5 Ar7 (j := (Int32.ofNat r)) hin7 (g := (mkF m 74 #[vr a, vi cc, vi (Int32.ofNat r)] [(.int (vv + 1)), (.int (Int32.ofNat r)), (.ref d)])) rfl rfl (hb hby d6_74)
 have Vn7 := Arv.set Ar7 q7 S7 N7z H7 G7 rfl W7 (r) (own_tnO (by omega)).1 (by rw [own_iVL, hO.lk]; exact hr1)
 have N7 := Fr.snoc X7 N2 g_d
 replace KP := KP.wr W7 (Or.inl (List.mem_of_getElem? (i := 0) rfl))
 have V_d : Arv Z h7 d kd .int (Int32.ofNat n) (iV (K.set r (vv + 1))) (.int 0) := own_arvE Vn7 (own_iVs _ _ _)
 replace Z0 : n0 ≤ h7.size := by rw [W7.size]; exact Z0
 refine Gs st7 ?_
 show Goes _ _ _ _ _ (fT T7 m 75 #[vr a, vi cc, vi (Int32.ofNat r)] [])
 refine Goes.ret X7 none (fun _ => rfl) hlk (by decide) (by decide) ?_ (fun fs hr => ?_)
 ·rw [e7]; exact ⟨(K.set r (vv + 1)), rfl, N7, KP, V_d, (hrI _)⟩
 ·exact X7.returnOut hx hret (hb hby d6_75) hr
theorem d7_0 : decode method_3_code 0 = .ok (.iload_n 3, 1) := by decide +kernel
theorem d7_1 : decode method_3_code 1 = .ok (.ifCond .eq 11, 3) := by decide +kernel
theorem d7_12 : decode method_3_code 12 = .ok (.iload_n 1, 1) := by decide +kernel
theorem d7_13 : decode method_3_code 13 = .ok (.bipush 8, 2) := by decide +kernel
theorem d7_15 : decode method_3_code 15 = .ok (.iload_n 0, 1) := by decide +kernel
theorem d7_16 : decode method_3_code 16 = .ok (.isub, 1) := by decide +kernel
theorem d7_17 : decode method_3_code 17 = .ok (.iload_n 2, 1) := by decide +kernel
theorem d7_18 : decode method_3_code 18 = .ok (.imul, 1) := by decide +kernel
theorem d7_19 : decode method_3_code 19 = .ok (.iadd, 1) := by decide +kernel
theorem d7_20 : decode method_3_code 20 = .ok (.ireturn, 1) := by decide +kernel
theorem d7_4 : decode method_3_code 4 = .ok (.iload_n 1, 1) := by decide +kernel
theorem d7_5 : decode method_3_code 5 = .ok (.iload_n 0, 1) := by decide +kernel
theorem d7_6 : decode method_3_code 6 = .ok (.iload_n 2, 1) := by decide +kernel
theorem d7_7 : decode method_3_code 7 = .ok (.imul, 1) := by decide +kernel
theorem d7_8 : decode method_3_code 8 = .ok (.iadd, 1) := by decide +kernel
theorem d7_9 : decode method_3_code 9 = .ok (.goto 11, 3) := by decide +kernel
theorem own_pn3 : plainName "com/example/tandemtrie/tandemtrie/build/CodePointCountsCountPinLaw" = true := by first | (simp [plainName, overriddenIn]; done) | decide +kernel
theorem own_ef_rm_cpo (m : MethodId) (x0 : Int32) (x1 : Int32) (x2 : Int32) (x3 : Int32) : entryFrame m #[(.int x0), (.int x1), (.int x2), (.int x3)] 4 = mkF m 0 #[vi x0, vi x1, vi x2, vi x3] [] := by first | (simp [entryFrame, mkF, argsToLocals, Value.category]; done) | rfl
def Q_rm_cpo (Z : State) (ii : Nat) (bs : Int32) (st : Int32) (z : Int32) (h0 : Heap) (n0 : Nat) (v : Option Value) (h : Heap) (L : List Loc) : Prop := v = some (.int (own_F bs st z ii)) ∧ Fr n0 L ∧ h = h0
theorem rm_cpo (l : Launch) (Z : State) (a0 : Array Value) (hw : HW a0 Z) (ws : List Jvm.Cond) (ii : Nat) (bs : Int32) (st : Int32) (z : Int32) (h0 : Heap) (n0 : Nat) (Z0 : n0 ≤ h0.size) (hi8 : ii ≤ 8) :
  Met l Z mN7 method_3_code 4 (some .int) ({ frames := 0, cells := 0, slots := 0, locals := 0 } : Room) ws #[(.int (Int32.ofNat ii)), (.int bs), (.int st), (.int z)] h0 (Q_rm_cpo Z ii bs st z h0 n0) := by
 refine own_met (plainFor_of_name own_pn3) ?_
 intro p e s m below meth c s₁ hret hx hby hlk hml hown hnm X0 e0 hZ hh
 have N0 := Fr.nil n0
 refine Gz (castTop (own_ef_rm_cpo m (Int32.ofNat ii) bs st z)) ?_
 show Goes _ _ _ _ _ (fT s₁ m 0 #[vi (Int32.ofNat ii), vi bs, vi st, vi z] [])
 refine gN X0 hx hby d7_0 rfl rfl ?_
 by_cases hc1_1 : z = 0
 ·refine gy X0 hx hby d7_1 1 12 ((if0 _ _).trans (teq hc1_1).1) ?_
  refine gN X0 hx hby d7_12 rfl rfl ?_
  refine gB X0 hx hby d7_13 ?_
  refine gN X0 hx hby d7_15 rfl rfl ?_
  show Goes _ _ _ _ _ (fT s₁ m 16 #[vi (Int32.ofNat ii), vi bs, vi st, vi z] [(.int (Int32.ofNat ii)), (.int 8), (.int bs)])
  refine Gz (XS.isub X0.here hx rfl (hb hby d7_16) rfl) ?_
  show Goes _ _ _ _ _ (fT s₁ m 17 #[vi (Int32.ofNat ii), vi bs, vi st, vi z] [(.int ((8 : Int32) - (Int32.ofNat ii))), (.int bs)])
  refine gN X0 hx hby d7_17 rfl rfl ?_
  show Goes _ _ _ _ _ (fT s₁ m 18 #[vi (Int32.ofNat ii), vi bs, vi st, vi z] [(.int st), (.int ((8 : Int32) - (Int32.ofNat ii))), (.int bs)])
  refine Gz (XS.imul X0.here hx rfl (hb hby d7_18) rfl) ?_
  show Goes _ _ _ _ _ (fT s₁ m 19 #[vi (Int32.ofNat ii), vi bs, vi st, vi z] [(.int (((8 : Int32) - (Int32.ofNat ii)) * st)), (.int bs)])
  refine Gz (XS.iadd X0.here hx rfl (hb hby d7_19) rfl) ?_
  show Goes _ _ _ _ _ (fT s₁ m 20 #[vi (Int32.ofNat ii), vi bs, vi st, vi z] [(.int (bs + (((8 : Int32) - (Int32.ofNat ii)) * st)))])
  refine Goes.ret X0 (some (.int (bs + (((8 : Int32) - (Int32.ofNat ii)) * st)))) (fun h => by rw [hret] at h; cases h) hlk (by decide) (by decide) ?_ (fun fs hr => ?_)
  ·exact ⟨(congrArg (fun q => some (Value.int q)) (own_cD hc1_1 hi8)), N0, e0⟩
  ·exact retI X0 hx hret (hb hby d7_20) hr
 ·refine gu X0 hx hby d7_1 ((if0 _ _).trans (feq hc1_1).1) ?_
  refine gN X0 hx hby d7_4 rfl rfl ?_
  refine gN X0 hx hby d7_5 rfl rfl ?_
  refine gN X0 hx hby d7_6 rfl rfl ?_
  show Goes _ _ _ _ _ (fT s₁ m 7 #[vi (Int32.ofNat ii), vi bs, vi st, vi z] [(.int st), (.int (Int32.ofNat ii)), (.int bs)])
  refine Gz (XS.imul X0.here hx rfl (hb hby d7_7) rfl) ?_
  show Goes _ _ _ _ _ (fT s₁ m 8 #[vi (Int32.ofNat ii), vi bs, vi st, vi z] [(.int ((Int32.ofNat ii) * st)), (.int bs)])
  refine Gz (XS.iadd X0.here hx rfl (hb hby d7_8) rfl) ?_
  show Goes _ _ _ _ _ (fT s₁ m 9 #[vi (Int32.ofNat ii), vi bs, vi st, vi z] [(.int (bs + ((Int32.ofNat ii) * st)))])
  refine gG X0 hx hby d7_9 9 20 ?_
  refine Goes.ret X0 (some (.int (bs + ((Int32.ofNat ii) * st)))) (fun h => by rw [hret] at h; cases h) hlk (by decide) (by decide) ?_ (fun fs hr => ?_)
  ·exact ⟨(congrArg (fun q => some (Value.int q)) (own_cA hc1_1 ii)), N0, e0⟩
  ·exact retI X0 hx hret (hb hby d7_20) hr
theorem d8_0 : decode method_4_code 0 = .ok (.iload_n 1, 1) := by decide +kernel
theorem d8_1 : decode method_4_code 1 = .ok (.iload_n 2, 1) := by decide +kernel
theorem d8_2 : decode method_4_code 2 = .ok (.if_icmp .ge 32, 3) := by decide +kernel
theorem d8_5 : decode method_4_code 5 = .ok (.iload_n 1, 1) := by decide +kernel
theorem d8_6 : decode method_4_code 6 = .ok (.iload 4, 2) := by decide +kernel
theorem d8_8 : decode method_4_code 8 = .ok (.iload 5, 2) := by decide +kernel
theorem d8_10 : decode method_4_code 10 = .ok (.iload 6, 2) := by decide +kernel
theorem d8_12 : decode method_4_code 12 = .ok (.invokestatic 27, 3) := by decide +kernel
theorem own_pd5 : parseMethodDescriptor "(IIIZ)I" = some ⟨[.int, .int, .int, .boolean], some .int⟩ := by decide +kernel
theorem d8_15 : decode method_4_code 15 = .ok (.istore 7, 2) := by decide +kernel
theorem d8_17 : decode method_4_code 17 = .ok (.aload_n 0, 1) := by decide +kernel
theorem d8_18 : decode method_4_code 18 = .ok (.iload 7, 2) := by decide +kernel
theorem d8_20 : decode method_4_code 20 = .ok (.invokevirtual 31, 3) := by decide +kernel
theorem own_pd6 : parseMethodDescriptor "(I)V" = some ⟨[.int], none⟩ := by decide +kernel
theorem d8_23 : decode method_4_code 23 = .ok (.iload_n 1, 1) := by decide +kernel
theorem d8_24 : decode method_4_code 24 = .ok (.iload_n 3, 1) := by decide +kernel
theorem d8_25 : decode method_4_code 25 = .ok (.if_icmp .ne 9, 3) := by decide +kernel
theorem d8_28 : decode method_4_code 28 = .ok (.aload_n 0, 1) := by decide +kernel
theorem d8_29 : decode method_4_code 29 = .ok (.iload 7, 2) := by decide +kernel
theorem d8_31 : decode method_4_code 31 = .ok (.invokevirtual 31, 3) := by decide +kernel
theorem d8_34 : decode method_4_code 34 = .ok (.return_, 1) := by decide +kernel
theorem own_ef_rm_fd0 (m : MethodId) (x0 : Addr) (x1 : Int32) (x2 : Int32) (x3 : Int32) (x4 : Int32) (x5 : Int32) (x6 : Int32) : entryFrame m #[(.ref x0), (.int x1), (.int x2), (.int x3), (.int x4), (.int x5), (.int x6)] 8 = mkF m 0 #[vr x0, vi x1, vi x2, vi x3, vi x4, vi x5, vi x6, vu] [] := by first | (simp [entryFrame, mkF, argsToLocals, Value.category]; done) | rfl
def Q_rm_fd0 (Z : State) (a : Addr) (b : Addr) (kb : ClassId) (d : Addr) (kd : ClassId) (T : List Int32) (K : List Int32) (ii : Nat) (nn : Nat) (jn : Nat) (bs : Int32) (st : Int32) (z : Int32) (h0 : Heap) (n0 : Nat) (v : Option Value) (h : Heap) (L : List Loc) : Prop := ∃ T2 : List Int32, ∃ K2 : List Int32, v = none ∧ Fr n0 L ∧ Keep h0 h [a, b, d] ∧ Fld Z h a "com/example/tandemtrie/tandemtrie/build/CodePointCounts" "codePoints" "[I" (.ref b) ∧ Fld Z h a "com/example/tandemtrie/tandemtrie/build/CodePointCounts" "counts" "[I" (.ref d) ∧ Fld Z h a "com/example/tandemtrie/tandemtrie/build/CodePointCounts" "size" "I" (.int (Int32.ofNat (own_E bs st z nn jn (ii + 1)).length)) ∧ Arv Z h b kb .int (Int32.ofNat 16) (iV T2) (.int 0) ∧ Arv Z h d kd .int (Int32.ofNat 16) (iV K2) (.int 0) ∧ Oinv (own_h 16) 16 T2 K2 (own_E bs st z nn jn (ii + 1))
theorem rm_fd0 (l : Launch) (Z : State) (a0 : Array Value) (hw : HW a0 Z) (ws : List Jvm.Cond) (a : Addr) (b : Addr) (kb : ClassId) (d : Addr) (kd : ClassId) (T : List Int32) (K : List Int32) (ii : Nat) (nn : Nat) (jn : Nat) (bs : Int32) (st : Int32) (z : Int32) (h0 : Heap) (n0 : Nat) (Z0 : n0 ≤ h0.size) (A_a : Exa Z h0 a "com/example/tandemtrie/tandemtrie/build/CodePointCounts") (F_codePoints_a : Fld Z h0 a "com/example/tandemtrie/tandemtrie/build/CodePointCounts" "codePoints" "[I" (.ref b)) (F_counts_a : Fld Z h0 a "com/example/tandemtrie/tandemtrie/build/CodePointCounts" "counts" "[I" (.ref d)) (F_size_a : Fld Z h0 a "com/example/tandemtrie/tandemtrie/build/CodePointCounts" "size" "I" (.int (Int32.ofNat (own_E bs st z nn jn ii).length))) (V_b : Arv Z h0 b kb .int (Int32.ofNat 16) (iV T) (.int 0)) (V_d : Arv Z h0 d kd .int (Int32.ofNat 16) (iV K) (.int 0)) (g_a : n0 ≤ a) (g_b : n0 ≤ b) (g_d : n0 ≤ d) (ne_a_b : a ≠ b) (ne_a_d : a ≠ d) (ne_b_d : b ≠ d) (hO : Oinv (own_h 16) 16 T K (own_E bs st z nn jn ii)) (hB : Bnd bs st) (hn9 : nn ≤ 9) (hj9 : jn ≤ 9) (hi7 : ii ≤ 7) :
  Met l Z mN8 method_4_code 8 none ({ frames := 3, cells := 0, slots := 0, locals := 43 } : Room) ws #[(.ref a), (.int (Int32.ofNat ii)), (.int (Int32.ofNat nn)), (.int (Int32.ofNat jn)), (.int bs), (.int st), (.int z)] h0 (Q_rm_fd0 Z a b kb d kd T K ii nn jn bs st z h0 n0) := by
 refine own_met (plainFor_of_name own_pn3) ?_
 intro p e s m below meth c s₁ hret hx hby hlk hml hown hnm X0 e0 hZ hh
 have N0 := Fr.nil n0
 refine Gz (castTop (own_ef_rm_fd0 m a (Int32.ofNat ii) (Int32.ofNat nn) (Int32.ofNat jn) bs st z)) ?_
 have KP : Keep h0 h0 [a, b, d] := Keep.refl _ _
 show Goes _ _ _ _ _ (fT s₁ m 0 #[vr a, vi (Int32.ofNat ii), vi (Int32.ofNat nn), vi (Int32.ofNat jn), vi bs, vi st, vi z, vu] [])
 refine gN X0 hx hby d8_0 rfl rfl ?_
 refine gN X0 hx hby d8_1 rfl rfl ?_
 by_cases hc2_1 : (Int32.ofNat ii) < (Int32.ofNat nn)
 ·refine gU X0 hx hby d8_2 (tlt hc2_1).2.1 ?_
  have hlt : ii < nn := (own_ltN (by omega) (by omega)).mp hc2_1
  have hl := own_EL bs st z nn jn ii
  refine gN X0 hx hby d8_5 rfl rfl ?_
  refine gI X0 hx hby d8_6 rfl rfl ?_
  refine gI X0 hx hby d8_8 rfl rfl ?_
  show Goes _ _ _ _ _ (fT s₁ m 10 #[vr a, vi (Int32.ofNat ii), vi (Int32.ofNat nn), vi (Int32.ofNat jn), vi bs, vi st, vi z, vu] [(.int st), (.int bs), (.int (Int32.ofNat ii))])
  refine gI X0 hx hby d8_10 rfl rfl ?_
  refine cS X0 hx hZ hw hown hby hml e0 mN7 28 29 30 26 0 (rm_cpo l Z a0 hw [] ii bs st z h0 n0 Z0 (by omega)) d8_12 (lenOf own_pd5 rfl) N0 (fun T2 L2 X2 e2 N2 => ?_)
  show Goes _ _ _ _ _ (fT T2 m 15 #[vr a, vi (Int32.ofNat ii), vi (Int32.ofNat nn), vi (Int32.ofNat jn), vi bs, vi st, vi z, vu] [(.int (own_F bs st z ii))])
  refine gS X2 hx hby d8_15 #[vr a, vi (Int32.ofNat ii), vi (Int32.ofNat nn), vi (Int32.ofNat jn), vi bs, vi st, vi z, vi (own_F bs st z ii)] ?_
  refine gA X2 hx hby d8_17 rfl rfl rfl ?_
  refine gI X2 hx hby d8_18 rfl rfl ?_
  refine cVg X2 hx hZ hw hown hby hml e2 mN6 31 32 34 33 35 5 0 (rm_ctn l Z a0 hw [] a b kb d kd T K (own_E bs st z nn jn ii) (own_F bs st z ii) h0 n0 Z0 A_a F_codePoints_a F_counts_a F_size_a V_b V_d g_a g_b g_d ne_a_b ne_a_d ne_b_d hO (own_Fn hB (by omega)) (own_Ek hB (by omega)) (by omega)) A_a d8_20 (lenOf own_pd6 rfl) (fun _ T3 L3 X3 hQ3 => ?_)
  obtain ⟨T23, K23, rfl, N3q, K3, F_codePoints_a_3', F_counts_a_3', F_size_a_3', V_b_3', V_d_3', hO_3'⟩ := hQ3
  have N3 := Fr.app N2 N3q
  replace A_a := A_a.keep K3
  replace KP := KP.trans K3 (allS (Or.inl (List.mem_of_getElem? (i := 0) rfl)) (allS (Or.inl (List.mem_of_getElem? (i := 1) rfl)) (allS (Or.inl (List.mem_of_getElem? (i := 2) rfl)) all0)))
  replace Z0 := Nat.le_trans Z0 K3.1
  have F_codePoints_a := F_codePoints_a_3'
  have F_counts_a := F_counts_a_3'
  have F_size_a := F_size_a_3'
  have V_b := V_b_3'
  have V_d := V_d_3'
  have hO3 := hO_3'
  show Goes _ _ _ _ _ (fT T3 m 23 #[vr a, vi (Int32.ofNat ii), vi (Int32.ofNat nn), vi (Int32.ofNat jn), vi bs, vi st, vi z, vi (own_F bs st z ii)] [])
  refine gN X3 hx hby d8_23 rfl rfl ?_
  refine gN X3 hx hby d8_24 rfl rfl ?_
  show Goes _ _ _ _ _ (fT T3 m 25 #[vr a, vi (Int32.ofNat ii), vi (Int32.ofNat nn), vi (Int32.ofNat jn), vi bs, vi st, vi z, vi (own_F bs st z ii)] [(.int (Int32.ofNat jn)), (.int (Int32.ofNat ii))])
  by_cases hc25_4 : (Int32.ofNat ii) = (Int32.ofNat jn)
  ·refine gU X3 hx hby d8_25 (teq hc25_4).2 ?_
   have hij : ii = jn := own_ofE (by omega) (by omega) hc25_4
   refine gA X3 hx hby d8_28 rfl rfl rfl ?_
   refine gI X3 hx hby d8_29 rfl rfl ?_
   refine cVg X3 hx hZ hw hown hby hml rfl mN6 31 32 34 33 35 5 0 (rm_cto l Z a0 hw [] 16 a b kb d kd T23 K23 (own_E bs st z nn jn ii) (own_F bs st z ii) (1 : Int32) T3.heap n0 Z0 A_a F_codePoints_a F_counts_a V_b V_d g_a g_b g_d ne_a_b ne_a_d ne_b_d hO3 (by omega)) A_a d8_31 (lenOf own_pd6 rfl) (fun _ T5 L5 X5 hQ5 => ?_)
   obtain ⟨K25, rfl, N5q, K5, V_d_5', hO_5'⟩ := hQ5
   have N5 := Fr.app N3 N5q
   replace F_codePoints_a := F_codePoints_a.keep K5 (ninS ne_a_d nin0)
   replace F_counts_a := F_counts_a.keep K5 (ninS ne_a_d nin0)
   replace F_size_a := F_size_a.keep K5 (ninS ne_a_d nin0)
   replace V_b := V_b.keep K5 (ninS ne_b_d nin0)
   replace KP := KP.trans K5 (allS (Or.inl (List.mem_of_getElem? (i := 2) rfl)) all0)
   replace Z0 := Nat.le_trans Z0 K5.1
   have V_d := V_d_5'
   have hO5 := hO_5'
   show Goes _ _ _ _ _ (fT T5 m 34 #[vr a, vi (Int32.ofNat ii), vi (Int32.ofNat nn), vi (Int32.ofNat jn), vi bs, vi st, vi z, vi (own_F bs st z ii)] [])
   have eE : (own_E bs st z nn jn (ii + 1)) = (((own_F bs st z ii), ((1 : Int32) + (1 : Int32))) :: (own_E bs st z nn jn ii)) := own_E2 hlt hij
   have F_size_a : Fld Z T5.heap a "com/example/tandemtrie/tandemtrie/build/CodePointCounts" "size" "I" (.int (Int32.ofNat (own_E bs st z nn jn (ii + 1)).length)) := by rw [eE]; exact F_size_a
   have hO9 : Oinv (own_h 16) 16 T23 K25 (own_E bs st z nn jn (ii + 1)) := by rw [eE]; exact hO5
   refine Goes.ret X5 none (fun _ => rfl) hlk (by decide) (by decide) ?_ (fun fs hr => ?_)
   ·exact ⟨T23, K25, rfl, N5, KP, F_codePoints_a, F_counts_a, F_size_a, V_b, V_d, hO9⟩
   ·exact X5.returnOut hx hret (hb hby d8_34) hr
  ·refine gY X3 hx hby d8_25 25 34 (feq hc25_4).2 ?_
   have hij : ¬ ii = jn := fun q => hc25_4 (by rw [q])
   have eE : (own_E bs st z nn jn (ii + 1)) = (((own_F bs st z ii), (1 : Int32)) :: (own_E bs st z nn jn ii)) := own_E1 hlt hij
   have F_size_a : Fld Z T3.heap a "com/example/tandemtrie/tandemtrie/build/CodePointCounts" "size" "I" (.int (Int32.ofNat (own_E bs st z nn jn (ii + 1)).length)) := by rw [eE]; exact F_size_a
   have hO9 : Oinv (own_h 16) 16 T23 K23 (own_E bs st z nn jn (ii + 1)) := by rw [eE]; exact hO3
   refine Goes.ret X3 none (fun _ => rfl) hlk (by decide) (by decide) ?_ (fun fs hr => ?_)
   ·exact ⟨T23, K23, rfl, N3, KP, F_codePoints_a, F_counts_a, F_size_a, V_b, V_d, hO9⟩
   ·exact X3.returnOut hx hret (hb hby d8_34) hr
 ·refine gY X0 hx hby d8_2 2 34 (flt hc2_1).2.1 ?_
  have hge : ¬ ii < nn := fun q => hc2_1 ((own_ltN (by omega) (by omega)).mpr q)
  have eE : (own_E bs st z nn jn (ii + 1)) = (own_E bs st z nn jn ii) := own_EN hge
  have F_size_a : Fld Z h0 a "com/example/tandemtrie/tandemtrie/build/CodePointCounts" "size" "I" (.int (Int32.ofNat (own_E bs st z nn jn (ii + 1)).length)) := by rw [eE]; exact F_size_a
  have hO9 : Oinv (own_h 16) 16 T K (own_E bs st z nn jn (ii + 1)) := by rw [eE]; exact hO
  refine Goes.ret X0 none (fun _ => rfl) hlk (by decide) (by decide) ?_ (fun fs hr => ?_)
  ·rw [e0]; exact ⟨T, K, rfl, N0, KP, F_codePoints_a, F_counts_a, F_size_a, V_b, V_d, hO9⟩
  ·exact X0.returnOut hx hret (hb hby d8_34) hr
theorem own_ef_rm_fd8 (m : MethodId) (x0 : Addr) (x1 : Int32) (x2 : Int32) (x3 : Int32) (x4 : Int32) (x5 : Int32) (x6 : Int32) : entryFrame m #[(.ref x0), (.int x1), (.int x2), (.int x3), (.int x4), (.int x5), (.int x6)] 8 = mkF m 0 #[vr x0, vi x1, vi x2, vi x3, vi x4, vi x5, vi x6, vu] [] := by first | (simp [entryFrame, mkF, argsToLocals, Value.category]; done) | rfl
def Q_rm_fd8 (Z : State) (a : Addr) (b : Addr) (kb : ClassId) (d : Addr) (kd : ClassId) (T : List Int32) (K : List Int32) (ii : Nat) (nn : Nat) (jn : Nat) (bs : Int32) (st : Int32) (z : Int32) (h0 : Heap) (n0 : Nat) (v : Option Value) (h : Heap) (L : List Loc) : Prop := ∃ b2 : Addr, ∃ kb2 : ClassId, ∃ d2 : Addr, ∃ kd2 : ClassId, ∃ n2 : Nat, ∃ T2 : List Int32, ∃ K2 : List Int32, v = none ∧ Fr n0 L ∧ Keep h0 h [a, b, d] ∧ Fld Z h a "com/example/tandemtrie/tandemtrie/build/CodePointCounts" "codePoints" "[I" (.ref b2) ∧ Fld Z h a "com/example/tandemtrie/tandemtrie/build/CodePointCounts" "counts" "[I" (.ref d2) ∧ Fld Z h a "com/example/tandemtrie/tandemtrie/build/CodePointCounts" "size" "I" (.int (Int32.ofNat (own_E bs st z nn jn (ii + 1)).length)) ∧ Arv Z h b2 kb2 .int (Int32.ofNat n2) (iV T2) (.int 0) ∧ Arv Z h d2 kd2 .int (Int32.ofNat n2) (iV K2) (.int 0) ∧ n0 ≤ b2 ∧ n0 ≤ d2 ∧ Oinv (own_h n2) n2 T2 K2 (own_E bs st z nn jn (ii + 1))
theorem rm_fd8 (l : Launch) (Z : State) (a0 : Array Value) (hw : HW a0 Z) (ws : List Jvm.Cond) (a : Addr) (b : Addr) (kb : ClassId) (d : Addr) (kd : ClassId) (T : List Int32) (K : List Int32) (ii : Nat) (nn : Nat) (jn : Nat) (bs : Int32) (st : Int32) (z : Int32) (h0 : Heap) (n0 : Nat) (Z0 : n0 ≤ h0.size) (A_a : Exa Z h0 a "com/example/tandemtrie/tandemtrie/build/CodePointCounts") (F_codePoints_a : Fld Z h0 a "com/example/tandemtrie/tandemtrie/build/CodePointCounts" "codePoints" "[I" (.ref b)) (F_counts_a : Fld Z h0 a "com/example/tandemtrie/tandemtrie/build/CodePointCounts" "counts" "[I" (.ref d)) (F_size_a : Fld Z h0 a "com/example/tandemtrie/tandemtrie/build/CodePointCounts" "size" "I" (.int (Int32.ofNat (own_E bs st z nn jn ii).length))) (V_b : Arv Z h0 b kb .int (Int32.ofNat 16) (iV T) (.int 0)) (V_d : Arv Z h0 d kd .int (Int32.ofNat 16) (iV K) (.int 0)) (g_a : n0 ≤ a) (g_b : n0 ≤ b) (g_d : n0 ≤ d) (ne_a_b : a ≠ b) (ne_a_d : a ≠ d) (ne_b_d : b ≠ d) (hO : Oinv (own_h 16) 16 T K (own_E bs st z nn jn ii)) (hB : Bnd bs st) (hn9 : nn ≤ 9) (hj9 : jn ≤ 9) (hi8 : ii = 8) :
  Met l Z mN8 method_4_code 8 none ({ frames := 4, cells := 2, slots := 64, locals := 59 } : Room) ws #[(.ref a), (.int (Int32.ofNat ii)), (.int (Int32.ofNat nn)), (.int (Int32.ofNat jn)), (.int bs), (.int st), (.int z)] h0 (Q_rm_fd8 Z a b kb d kd T K ii nn jn bs st z h0 n0) := by
 refine own_met (plainFor_of_name own_pn3) ?_
 intro p e s m below meth c s₁ hret hx hby hlk hml hown hnm X0 e0 hZ hh
 have N0 := Fr.nil n0
 refine Gz (castTop (own_ef_rm_fd8 m a (Int32.ofNat ii) (Int32.ofNat nn) (Int32.ofNat jn) bs st z)) ?_
 have KP : Keep h0 h0 [a, b, d] := Keep.refl _ _
 show Goes _ _ _ _ _ (fT s₁ m 0 #[vr a, vi (Int32.ofNat ii), vi (Int32.ofNat nn), vi (Int32.ofNat jn), vi bs, vi st, vi z, vu] [])
 refine gN X0 hx hby d8_0 rfl rfl ?_
 refine gN X0 hx hby d8_1 rfl rfl ?_
 by_cases hc2_1 : (Int32.ofNat ii) < (Int32.ofNat nn)
 ·refine gU X0 hx hby d8_2 (tlt hc2_1).2.1 ?_
  have hlt : ii < nn := (own_ltN (by omega) (by omega)).mp hc2_1
  have hl := own_EL bs st z nn jn ii
  refine gN X0 hx hby d8_5 rfl rfl ?_
  refine gI X0 hx hby d8_6 rfl rfl ?_
  refine gI X0 hx hby d8_8 rfl rfl ?_
  show Goes _ _ _ _ _ (fT s₁ m 10 #[vr a, vi (Int32.ofNat ii), vi (Int32.ofNat nn), vi (Int32.ofNat jn), vi bs, vi st, vi z, vu] [(.int st), (.int bs), (.int (Int32.ofNat ii))])
  refine gI X0 hx hby d8_10 rfl rfl ?_
  refine cS X0 hx hZ hw hown hby hml e0 mN7 28 29 30 26 0 (rm_cpo l Z a0 hw [] ii bs st z h0 n0 Z0 (by omega)) d8_12 (lenOf own_pd5 rfl) N0 (fun T2 L2 X2 e2 N2 => ?_)
  show Goes _ _ _ _ _ (fT T2 m 15 #[vr a, vi (Int32.ofNat ii), vi (Int32.ofNat nn), vi (Int32.ofNat jn), vi bs, vi st, vi z, vu] [(.int (own_F bs st z ii))])
  refine gS X2 hx hby d8_15 #[vr a, vi (Int32.ofNat ii), vi (Int32.ofNat nn), vi (Int32.ofNat jn), vi bs, vi st, vi z, vi (own_F bs st z ii)] ?_
  refine gA X2 hx hby d8_17 rfl rfl rfl ?_
  refine gI X2 hx hby d8_18 rfl rfl ?_
  have ltc3_a : a < h0.size := A_a.lt
  have ltc3_b : b < h0.size := V_b.lt
  have ltc3_d : d < h0.size := V_d.lt
  have szs3 : h0.size ≤ h0.size := KP.1
  refine cVg X2 hx hZ hw hown hby hml e2 mN6 31 32 34 33 35 5 0 (rm_ctg l Z a0 hw [] a b kb d kd T K (own_E bs st z nn jn ii) (own_F bs st z ii) h0 n0 Z0 A_a F_codePoints_a F_counts_a F_size_a V_b V_d g_a g_b g_d ne_a_b ne_a_d ne_b_d hO (own_Fn hB (by omega)) (own_Ek hB (by omega)) (by omega)) A_a d8_20 (lenOf own_pd6 rfl) (fun _ T3 L3 X3 hQ3 => ?_)
  obtain ⟨b23, kb23, d23, kd23, T23, K23, rfl, N3q, K3, F_codePoints_a_3', F_counts_a_3', F_size_a_3', V_b23_3', V_d23_3', g_b23_3', g_d23_3', sz_b23_3', sz_d23_3', ne_b23_d23_3', hO_3'⟩ := hQ3
  have N3 := Fr.app N2 N3q
  replace A_a := A_a.keep K3
  replace V_b := V_b.keep K3 (ninS (Ne.symm ne_a_b) nin0)
  replace V_d := V_d.keep K3 (ninS (Ne.symm ne_a_d) nin0)
  replace KP := KP.trans K3 (allS (Or.inl (List.mem_of_getElem? (i := 0) rfl)) all0)
  replace Z0 := Nat.le_trans Z0 K3.1
  have F_codePoints_a := F_codePoints_a_3'
  have F_counts_a := F_counts_a_3'
  have F_size_a := F_size_a_3'
  have V_b23 := V_b23_3'
  have V_d23 := V_d23_3'
  have g_b23 := g_b23_3'
  have g_d23 := g_d23_3'
  have szc_b23 := sz_b23_3'
  have ne_a_b23 : a ≠ b23 := Nat.ne_of_lt (Nat.lt_of_lt_of_le ltc3_a szc_b23)
  have ne_b_b23 : b ≠ b23 := Nat.ne_of_lt (Nat.lt_of_lt_of_le ltc3_b szc_b23)
  have ne_d_b23 : d ≠ b23 := Nat.ne_of_lt (Nat.lt_of_lt_of_le ltc3_d szc_b23)
  have szc_d23 := sz_d23_3'
  have ne_a_d23 : a ≠ d23 := Nat.ne_of_lt (Nat.lt_of_lt_of_le ltc3_a szc_d23)
  have ne_b_d23 : b ≠ d23 := Nat.ne_of_lt (Nat.lt_of_lt_of_le ltc3_b szc_d23)
  have ne_d_d23 : d ≠ d23 := Nat.ne_of_lt (Nat.lt_of_lt_of_le ltc3_d szc_d23)
  have sz_d23 : h0.size ≤ d23 := Nat.le_trans szs3 szc_d23
  have ne_b23_d23 := ne_b23_d23_3'
  have hO3 := hO_3'
  show Goes _ _ _ _ _ (fT T3 m 23 #[vr a, vi (Int32.ofNat ii), vi (Int32.ofNat nn), vi (Int32.ofNat jn), vi bs, vi st, vi z, vi (own_F bs st z ii)] [])
  refine gN X3 hx hby d8_23 rfl rfl ?_
  refine gN X3 hx hby d8_24 rfl rfl ?_
  show Goes _ _ _ _ _ (fT T3 m 25 #[vr a, vi (Int32.ofNat ii), vi (Int32.ofNat nn), vi (Int32.ofNat jn), vi bs, vi st, vi z, vi (own_F bs st z ii)] [(.int (Int32.ofNat jn)), (.int (Int32.ofNat ii))])
  by_cases hc25_4 : (Int32.ofNat ii) = (Int32.ofNat jn)
  ·refine gU X3 hx hby d8_25 (teq hc25_4).2 ?_
   have hij : ii = jn := own_ofE (by omega) (by omega) hc25_4
   refine gA X3 hx hby d8_28 rfl rfl rfl ?_
   refine gI X3 hx hby d8_29 rfl rfl ?_
   refine cVg X3 hx hZ hw hown hby hml rfl mN6 31 32 34 33 35 5 0 (rm_cto l Z a0 hw [] 32 a b23 kb23 d23 kd23 T23 K23 (own_E bs st z nn jn ii) (own_F bs st z ii) (1 : Int32) T3.heap n0 Z0 A_a F_codePoints_a F_counts_a V_b23 V_d23 g_a g_b23 g_d23 ne_a_b23 ne_a_d23 ne_b23_d23 hO3 (by omega)) A_a d8_31 (lenOf own_pd6 rfl) (fun _ T5 L5 X5 hQ5 => ?_)
   obtain ⟨K25, rfl, N5q, K5, V_d23_5', hO_5'⟩ := hQ5
   have N5 := Fr.app N3 N5q
   replace V_b := V_b.keep K5 (ninS ne_b_d23 nin0)
   replace V_d := V_d.keep K5 (ninS ne_d_d23 nin0)
   replace F_codePoints_a := F_codePoints_a.keep K5 (ninS ne_a_d23 nin0)
   replace F_counts_a := F_counts_a.keep K5 (ninS ne_a_d23 nin0)
   replace F_size_a := F_size_a.keep K5 (ninS ne_a_d23 nin0)
   replace V_b23 := V_b23.keep K5 (ninS ne_b23_d23 nin0)
   replace KP := KP.trans K5 (allS (Or.inr sz_d23) all0)
   replace Z0 := Nat.le_trans Z0 K5.1
   have V_d23 := V_d23_5'
   have hO5 := hO_5'
   show Goes _ _ _ _ _ (fT T5 m 34 #[vr a, vi (Int32.ofNat ii), vi (Int32.ofNat nn), vi (Int32.ofNat jn), vi bs, vi st, vi z, vi (own_F bs st z ii)] [])
   have eE : (own_E bs st z nn jn (ii + 1)) = (((own_F bs st z ii), ((1 : Int32) + (1 : Int32))) :: (own_E bs st z nn jn ii)) := own_E2 hlt hij
   have F_size_a : Fld Z T5.heap a "com/example/tandemtrie/tandemtrie/build/CodePointCounts" "size" "I" (.int (Int32.ofNat (own_E bs st z nn jn (ii + 1)).length)) := by rw [eE]; exact F_size_a
   have hO9 : Oinv (own_h 32) 32 T23 K25 (own_E bs st z nn jn (ii + 1)) := by rw [eE]; exact hO5
   refine Goes.ret X5 none (fun _ => rfl) hlk (by decide) (by decide) ?_ (fun fs hr => ?_)
   ·exact ⟨b23, kb23, d23, kd23, 32, T23, K25, rfl, N5, KP, F_codePoints_a, F_counts_a, F_size_a, V_b23, V_d23, g_b23, g_d23, hO9⟩
   ·exact X5.returnOut hx hret (hb hby d8_34) hr
  ·refine gY X3 hx hby d8_25 25 34 (feq hc25_4).2 ?_
   have hij : ¬ ii = jn := fun q => hc25_4 (by rw [q])
   have eE : (own_E bs st z nn jn (ii + 1)) = (((own_F bs st z ii), (1 : Int32)) :: (own_E bs st z nn jn ii)) := own_E1 hlt hij
   have F_size_a : Fld Z T3.heap a "com/example/tandemtrie/tandemtrie/build/CodePointCounts" "size" "I" (.int (Int32.ofNat (own_E bs st z nn jn (ii + 1)).length)) := by rw [eE]; exact F_size_a
   have hO9 : Oinv (own_h 32) 32 T23 K23 (own_E bs st z nn jn (ii + 1)) := by rw [eE]; exact hO3
   refine Goes.ret X3 none (fun _ => rfl) hlk (by decide) (by decide) ?_ (fun fs hr => ?_)
   ·exact ⟨b23, kb23, d23, kd23, 32, T23, K23, rfl, N3, KP, F_codePoints_a, F_counts_a, F_size_a, V_b23, V_d23, g_b23, g_d23, hO9⟩
   ·exact X3.returnOut hx hret (hb hby d8_34) hr
 ·refine gY X0 hx hby d8_2 2 34 (flt hc2_1).2.1 ?_
  have hge : ¬ ii < nn := fun q => hc2_1 ((own_ltN (by omega) (by omega)).mpr q)
  have eE : (own_E bs st z nn jn (ii + 1)) = (own_E bs st z nn jn ii) := own_EN hge
  have F_size_a : Fld Z h0 a "com/example/tandemtrie/tandemtrie/build/CodePointCounts" "size" "I" (.int (Int32.ofNat (own_E bs st z nn jn (ii + 1)).length)) := by rw [eE]; exact F_size_a
  have hO9 : Oinv (own_h 16) 16 T K (own_E bs st z nn jn (ii + 1)) := by rw [eE]; exact hO
  refine Goes.ret X0 none (fun _ => rfl) hlk (by decide) (by decide) ?_ (fun fs hr => ?_)
  ·rw [e0]; exact ⟨b, kb, d, kd, 16, T, K, rfl, N0, KP, F_codePoints_a, F_counts_a, F_size_a, V_b, V_d, g_b, g_d, hO9⟩
  ·exact X0.returnOut hx hret (hb hby d8_34) hr
theorem d9_0 : DK kc2 0 (.iload_n 1) 1 := by decide +kernel
theorem d9_1 : DK kc2 1 (.istore 4) 2 := by decide +kernel
theorem d9_3 : DK kc2 3 (.iinc 4 1) 3 := by decide +kernel
theorem d9_6 : DK kc2 6 (.iload 4) 2 := by decide +kernel
theorem d9_8 : DK kc2 8 (.iload_n 2) 1 := by decide +kernel
theorem d9_9 : DK kc2 9 (.if_icmp .ge 60) 3 := by decide +kernel
theorem d9_12 : DK kc2 12 (.aload_n 0) 1 := by decide +kernel
theorem d9_13 : DK kc2 13 (.iload 4) 2 := by decide +kernel
theorem d9_15 : DK kc2 15 .dup 1 := by decide +kernel
theorem d9_16 : DK kc2 16 (.istore_n 3) 1 := by decide +kernel
theorem d9_17 : DK kc2 17 .laload 1 := by decide +kernel
theorem d9_18 : DK kc2 18 (.lstore 5) 2 := by decide +kernel
theorem d9_20 : DK kc2 20 (.lload 5) 2 := by decide +kernel
theorem d9_22 : DK kc2 22 (.aload_n 0) 1 := by decide +kernel
theorem d9_23 : DK kc2 23 (.iload_n 3) 1 := by decide +kernel
theorem d9_24 : DK kc2 24 (.iconst 1) 1 := by decide +kernel
theorem d9_25 : DK kc2 25 .isub 1 := by decide +kernel
theorem d9_26 : DK kc2 26 .laload 1 := by decide +kernel
theorem d9_27 : DK kc2 27 .lcmp 1 := by decide +kernel
theorem d9_28 : DK kc2 28 (.ifCond .ge 38) 3 := by decide +kernel
theorem d9_31 : DK kc2 31 (.iinc 3 (-1)) 3 := by decide +kernel
theorem d9_34 : DK kc2 34 (.iload_n 3) 1 := by decide +kernel
theorem d9_35 : DK kc2 35 (.iload_n 1) 1 := by decide +kernel
theorem d9_36 : DK kc2 36 (.if_icmp .lt 23) 3 := by decide +kernel
theorem d9_59 : DK kc2 59 (.aload_n 0) 1 := by decide +kernel
theorem d9_60 : DK kc2 60 (.iload_n 3) 1 := by decide +kernel
theorem d9_61 : DK kc2 61 (.iconst 1) 1 := by decide +kernel
theorem d9_62 : DK kc2 62 .iadd 1 := by decide +kernel
theorem d9_63 : DK kc2 63 (.lload 5) 2 := by decide +kernel
theorem d9_65 : DK kc2 65 .lastore 1 := by decide +kernel
theorem d9_66 : DK kc2 66 (.goto (-63)) 3 := by decide +kernel
theorem d9_39 : DK kc2 39 (.lload 5) 2 := by decide +kernel
theorem d9_41 : DK kc2 41 (.aload_n 0) 1 := by decide +kernel
theorem d9_42 : DK kc2 42 (.iload_n 3) 1 := by decide +kernel
theorem d9_43 : DK kc2 43 .laload 1 := by decide +kernel
theorem d9_44 : DK kc2 44 .lcmp 1 := by decide +kernel
theorem d9_45 : DK kc2 45 (.ifCond .ge 14) 3 := by decide +kernel
theorem d9_48 : DK kc2 48 (.aload_n 0) 1 := by decide +kernel
theorem d9_49 : DK kc2 49 (.iload_n 3) 1 := by decide +kernel
theorem d9_50 : DK kc2 50 (.iconst 1) 1 := by decide +kernel
theorem d9_51 : DK kc2 51 .iadd 1 := by decide +kernel
theorem d9_52 : DK kc2 52 (.aload_n 0) 1 := by decide +kernel
theorem d9_53 : DK kc2 53 (.iload_n 3) 1 := by decide +kernel
theorem d9_54 : DK kc2 54 .laload 1 := by decide +kernel
theorem d9_55 : DK kc2 55 .lastore 1 := by decide +kernel
theorem d9_56 : DK kc2 56 (.goto (-25)) 3 := by decide +kernel
theorem d9_69 : DK kc2 69 .return_ 1 := by decide +kernel
theorem own_pn4 : plainName "java/util/DualPivotQuicksort" = true := by first | (simp [plainName, overriddenIn]; done) | decide +kernel
theorem own_ef_rm_ins (m : MethodId) (x0 : Addr) (x2 : Int32) : entryFrame m #[(.ref x0), (.int 0), (.int x2)] 7 = mkF m 0 #[vr x0, vi 0, vi x2, vu, vu, vu, vu] [] := by first | (simp [entryFrame, mkF, argsToLocals, Value.category]; done) | rfl
def Q_rm_ins (Z : State) (r : Addr) (k : ClassId) (A : List Int64) (mm : Nat) (h0 : Heap) (n0 : Nat) (v : Option Value) (h : Heap) (L : List Loc) : Prop := ∃ A2 : List Int64, v = none ∧ Fr n0 L ∧ Keep h0 h [r] ∧ Arv Z h r k .long (Int32.ofNat mm) (jV A2) (.long 0) ∧ A2.Perm A ∧ A2.Pairwise own_le
theorem rm_ins (l : Launch) (Z : State) (a0 : Array Value) (hw : HW a0 Z) (ws : List Jvm.Cond) (r : Addr) (k : ClassId) (A : List Int64) (mm : Nat) (h0 : Heap) (n0 : Nat) (Z0 : n0 ≤ h0.size) (V_r : Arv Z h0 r k .long (Int32.ofNat mm) (jV A) (.long 0)) (g_r : n0 ≤ r) (hA : A.length = mm) (hm9 : mm ≤ 9) :
  Met l Z mN9 jdk_2529_method_15_code 7 none ({ frames := 0, cells := 0, slots := 0, locals := 0 } : Room) ws #[(.ref r), (.int 0), (.int (Int32.ofNat mm))] h0 (Q_rm_ins Z r k A mm h0 n0) := by
 refine own_met (plainFor_of_name own_pn4) ?_
 intro p e s m below meth c s₁ hret hx hby hlk hml hown hnm X0 e0 hZ hh
 have N0 := Fr.nil n0
 refine Gz (castTop (own_ef_rm_ins m r (Int32.ofNat mm))) ?_
 have KP : Keep h0 h0 [r] := Keep.refl _ _
 show Goes _ _ _ _ _ (fT s₁ m 0 #[vr r, vi 0, vi (Int32.ofNat mm), vu, vu, vu, vu] [])
 refine gN X0 hx hby d9_0 rfl rfl ?_
 refine gS X0 hx hby d9_1 #[vr r, vi 0, vi (Int32.ofNat mm), vu, vi 0, vu, vu] ?_
 show Goes _ _ _ _ _ (fT s₁ m 3 #[vr r, vi 0, vi (Int32.ofNat mm), vu, vi 0, vu, vu] [])
 refine own_loopG (ι := Nat × Option (Int32 × Int64)) (μ := fun i => mm - i.1) (I := fun i T L => i.1 ≤ mm ∧ Fr n0 L ∧ n0 ≤ T.heap.size ∧ Keep h0 T.heap [r] ∧ ∃ B : List Int64, Arv Z T.heap r k .long (Int32.ofNat mm) (jV B) (.long 0) ∧ B.Perm A ∧ (B.take (i.1 + 1)).Pairwise own_le) (B := fun i T => T.setTop (mkF m 3 #[vr r, vi 0, vi (Int32.ofNat mm), (own_o3 i.2), vi (Int32.ofNat i.1), (own_o5 i.2), (own_o6 i.2)] [])) ?_ (0, none) X0 ⟨Nat.zero_le _, N0, (by rw [e0]; exact Z0), (by rw [e0]; exact KP), _, (by rw [e0]; exact V_r), List.Perm.refl _, own_srt1 A⟩
 intro i5 T5 L5 X5 hI ih
 obtain ⟨j, o5⟩ := i5
 obtain ⟨hj, N5, Z0, KP, B, V_r, hBp, hBs⟩ := hI
 dsimp only at hj hBs ih ⊢
 have hBl : B.length = mm := hBp.length_eq.trans hA
 rcases o5 with _ | ⟨u5, v5⟩
 ·show Goes _ _ _ _ _ (fT T5 m 3 #[vr r, vi 0, vi (Int32.ofNat mm), vu, vi (Int32.ofNat j), vu, vu] [])
  refine Gz (XS.iinc X5.here hx rfl (hb hby d9_3) rfl (l' := #[vr r, vi 0, vi (Int32.ofNat mm), vu, vi ((Int32.ofNat j) + 1), vu, vu]) rfl) ?_
  show Goes _ _ _ _ _ (fT T5 m 6 #[vr r, vi 0, vi (Int32.ofNat mm), vu, vi ((Int32.ofNat j) + 1), vu, vu] [])
  rw [own_ofS]
  show Goes _ _ _ _ _ (fT T5 m 6 #[vr r, vi 0, vi (Int32.ofNat mm), vu, vi (Int32.ofNat (j + 1)), vu, vu] [])
  refine gI X5 hx hby d9_6 rfl rfl ?_
  refine gN X5 hx hby d9_8 rfl rfl ?_
  by_cases hc9_1 : (Int32.ofNat (j + 1)) < (Int32.ofNat mm)
  ·refine gU X5 hx hby d9_9 (tlt hc9_1).2.1 ?_
   have hlt : j + 1 < mm := (own_ltN (by omega) (by omega)).mp hc9_1
   refine gA X5 hx hby d9_12 rfl rfl rfl ?_
   refine gI X5 hx hby d9_13 rfl rfl ?_
   refine Gz (XS.dup X5.here hx rfl (hb hby d9_15) rfl rfl) ?_
   show Goes _ _ _ _ _ (fT T5 m 16 #[vr r, vi 0, vi (Int32.ofNat mm), vu, vi (Int32.ofNat (j + 1)), vu, vu] [(.int (Int32.ofNat (j + 1))), (.int (Int32.ofNat (j + 1))), (.ref r)])
   refine gs X5 hx hby d9_16 #[vr r, vi 0, vi (Int32.ofNat mm), vi (Int32.ofNat (j + 1)), vi (Int32.ofNat (j + 1)), vu, vu] ?_
   obtain ⟨cl2, Ar2, -, S2, N2z, H2, -⟩ := id V_r
   have hin2 : ¬ ((Int32.ofNat (j + 1)) < 0 ∨ cl2.slots.size ≤ ((Int32.ofNat (j + 1))).toNatClampNeg) := inb_of S2 ⟨(own_tnO (n := (j + 1)) (by omega)).2.1, (own_ltN (by omega) (by omega)).mpr hlt⟩
   have hat2 : cl2.slots[((Int32.ofNat (j + 1))).toNatClampNeg]? = some (.long (B.getD (j + 1) 0)) := Has.at H2 hin2 (by rw [(own_tnO (n := (j + 1)) (by omega)).1, own_jVg])
   refine Gs (fun _ tk => X5.laload hx (j := (Int32.ofNat (j + 1))) (v := (.long (B.getD (j + 1) 0))) Ar2.1 (State.isArrayOf_alike hZ.alike Ar2.2.1) Ar2.2.2 hin2 hat2 (g := (mkF m 17 #[vr r, vi 0, vi (Int32.ofNat mm), vi (Int32.ofNat (j + 1)), vi (Int32.ofNat (j + 1)), vu, vu] [(.int (Int32.ofNat (j + 1))), (.ref r)])) rfl rfl (hb hby d9_17) _ tk) ?_
   show Goes _ _ _ _ _ (fT T5 m 18 #[vr r, vi 0, vi (Int32.ofNat mm), vi (Int32.ofNat (j + 1)), vi (Int32.ofNat (j + 1)), vu, vu] [(.long (B.getD (j + 1) 0))])
   refine Gz (XS.lstore X5.here hx rfl (hb hby d9_18) rfl (l' := #[vr r, vi 0, vi (Int32.ofNat mm), vi (Int32.ofNat (j + 1)), vi (Int32.ofNat (j + 1)), .val (.long (B.getD (j + 1) 0)), .second]) rfl) ?_
   refine Gz (XS.lload X5.here hx rfl (hb hby d9_20) rfl) ?_
   refine gA X5 hx hby d9_22 rfl rfl rfl ?_
   refine gN X5 hx hby d9_23 rfl rfl ?_
   refine gC X5 hx hby d9_24 ?_
   show Goes _ _ _ _ _ (fT T5 m 25 #[vr r, vi 0, vi (Int32.ofNat mm), vi (Int32.ofNat (j + 1)), vi (Int32.ofNat (j + 1)), .val (.long (B.getD (j + 1) 0)), .second] [(.int 1), (.int (Int32.ofNat (j + 1))), (.ref r), (.long (B.getD (j + 1) 0))])
   refine Gz (XS.isub X5.here hx rfl (hb hby d9_25) rfl) ?_
   show Goes _ _ _ _ _ (fT T5 m 26 #[vr r, vi 0, vi (Int32.ofNat mm), vi (Int32.ofNat (j + 1)), vi (Int32.ofNat (j + 1)), .val (.long (B.getD (j + 1) 0)), .second] [(.int ((Int32.ofNat (j + 1)) - 1)), (.ref r), (.long (B.getD (j + 1) 0))])
   rw [own_ofP]
   show Goes _ _ _ _ _ (fT T5 m 26 #[vr r, vi 0, vi (Int32.ofNat mm), vi (Int32.ofNat (j + 1)), vi (Int32.ofNat (j + 1)), .val (.long (B.getD (j + 1) 0)), .second] [(.int (Int32.ofNat j)), (.ref r), (.long (B.getD (j + 1) 0))])
   obtain ⟨cl3, Ar3, -, S3, N3z, H3, -⟩ := id V_r
   have hin3 : ¬ ((Int32.ofNat j) < 0 ∨ cl3.slots.size ≤ ((Int32.ofNat j)).toNatClampNeg) := inb_of S3 ⟨(own_tnO (n := j) (by omega)).2.1, (own_ltN (by omega) (by omega)).mpr (by omega)⟩
   have hat3 : cl3.slots[((Int32.ofNat j)).toNatClampNeg]? = some (.long (B.getD j 0)) := Has.at H3 hin3 (by rw [(own_tnO (n := j) (by omega)).1, own_jVg])
   refine Gs (fun _ tk => X5.laload hx (j := (Int32.ofNat j)) (v := (.long (B.getD j 0))) Ar3.1 (State.isArrayOf_alike hZ.alike Ar3.2.1) Ar3.2.2 hin3 hat3 (g := (mkF m 26 #[vr r, vi 0, vi (Int32.ofNat mm), vi (Int32.ofNat (j + 1)), vi (Int32.ofNat (j + 1)), .val (.long (B.getD (j + 1) 0)), .second] [(.int (Int32.ofNat j)), (.ref r), (.long (B.getD (j + 1) 0))])) rfl rfl (hb hby d9_26) _ tk) ?_
   show Goes _ _ _ _ _ (fT T5 m 27 #[vr r, vi 0, vi (Int32.ofNat mm), vi (Int32.ofNat (j + 1)), vi (Int32.ofNat (j + 1)), .val (.long (B.getD (j + 1) 0)), .second] [(.long (B.getD j 0)), (.long (B.getD (j + 1) 0))])
   refine Gz (XS.lcmp X5.here hx rfl (hb hby d9_27) rfl) ?_
   show Goes _ _ _ _ _ (fT T5 m 28 #[vr r, vi 0, vi (Int32.ofNat mm), vi (Int32.ofNat (j + 1)), vi (Int32.ofNat (j + 1)), .val (.long (B.getD (j + 1) 0)), .second] [(.int (lcmpW (B.getD (j + 1) 0) (B.getD j 0)))])
   by_cases hc28_4 : (lcmpW (B.getD (j + 1) 0) (B.getD j 0)) < 0
   ·refine gu X5 hx hby d9_28 ((if0 _ _).trans (tlt hc28_4).2.1) ?_
    have hPl : (B.take (j + 1)).length = j + 1 := by rw [List.length_take]; omega
    replace V_r := own_arvE V_r (show jV B = jV (own_C (B.take (j + 1)) (j + 1) (B.getD (j + 1) 0) (B.drop (j + 1 + 1))) from by rw [own_C0 (by omega)])
    refine own_loopG (ι := Nat) (μ := fun q => q) (I := fun q T L => q ≤ j + 1 ∧ Fr n0 L ∧ n0 ≤ T.heap.size ∧ Keep h0 T.heap [r] ∧ ∃ x : Int64, Arv Z T.heap r k .long (Int32.ofNat mm) (jV (own_C (B.take (j + 1)) q x (B.drop (j + 1 + 1)))) (.long 0) ∧ ∀ t, q ≤ t → t < (B.take (j + 1)).length → own_le (B.getD (j + 1) 0) ((B.take (j + 1)).getD t 0)) (B := fun q T => T.setTop (mkF m 31 #[vr r, vi 0, vi (Int32.ofNat mm), vi (Int32.ofNat q), vi (Int32.ofNat (j + 1)), .val (.long (B.getD (j + 1) 0)), .second] [])) ?_ (j + 1) X5 ⟨Nat.le_refl _, N5, Z0, KP, _, V_r, fun t h1 h2 => absurd h2 (by omega)⟩
    intro q6 T6 L6 X6 hI6 ih6
    obtain ⟨hq6, N6, Z0, KP, x6, V_r, hall⟩ := hI6
    rcases q6 with _ | q7
    ·show Goes _ _ _ _ _ (fT T6 m 31 #[vr r, vi 0, vi (Int32.ofNat mm), vi (Int32.ofNat 0), vi (Int32.ofNat (j + 1)), .val (.long (B.getD (j + 1) 0)), .second] [])
     refine Gz (XS.iinc X6.here hx rfl (hb hby d9_31) rfl (l' := #[vr r, vi 0, vi (Int32.ofNat mm), vi ((Int32.ofNat 0) + (-1 : Int32)), vi (Int32.ofNat (j + 1)), .val (.long (B.getD (j + 1) 0)), .second]) rfl) ?_
     show Goes _ _ _ _ _ (fT T6 m 34 #[vr r, vi 0, vi (Int32.ofNat mm), vi ((Int32.ofNat 0) + (-1 : Int32)), vi (Int32.ofNat (j + 1)), .val (.long (B.getD (j + 1) 0)), .second] [])
     rw [show ((Int32.ofNat 0) + (-1 : Int32)) = (-1 : Int32) from by decide]
     show Goes _ _ _ _ _ (fT T6 m 34 #[vr r, vi 0, vi (Int32.ofNat mm), vi (-1 : Int32), vi (Int32.ofNat (j + 1)), .val (.long (B.getD (j + 1) 0)), .second] [])
     refine gN X6 hx hby d9_34 rfl rfl ?_
     refine gN X6 hx hby d9_35 rfl rfl ?_
     refine gY X6 hx hby d9_36 36 59 (tlt (by decide : ((-1 : Int32) < (0 : Int32)))).1 ?_
     refine gA X6 hx hby d9_59 rfl rfl rfl ?_
     refine gN X6 hx hby d9_60 rfl rfl ?_
     refine gC X6 hx hby d9_61 ?_
     show Goes _ _ _ _ _ (fT T6 m 62 #[vr r, vi 0, vi (Int32.ofNat mm), vi (-1 : Int32), vi (Int32.ofNat (j + 1)), .val (.long (B.getD (j + 1) 0)), .second] [(.int 1), (.int (-1 : Int32)), (.ref r)])
     refine Gz (XS.iadd X6.here hx rfl (hb hby d9_62) rfl) ?_
     show Goes _ _ _ _ _ (fT T6 m 63 #[vr r, vi 0, vi (Int32.ofNat mm), vi (-1 : Int32), vi (Int32.ofNat (j + 1)), .val (.long (B.getD (j + 1) 0)), .second] [(.int 0), (.ref r)])
     refine Gz (XS.lload X6.here hx rfl (hb hby d9_63) rfl) ?_
     show Goes _ _ _ _ _ (fT T6 m 65 #[vr r, vi 0, vi (Int32.ofNat mm), vi (-1 : Int32), vi (Int32.ofNat (j + 1)), .val (.long (B.getD (j + 1) 0)), .second] [(.long (B.getD (j + 1) 0)), (.int 0), (.ref r)])
     obtain ⟨cl5, Ar5, q5, S5, N5z, H5, G5⟩ := V_r
     have hin5 : ¬ ((0 : Int32) < 0 ∨ cl5.slots.size ≤ ((0 : Int32)).toNatClampNeg) := inb_of S5 ⟨by decide, (own_ltN (i := 0) (by decide) (by omega)).mpr (by omega)⟩
     obtain ⟨T5, h5, X5, e5, W5, st5⟩ := stJ X6 hx hZ rfl Ar5 (j := (0 : Int32)) hin5 (g := (mkF m 65 #[vr r, vi 0, vi (Int32.ofNat mm), vi (-1 : Int32), vi (Int32.ofNat (j + 1)), .val (.long (B.getD (j + 1) 0)), .second] [(.long (B.getD (j + 1) 0)), (.int 0), (.ref r)])) rfl rfl (hb hby d9_65)
     have Vn5 := Arv.set Ar5 q5 S5 N5z H5 G5 rfl W5 (0) rfl (by rw [own_jVL, own_CL (by omega)]; omega)
     have N5 := Fr.snoc X5 N6 g_r
     replace KP := KP.wr W5 (Or.inl (List.mem_of_getElem? (i := 0) rfl))
     have V_r : Arv Z h5 r k .long (Int32.ofNat mm) (jV (own_C (B.take (j + 1)) 0 (B.getD (j + 1) 0) (B.drop (j + 1 + 1)))) (.long 0) := own_arvE Vn5 (by rw [own_jVs, own_Cset (by omega)])
     replace Z0 : n0 ≤ h5.size := by rw [W5.size]; exact Z0
     refine Gs st5 ?_
     show Goes _ _ _ _ _ (fT T5 m 66 #[vr r, vi 0, vi (Int32.ofNat mm), vi (-1 : Int32), vi (Int32.ofNat (j + 1)), .val (.long (B.getD (j + 1) 0)), .second] [])
     refine gG X5 hx hby d9_66 66 3 ?_
     show Goes _ _ _ _ _ (fT T5 m 3 #[vr r, vi 0, vi (Int32.ofNat mm), vi (-1 : Int32), vi (Int32.ofNat (j + 1)), .val (.long (B.getD (j + 1) 0)), .second] [])
     exact ih (j + 1, some ((-1 : Int32), (B.getD (j + 1) 0))) _ _ (by dsimp only; omega) X5 ⟨(by dsimp only; omega), N5, (by rw [e5]; exact Z0), (by rw [e5]; exact KP), _, (by rw [e5]; exact V_r), ((own_Cperm (i := 0)).trans (by rw [own_C1 (by omega)]; exact hBp)), (own_srtC hPl hBs (by omega) hall (Or.inl rfl))⟩
    ·show Goes _ _ _ _ _ (fT T6 m 31 #[vr r, vi 0, vi (Int32.ofNat mm), vi (Int32.ofNat (q7 + 1)), vi (Int32.ofNat (j + 1)), .val (.long (B.getD (j + 1) 0)), .second] [])
     refine Gz (XS.iinc X6.here hx rfl (hb hby d9_31) rfl (l' := #[vr r, vi 0, vi (Int32.ofNat mm), vi ((Int32.ofNat (q7 + 1)) + (-1 : Int32)), vi (Int32.ofNat (j + 1)), .val (.long (B.getD (j + 1) 0)), .second]) rfl) ?_
     show Goes _ _ _ _ _ (fT T6 m 34 #[vr r, vi 0, vi (Int32.ofNat mm), vi ((Int32.ofNat (q7 + 1)) + (-1 : Int32)), vi (Int32.ofNat (j + 1)), .val (.long (B.getD (j + 1) 0)), .second] [])
     rw [own_ofM]
     show Goes _ _ _ _ _ (fT T6 m 34 #[vr r, vi 0, vi (Int32.ofNat mm), vi (Int32.ofNat q7), vi (Int32.ofNat (j + 1)), .val (.long (B.getD (j + 1) 0)), .second] [])
     refine gN X6 hx hby d9_34 rfl rfl ?_
     refine gN X6 hx hby d9_35 rfl rfl ?_
     refine gU X6 hx hby d9_36 (flt (own_tnO (n := q7) (by omega)).2.1).1 ?_
     refine Gz (XS.lload X6.here hx rfl (hb hby d9_39) rfl) ?_
     refine gA X6 hx hby d9_41 rfl rfl rfl ?_
     refine gN X6 hx hby d9_42 rfl rfl ?_
     show Goes _ _ _ _ _ (fT T6 m 43 #[vr r, vi 0, vi (Int32.ofNat mm), vi (Int32.ofNat q7), vi (Int32.ofNat (j + 1)), .val (.long (B.getD (j + 1) 0)), .second] [(.int (Int32.ofNat q7)), (.ref r), (.long (B.getD (j + 1) 0))])
     obtain ⟨cl6, Ar6, -, S6, N6z, H6, -⟩ := id V_r
     have hin6 : ¬ ((Int32.ofNat q7) < 0 ∨ cl6.slots.size ≤ ((Int32.ofNat q7)).toNatClampNeg) := inb_of S6 ⟨(own_tnO (n := q7) (by omega)).2.1, (own_ltN (by omega) (by omega)).mpr (by omega)⟩
     have hat6 : cl6.slots[((Int32.ofNat q7)).toNatClampNeg]? = some (.long ((B.take (j + 1)).getD q7 0)) := Has.at H6 hin6 (by rw [(own_tnO (n := q7) (by omega)).1, own_jVg, own_Cget (by omega) (Nat.lt_succ_self _)])
     refine Gs (fun _ tk => X6.laload hx (j := (Int32.ofNat q7)) (v := (.long ((B.take (j + 1)).getD q7 0))) Ar6.1 (State.isArrayOf_alike hZ.alike Ar6.2.1) Ar6.2.2 hin6 hat6 (g := (mkF m 43 #[vr r, vi 0, vi (Int32.ofNat mm), vi (Int32.ofNat q7), vi (Int32.ofNat (j + 1)), .val (.long (B.getD (j + 1) 0)), .second] [(.int (Int32.ofNat q7)), (.ref r), (.long (B.getD (j + 1) 0))])) rfl rfl (hb hby d9_43) _ tk) ?_
     show Goes _ _ _ _ _ (fT T6 m 44 #[vr r, vi 0, vi (Int32.ofNat mm), vi (Int32.ofNat q7), vi (Int32.ofNat (j + 1)), .val (.long (B.getD (j + 1) 0)), .second] [(.long ((B.take (j + 1)).getD q7 0)), (.long (B.getD (j + 1) 0))])
     refine Gz (XS.lcmp X6.here hx rfl (hb hby d9_44) rfl) ?_
     show Goes _ _ _ _ _ (fT T6 m 45 #[vr r, vi 0, vi (Int32.ofNat mm), vi (Int32.ofNat q7), vi (Int32.ofNat (j + 1)), .val (.long (B.getD (j + 1) 0)), .second] [(.int (lcmpW (B.getD (j + 1) 0) ((B.take (j + 1)).getD q7 0)))])
     by_cases hc45_7 : (lcmpW (B.getD (j + 1) 0) ((B.take (j + 1)).getD q7 0)) < 0
     ·refine gu X6 hx hby d9_45 ((if0 _ _).trans (tlt hc45_7).2.1) ?_
      refine gA X6 hx hby d9_48 rfl rfl rfl ?_
      refine gN X6 hx hby d9_49 rfl rfl ?_
      refine gC X6 hx hby d9_50 ?_
      show Goes _ _ _ _ _ (fT T6 m 51 #[vr r, vi 0, vi (Int32.ofNat mm), vi (Int32.ofNat q7), vi (Int32.ofNat (j + 1)), .val (.long (B.getD (j + 1) 0)), .second] [(.int 1), (.int (Int32.ofNat q7)), (.ref r)])
      refine Gz (XS.iadd X6.here hx rfl (hb hby d9_51) rfl) ?_
      show Goes _ _ _ _ _ (fT T6 m 52 #[vr r, vi 0, vi (Int32.ofNat mm), vi (Int32.ofNat q7), vi (Int32.ofNat (j + 1)), .val (.long (B.getD (j + 1) 0)), .second] [(.int ((Int32.ofNat q7) + 1)), (.ref r)])
      rw [own_ofS]
      show Goes _ _ _ _ _ (fT T6 m 52 #[vr r, vi 0, vi (Int32.ofNat mm), vi (Int32.ofNat q7), vi (Int32.ofNat (j + 1)), .val (.long (B.getD (j + 1) 0)), .second] [(.int (Int32.ofNat (q7 + 1))), (.ref r)])
      refine gA X6 hx hby d9_52 rfl rfl rfl ?_
      refine gN X6 hx hby d9_53 rfl rfl ?_
      obtain ⟨cl8, Ar8, -, S8, N8z, H8, -⟩ := id V_r
      have hin8 : ¬ ((Int32.ofNat q7) < 0 ∨ cl8.slots.size ≤ ((Int32.ofNat q7)).toNatClampNeg) := inb_of S8 ⟨(own_tnO (n := q7) (by omega)).2.1, (own_ltN (by omega) (by omega)).mpr (by omega)⟩
      have hat8 : cl8.slots[((Int32.ofNat q7)).toNatClampNeg]? = some (.long ((B.take (j + 1)).getD q7 0)) := Has.at H8 hin8 (by rw [(own_tnO (n := q7) (by omega)).1, own_jVg, own_Cget (by omega) (Nat.lt_succ_self _)])
      refine Gs (fun _ tk => X6.laload hx (j := (Int32.ofNat q7)) (v := (.long ((B.take (j + 1)).getD q7 0))) Ar8.1 (State.isArrayOf_alike hZ.alike Ar8.2.1) Ar8.2.2 hin8 hat8 (g := (mkF m 54 #[vr r, vi 0, vi (Int32.ofNat mm), vi (Int32.ofNat q7), vi (Int32.ofNat (j + 1)), .val (.long (B.getD (j + 1) 0)), .second] [(.int (Int32.ofNat q7)), (.ref r), (.int (Int32.ofNat (q7 + 1))), (.ref r)])) rfl rfl (hb hby d9_54) _ tk) ?_
      show Goes _ _ _ _ _ (fT T6 m 55 #[vr r, vi 0, vi (Int32.ofNat mm), vi (Int32.ofNat q7), vi (Int32.ofNat (j + 1)), .val (.long (B.getD (j + 1) 0)), .second] [(.long ((B.take (j + 1)).getD q7 0)), (.int (Int32.ofNat (q7 + 1))), (.ref r)])
      obtain ⟨cl9, Ar9, q9, S9, N9z, H9, G9⟩ := V_r
      have hin9 : ¬ ((Int32.ofNat (q7 + 1)) < 0 ∨ cl9.slots.size ≤ ((Int32.ofNat (q7 + 1))).toNatClampNeg) := inb_of S9 ⟨(own_tnO (n := (q7 + 1)) (by omega)).2.1, (own_ltN (by omega) (by omega)).mpr (by omega)⟩
      obtain ⟨T9, h9, X9, e9, W9, st9⟩ := stJ X6 hx hZ rfl Ar9 (j := (Int32.ofNat (q7 + 1))) hin9 (g := (mkF m 55 #[vr r, vi 0, vi (Int32.ofNat mm), vi (Int32.ofNat q7), vi (Int32.ofNat (j + 1)), .val (.long (B.getD (j + 1) 0)), .second] [(.long ((B.take (j + 1)).getD q7 0)), (.int (Int32.ofNat (q7 + 1))), (.ref r)])) rfl rfl (hb hby d9_55)
      have Vn9 := Arv.set Ar9 q9 S9 N9z H9 G9 rfl W9 (q7 + 1) (own_tnO (by omega)).1 (by rw [own_jVL, own_CL (by omega)]; omega)
      have N9 := Fr.snoc X9 N6 g_r
      replace KP := KP.wr W9 (Or.inl (List.mem_of_getElem? (i := 0) rfl))
      have V_r : Arv Z h9 r k .long (Int32.ofNat mm) (jV (own_C (B.take (j + 1)) q7 ((B.take (j + 1)).getD q7 0) (B.drop (j + 1 + 1)))) (.long 0) := own_arvE Vn9 (by rw [own_jVs, own_Cset (by omega), own_Cdown (by omega)])
      replace Z0 : n0 ≤ h9.size := by rw [W9.size]; exact Z0
      refine Gs st9 ?_
      show Goes _ _ _ _ _ (fT T9 m 56 #[vr r, vi 0, vi (Int32.ofNat mm), vi (Int32.ofNat q7), vi (Int32.ofNat (j + 1)), .val (.long (B.getD (j + 1) 0)), .second] [])
      refine gG X9 hx hby d9_56 56 31 ?_
      show Goes _ _ _ _ _ (fT T9 m 31 #[vr r, vi 0, vi (Int32.ofNat mm), vi (Int32.ofNat q7), vi (Int32.ofNat (j + 1)), .val (.long (B.getD (j + 1) 0)), .second] [])
      exact ih6 q7 _ _ (Nat.lt_succ_self _) X9 ⟨by omega, N9, (by rw [e9]; exact Z0), (by rw [e9]; exact KP), _, (by rw [e9]; exact V_r), own_allD hall (Int.le_of_lt (own_lcL.mp hc45_7))⟩
     ·refine gy X6 hx hby d9_45 45 59 ((if0 _ _).trans (flt hc45_7).2.1) ?_
      refine gA X6 hx hby d9_59 rfl rfl rfl ?_
      refine gN X6 hx hby d9_60 rfl rfl ?_
      refine gC X6 hx hby d9_61 ?_
      show Goes _ _ _ _ _ (fT T6 m 62 #[vr r, vi 0, vi (Int32.ofNat mm), vi (Int32.ofNat q7), vi (Int32.ofNat (j + 1)), .val (.long (B.getD (j + 1) 0)), .second] [(.int 1), (.int (Int32.ofNat q7)), (.ref r)])
      refine Gz (XS.iadd X6.here hx rfl (hb hby d9_62) rfl) ?_
      show Goes _ _ _ _ _ (fT T6 m 63 #[vr r, vi 0, vi (Int32.ofNat mm), vi (Int32.ofNat q7), vi (Int32.ofNat (j + 1)), .val (.long (B.getD (j + 1) 0)), .second] [(.int ((Int32.ofNat q7) + 1)), (.ref r)])
      rw [own_ofS]
      show Goes _ _ _ _ _ (fT T6 m 63 #[vr r, vi 0, vi (Int32.ofNat mm), vi (Int32.ofNat q7), vi (Int32.ofNat (j + 1)), .val (.long (B.getD (j + 1) 0)), .second] [(.int (Int32.ofNat (q7 + 1))), (.ref r)])
      refine Gz (XS.lload X6.here hx rfl (hb hby d9_63) rfl) ?_
      show Goes _ _ _ _ _ (fT T6 m 65 #[vr r, vi 0, vi (Int32.ofNat mm), vi (Int32.ofNat q7), vi (Int32.ofNat (j + 1)), .val (.long (B.getD (j + 1) 0)), .second] [(.long (B.getD (j + 1) 0)), (.int (Int32.ofNat (q7 + 1))), (.ref r)])
      obtain ⟨cl10, Ar10, q10, S10, N10z, H10, G10⟩ := V_r
      have hin10 : ¬ ((Int32.ofNat (q7 + 1)) < 0 ∨ cl10.slots.size ≤ ((Int32.ofNat (q7 + 1))).toNatClampNeg) := inb_of S10 ⟨(own_tnO (n := (q7 + 1)) (by omega)).2.1, (own_ltN (by omega) (by omega)).mpr (by omega)⟩
      obtain ⟨T10, h10, X10, e10, W10, st10⟩ := stJ X6 hx hZ rfl Ar10 (j := (Int32.ofNat (q7 + 1))) hin10 (g := (mkF m 65 #[vr r, vi 0, vi (Int32.ofNat mm), vi (Int32.ofNat q7), vi (Int32.ofNat (j + 1)), .val (.long (B.getD (j + 1) 0)), .second] [(.long (B.getD (j + 1) 0)), (.int (Int32.ofNat (q7 + 1))), (.ref r)])) rfl rfl (hb hby d9_65)
      have Vn10 := Arv.set Ar10 q10 S10 N10z H10 G10 rfl W10 (q7 + 1) (own_tnO (by omega)).1 (by rw [own_jVL, own_CL (by omega)]; omega)
      have N10 := Fr.snoc X10 N6 g_r
      replace KP := KP.wr W10 (Or.inl (List.mem_of_getElem? (i := 0) rfl))
      have V_r : Arv Z h10 r k .long (Int32.ofNat mm) (jV (own_C (B.take (j + 1)) (q7 + 1) (B.getD (j + 1) 0) (B.drop (j + 1 + 1)))) (.long 0) := own_arvE Vn10 (by rw [own_jVs, own_Cset (by omega)])
      replace Z0 : n0 ≤ h10.size := by rw [W10.size]; exact Z0
      refine Gs st10 ?_
      show Goes _ _ _ _ _ (fT T10 m 66 #[vr r, vi 0, vi (Int32.ofNat mm), vi (Int32.ofNat q7), vi (Int32.ofNat (j + 1)), .val (.long (B.getD (j + 1) 0)), .second] [])
      refine gG X10 hx hby d9_66 66 3 ?_
      show Goes _ _ _ _ _ (fT T10 m 3 #[vr r, vi 0, vi (Int32.ofNat mm), vi (Int32.ofNat q7), vi (Int32.ofNat (j + 1)), .val (.long (B.getD (j + 1) 0)), .second] [])
      exact ih (j + 1, some ((Int32.ofNat q7), (B.getD (j + 1) 0))) _ _ (by dsimp only; omega) X10 ⟨(by dsimp only; omega), N10, (by rw [e10]; exact Z0), (by rw [e10]; exact KP), _, (by rw [e10]; exact V_r), ((own_Cperm (i := (q7 + 1))).trans (by rw [own_C1 (by omega)]; exact hBp)), (own_srtC hPl hBs (by omega) hall (Or.inr (Int.not_lt.mp fun q => hc45_7 (own_lcL.mpr q))))⟩
   ·refine gy X5 hx hby d9_28 28 66 ((if0 _ _).trans (flt hc28_4).2.1) ?_
    refine gG X5 hx hby d9_66 66 3 ?_
    show Goes _ _ _ _ _ (fT T5 m 3 #[vr r, vi 0, vi (Int32.ofNat mm), vi (Int32.ofNat (j + 1)), vi (Int32.ofNat (j + 1)), .val (.long (B.getD (j + 1) 0)), .second] [])
    exact ih (j + 1, some ((Int32.ofNat (j + 1)), (B.getD (j + 1) 0))) _ _ (by dsimp only; omega) X5 ⟨(by dsimp only; omega), N5, Z0, KP, _, V_r, hBp, (own_srtA (by omega) hBs (Int.not_lt.mp fun q => hc28_4 (own_lcL.mpr q)))⟩
  ·refine gY X5 hx hby d9_9 9 69 (flt hc9_1).2.1 ?_
   have hge : mm ≤ j + 1 := Nat.le_of_not_lt fun q => hc9_1 ((own_ltN (by omega) (by omega)).mpr q)
   rw [List.take_of_length_le (by omega)] at hBs
   refine Goes.ret X5 none (fun _ => rfl) hlk (by decide) (by decide) ?_ (fun fs hr => ?_)
   ·exact ⟨B, rfl, N5, KP, V_r, hBp, hBs⟩
   ·exact X5.returnOut hx hret (hb hby d9_69) hr
 ·show Goes _ _ _ _ _ (fT T5 m 3 #[vr r, vi 0, vi (Int32.ofNat mm), vi u5, vi (Int32.ofNat j), .val (.long v5), .second] [])
  refine Gz (XS.iinc X5.here hx rfl (hb hby d9_3) rfl (l' := #[vr r, vi 0, vi (Int32.ofNat mm), vi u5, vi ((Int32.ofNat j) + 1), .val (.long v5), .second]) rfl) ?_
  show Goes _ _ _ _ _ (fT T5 m 6 #[vr r, vi 0, vi (Int32.ofNat mm), vi u5, vi ((Int32.ofNat j) + 1), .val (.long v5), .second] [])
  rw [own_ofS]
  show Goes _ _ _ _ _ (fT T5 m 6 #[vr r, vi 0, vi (Int32.ofNat mm), vi u5, vi (Int32.ofNat (j + 1)), .val (.long v5), .second] [])
  refine gI X5 hx hby d9_6 rfl rfl ?_
  refine gN X5 hx hby d9_8 rfl rfl ?_
  by_cases hc9_11 : (Int32.ofNat (j + 1)) < (Int32.ofNat mm)
  ·refine gU X5 hx hby d9_9 (tlt hc9_11).2.1 ?_
   have hlt : j + 1 < mm := (own_ltN (by omega) (by omega)).mp hc9_11
   refine gA X5 hx hby d9_12 rfl rfl rfl ?_
   refine gI X5 hx hby d9_13 rfl rfl ?_
   refine Gz (XS.dup X5.here hx rfl (hb hby d9_15) rfl rfl) ?_
   show Goes _ _ _ _ _ (fT T5 m 16 #[vr r, vi 0, vi (Int32.ofNat mm), vi u5, vi (Int32.ofNat (j + 1)), .val (.long v5), .second] [(.int (Int32.ofNat (j + 1))), (.int (Int32.ofNat (j + 1))), (.ref r)])
   refine gs X5 hx hby d9_16 #[vr r, vi 0, vi (Int32.ofNat mm), vi (Int32.ofNat (j + 1)), vi (Int32.ofNat (j + 1)), .val (.long v5), .second] ?_
   obtain ⟨cl12, Ar12, -, S12, N12z, H12, -⟩ := id V_r
   have hin12 : ¬ ((Int32.ofNat (j + 1)) < 0 ∨ cl12.slots.size ≤ ((Int32.ofNat (j + 1))).toNatClampNeg) := inb_of S12 ⟨(own_tnO (n := (j + 1)) (by omega)).2.1, (own_ltN (by omega) (by omega)).mpr hlt⟩
   have hat12 : cl12.slots[((Int32.ofNat (j + 1))).toNatClampNeg]? = some (.long (B.getD (j + 1) 0)) := Has.at H12 hin12 (by rw [(own_tnO (n := (j + 1)) (by omega)).1, own_jVg])
   refine Gs (fun _ tk => X5.laload hx (j := (Int32.ofNat (j + 1))) (v := (.long (B.getD (j + 1) 0))) Ar12.1 (State.isArrayOf_alike hZ.alike Ar12.2.1) Ar12.2.2 hin12 hat12 (g := (mkF m 17 #[vr r, vi 0, vi (Int32.ofNat mm), vi (Int32.ofNat (j + 1)), vi (Int32.ofNat (j + 1)), .val (.long v5), .second] [(.int (Int32.ofNat (j + 1))), (.ref r)])) rfl rfl (hb hby d9_17) _ tk) ?_
   show Goes _ _ _ _ _ (fT T5 m 18 #[vr r, vi 0, vi (Int32.ofNat mm), vi (Int32.ofNat (j + 1)), vi (Int32.ofNat (j + 1)), .val (.long v5), .second] [(.long (B.getD (j + 1) 0))])
   refine Gz (XS.lstore X5.here hx rfl (hb hby d9_18) rfl (l' := #[vr r, vi 0, vi (Int32.ofNat mm), vi (Int32.ofNat (j + 1)), vi (Int32.ofNat (j + 1)), .val (.long (B.getD (j + 1) 0)), .second]) rfl) ?_
   refine Gz (XS.lload X5.here hx rfl (hb hby d9_20) rfl) ?_
   refine gA X5 hx hby d9_22 rfl rfl rfl ?_
   refine gN X5 hx hby d9_23 rfl rfl ?_
   refine gC X5 hx hby d9_24 ?_
   show Goes _ _ _ _ _ (fT T5 m 25 #[vr r, vi 0, vi (Int32.ofNat mm), vi (Int32.ofNat (j + 1)), vi (Int32.ofNat (j + 1)), .val (.long (B.getD (j + 1) 0)), .second] [(.int 1), (.int (Int32.ofNat (j + 1))), (.ref r), (.long (B.getD (j + 1) 0))])
   refine Gz (XS.isub X5.here hx rfl (hb hby d9_25) rfl) ?_
   show Goes _ _ _ _ _ (fT T5 m 26 #[vr r, vi 0, vi (Int32.ofNat mm), vi (Int32.ofNat (j + 1)), vi (Int32.ofNat (j + 1)), .val (.long (B.getD (j + 1) 0)), .second] [(.int ((Int32.ofNat (j + 1)) - 1)), (.ref r), (.long (B.getD (j + 1) 0))])
   rw [own_ofP]
   show Goes _ _ _ _ _ (fT T5 m 26 #[vr r, vi 0, vi (Int32.ofNat mm), vi (Int32.ofNat (j + 1)), vi (Int32.ofNat (j + 1)), .val (.long (B.getD (j + 1) 0)), .second] [(.int (Int32.ofNat j)), (.ref r), (.long (B.getD (j + 1) 0))])
   obtain ⟨cl13, Ar13, -, S13, N13z, H13, -⟩ := id V_r
   have hin13 : ¬ ((Int32.ofNat j) < 0 ∨ cl13.slots.size ≤ ((Int32.ofNat j)).toNatClampNeg) := inb_of S13 ⟨(own_tnO (n := j) (by omega)).2.1, (own_ltN (by omega) (by omega)).mpr (by omega)⟩
   have hat13 : cl13.slots[((Int32.ofNat j)).toNatClampNeg]? = some (.long (B.getD j 0)) := Has.at H13 hin13 (by rw [(own_tnO (n := j) (by omega)).1, own_jVg])
   refine Gs (fun _ tk => X5.laload hx (j := (Int32.ofNat j)) (v := (.long (B.getD j 0))) Ar13.1 (State.isArrayOf_alike hZ.alike Ar13.2.1) Ar13.2.2 hin13 hat13 (g := (mkF m 26 #[vr r, vi 0, vi (Int32.ofNat mm), vi (Int32.ofNat (j + 1)), vi (Int32.ofNat (j + 1)), .val (.long (B.getD (j + 1) 0)), .second] [(.int (Int32.ofNat j)), (.ref r), (.long (B.getD (j + 1) 0))])) rfl rfl (hb hby d9_26) _ tk) ?_
   show Goes _ _ _ _ _ (fT T5 m 27 #[vr r, vi 0, vi (Int32.ofNat mm), vi (Int32.ofNat (j + 1)), vi (Int32.ofNat (j + 1)), .val (.long (B.getD (j + 1) 0)), .second] [(.long (B.getD j 0)), (.long (B.getD (j + 1) 0))])
   refine Gz (XS.lcmp X5.here hx rfl (hb hby d9_27) rfl) ?_
   show Goes _ _ _ _ _ (fT T5 m 28 #[vr r, vi 0, vi (Int32.ofNat mm), vi (Int32.ofNat (j + 1)), vi (Int32.ofNat (j + 1)), .val (.long (B.getD (j + 1) 0)), .second] [(.int (lcmpW (B.getD (j + 1) 0) (B.getD j 0)))])
   by_cases hc28_14 : (lcmpW (B.getD (j + 1) 0) (B.getD j 0)) < 0
   ·refine gu X5 hx hby d9_28 ((if0 _ _).trans (tlt hc28_14).2.1) ?_
    have hPl : (B.take (j + 1)).length = j + 1 := by rw [List.length_take]; omega
    replace V_r := own_arvE V_r (show jV B = jV (own_C (B.take (j + 1)) (j + 1) (B.getD (j + 1) 0) (B.drop (j + 1 + 1))) from by rw [own_C0 (by omega)])
    refine own_loopG (ι := Nat) (μ := fun q => q) (I := fun q T L => q ≤ j + 1 ∧ Fr n0 L ∧ n0 ≤ T.heap.size ∧ Keep h0 T.heap [r] ∧ ∃ x : Int64, Arv Z T.heap r k .long (Int32.ofNat mm) (jV (own_C (B.take (j + 1)) q x (B.drop (j + 1 + 1)))) (.long 0) ∧ ∀ t, q ≤ t → t < (B.take (j + 1)).length → own_le (B.getD (j + 1) 0) ((B.take (j + 1)).getD t 0)) (B := fun q T => T.setTop (mkF m 31 #[vr r, vi 0, vi (Int32.ofNat mm), vi (Int32.ofNat q), vi (Int32.ofNat (j + 1)), .val (.long (B.getD (j + 1) 0)), .second] [])) ?_ (j + 1) X5 ⟨Nat.le_refl _, N5, Z0, KP, _, V_r, fun t h1 h2 => absurd h2 (by omega)⟩
    intro q6 T6 L6 X6 hI6 ih6
    obtain ⟨hq6, N6, Z0, KP, x6, V_r, hall⟩ := hI6
    rcases q6 with _ | q7
    ·show Goes _ _ _ _ _ (fT T6 m 31 #[vr r, vi 0, vi (Int32.ofNat mm), vi (Int32.ofNat 0), vi (Int32.ofNat (j + 1)), .val (.long (B.getD (j + 1) 0)), .second] [])
     refine Gz (XS.iinc X6.here hx rfl (hb hby d9_31) rfl (l' := #[vr r, vi 0, vi (Int32.ofNat mm), vi ((Int32.ofNat 0) + (-1 : Int32)), vi (Int32.ofNat (j + 1)), .val (.long (B.getD (j + 1) 0)), .second]) rfl) ?_
     show Goes _ _ _ _ _ (fT T6 m 34 #[vr r, vi 0, vi (Int32.ofNat mm), vi ((Int32.ofNat 0) + (-1 : Int32)), vi (Int32.ofNat (j + 1)), .val (.long (B.getD (j + 1) 0)), .second] [])
     rw [show ((Int32.ofNat 0) + (-1 : Int32)) = (-1 : Int32) from by decide]
     show Goes _ _ _ _ _ (fT T6 m 34 #[vr r, vi 0, vi (Int32.ofNat mm), vi (-1 : Int32), vi (Int32.ofNat (j + 1)), .val (.long (B.getD (j + 1) 0)), .second] [])
     refine gN X6 hx hby d9_34 rfl rfl ?_
     refine gN X6 hx hby d9_35 rfl rfl ?_
     refine gY X6 hx hby d9_36 36 59 (tlt (by decide : ((-1 : Int32) < (0 : Int32)))).1 ?_
     refine gA X6 hx hby d9_59 rfl rfl rfl ?_
     refine gN X6 hx hby d9_60 rfl rfl ?_
     refine gC X6 hx hby d9_61 ?_
     show Goes _ _ _ _ _ (fT T6 m 62 #[vr r, vi 0, vi (Int32.ofNat mm), vi (-1 : Int32), vi (Int32.ofNat (j + 1)), .val (.long (B.getD (j + 1) 0)), .second] [(.int 1), (.int (-1 : Int32)), (.ref r)])
     refine Gz (XS.iadd X6.here hx rfl (hb hby d9_62) rfl) ?_
     show Goes _ _ _ _ _ (fT T6 m 63 #[vr r, vi 0, vi (Int32.ofNat mm), vi (-1 : Int32), vi (Int32.ofNat (j + 1)), .val (.long (B.getD (j + 1) 0)), .second] [(.int 0), (.ref r)])
     refine Gz (XS.lload X6.here hx rfl (hb hby d9_63) rfl) ?_
     show Goes _ _ _ _ _ (fT T6 m 65 #[vr r, vi 0, vi (Int32.ofNat mm), vi (-1 : Int32), vi (Int32.ofNat (j + 1)), .val (.long (B.getD (j + 1) 0)), .second] [(.long (B.getD (j + 1) 0)), (.int 0), (.ref r)])
     obtain ⟨cl15, Ar15, q15, S15, N15z, H15, G15⟩ := V_r
     have hin15 : ¬ ((0 : Int32) < 0 ∨ cl15.slots.size ≤ ((0 : Int32)).toNatClampNeg) := inb_of S15 ⟨by decide, (own_ltN (i := 0) (by decide) (by omega)).mpr (by omega)⟩
     obtain ⟨T15, h15, X15, e15, W15, st15⟩ := stJ X6 hx hZ rfl Ar15 (j := (0 : Int32)) hin15 (g := (mkF m 65 #[vr r, vi 0, vi (Int32.ofNat mm), vi (-1 : Int32), vi (Int32.ofNat (j + 1)), .val (.long (B.getD (j + 1) 0)), .second] [(.long (B.getD (j + 1) 0)), (.int 0), (.ref r)])) rfl rfl (hb hby d9_65)
     have Vn15 := Arv.set Ar15 q15 S15 N15z H15 G15 rfl W15 (0) rfl (by rw [own_jVL, own_CL (by omega)]; omega)
     have N15 := Fr.snoc X15 N6 g_r
     replace KP := KP.wr W15 (Or.inl (List.mem_of_getElem? (i := 0) rfl))
     have V_r : Arv Z h15 r k .long (Int32.ofNat mm) (jV (own_C (B.take (j + 1)) 0 (B.getD (j + 1) 0) (B.drop (j + 1 + 1)))) (.long 0) := own_arvE Vn15 (by rw [own_jVs, own_Cset (by omega)])
     replace Z0 : n0 ≤ h15.size := by rw [W15.size]; exact Z0
     refine Gs st15 ?_
     show Goes _ _ _ _ _ (fT T15 m 66 #[vr r, vi 0, vi (Int32.ofNat mm), vi (-1 : Int32), vi (Int32.ofNat (j + 1)), .val (.long (B.getD (j + 1) 0)), .second] [])
     refine gG X15 hx hby d9_66 66 3 ?_
     show Goes _ _ _ _ _ (fT T15 m 3 #[vr r, vi 0, vi (Int32.ofNat mm), vi (-1 : Int32), vi (Int32.ofNat (j + 1)), .val (.long (B.getD (j + 1) 0)), .second] [])
     exact ih (j + 1, some ((-1 : Int32), (B.getD (j + 1) 0))) _ _ (by dsimp only; omega) X15 ⟨(by dsimp only; omega), N15, (by rw [e15]; exact Z0), (by rw [e15]; exact KP), _, (by rw [e15]; exact V_r), ((own_Cperm (i := 0)).trans (by rw [own_C1 (by omega)]; exact hBp)), (own_srtC hPl hBs (by omega) hall (Or.inl rfl))⟩
    ·show Goes _ _ _ _ _ (fT T6 m 31 #[vr r, vi 0, vi (Int32.ofNat mm), vi (Int32.ofNat (q7 + 1)), vi (Int32.ofNat (j + 1)), .val (.long (B.getD (j + 1) 0)), .second] [])
     refine Gz (XS.iinc X6.here hx rfl (hb hby d9_31) rfl (l' := #[vr r, vi 0, vi (Int32.ofNat mm), vi ((Int32.ofNat (q7 + 1)) + (-1 : Int32)), vi (Int32.ofNat (j + 1)), .val (.long (B.getD (j + 1) 0)), .second]) rfl) ?_
     show Goes _ _ _ _ _ (fT T6 m 34 #[vr r, vi 0, vi (Int32.ofNat mm), vi ((Int32.ofNat (q7 + 1)) + (-1 : Int32)), vi (Int32.ofNat (j + 1)), .val (.long (B.getD (j + 1) 0)), .second] [])
     rw [own_ofM]
     show Goes _ _ _ _ _ (fT T6 m 34 #[vr r, vi 0, vi (Int32.ofNat mm), vi (Int32.ofNat q7), vi (Int32.ofNat (j + 1)), .val (.long (B.getD (j + 1) 0)), .second] [])
     refine gN X6 hx hby d9_34 rfl rfl ?_
     refine gN X6 hx hby d9_35 rfl rfl ?_
     refine gU X6 hx hby d9_36 (flt (own_tnO (n := q7) (by omega)).2.1).1 ?_
     refine Gz (XS.lload X6.here hx rfl (hb hby d9_39) rfl) ?_
     refine gA X6 hx hby d9_41 rfl rfl rfl ?_
     refine gN X6 hx hby d9_42 rfl rfl ?_
     show Goes _ _ _ _ _ (fT T6 m 43 #[vr r, vi 0, vi (Int32.ofNat mm), vi (Int32.ofNat q7), vi (Int32.ofNat (j + 1)), .val (.long (B.getD (j + 1) 0)), .second] [(.int (Int32.ofNat q7)), (.ref r), (.long (B.getD (j + 1) 0))])
     obtain ⟨cl16, Ar16, -, S16, N16z, H16, -⟩ := id V_r
     have hin16 : ¬ ((Int32.ofNat q7) < 0 ∨ cl16.slots.size ≤ ((Int32.ofNat q7)).toNatClampNeg) := inb_of S16 ⟨(own_tnO (n := q7) (by omega)).2.1, (own_ltN (by omega) (by omega)).mpr (by omega)⟩
     have hat16 : cl16.slots[((Int32.ofNat q7)).toNatClampNeg]? = some (.long ((B.take (j + 1)).getD q7 0)) := Has.at H16 hin16 (by rw [(own_tnO (n := q7) (by omega)).1, own_jVg, own_Cget (by omega) (Nat.lt_succ_self _)])
     refine Gs (fun _ tk => X6.laload hx (j := (Int32.ofNat q7)) (v := (.long ((B.take (j + 1)).getD q7 0))) Ar16.1 (State.isArrayOf_alike hZ.alike Ar16.2.1) Ar16.2.2 hin16 hat16 (g := (mkF m 43 #[vr r, vi 0, vi (Int32.ofNat mm), vi (Int32.ofNat q7), vi (Int32.ofNat (j + 1)), .val (.long (B.getD (j + 1) 0)), .second] [(.int (Int32.ofNat q7)), (.ref r), (.long (B.getD (j + 1) 0))])) rfl rfl (hb hby d9_43) _ tk) ?_
     show Goes _ _ _ _ _ (fT T6 m 44 #[vr r, vi 0, vi (Int32.ofNat mm), vi (Int32.ofNat q7), vi (Int32.ofNat (j + 1)), .val (.long (B.getD (j + 1) 0)), .second] [(.long ((B.take (j + 1)).getD q7 0)), (.long (B.getD (j + 1) 0))])
     refine Gz (XS.lcmp X6.here hx rfl (hb hby d9_44) rfl) ?_
     show Goes _ _ _ _ _ (fT T6 m 45 #[vr r, vi 0, vi (Int32.ofNat mm), vi (Int32.ofNat q7), vi (Int32.ofNat (j + 1)), .val (.long (B.getD (j + 1) 0)), .second] [(.int (lcmpW (B.getD (j + 1) 0) ((B.take (j + 1)).getD q7 0)))])
     by_cases hc45_17 : (lcmpW (B.getD (j + 1) 0) ((B.take (j + 1)).getD q7 0)) < 0
     ·refine gu X6 hx hby d9_45 ((if0 _ _).trans (tlt hc45_17).2.1) ?_
      refine gA X6 hx hby d9_48 rfl rfl rfl ?_
      refine gN X6 hx hby d9_49 rfl rfl ?_
      refine gC X6 hx hby d9_50 ?_
      show Goes _ _ _ _ _ (fT T6 m 51 #[vr r, vi 0, vi (Int32.ofNat mm), vi (Int32.ofNat q7), vi (Int32.ofNat (j + 1)), .val (.long (B.getD (j + 1) 0)), .second] [(.int 1), (.int (Int32.ofNat q7)), (.ref r)])
      refine Gz (XS.iadd X6.here hx rfl (hb hby d9_51) rfl) ?_
      show Goes _ _ _ _ _ (fT T6 m 52 #[vr r, vi 0, vi (Int32.ofNat mm), vi (Int32.ofNat q7), vi (Int32.ofNat (j + 1)), .val (.long (B.getD (j + 1) 0)), .second] [(.int ((Int32.ofNat q7) + 1)), (.ref r)])
      rw [own_ofS]
      show Goes _ _ _ _ _ (fT T6 m 52 #[vr r, vi 0, vi (Int32.ofNat mm), vi (Int32.ofNat q7), vi (Int32.ofNat (j + 1)), .val (.long (B.getD (j + 1) 0)), .second] [(.int (Int32.ofNat (q7 + 1))), (.ref r)])
      refine gA X6 hx hby d9_52 rfl rfl rfl ?_
      refine gN X6 hx hby d9_53 rfl rfl ?_
      obtain ⟨cl18, Ar18, -, S18, N18z, H18, -⟩ := id V_r
      have hin18 : ¬ ((Int32.ofNat q7) < 0 ∨ cl18.slots.size ≤ ((Int32.ofNat q7)).toNatClampNeg) := inb_of S18 ⟨(own_tnO (n := q7) (by omega)).2.1, (own_ltN (by omega) (by omega)).mpr (by omega)⟩
      have hat18 : cl18.slots[((Int32.ofNat q7)).toNatClampNeg]? = some (.long ((B.take (j + 1)).getD q7 0)) := Has.at H18 hin18 (by rw [(own_tnO (n := q7) (by omega)).1, own_jVg, own_Cget (by omega) (Nat.lt_succ_self _)])
      refine Gs (fun _ tk => X6.laload hx (j := (Int32.ofNat q7)) (v := (.long ((B.take (j + 1)).getD q7 0))) Ar18.1 (State.isArrayOf_alike hZ.alike Ar18.2.1) Ar18.2.2 hin18 hat18 (g := (mkF m 54 #[vr r, vi 0, vi (Int32.ofNat mm), vi (Int32.ofNat q7), vi (Int32.ofNat (j + 1)), .val (.long (B.getD (j + 1) 0)), .second] [(.int (Int32.ofNat q7)), (.ref r), (.int (Int32.ofNat (q7 + 1))), (.ref r)])) rfl rfl (hb hby d9_54) _ tk) ?_
      show Goes _ _ _ _ _ (fT T6 m 55 #[vr r, vi 0, vi (Int32.ofNat mm), vi (Int32.ofNat q7), vi (Int32.ofNat (j + 1)), .val (.long (B.getD (j + 1) 0)), .second] [(.long ((B.take (j + 1)).getD q7 0)), (.int (Int32.ofNat (q7 + 1))), (.ref r)])
      obtain ⟨cl19, Ar19, q19, S19, N19z, H19, G19⟩ := V_r
      have hin19 : ¬ ((Int32.ofNat (q7 + 1)) < 0 ∨ cl19.slots.size ≤ ((Int32.ofNat (q7 + 1))).toNatClampNeg) := inb_of S19 ⟨(own_tnO (n := (q7 + 1)) (by omega)).2.1, (own_ltN (by omega) (by omega)).mpr (by omega)⟩
      obtain ⟨T19, h19, X19, e19, W19, st19⟩ := stJ X6 hx hZ rfl Ar19 (j := (Int32.ofNat (q7 + 1))) hin19 (g := (mkF m 55 #[vr r, vi 0, vi (Int32.ofNat mm), vi (Int32.ofNat q7), vi (Int32.ofNat (j + 1)), .val (.long (B.getD (j + 1) 0)), .second] [(.long ((B.take (j + 1)).getD q7 0)), (.int (Int32.ofNat (q7 + 1))), (.ref r)])) rfl rfl (hb hby d9_55)
      have Vn19 := Arv.set Ar19 q19 S19 N19z H19 G19 rfl W19 (q7 + 1) (own_tnO (by omega)).1 (by rw [own_jVL, own_CL (by omega)]; omega)
      have N19 := Fr.snoc X19 N6 g_r
      replace KP := KP.wr W19 (Or.inl (List.mem_of_getElem? (i := 0) rfl))
      have V_r : Arv Z h19 r k .long (Int32.ofNat mm) (jV (own_C (B.take (j + 1)) q7 ((B.take (j + 1)).getD q7 0) (B.drop (j + 1 + 1)))) (.long 0) := own_arvE Vn19 (by rw [own_jVs, own_Cset (by omega), own_Cdown (by omega)])
      replace Z0 : n0 ≤ h19.size := by rw [W19.size]; exact Z0
      refine Gs st19 ?_
      show Goes _ _ _ _ _ (fT T19 m 56 #[vr r, vi 0, vi (Int32.ofNat mm), vi (Int32.ofNat q7), vi (Int32.ofNat (j + 1)), .val (.long (B.getD (j + 1) 0)), .second] [])
      refine gG X19 hx hby d9_56 56 31 ?_
      show Goes _ _ _ _ _ (fT T19 m 31 #[vr r, vi 0, vi (Int32.ofNat mm), vi (Int32.ofNat q7), vi (Int32.ofNat (j + 1)), .val (.long (B.getD (j + 1) 0)), .second] [])
      exact ih6 q7 _ _ (Nat.lt_succ_self _) X19 ⟨by omega, N19, (by rw [e19]; exact Z0), (by rw [e19]; exact KP), _, (by rw [e19]; exact V_r), own_allD hall (Int.le_of_lt (own_lcL.mp hc45_17))⟩
     ·refine gy X6 hx hby d9_45 45 59 ((if0 _ _).trans (flt hc45_17).2.1) ?_
      refine gA X6 hx hby d9_59 rfl rfl rfl ?_
      refine gN X6 hx hby d9_60 rfl rfl ?_
      refine gC X6 hx hby d9_61 ?_
      show Goes _ _ _ _ _ (fT T6 m 62 #[vr r, vi 0, vi (Int32.ofNat mm), vi (Int32.ofNat q7), vi (Int32.ofNat (j + 1)), .val (.long (B.getD (j + 1) 0)), .second] [(.int 1), (.int (Int32.ofNat q7)), (.ref r)])
      refine Gz (XS.iadd X6.here hx rfl (hb hby d9_62) rfl) ?_
      show Goes _ _ _ _ _ (fT T6 m 63 #[vr r, vi 0, vi (Int32.ofNat mm), vi (Int32.ofNat q7), vi (Int32.ofNat (j + 1)), .val (.long (B.getD (j + 1) 0)), .second] [(.int ((Int32.ofNat q7) + 1)), (.ref r)])
      rw [own_ofS]
      show Goes _ _ _ _ _ (fT T6 m 63 #[vr r, vi 0, vi (Int32.ofNat mm), vi (Int32.ofNat q7), vi (Int32.ofNat (j + 1)), .val (.long (B.getD (j + 1) 0)), .second] [(.int (Int32.ofNat (q7 + 1))), (.ref r)])
      refine Gz (XS.lload X6.here hx rfl (hb hby d9_63) rfl) ?_
      show Goes _ _ _ _ _ (fT T6 m 65 #[vr r, vi 0, vi (Int32.ofNat mm), vi (Int32.ofNat q7), vi (Int32.ofNat (j + 1)), .val (.long (B.getD (j + 1) 0)), .second] [(.long (B.getD (j + 1) 0)), (.int (Int32.ofNat (q7 + 1))), (.ref r)])
      obtain ⟨cl20, Ar20, q20, S20, N20z, H20, G20⟩ := V_r
      have hin20 : ¬ ((Int32.ofNat (q7 + 1)) < 0 ∨ cl20.slots.size ≤ ((Int32.ofNat (q7 + 1))).toNatClampNeg) := inb_of S20 ⟨(own_tnO (n := (q7 + 1)) (by omega)).2.1, (own_ltN (by omega) (by omega)).mpr (by omega)⟩
      obtain ⟨T20, h20, X20, e20, W20, st20⟩ := stJ X6 hx hZ rfl Ar20 (j := (Int32.ofNat (q7 + 1))) hin20 (g := (mkF m 65 #[vr r, vi 0, vi (Int32.ofNat mm), vi (Int32.ofNat q7), vi (Int32.ofNat (j + 1)), .val (.long (B.getD (j + 1) 0)), .second] [(.long (B.getD (j + 1) 0)), (.int (Int32.ofNat (q7 + 1))), (.ref r)])) rfl rfl (hb hby d9_65)
      have Vn20 := Arv.set Ar20 q20 S20 N20z H20 G20 rfl W20 (q7 + 1) (own_tnO (by omega)).1 (by rw [own_jVL, own_CL (by omega)]; omega)
      have N20 := Fr.snoc X20 N6 g_r
      replace KP := KP.wr W20 (Or.inl (List.mem_of_getElem? (i := 0) rfl))
      have V_r : Arv Z h20 r k .long (Int32.ofNat mm) (jV (own_C (B.take (j + 1)) (q7 + 1) (B.getD (j + 1) 0) (B.drop (j + 1 + 1)))) (.long 0) := own_arvE Vn20 (by rw [own_jVs, own_Cset (by omega)])
      replace Z0 : n0 ≤ h20.size := by rw [W20.size]; exact Z0
      refine Gs st20 ?_
      show Goes _ _ _ _ _ (fT T20 m 66 #[vr r, vi 0, vi (Int32.ofNat mm), vi (Int32.ofNat q7), vi (Int32.ofNat (j + 1)), .val (.long (B.getD (j + 1) 0)), .second] [])
      refine gG X20 hx hby d9_66 66 3 ?_
      show Goes _ _ _ _ _ (fT T20 m 3 #[vr r, vi 0, vi (Int32.ofNat mm), vi (Int32.ofNat q7), vi (Int32.ofNat (j + 1)), .val (.long (B.getD (j + 1) 0)), .second] [])
      exact ih (j + 1, some ((Int32.ofNat q7), (B.getD (j + 1) 0))) _ _ (by dsimp only; omega) X20 ⟨(by dsimp only; omega), N20, (by rw [e20]; exact Z0), (by rw [e20]; exact KP), _, (by rw [e20]; exact V_r), ((own_Cperm (i := (q7 + 1))).trans (by rw [own_C1 (by omega)]; exact hBp)), (own_srtC hPl hBs (by omega) hall (Or.inr (Int.not_lt.mp fun q => hc45_17 (own_lcL.mpr q))))⟩
   ·refine gy X5 hx hby d9_28 28 66 ((if0 _ _).trans (flt hc28_14).2.1) ?_
    refine gG X5 hx hby d9_66 66 3 ?_
    show Goes _ _ _ _ _ (fT T5 m 3 #[vr r, vi 0, vi (Int32.ofNat mm), vi (Int32.ofNat (j + 1)), vi (Int32.ofNat (j + 1)), .val (.long (B.getD (j + 1) 0)), .second] [])
    exact ih (j + 1, some ((Int32.ofNat (j + 1)), (B.getD (j + 1) 0))) _ _ (by dsimp only; omega) X5 ⟨(by dsimp only; omega), N5, Z0, KP, _, V_r, hBp, (own_srtA (by omega) hBs (Int.not_lt.mp fun q => hc28_14 (own_lcL.mpr q)))⟩
  ·refine gY X5 hx hby d9_9 9 69 (flt hc9_11).2.1 ?_
   have hge : mm ≤ j + 1 := Nat.le_of_not_lt fun q => hc9_11 ((own_ltN (by omega) (by omega)).mpr q)
   rw [List.take_of_length_le (by omega)] at hBs
   refine Goes.ret X5 none (fun _ => rfl) hlk (by decide) (by decide) ?_ (fun fs hr => ?_)
   ·exact ⟨B, rfl, N5, KP, V_r, hBp, hBs⟩
   ·exact X5.returnOut hx hret (hb hby d9_69) hr
theorem d10_0 : DK kc1 0 (.iload 4) 2 := by decide +kernel
theorem d10_2 : DK kc1 2 (.iconst 1) 1 := by decide +kernel
theorem d10_3 : DK kc1 3 .isub 1 := by decide +kernel
theorem d10_4 : DK kc1 4 (.istore 5) 2 := by decide +kernel
theorem d10_6 : DK kc1 6 (.iload 4) 2 := by decide +kernel
theorem d10_8 : DK kc1 8 (.iload_n 3) 1 := by decide +kernel
theorem d10_9 : DK kc1 9 .isub 1 := by decide +kernel
theorem d10_10 : DK kc1 10 (.istore 6) 2 := by decide +kernel
theorem d10_12 : DK kc1 12 (.iload 6) 2 := by decide +kernel
theorem d10_14 : DK kc1 14 (.bipush 65) 2 := by decide +kernel
theorem d10_16 : DK kc1 16 (.iload_n 2) 1 := by decide +kernel
theorem d10_17 : DK kc1 17 .iadd 1 := by decide +kernel
theorem d10_18 : DK kc1 18 (.if_icmp .ge 28) 3 := by decide +kernel
theorem d10_21 : DK kc1 21 (.iload_n 2) 1 := by decide +kernel
theorem d10_22 : DK kc1 22 (.iconst 1) 1 := by decide +kernel
theorem d10_23 : DK kc1 23 .iand 1 := by decide +kernel
theorem d10_24 : DK kc1 24 (.ifCond .le 22) 3 := by decide +kernel
theorem d10_46 : DK kc1 46 (.iload 6) 2 := by decide +kernel
theorem d10_48 : DK kc1 48 (.bipush 44) 2 := by decide +kernel
theorem d10_50 : DK kc1 50 (.if_icmp .ge 11) 3 := by decide +kernel
theorem d10_53 : DK kc1 53 (.aload_n 1) 1 := by decide +kernel
theorem d10_54 : DK kc1 54 (.iload_n 3) 1 := by decide +kernel
theorem d10_55 : DK kc1 55 (.iload 4) 2 := by decide +kernel
theorem d10_57 : DK kc1 57 (.invokestatic 105) 3 := by decide +kernel
theorem own_pd7 : parseMethodDescriptor "([JII)V" = some ⟨[(.array .long), .int, .int], none⟩ := by decide +kernel
theorem d10_60 : DK kc1 60 .return_ 1 := by decide +kernel
theorem own_ef_rm_so3 (m : MethodId) (x1 : Addr) (x4 : Int32) : entryFrame m #[.null, (.ref x1), (.int 0), (.int 0), (.int x4)] 25 = mkF m 0 #[.val .null, vr x1, vi 0, vi 0, vi x4, vu, vu, vu, vu, vu, vu, vu, vu, vu, vu, vu, vu, vu, vu, vu, vu, vu, vu, vu, vu] [] := by first | (simp [entryFrame, mkF, argsToLocals, Value.category]; done) | rfl
def Q_rm_so3 (Z : State) (r : Addr) (k : ClassId) (A : List Int64) (mm : Nat) (h0 : Heap) (n0 : Nat) (v : Option Value) (h : Heap) (L : List Loc) : Prop := ∃ A2 : List Int64, v = none ∧ Fr n0 L ∧ Keep h0 h [r] ∧ Arv Z h r k .long (Int32.ofNat mm) (jV A2) (.long 0) ∧ A2.Perm A ∧ A2.Pairwise own_le
theorem rm_so3 (l : Launch) (Z : State) (a0 : Array Value) (hw : HW a0 Z) (ws : List Jvm.Cond) (r : Addr) (k : ClassId) (A : List Int64) (mm : Nat) (h0 : Heap) (n0 : Nat) (Z0 : n0 ≤ h0.size) (V_r : Arv Z h0 r k .long (Int32.ofNat mm) (jV A) (.long 0)) (g_r : n0 ≤ r) (hA : A.length = mm) (hm9 : mm ≤ 9) :
  Met l Z mN10 jdk_2529_method_13_code 25 none ({ frames := 1, cells := 0, slots := 0, locals := 18 } : Room) ws #[.null, (.ref r), (.int 0), (.int 0), (.int (Int32.ofNat mm))] h0 (Q_rm_so3 Z r k A mm h0 n0) := by
 refine own_met (plainFor_of_name own_pn4) ?_
 intro p e s m below meth c s₁ hret hx hby hlk hml hown hnm X0 e0 hZ hh
 have N0 := Fr.nil n0
 refine Gz (castTop (own_ef_rm_so3 m r (Int32.ofNat mm))) ?_
 have KP : Keep h0 h0 [r] := Keep.refl _ _
 show Goes _ _ _ _ _ (fT s₁ m 0 #[.val .null, vr r, vi 0, vi 0, vi (Int32.ofNat mm), vu, vu, vu, vu, vu, vu, vu, vu, vu, vu, vu, vu, vu, vu, vu, vu, vu, vu, vu, vu] [])
 refine gI X0 hx hby d10_0 rfl rfl ?_
 refine gC X0 hx hby d10_2 ?_
 show Goes _ _ _ _ _ (fT s₁ m 3 #[.val .null, vr r, vi 0, vi 0, vi (Int32.ofNat mm), vu, vu, vu, vu, vu, vu, vu, vu, vu, vu, vu, vu, vu, vu, vu, vu, vu, vu, vu, vu] [(.int 1), (.int (Int32.ofNat mm))])
 refine Gz (XS.isub X0.here hx rfl (hb hby d10_3) rfl) ?_
 show Goes _ _ _ _ _ (fT s₁ m 4 #[.val .null, vr r, vi 0, vi 0, vi (Int32.ofNat mm), vu, vu, vu, vu, vu, vu, vu, vu, vu, vu, vu, vu, vu, vu, vu, vu, vu, vu, vu, vu] [(.int ((Int32.ofNat mm) - 1))])
 refine gS X0 hx hby d10_4 #[.val .null, vr r, vi 0, vi 0, vi (Int32.ofNat mm), vi ((Int32.ofNat mm) - 1), vu, vu, vu, vu, vu, vu, vu, vu, vu, vu, vu, vu, vu, vu, vu, vu, vu, vu, vu] ?_
 refine gI X0 hx hby d10_6 rfl rfl ?_
 refine gN X0 hx hby d10_8 rfl rfl ?_
 show Goes _ _ _ _ _ (fT s₁ m 9 #[.val .null, vr r, vi 0, vi 0, vi (Int32.ofNat mm), vi ((Int32.ofNat mm) - 1), vu, vu, vu, vu, vu, vu, vu, vu, vu, vu, vu, vu, vu, vu, vu, vu, vu, vu, vu] [(.int 0), (.int (Int32.ofNat mm))])
 refine Gz (XS.isub X0.here hx rfl (hb hby d10_9) rfl) ?_
 show Goes _ _ _ _ _ (fT s₁ m 10 #[.val .null, vr r, vi 0, vi 0, vi (Int32.ofNat mm), vi ((Int32.ofNat mm) - 1), vu, vu, vu, vu, vu, vu, vu, vu, vu, vu, vu, vu, vu, vu, vu, vu, vu, vu, vu] [(.int ((Int32.ofNat mm) - 0))])
 rw [Int32.sub_zero]
 show Goes _ _ _ _ _ (fT s₁ m 10 #[.val .null, vr r, vi 0, vi 0, vi (Int32.ofNat mm), vi ((Int32.ofNat mm) - 1), vu, vu, vu, vu, vu, vu, vu, vu, vu, vu, vu, vu, vu, vu, vu, vu, vu, vu, vu] [(.int (Int32.ofNat mm))])
 refine gS X0 hx hby d10_10 #[.val .null, vr r, vi 0, vi 0, vi (Int32.ofNat mm), vi ((Int32.ofNat mm) - 1), vi (Int32.ofNat mm), vu, vu, vu, vu, vu, vu, vu, vu, vu, vu, vu, vu, vu, vu, vu, vu, vu, vu] ?_
 refine gI X0 hx hby d10_12 rfl rfl ?_
 refine gB X0 hx hby d10_14 ?_
 refine gN X0 hx hby d10_16 rfl rfl ?_
 show Goes _ _ _ _ _ (fT s₁ m 17 #[.val .null, vr r, vi 0, vi 0, vi (Int32.ofNat mm), vi ((Int32.ofNat mm) - 1), vi (Int32.ofNat mm), vu, vu, vu, vu, vu, vu, vu, vu, vu, vu, vu, vu, vu, vu, vu, vu, vu, vu] [(.int 0), (.int 65), (.int (Int32.ofNat mm))])
 refine Gz (XS.iadd X0.here hx rfl (hb hby d10_17) rfl) ?_
 show Goes _ _ _ _ _ (fT s₁ m 18 #[.val .null, vr r, vi 0, vi 0, vi (Int32.ofNat mm), vi ((Int32.ofNat mm) - 1), vi (Int32.ofNat mm), vu, vu, vu, vu, vu, vu, vu, vu, vu, vu, vu, vu, vu, vu, vu, vu, vu, vu] [(.int 65), (.int (Int32.ofNat mm))])
 refine gU X0 hx hby d10_18 (tlt ((own_ltN (i := mm) (L := 65) (by omega) (by decide)).mpr (by omega))).2.1 ?_
 refine gN X0 hx hby d10_21 rfl rfl ?_
 refine gC X0 hx hby d10_22 ?_
 show Goes _ _ _ _ _ (fT s₁ m 23 #[.val .null, vr r, vi 0, vi 0, vi (Int32.ofNat mm), vi ((Int32.ofNat mm) - 1), vi (Int32.ofNat mm), vu, vu, vu, vu, vu, vu, vu, vu, vu, vu, vu, vu, vu, vu, vu, vu, vu, vu] [(.int 1), (.int 0)])
 refine Gz (XS.iand X0.here hx rfl (hb hby d10_23) rfl) ?_
 show Goes _ _ _ _ _ (fT s₁ m 24 #[.val .null, vr r, vi 0, vi 0, vi (Int32.ofNat mm), vi ((Int32.ofNat mm) - 1), vi (Int32.ofNat mm), vu, vu, vu, vu, vu, vu, vu, vu, vu, vu, vu, vu, vu, vu, vu, vu, vu, vu] [(.int 0)])
 refine gy X0 hx hby d10_24 24 46 ((if0 _ _).trans (flt (by decide : ¬ ((0 : Int32) < (0 : Int32)))).2.2.2) ?_
 refine gI X0 hx hby d10_46 rfl rfl ?_
 refine gB X0 hx hby d10_48 ?_
 refine gU X0 hx hby d10_50 (tlt ((own_ltN (i := mm) (L := 44) (by omega) (by decide)).mpr (by omega))).2.1 ?_
 refine gA X0 hx hby d10_53 rfl rfl rfl ?_
 refine gN X0 hx hby d10_54 rfl rfl ?_
 show Goes _ _ _ _ _ (fT s₁ m 55 #[.val .null, vr r, vi 0, vi 0, vi (Int32.ofNat mm), vi ((Int32.ofNat mm) - 1), vi (Int32.ofNat mm), vu, vu, vu, vu, vu, vu, vu, vu, vu, vu, vu, vu, vu, vu, vu, vu, vu, vu] [(.int 0), (.ref r)])
 refine gI X0 hx hby d10_55 rfl rfl ?_
 refine cSg X0 hx hZ hw hown hby hml e0 mN9 63 64 65 58 0 (rm_ins l Z a0 hw [] r k A mm h0 n0 Z0 V_r g_r hA hm9) d10_57 (lenOf own_pd7 rfl) (fun _ T1 L1 X1 hQ1 => ?_)
 obtain ⟨A21, rfl, N1q, K1, V_r_1', hP_1', hS_1'⟩ := hQ1
 have N1 := Fr.app N0 N1q
 replace KP := KP.trans K1 (allS (Or.inl (List.mem_of_getElem? (i := 0) rfl)) all0)
 replace Z0 := Nat.le_trans Z0 K1.1
 have V_r := V_r_1'
 have hP1 := hP_1'
 have hS1 := hS_1'
 show Goes _ _ _ _ _ (fT T1 m 60 #[.val .null, vr r, vi 0, vi 0, vi (Int32.ofNat mm), vi ((Int32.ofNat mm) - 1), vi (Int32.ofNat mm), vu, vu, vu, vu, vu, vu, vu, vu, vu, vu, vu, vu, vu, vu, vu, vu, vu, vu] [])
 refine Goes.ret X1 none (fun _ => rfl) hlk (by decide) (by decide) ?_ (fun fs hr => ?_)
 ·exact ⟨A21, rfl, N1, KP, V_r, hP1, hS1⟩
 ·exact X1.returnOut hx hret (hb hby d10_60) hr
theorem d11_0 : DK kc0 0 (.iload_n 3) 1 := by decide +kernel
theorem d11_1 : DK kc0 1 (.iload_n 2) 1 := by decide +kernel
theorem d11_2 : DK kc0 2 .isub 1 := by decide +kernel
theorem d11_3 : DK kc0 3 (.istore 4) 2 := by decide +kernel
theorem d11_5 : DK kc0 5 (.iload_n 1) 1 := by decide +kernel
theorem d11_6 : DK kc0 6 (.iconst 1) 1 := by decide +kernel
theorem d11_7 : DK kc0 7 (.if_icmp .le 61) 3 := by decide +kernel
theorem d11_68 : DK kc0 68 .aconst_null 1 := by decide +kernel
theorem d11_69 : DK kc0 69 (.aload_n 0) 1 := by decide +kernel
theorem d11_70 : DK kc0 70 (.iconst 0) 1 := by decide +kernel
theorem d11_71 : DK kc0 71 (.iload_n 2) 1 := by decide +kernel
theorem d11_72 : DK kc0 72 (.iload_n 3) 1 := by decide +kernel
theorem d11_73 : DK kc0 73 (.invokestatic 99) 3 := by decide +kernel
theorem own_pd8 : parseMethodDescriptor "(Ljava/util/DualPivotQuicksort$Sorter;[JIII)V" = some ⟨[(.object "java/util/DualPivotQuicksort$Sorter"), (.array .long), .int, .int, .int], none⟩ := by decide +kernel
theorem d11_76 : DK kc0 76 .return_ 1 := by decide +kernel
theorem own_ef_rm_so2 (m : MethodId) (x0 : Addr) (x3 : Int32) : entryFrame m #[(.ref x0), (.int 0), (.int 0), (.int x3)] 7 = mkF m 0 #[vr x0, vi 0, vi 0, vi x3, vu, vu, vu] [] := by first | (simp [entryFrame, mkF, argsToLocals, Value.category]; done) | rfl
def Q_rm_so2 (Z : State) (r : Addr) (k : ClassId) (A : List Int64) (mm : Nat) (h0 : Heap) (n0 : Nat) (v : Option Value) (h : Heap) (L : List Loc) : Prop := ∃ A2 : List Int64, v = none ∧ Fr n0 L ∧ Keep h0 h [r] ∧ Arv Z h r k .long (Int32.ofNat mm) (jV A2) (.long 0) ∧ A2.Perm A ∧ A2.Pairwise own_le
theorem rm_so2 (l : Launch) (Z : State) (a0 : Array Value) (hw : HW a0 Z) (ws : List Jvm.Cond) (r : Addr) (k : ClassId) (A : List Int64) (mm : Nat) (h0 : Heap) (n0 : Nat) (Z0 : n0 ≤ h0.size) (V_r : Arv Z h0 r k .long (Int32.ofNat mm) (jV A) (.long 0)) (g_r : n0 ≤ r) (hA : A.length = mm) (hm9 : mm ≤ 9) :
  Met l Z mN11 jdk_2529_method_12_code 7 none ({ frames := 2, cells := 0, slots := 0, locals := 54 } : Room) ws #[(.ref r), (.int 0), (.int 0), (.int (Int32.ofNat mm))] h0 (Q_rm_so2 Z r k A mm h0 n0) := by
 refine own_met (plainFor_of_name own_pn4) ?_
 intro p e s m below meth c s₁ hret hx hby hlk hml hown hnm X0 e0 hZ hh
 have N0 := Fr.nil n0
 refine Gz (castTop (own_ef_rm_so2 m r (Int32.ofNat mm))) ?_
 have KP : Keep h0 h0 [r] := Keep.refl _ _
 show Goes _ _ _ _ _ (fT s₁ m 0 #[vr r, vi 0, vi 0, vi (Int32.ofNat mm), vu, vu, vu] [])
 refine gN X0 hx hby d11_0 rfl rfl ?_
 refine gN X0 hx hby d11_1 rfl rfl ?_
 show Goes _ _ _ _ _ (fT s₁ m 2 #[vr r, vi 0, vi 0, vi (Int32.ofNat mm), vu, vu, vu] [(.int 0), (.int (Int32.ofNat mm))])
 refine Gz (XS.isub X0.here hx rfl (hb hby d11_2) rfl) ?_
 show Goes _ _ _ _ _ (fT s₁ m 3 #[vr r, vi 0, vi 0, vi (Int32.ofNat mm), vu, vu, vu] [(.int ((Int32.ofNat mm) - 0))])
 refine gS X0 hx hby d11_3 #[vr r, vi 0, vi 0, vi (Int32.ofNat mm), vi ((Int32.ofNat mm) - 0), vu, vu] ?_
 refine gN X0 hx hby d11_5 rfl rfl ?_
 refine gC X0 hx hby d11_6 ?_
 refine gY X0 hx hby d11_7 7 68 (flt (by decide : ¬ ((1 : Int32) < (0 : Int32)))).2.2.2 ?_
 refine Gz (XS.aconstNull X0.here hx rfl (hb hby d11_68)) ?_
 refine gA X0 hx hby d11_69 rfl rfl rfl ?_
 show Goes _ _ _ _ _ (fT s₁ m 70 #[vr r, vi 0, vi 0, vi (Int32.ofNat mm), vi ((Int32.ofNat mm) - 0), vu, vu] [(.ref r), .null])
 refine gC X0 hx hby d11_70 ?_
 refine gN X0 hx hby d11_71 rfl rfl ?_
 refine gN X0 hx hby d11_72 rfl rfl ?_
 refine cSg X0 hx hZ hw hown hby hml e0 mN10 60 61 62 58 0 (rm_so3 l Z a0 hw [] r k A mm h0 n0 Z0 V_r g_r hA hm9) d11_73 (lenOf own_pd8 rfl) (fun _ T1 L1 X1 hQ1 => ?_)
 obtain ⟨A21, rfl, N1q, K1, V_r_1', hP_1', hS_1'⟩ := hQ1
 have N1 := Fr.app N0 N1q
 replace KP := KP.trans K1 (allS (Or.inl (List.mem_of_getElem? (i := 0) rfl)) all0)
 replace Z0 := Nat.le_trans Z0 K1.1
 have V_r := V_r_1'
 have hP1 := hP_1'
 have hS1 := hS_1'
 show Goes _ _ _ _ _ (fT T1 m 76 #[vr r, vi 0, vi 0, vi (Int32.ofNat mm), vi ((Int32.ofNat mm) - 0), vu, vu] [])
 refine Goes.ret X1 none (fun _ => rfl) hlk (by decide) (by decide) ?_ (fun fs hr => ?_)
 ·exact ⟨A21, rfl, N1, KP, V_r, hP1, hS1⟩
 ·exact X1.returnOut hx hret (hb hby d11_76) hr
theorem d12_0 : DK kc5 0 (.aload_n 0) 1 := by decide +kernel
theorem d12_1 : DK kc5 1 (.iconst 0) 1 := by decide +kernel
theorem d12_2 : DK kc5 2 (.iconst 0) 1 := by decide +kernel
theorem d12_3 : DK kc5 3 (.aload_n 0) 1 := by decide +kernel
theorem d12_4 : DK kc5 4 .arraylength 1 := by decide +kernel
theorem d12_5 : DK kc5 5 (.invokestatic 19) 3 := by decide +kernel
theorem own_pd9 : parseMethodDescriptor "([JIII)V" = some ⟨[(.array .long), .int, .int, .int], none⟩ := by decide +kernel
theorem d12_8 : DK kc5 8 .return_ 1 := by decide +kernel
theorem own_ef_rm_so1 (m : MethodId) (x0 : Addr) : entryFrame m #[(.ref x0)] 1 = mkF m 0 #[vr x0] [] := by first | (simp [entryFrame, mkF, argsToLocals, Value.category]; done) | rfl
def Q_rm_so1 (Z : State) (r : Addr) (k : ClassId) (A : List Int64) (mm : Nat) (h0 : Heap) (n0 : Nat) (v : Option Value) (h : Heap) (L : List Loc) : Prop := ∃ A2 : List Int64, v = none ∧ Fr n0 L ∧ Keep h0 h [r] ∧ Arv Z h r k .long (Int32.ofNat mm) (jV A2) (.long 0) ∧ A2.Perm A ∧ A2.Pairwise own_le
theorem rm_so1 (l : Launch) (Z : State) (a0 : Array Value) (hw : HW a0 Z) (ws : List Jvm.Cond) (r : Addr) (k : ClassId) (A : List Int64) (mm : Nat) (h0 : Heap) (n0 : Nat) (Z0 : n0 ≤ h0.size) (V_r : Arv Z h0 r k .long (Int32.ofNat mm) (jV A) (.long 0)) (g_r : n0 ≤ r) (hA : A.length = mm) (hm9 : mm ≤ 9) :
  Met l Z mN12 jdk_65_method_4_code 1 none ({ frames := 3, cells := 0, slots := 0, locals := 72 } : Room) ws #[(.ref r)] h0 (Q_rm_so1 Z r k A mm h0 n0) := by
 refine own_met (plainFor_of_name own_pn0) ?_
 intro p e s m below meth c s₁ hret hx hby hlk hml hown hnm X0 e0 hZ hh
 have N0 := Fr.nil n0
 refine Gz (castTop (own_ef_rm_so1 m r)) ?_
 have KP : Keep h0 h0 [r] := Keep.refl _ _
 show Goes _ _ _ _ _ (fT s₁ m 0 #[vr r] [])
 refine gA X0 hx hby d12_0 rfl rfl rfl ?_
 refine gC X0 hx hby d12_1 ?_
 refine gC X0 hx hby d12_2 ?_
 refine gA X0 hx hby d12_3 rfl rfl rfl ?_
 obtain ⟨cl1, Ar1, -, S1, N1z, -, -⟩ := id V_r
 refine Gs (fun _ tk => X0.arraylength hx (by rw [e0]; exact Ar1.1) (State.isArrayOf_alike hZ.alike Ar1.2.1) (g := (mkF m 4 #[vr r] [(.ref r), (.int 0), (.int 0), (.ref r)])) rfl rfl (hb hby d12_4) _ tk) ?_
 rw [len_of S1 N1z]
 show Goes _ _ _ _ _ (fT s₁ m 5 #[vr r] [(.int (Int32.ofNat mm)), (.int 0), (.int 0), (.ref r)])
 refine cSg X0 hx hZ hw hown hby hml e0 mN11 56 57 59 58 0 (rm_so2 l Z a0 hw [] r k A mm h0 n0 Z0 V_r g_r hA hm9) d12_5 (lenOf own_pd9 rfl) (fun _ T2 L2 X2 hQ2 => ?_)
 obtain ⟨A22, rfl, N2q, K2, V_r_2', hP_2', hS_2'⟩ := hQ2
 have N2 := Fr.app N0 N2q
 replace KP := KP.trans K2 (allS (Or.inl (List.mem_of_getElem? (i := 0) rfl)) all0)
 replace Z0 := Nat.le_trans Z0 K2.1
 have V_r := V_r_2'
 have hP2 := hP_2'
 have hS2 := hS_2'
 show Goes _ _ _ _ _ (fT T2 m 8 #[vr r] [])
 refine Goes.ret X2 none (fun _ => rfl) hlk (by decide) (by decide) ?_ (fun fs hr => ?_)
 ·exact ⟨A22, rfl, N2, KP, V_r, hP2, hS2⟩
 ·exact X2.returnOut hx hret (hb hby d12_8) hr
theorem d13_0 : DK kc8 0 (.aload_n 0) 1 := by decide +kernel
theorem d13_1 : DK kc8 1 (.getfield 24) 3 := by decide +kernel
theorem d13_4 : DK kc8 4 (.newarray .long) 2 := by decide +kernel
theorem d13_6 : DK kc8 6 (.astore_n 1) 1 := by decide +kernel
theorem d13_7 : DK kc8 7 (.iconst 0) 1 := by decide +kernel
theorem d13_8 : DK kc8 8 (.istore_n 2) 1 := by decide +kernel
theorem d13_9 : DK kc8 9 (.iconst 0) 1 := by decide +kernel
theorem d13_10 : DK kc8 10 (.istore_n 3) 1 := by decide +kernel
theorem d13_11 : DK kc8 11 (.iload_n 3) 1 := by decide +kernel
theorem d13_12 : DK kc8 12 (.aload_n 0) 1 := by decide +kernel
theorem d13_13 : DK kc8 13 (.getfield 13) 3 := by decide +kernel
theorem d13_16 : DK kc8 16 .arraylength 1 := by decide +kernel
theorem d13_17 : DK kc8 17 (.if_icmp .ge 44) 3 := by decide +kernel
theorem d13_20 : DK kc8 20 (.aload_n 0) 1 := by decide +kernel
theorem d13_21 : DK kc8 21 (.getfield 13) 3 := by decide +kernel
theorem d13_24 : DK kc8 24 (.iload_n 3) 1 := by decide +kernel
theorem d13_25 : DK kc8 25 .iaload 1 := by decide +kernel
theorem d13_26 : DK kc8 26 (.iconst (-1)) 1 := by decide +kernel
theorem d13_27 : DK kc8 27 (.if_icmp .eq 28) 3 := by decide +kernel
theorem d13_55 : DK kc8 55 (.iinc 3 1) 3 := by decide +kernel
theorem d13_58 : DK kc8 58 (.goto (-47)) 3 := by decide +kernel
theorem d13_30 : DK kc8 30 (.aload_n 1) 1 := by decide +kernel
theorem d13_31 : DK kc8 31 (.iload_n 2) 1 := by decide +kernel
theorem d13_32 : DK kc8 32 (.aload_n 0) 1 := by decide +kernel
theorem d13_33 : DK kc8 33 (.getfield 17) 3 := by decide +kernel
theorem d13_36 : DK kc8 36 (.iload_n 3) 1 := by decide +kernel
theorem d13_37 : DK kc8 37 .iaload 1 := by decide +kernel
theorem d13_38 : DK kc8 38 .ineg 1 := by decide +kernel
theorem d13_39 : DK kc8 39 .i2l 1 := by decide +kernel
theorem d13_40 : DK kc8 40 (.bipush 32) 2 := by decide +kernel
theorem d13_42 : DK kc8 42 .lshl 1 := by decide +kernel
theorem d13_43 : DK kc8 43 (.aload_n 0) 1 := by decide +kernel
theorem d13_44 : DK kc8 44 (.getfield 13) 3 := by decide +kernel
theorem d13_47 : DK kc8 47 (.iload_n 3) 1 := by decide +kernel
theorem d13_48 : DK kc8 48 .iaload 1 := by decide +kernel
theorem d13_49 : DK kc8 49 .i2l 1 := by decide +kernel
theorem d13_50 : DK kc8 50 .lor 1 := by decide +kernel
theorem d13_51 : DK kc8 51 .lastore 1 := by decide +kernel
theorem d13_52 : DK kc8 52 (.iinc 2 1) 3 := by decide +kernel
theorem d13_61 : DK kc8 61 (.aload_n 1) 1 := by decide +kernel
theorem d13_62 : DK kc8 62 (.invokestatic 33) 3 := by decide +kernel
theorem own_pd10 : parseMethodDescriptor "([J)V" = some ⟨[(.array .long)], none⟩ := by decide +kernel
theorem d13_65 : DK kc8 65 (.aload_n 0) 1 := by decide +kernel
theorem d13_66 : DK kc8 66 (.getfield 24) 3 := by decide +kernel
theorem d13_69 : DK kc8 69 (.newarray .int) 2 := by decide +kernel
theorem d13_71 : DK kc8 71 (.astore_n 3) 1 := by decide +kernel
theorem d13_72 : DK kc8 72 (.iconst 0) 1 := by decide +kernel
theorem d13_73 : DK kc8 73 (.istore 4) 2 := by decide +kernel
theorem d13_75 : DK kc8 75 (.iload 4) 2 := by decide +kernel
theorem d13_77 : DK kc8 77 (.aload_n 0) 1 := by decide +kernel
theorem d13_78 : DK kc8 78 (.getfield 24) 3 := by decide +kernel
theorem d13_81 : DK kc8 81 (.if_icmp .ge 18) 3 := by decide +kernel
theorem d13_84 : DK kc8 84 (.aload_n 3) 1 := by decide +kernel
theorem d13_85 : DK kc8 85 (.iload 4) 2 := by decide +kernel
theorem d13_87 : DK kc8 87 (.aload_n 1) 1 := by decide +kernel
theorem d13_88 : DK kc8 88 (.iload 4) 2 := by decide +kernel
theorem d13_90 : DK kc8 90 .laload 1 := by decide +kernel
theorem d13_91 : DK kc8 91 .l2i 1 := by decide +kernel
theorem d13_92 : DK kc8 92 .iastore 1 := by decide +kernel
theorem d13_93 : DK kc8 93 (.iinc 4 1) 3 := by decide +kernel
theorem d13_96 : DK kc8 96 (.goto (-21)) 3 := by decide +kernel
theorem d13_99 : DK kc8 99 (.aload_n 3) 1 := by decide +kernel
theorem d13_100 : DK kc8 100 .areturn 1 := by decide +kernel
theorem own_ef_rm_rk (m : MethodId) (x0 : Addr) : entryFrame m #[(.ref x0)] 5 = mkF m 0 #[vr x0, vu, vu, vu, vu] [] := by first | (simp [entryFrame, mkF, argsToLocals, Value.category]; done) | rfl
def Q_rm_rk (Z : State) (n : Nat) (a : Addr) (b : Addr) (kb : ClassId) (d : Addr) (kd : ClassId) (T : List Int32) (K : List Int32) (E : List (Int32 × Int32)) (h0 : Heap) (n0 : Nat) (v : Option Value) (h : Heap) (L : List Loc) : Prop := ∃ r : Addr, ∃ kr : ClassId, ∃ RR : List Int32, v = some (.ref r) ∧ Fr n0 L ∧ Keep h0 h [] ∧ Arv Z h r kr .int (Int32.ofNat E.length) (iV RR) (.int 0) ∧ ∃ L : List Int64, L.Perm (E.map own_kp) ∧ L.Pairwise own_le ∧ RR = L.map Int64.toInt32
theorem rm_rk (l : Launch) (Z : State) (a0 : Array Value) (hw : HW a0 Z) (ws : List Jvm.Cond) (n : Nat) (a : Addr) (b : Addr) (kb : ClassId) (d : Addr) (kd : ClassId) (T : List Int32) (K : List Int32) (E : List (Int32 × Int32)) (h0 : Heap) (n0 : Nat) (Z0 : n0 ≤ h0.size) (A_a : Exa Z h0 a "com/example/tandemtrie/tandemtrie/build/CodePointCounts") (F_codePoints_a : Fld Z h0 a "com/example/tandemtrie/tandemtrie/build/CodePointCounts" "codePoints" "[I" (.ref b)) (F_counts_a : Fld Z h0 a "com/example/tandemtrie/tandemtrie/build/CodePointCounts" "counts" "[I" (.ref d)) (F_size_a : Fld Z h0 a "com/example/tandemtrie/tandemtrie/build/CodePointCounts" "size" "I" (.int (Int32.ofNat E.length))) (V_b : Arv Z h0 b kb .int (Int32.ofNat n) (iV T) (.int 0)) (V_d : Arv Z h0 d kd .int (Int32.ofNat n) (iV K) (.int 0)) (hO : Oinv (own_h n) n T K E) (hE9 : E.length ≤ 9) :
  Met l Z mN13 prog_10_method_3_code 5 (some (.array .int)) ({ frames := 4, cells := 2, slots := 18, locals := 84 } : Room) ws #[(.ref a)] h0 (Q_rm_rk Z n a b kb d kd T K E h0 n0) := by
 refine own_met (plainFor_of_name own_pn1) ?_
 intro p e s m below meth c s₁ hret hx hby hlk hml hown hnm X0 e0 hZ hh
 have N0 := Fr.nil n0
 refine Gz (castTop (own_ef_rm_rk m a)) ?_
 have KP : Keep h0 h0 [] := Keep.refl _ _
 show Goes _ _ _ _ _ (fT s₁ m 0 #[vr a, vu, vu, vu, vu] [])
 have hn2 := hO.n2
 have oe := own_tnO (n := E.length) (by omega)
 refine gA X0 hx hby d13_0 rfl rfl rfl ?_
 obtain ⟨T1, X1, e1, st1⟩ := getF X0 hx hZ hown (host := "") (Or.inl (gw hw 45 rfl)) Via.refl e0 F_size_a (g := (mkF m 1 #[vr a, vu, vu, vu, vu] [(.ref a)])) rfl rfl (hb hby d13_1)
 refine Gs st1 ?_
 show Goes _ _ _ _ _ (fT T1 m 4 #[vr a, vu, vu, vu, vu] [(.int (Int32.ofNat E.length))])
 obtain ⟨T2, h2, k2, X2, e2, E2, A2, st2⟩ := newP X1 hx hZ (gw hw 52 rfl) e1 (g := (mkF m 4 #[vr a, vu, vu, vu, vu] [(.int (Int32.ofNat E.length))])) rfl (hb hby d13_4) rfl oe.2.1 (cap := 9) (by rw [oe.1]; omega) (by decide) (by decide) (by decide)
 obtain ⟨b2, gq2⟩ : ∃ z, z = h0.size := ⟨_, rfl⟩
 rw [← gq2] at A2 st2
 have g_b2 : n0 ≤ b2 := by rw [gq2]; exact Z0
 have sz_b2 : h0.size ≤ b2 := by rw [gq2]; exact KP.1
 have ne_a_b2 : a ≠ b2 := by rw [gq2]; exact Nat.ne_of_lt A_a.lt
 have ne_b_b2 : b ≠ b2 := by rw [gq2]; exact Nat.ne_of_lt V_b.lt
 have ne_d_b2 : d ≠ b2 := by rw [gq2]; exact Nat.ne_of_lt V_d.lt
 replace A_a := A_a.ext E2
 replace F_codePoints_a := F_codePoints_a.ext E2
 replace F_counts_a := F_counts_a.ext E2
 replace F_size_a := F_size_a.ext E2
 replace V_b := V_b.ext E2
 replace V_d := V_d.ext E2
 replace KP := KP.ext E2
 replace Z0 : n0 ≤ h2.size := Nat.le_trans Z0 E2.1
 have V_b2 : Arv Z h2 b2 k2 .long (Int32.ofNat E.length) [] (.long (0 : Int64)) := Arv.new A2 oe.2.1
 refine Gs st2 ?_
 show Goes _ _ _ _ _ (fT T2 m 6 #[vr a, vu, vu, vu, vu] [(.ref b2)])
 refine Gz (XS.astoreN X2.here hx rfl (hb hby d13_6) rfl rfl (l' := #[vr a, vr b2, vu, vu, vu]) rfl) ?_
 refine gC X2 hx hby d13_7 ?_
 refine gs X2 hx hby d13_8 #[vr a, vr b2, vi 0, vu, vu] ?_
 refine gC X2 hx hby d13_9 ?_
 refine gs X2 hx hby d13_10 #[vr a, vr b2, vi 0, vi 0, vu] ?_
 show Goes _ _ _ _ _ (fT T2 m 11 #[vr a, vr b2, vi 0, vi 0, vu] [])
 refine own_loopG (ι := Nat) (μ := fun i => n - i) (I := fun i T5 L => i ≤ n ∧ Fr n0 L ∧ n0 ≤ T5.heap.size ∧ Keep h0 T5.heap [] ∧ Exa Z T5.heap a "com/example/tandemtrie/tandemtrie/build/CodePointCounts" ∧ Fld Z T5.heap a "com/example/tandemtrie/tandemtrie/build/CodePointCounts" "codePoints" "[I" (.ref b) ∧ Fld Z T5.heap a "com/example/tandemtrie/tandemtrie/build/CodePointCounts" "counts" "[I" (.ref d) ∧ Fld Z T5.heap a "com/example/tandemtrie/tandemtrie/build/CodePointCounts" "size" "I" (.int (Int32.ofNat E.length)) ∧ Arv Z T5.heap b kb .int (Int32.ofNat n) (iV T) (.int 0) ∧ Arv Z T5.heap d kd .int (Int32.ofNat n) (iV K) (.int 0) ∧ Arv Z T5.heap b2 k2 .long (Int32.ofNat E.length) (jV ((own_ents (T.take i) (K.take i)).map own_kp)) (.long 0)) (B := fun i T5 => T5.setTop (mkF m 11 #[vr a, vr b2, vi (Int32.ofNat (own_ents (T.take i) (K.take i)).length), vi (Int32.ofNat i), vu] [])) ?_ 0 X2 ⟨Nat.zero_le _, N0, (by rw [e2]; exact Z0), (by rw [e2]; exact KP), (by rw [e2]; exact A_a), (by rw [e2]; exact F_codePoints_a), (by rw [e2]; exact F_counts_a), (by rw [e2]; exact F_size_a), (by rw [e2]; exact V_b), (by rw [e2]; exact V_d), (by rw [e2]; exact V_b2)⟩
 intro i T5 L5 X5 hI ih
 obtain ⟨hi, N5, Z0, KP, A_a, F_codePoints_a, F_counts_a, F_size_a, V_b, V_d, V_b2⟩ := hI
 dsimp only at ih ⊢
 show Goes _ _ _ _ _ (fT T5 m 11 #[vr a, vr b2, vi (Int32.ofNat (own_ents (T.take i) (K.take i)).length), vi (Int32.ofNat i), vu] [])
 refine gN X5 hx hby d13_11 rfl rfl ?_
 refine gA X5 hx hby d13_12 rfl rfl rfl ?_
 obtain ⟨T3, X3, e3, st3⟩ := getF X5 hx hZ hown (host := "") (Or.inl (gw hw 20 rfl)) Via.refl rfl F_codePoints_a (g := (mkF m 13 #[vr a, vr b2, vi (Int32.ofNat (own_ents (T.take i) (K.take i)).length), vi (Int32.ofNat i), vu] [(.ref a), (.int (Int32.ofNat i))])) rfl rfl (hb hby d13_13)
 refine Gs st3 ?_
 show Goes _ _ _ _ _ (fT T3 m 16 #[vr a, vr b2, vi (Int32.ofNat (own_ents (T.take i) (K.take i)).length), vi (Int32.ofNat i), vu] [(.ref b), (.int (Int32.ofNat i))])
 obtain ⟨cl4, Ar4, -, S4, N4z, -, -⟩ := id V_b
 refine Gs (fun _ tk => X3.arraylength hx (by rw [e3]; exact Ar4.1) (State.isArrayOf_alike hZ.alike Ar4.2.1) (g := (mkF m 16 #[vr a, vr b2, vi (Int32.ofNat (own_ents (T.take i) (K.take i)).length), vi (Int32.ofNat i), vu] [(.ref b), (.int (Int32.ofNat i))])) rfl rfl (hb hby d13_16) _ tk) ?_
 rw [len_of S4 N4z]
 show Goes _ _ _ _ _ (fT T3 m 17 #[vr a, vr b2, vi (Int32.ofNat (own_ents (T.take i) (K.take i)).length), vi (Int32.ofNat i), vu] [(.int (Int32.ofNat n)), (.int (Int32.ofNat i))])
 by_cases hc17_5 : (Int32.ofNat i) < (Int32.ofNat n)
 ·refine gU X3 hx hby d13_17 (tlt hc17_5).2.1 ?_
  have hlt : i < n := (own_ltN (by omega) (by omega)).mp hc17_5
  refine gA X3 hx hby d13_20 rfl rfl rfl ?_
  obtain ⟨T6, X6, e6, st6⟩ := getF X3 hx hZ hown (host := "") (Or.inl (gw hw 20 rfl)) Via.refl e3 F_codePoints_a (g := (mkF m 21 #[vr a, vr b2, vi (Int32.ofNat (own_ents (T.take i) (K.take i)).length), vi (Int32.ofNat i), vu] [(.ref a)])) rfl rfl (hb hby d13_21)
  refine Gs st6 ?_
  show Goes _ _ _ _ _ (fT T6 m 24 #[vr a, vr b2, vi (Int32.ofNat (own_ents (T.take i) (K.take i)).length), vi (Int32.ofNat i), vu] [(.ref b)])
  refine gN X6 hx hby d13_24 rfl rfl ?_
  obtain ⟨cl7, Ar7, -, S7, N7z, H7, -⟩ := id V_b
  have hin7 : ¬ ((Int32.ofNat i) < 0 ∨ cl7.slots.size ≤ ((Int32.ofNat i)).toNatClampNeg) := inb_of S7 ⟨(own_tnO (n := i) (by omega)).2.1, (own_ltN (by omega) (by omega)).mpr hlt⟩
  have hat7 : cl7.slots[((Int32.ofNat i)).toNatClampNeg]? = some (.int (T.getD i 0)) := Has.at H7 hin7 (by rw [(own_tnO (n := i) (by omega)).1, own_iVg])
  refine Gs (fun _ tk => X6.iaload hx (j := (Int32.ofNat i)) (v := (.int (T.getD i 0))) (by rw [e6]; exact Ar7.1) (State.isArrayOf_alike hZ.alike Ar7.2.1) Ar7.2.2 hin7 hat7 (g := (mkF m 25 #[vr a, vr b2, vi (Int32.ofNat (own_ents (T.take i) (K.take i)).length), vi (Int32.ofNat i), vu] [(.int (Int32.ofNat i)), (.ref b)])) rfl rfl (hb hby d13_25) _ tk) ?_
  show Goes _ _ _ _ _ (fT T6 m 26 #[vr a, vr b2, vi (Int32.ofNat (own_ents (T.take i) (K.take i)).length), vi (Int32.ofNat i), vu] [(.int (T.getD i 0))])
  refine gC X6 hx hby d13_26 ?_
  by_cases hc27_8 : (T.getD i 0) = (-1 : Int32)
  ·refine gY X6 hx hby d13_27 27 55 (teq hc27_8).1 ?_
   have eN := own_entsN (T := T) (K := K) (i := i) (by rw [hO.lt]; exact hlt) (by rw [hO.lt, hO.lk]) hc27_8
   show Goes _ _ _ _ _ (fT T6 m 55 #[vr a, vr b2, vi (Int32.ofNat (own_ents (T.take i) (K.take i)).length), vi (Int32.ofNat i), vu] [])
   refine Gz (XS.iinc X6.here hx rfl (hb hby d13_55) rfl (l' := #[vr a, vr b2, vi (Int32.ofNat (own_ents (T.take i) (K.take i)).length), vi ((Int32.ofNat i) + 1), vu]) rfl) ?_
   show Goes _ _ _ _ _ (fT T6 m 58 #[vr a, vr b2, vi (Int32.ofNat (own_ents (T.take i) (K.take i)).length), vi ((Int32.ofNat i) + 1), vu] [])
   refine gG X6 hx hby d13_58 58 11 ?_
   show Goes _ _ _ _ _ (fT T6 m 11 #[vr a, vr b2, vi (Int32.ofNat (own_ents (T.take i) (K.take i)).length), vi ((Int32.ofNat i) + 1), vu] [])
   rw [own_ofS]
   have q5 := ih (i + 1) _ _ (by omega) X6 ⟨hlt, N5, (by rw [e6]; exact Z0), (by rw [e6]; exact KP), (by rw [e6]; exact A_a), (by rw [e6]; exact F_codePoints_a), (by rw [e6]; exact F_counts_a), (by rw [e6]; exact F_size_a), (by rw [e6]; exact V_b), (by rw [e6]; exact V_d), (by rw [e6]; rw [eN]; exact V_b2)⟩
   rw [eN] at q5
   exact q5
  ·refine gU X6 hx hby d13_27 (feq hc27_8).1 ?_
   have hbd := own_entsB hO hlt hc27_8
   have eY := own_entsY (T := T) (K := K) (i := i) (by rw [hO.lt]; exact hlt) (by rw [hO.lt, hO.lk]) hc27_8
   refine gA X6 hx hby d13_30 rfl rfl rfl ?_
   refine gN X6 hx hby d13_31 rfl rfl ?_
   refine gA X6 hx hby d13_32 rfl rfl rfl ?_
   obtain ⟨T9, X9, e9, st9⟩ := getF X6 hx hZ hown (host := "") (Or.inl (gw hw 22 rfl)) Via.refl e6 F_counts_a (g := (mkF m 33 #[vr a, vr b2, vi (Int32.ofNat (own_ents (T.take i) (K.take i)).length), vi (Int32.ofNat i), vu] [(.ref a), (.int (Int32.ofNat (own_ents (T.take i) (K.take i)).length)), (.ref b2)])) rfl rfl (hb hby d13_33)
   refine Gs st9 ?_
   show Goes _ _ _ _ _ (fT T9 m 36 #[vr a, vr b2, vi (Int32.ofNat (own_ents (T.take i) (K.take i)).length), vi (Int32.ofNat i), vu] [(.ref d), (.int (Int32.ofNat (own_ents (T.take i) (K.take i)).length)), (.ref b2)])
   refine gN X9 hx hby d13_36 rfl rfl ?_
   obtain ⟨cl10, Ar10, -, S10, N10z, H10, -⟩ := id V_d
   have hin10 : ¬ ((Int32.ofNat i) < 0 ∨ cl10.slots.size ≤ ((Int32.ofNat i)).toNatClampNeg) := inb_of S10 ⟨(own_tnO (n := i) (by omega)).2.1, (own_ltN (by omega) (by omega)).mpr hlt⟩
   have hat10 : cl10.slots[((Int32.ofNat i)).toNatClampNeg]? = some (.int (K.getD i 0)) := Has.at H10 hin10 (by rw [(own_tnO (n := i) (by omega)).1, own_iVg])
   refine Gs (fun _ tk => X9.iaload hx (j := (Int32.ofNat i)) (v := (.int (K.getD i 0))) (by rw [e9]; exact Ar10.1) (State.isArrayOf_alike hZ.alike Ar10.2.1) Ar10.2.2 hin10 hat10 (g := (mkF m 37 #[vr a, vr b2, vi (Int32.ofNat (own_ents (T.take i) (K.take i)).length), vi (Int32.ofNat i), vu] [(.int (Int32.ofNat i)), (.ref d), (.int (Int32.ofNat (own_ents (T.take i) (K.take i)).length)), (.ref b2)])) rfl rfl (hb hby d13_37) _ tk) ?_
   show Goes _ _ _ _ _ (fT T9 m 38 #[vr a, vr b2, vi (Int32.ofNat (own_ents (T.take i) (K.take i)).length), vi (Int32.ofNat i), vu] [(.int (K.getD i 0)), (.int (Int32.ofNat (own_ents (T.take i) (K.take i)).length)), (.ref b2)])
   refine Gz (XS.ineg X9.here hx rfl (hb hby d13_38) rfl) ?_
   show Goes _ _ _ _ _ (fT T9 m 39 #[vr a, vr b2, vi (Int32.ofNat (own_ents (T.take i) (K.take i)).length), vi (Int32.ofNat i), vu] [(.int (-(K.getD i 0))), (.int (Int32.ofNat (own_ents (T.take i) (K.take i)).length)), (.ref b2)])
   refine Gz (XS.i2l X9.here hx rfl (hb hby d13_39) rfl) ?_
   show Goes _ _ _ _ _ (fT T9 m 40 #[vr a, vr b2, vi (Int32.ofNat (own_ents (T.take i) (K.take i)).length), vi (Int32.ofNat i), vu] [(.long ((-(K.getD i 0)).toInt64)), (.int (Int32.ofNat (own_ents (T.take i) (K.take i)).length)), (.ref b2)])
   refine gB X9 hx hby d13_40 ?_
   show Goes _ _ _ _ _ (fT T9 m 42 #[vr a, vr b2, vi (Int32.ofNat (own_ents (T.take i) (K.take i)).length), vi (Int32.ofNat i), vu] [(.int 32), (.long ((-(K.getD i 0)).toInt64)), (.int (Int32.ofNat (own_ents (T.take i) (K.take i)).length)), (.ref b2)])
   refine Gz (XS.lshl X9.here hx rfl (hb hby d13_42) rfl) ?_
   show Goes _ _ _ _ _ (fT T9 m 43 #[vr a, vr b2, vi (Int32.ofNat (own_ents (T.take i) (K.take i)).length), vi (Int32.ofNat i), vu] [(.long (((-(K.getD i 0)).toInt64) <<< ((32 : Int32) &&& 0x3f).toInt64)), (.int (Int32.ofNat (own_ents (T.take i) (K.take i)).length)), (.ref b2)])
   refine gA X9 hx hby d13_43 rfl rfl rfl ?_
   obtain ⟨T11, X11, e11, st11⟩ := getF X9 hx hZ hown (host := "") (Or.inl (gw hw 20 rfl)) Via.refl e9 F_codePoints_a (g := (mkF m 44 #[vr a, vr b2, vi (Int32.ofNat (own_ents (T.take i) (K.take i)).length), vi (Int32.ofNat i), vu] [(.ref a), (.long (((-(K.getD i 0)).toInt64) <<< ((32 : Int32) &&& 0x3f).toInt64)), (.int (Int32.ofNat (own_ents (T.take i) (K.take i)).length)), (.ref b2)])) rfl rfl (hb hby d13_44)
   refine Gs st11 ?_
   show Goes _ _ _ _ _ (fT T11 m 47 #[vr a, vr b2, vi (Int32.ofNat (own_ents (T.take i) (K.take i)).length), vi (Int32.ofNat i), vu] [(.ref b), (.long (((-(K.getD i 0)).toInt64) <<< ((32 : Int32) &&& 0x3f).toInt64)), (.int (Int32.ofNat (own_ents (T.take i) (K.take i)).length)), (.ref b2)])
   refine gN X11 hx hby d13_47 rfl rfl ?_
   obtain ⟨cl12, Ar12, -, S12, N12z, H12, -⟩ := id V_b
   have hin12 : ¬ ((Int32.ofNat i) < 0 ∨ cl12.slots.size ≤ ((Int32.ofNat i)).toNatClampNeg) := inb_of S12 ⟨(own_tnO (n := i) (by omega)).2.1, (own_ltN (by omega) (by omega)).mpr hlt⟩
   have hat12 : cl12.slots[((Int32.ofNat i)).toNatClampNeg]? = some (.int (T.getD i 0)) := Has.at H12 hin12 (by rw [(own_tnO (n := i) (by omega)).1, own_iVg])
   refine Gs (fun _ tk => X11.iaload hx (j := (Int32.ofNat i)) (v := (.int (T.getD i 0))) (by rw [e11]; exact Ar12.1) (State.isArrayOf_alike hZ.alike Ar12.2.1) Ar12.2.2 hin12 hat12 (g := (mkF m 48 #[vr a, vr b2, vi (Int32.ofNat (own_ents (T.take i) (K.take i)).length), vi (Int32.ofNat i), vu] [(.int (Int32.ofNat i)), (.ref b), (.long (((-(K.getD i 0)).toInt64) <<< ((32 : Int32) &&& 0x3f).toInt64)), (.int (Int32.ofNat (own_ents (T.take i) (K.take i)).length)), (.ref b2)])) rfl rfl (hb hby d13_48) _ tk) ?_
   show Goes _ _ _ _ _ (fT T11 m 49 #[vr a, vr b2, vi (Int32.ofNat (own_ents (T.take i) (K.take i)).length), vi (Int32.ofNat i), vu] [(.int (T.getD i 0)), (.long (((-(K.getD i 0)).toInt64) <<< ((32 : Int32) &&& 0x3f).toInt64)), (.int (Int32.ofNat (own_ents (T.take i) (K.take i)).length)), (.ref b2)])
   refine Gz (XS.i2l X11.here hx rfl (hb hby d13_49) rfl) ?_
   show Goes _ _ _ _ _ (fT T11 m 50 #[vr a, vr b2, vi (Int32.ofNat (own_ents (T.take i) (K.take i)).length), vi (Int32.ofNat i), vu] [(.long ((T.getD i 0).toInt64)), (.long (((-(K.getD i 0)).toInt64) <<< ((32 : Int32) &&& 0x3f).toInt64)), (.int (Int32.ofNat (own_ents (T.take i) (K.take i)).length)), (.ref b2)])
   refine Gz (XS.lor X11.here hx rfl (hb hby d13_50) rfl) ?_
   show Goes _ _ _ _ _ (fT T11 m 51 #[vr a, vr b2, vi (Int32.ofNat (own_ents (T.take i) (K.take i)).length), vi (Int32.ofNat i), vu] [(.long (own_key (T.getD i 0) (K.getD i 0))), (.int (Int32.ofNat (own_ents (T.take i) (K.take i)).length)), (.ref b2)])
   replace V_b2 := own_padN V_b2 1
   obtain ⟨cl13, Ar13, q13, S13, N13z, H13, G13⟩ := V_b2
   have hin13 : ¬ ((Int32.ofNat (own_ents (T.take i) (K.take i)).length) < 0 ∨ cl13.slots.size ≤ ((Int32.ofNat (own_ents (T.take i) (K.take i)).length)).toNatClampNeg) := inb_of S13 ⟨(own_tnO (n := (own_ents (T.take i) (K.take i)).length) (by omega)).2.1, (own_ltN (by omega) (by omega)).mpr hbd⟩
   obtain ⟨T13, h13, X13, e13, W13, st13⟩ := stJ X11 hx hZ e11 Ar13 (j := (Int32.ofNat (own_ents (T.take i) (K.take i)).length)) hin13 (g := (mkF m 51 #[vr a, vr b2, vi (Int32.ofNat (own_ents (T.take i) (K.take i)).length), vi (Int32.ofNat i), vu] [(.long (own_key (T.getD i 0) (K.getD i 0))), (.int (Int32.ofNat (own_ents (T.take i) (K.take i)).length)), (.ref b2)])) rfl rfl (hb hby d13_51)
   have Vn13 := Arv.set Ar13 q13 S13 N13z H13 G13 rfl W13 ((own_ents (T.take i) (K.take i)).length) (own_tnO (by omega)).1 (by rw [List.length_append, own_jVL, List.length_map, List.length_replicate]; omega)
   have N13 := Fr.snoc X13 N5 g_b2
   replace A_a := A_a.wr W13
   replace F_codePoints_a := F_codePoints_a.other W13 (Or.inl ne_a_b2)
   replace F_counts_a := F_counts_a.other W13 (Or.inl ne_a_b2)
   replace F_size_a := F_size_a.other W13 (Or.inl ne_a_b2)
   replace V_b := V_b.other W13 ne_b_b2
   replace V_d := V_d.other W13 ne_d_b2
   replace KP := KP.wr W13 (Or.inr sz_b2)
   have V_b2 : Arv Z h13 b2 k2 .long (Int32.ofNat E.length) (jV ((own_ents (T.take (i + 1)) (K.take (i + 1))).map own_kp)) (.long 0) := own_arvE Vn13 (own_rkS eY)
   replace Z0 : n0 ≤ h13.size := by rw [W13.size]; exact Z0
   refine Gs st13 ?_
   show Goes _ _ _ _ _ (fT T13 m 52 #[vr a, vr b2, vi (Int32.ofNat (own_ents (T.take i) (K.take i)).length), vi (Int32.ofNat i), vu] [])
   refine Gz (XS.iinc X13.here hx rfl (hb hby d13_52) rfl (l' := #[vr a, vr b2, vi ((Int32.ofNat (own_ents (T.take i) (K.take i)).length) + 1), vi (Int32.ofNat i), vu]) rfl) ?_
   show Goes _ _ _ _ _ (fT T13 m 55 #[vr a, vr b2, vi ((Int32.ofNat (own_ents (T.take i) (K.take i)).length) + 1), vi (Int32.ofNat i), vu] [])
   refine Gz (XS.iinc X13.here hx rfl (hb hby d13_55) rfl (l' := #[vr a, vr b2, vi ((Int32.ofNat (own_ents (T.take i) (K.take i)).length) + 1), vi ((Int32.ofNat i) + 1), vu]) rfl) ?_
   show Goes _ _ _ _ _ (fT T13 m 58 #[vr a, vr b2, vi ((Int32.ofNat (own_ents (T.take i) (K.take i)).length) + 1), vi ((Int32.ofNat i) + 1), vu] [])
   refine gG X13 hx hby d13_58 58 11 ?_
   show Goes _ _ _ _ _ (fT T13 m 11 #[vr a, vr b2, vi ((Int32.ofNat (own_ents (T.take i) (K.take i)).length) + 1), vi ((Int32.ofNat i) + 1), vu] [])
   rw [own_ofS, own_ofS]
   have q5 := ih (i + 1) _ _ (by omega) X13 ⟨hlt, N13, (by rw [e13]; exact Z0), (by rw [e13]; exact KP), (by rw [e13]; exact A_a), (by rw [e13]; exact F_codePoints_a), (by rw [e13]; exact F_counts_a), (by rw [e13]; exact F_size_a), (by rw [e13]; exact V_b), (by rw [e13]; exact V_d), (by rw [e13]; exact V_b2)⟩
   rw [show (own_ents (T.take (i + 1)) (K.take (i + 1))).length = (own_ents (T.take i) (K.take i)).length + 1 from by rw [eY, List.length_append]; rfl] at q5
   exact q5
 ·refine gY X3 hx hby d13_17 17 61 (flt hc17_5).2.1 ?_
  have hin : i = n := by
   rcases Nat.lt_or_ge i n with z | z
   ·exact absurd ((own_ltN (by omega) (by omega)).mpr z) hc17_5
   ·omega
  replace V_b2 := own_arvE V_b2 (show jV ((own_ents (T.take i) (K.take i)).map own_kp) = jV ((own_ents T K).map own_kp) from by rw [hin, own_entsP hO.lt hO.lk])
  refine gA X3 hx hby d13_61 rfl rfl rfl ?_
  refine cSg X3 hx hZ hw hown hby hml e3 mN12 53 54 55 18 0 (rm_so1 l Z a0 hw [] b2 k2 ((own_ents T K).map own_kp) E.length T5.heap n0 Z0 V_b2 g_b2 (by rw [List.length_map]; exact hO.p.length_eq) hE9) d13_62 (lenOf own_pd10 rfl) (fun _ T14 L14 X14 hQ14 => ?_)
  obtain ⟨A214, rfl, N14q, K14, V_b2_14', hP_14', hS_14'⟩ := hQ14
  have N14 := Fr.app N5 N14q
  replace A_a := A_a.keep K14
  replace F_codePoints_a := F_codePoints_a.keep K14 (ninS ne_a_b2 nin0)
  replace F_counts_a := F_counts_a.keep K14 (ninS ne_a_b2 nin0)
  replace F_size_a := F_size_a.keep K14 (ninS ne_a_b2 nin0)
  replace V_b := V_b.keep K14 (ninS ne_b_b2 nin0)
  replace V_d := V_d.keep K14 (ninS ne_d_b2 nin0)
  replace KP := KP.trans K14 (allS (Or.inr sz_b2) all0)
  replace Z0 := Nat.le_trans Z0 K14.1
  have V_b2 := V_b2_14'
  have hP14 := hP_14'
  have hS14 := hS_14'
  show Goes _ _ _ _ _ (fT T14 m 65 #[vr a, vr b2, vi (Int32.ofNat (own_ents (T.take i) (K.take i)).length), vi (Int32.ofNat i), vu] [])
  refine gA X14 hx hby d13_65 rfl rfl rfl ?_
  obtain ⟨T15, X15, e15, st15⟩ := getF X14 hx hZ hown (host := "") (Or.inl (gw hw 45 rfl)) Via.refl rfl F_size_a (g := (mkF m 66 #[vr a, vr b2, vi (Int32.ofNat (own_ents (T.take i) (K.take i)).length), vi (Int32.ofNat i), vu] [(.ref a)])) rfl rfl (hb hby d13_66)
  refine Gs st15 ?_
  show Goes _ _ _ _ _ (fT T15 m 69 #[vr a, vr b2, vi (Int32.ofNat (own_ents (T.take i) (K.take i)).length), vi (Int32.ofNat i), vu] [(.int (Int32.ofNat E.length))])
  obtain ⟨T16, h16, k16, X16, e16, E16, A16, st16⟩ := newP X15 hx hZ (gw hw 15 rfl) e15 (g := (mkF m 69 #[vr a, vr b2, vi (Int32.ofNat (own_ents (T.take i) (K.take i)).length), vi (Int32.ofNat i), vu] [(.int (Int32.ofNat E.length))])) rfl (hb hby d13_69) rfl oe.2.1 (cap := 9) (by rw [oe.1]; omega) (by decide) (by decide) (by decide)
  obtain ⟨b16, gq16⟩ : ∃ z, z = T14.heap.size := ⟨_, rfl⟩
  rw [← gq16] at A16 st16
  have g_b16 : n0 ≤ b16 := by rw [gq16]; exact Z0
  have sz_b16 : h0.size ≤ b16 := by rw [gq16]; exact KP.1
  have ne_a_b16 : a ≠ b16 := by rw [gq16]; exact Nat.ne_of_lt A_a.lt
  have ne_b_b16 : b ≠ b16 := by rw [gq16]; exact Nat.ne_of_lt V_b.lt
  have ne_d_b16 : d ≠ b16 := by rw [gq16]; exact Nat.ne_of_lt V_d.lt
  have ne_b2_b16 : b2 ≠ b16 := by rw [gq16]; exact Nat.ne_of_lt V_b2.lt
  replace A_a := A_a.ext E16
  replace F_codePoints_a := F_codePoints_a.ext E16
  replace F_counts_a := F_counts_a.ext E16
  replace F_size_a := F_size_a.ext E16
  replace V_b2 := V_b2.ext E16
  replace KP := KP.ext E16
  replace Z0 : n0 ≤ h16.size := Nat.le_trans Z0 E16.1
  have V_b16 : Arv Z h16 b16 k16 .int (Int32.ofNat E.length) [] (.int 0) := Arv.new A16 oe.2.1
  refine Gs st16 ?_
  show Goes _ _ _ _ _ (fT T16 m 71 #[vr a, vr b2, vi (Int32.ofNat (own_ents (T.take i) (K.take i)).length), vi (Int32.ofNat i), vu] [(.ref b16)])
  refine Gz (XS.astoreN X16.here hx rfl (hb hby d13_71) rfl rfl (l' := #[vr a, vr b2, vi (Int32.ofNat (own_ents (T.take i) (K.take i)).length), vr b16, vu]) rfl) ?_
  refine gC X16 hx hby d13_72 ?_
  refine gS X16 hx hby d13_73 #[vr a, vr b2, vi (Int32.ofNat (own_ents (T.take i) (K.take i)).length), vr b16, vi 0] ?_
  show Goes _ _ _ _ _ (fT T16 m 75 #[vr a, vr b2, vi (Int32.ofNat (own_ents (T.take i) (K.take i)).length), vr b16, vi 0] [])
  have hAl : A214.length = E.length := by rw [hP14.length_eq, List.length_map]; exact hO.p.length_eq
  refine own_loopG (ι := Nat) (μ := fun t => E.length - t) (I := fun t T6 L => t ≤ E.length ∧ Fr n0 L ∧ n0 ≤ T6.heap.size ∧ Keep h0 T6.heap [] ∧ Exa Z T6.heap a "com/example/tandemtrie/tandemtrie/build/CodePointCounts" ∧ Fld Z T6.heap a "com/example/tandemtrie/tandemtrie/build/CodePointCounts" "codePoints" "[I" (.ref b) ∧ Fld Z T6.heap a "com/example/tandemtrie/tandemtrie/build/CodePointCounts" "counts" "[I" (.ref d) ∧ Fld Z T6.heap a "com/example/tandemtrie/tandemtrie/build/CodePointCounts" "size" "I" (.int (Int32.ofNat E.length)) ∧ Arv Z T6.heap b2 k2 .long (Int32.ofNat E.length) (jV A214) (.long 0) ∧ Arv Z T6.heap b16 k16 .int (Int32.ofNat E.length) (iV ((A214.take t).map Int64.toInt32)) (.int 0)) (B := fun t T6 => T6.setTop (mkF m 75 #[vr a, vr b2, vi (Int32.ofNat (own_ents (T.take i) (K.take i)).length), vr b16, vi (Int32.ofNat t)] [])) ?_ 0 X16 ⟨Nat.zero_le _, N14, (by rw [e16]; exact Z0), (by rw [e16]; exact KP), (by rw [e16]; exact A_a), (by rw [e16]; exact F_codePoints_a), (by rw [e16]; exact F_counts_a), (by rw [e16]; exact F_size_a), (by rw [e16]; exact V_b2), (by rw [e16]; exact V_b16)⟩
  intro t T6 L6 X6 hI6 ih6
  obtain ⟨ht, N6, Z0, KP, A_a, F_codePoints_a, F_counts_a, F_size_a, V_b2, V_b16⟩ := hI6
  dsimp only at ih6 ⊢
  show Goes _ _ _ _ _ (fT T6 m 75 #[vr a, vr b2, vi (Int32.ofNat (own_ents (T.take i) (K.take i)).length), vr b16, vi (Int32.ofNat t)] [])
  refine gI X6 hx hby d13_75 rfl rfl ?_
  refine gA X6 hx hby d13_77 rfl rfl rfl ?_
  obtain ⟨T17, X17, e17, st17⟩ := getF X6 hx hZ hown (host := "") (Or.inl (gw hw 45 rfl)) Via.refl rfl F_size_a (g := (mkF m 78 #[vr a, vr b2, vi (Int32.ofNat (own_ents (T.take i) (K.take i)).length), vr b16, vi (Int32.ofNat t)] [(.ref a), (.int (Int32.ofNat t))])) rfl rfl (hb hby d13_78)
  refine Gs st17 ?_
  show Goes _ _ _ _ _ (fT T17 m 81 #[vr a, vr b2, vi (Int32.ofNat (own_ents (T.take i) (K.take i)).length), vr b16, vi (Int32.ofNat t)] [(.int (Int32.ofNat E.length)), (.int (Int32.ofNat t))])
  by_cases hc81_18 : (Int32.ofNat t) < (Int32.ofNat E.length)
  ·refine gU X17 hx hby d13_81 (tlt hc81_18).2.1 ?_
   have hlt : t < E.length := (own_ltN (by omega) (by omega)).mp hc81_18
   refine gA X17 hx hby d13_84 rfl rfl rfl ?_
   refine gI X17 hx hby d13_85 rfl rfl ?_
   refine gA X17 hx hby d13_87 rfl rfl rfl ?_
   refine gI X17 hx hby d13_88 rfl rfl ?_
   obtain ⟨cl19, Ar19, -, S19, N19z, H19, -⟩ := id V_b2
   have hin19 : ¬ ((Int32.ofNat t) < 0 ∨ cl19.slots.size ≤ ((Int32.ofNat t)).toNatClampNeg) := inb_of S19 ⟨(own_tnO (n := t) (by omega)).2.1, (own_ltN (by omega) (by omega)).mpr hlt⟩
   have hat19 : cl19.slots[((Int32.ofNat t)).toNatClampNeg]? = some (.long (A214.getD t 0)) := Has.at H19 hin19 (by rw [(own_tnO (n := t) (by omega)).1, own_jVg])
   refine Gs (fun _ tk => X17.laload hx (j := (Int32.ofNat t)) (v := (.long (A214.getD t 0))) (by rw [e17]; exact Ar19.1) (State.isArrayOf_alike hZ.alike Ar19.2.1) Ar19.2.2 hin19 hat19 (g := (mkF m 90 #[vr a, vr b2, vi (Int32.ofNat (own_ents (T.take i) (K.take i)).length), vr b16, vi (Int32.ofNat t)] [(.int (Int32.ofNat t)), (.ref b2), (.int (Int32.ofNat t)), (.ref b16)])) rfl rfl (hb hby d13_90) _ tk) ?_
   show Goes _ _ _ _ _ (fT T17 m 91 #[vr a, vr b2, vi (Int32.ofNat (own_ents (T.take i) (K.take i)).length), vr b16, vi (Int32.ofNat t)] [(.long (A214.getD t 0)), (.int (Int32.ofNat t)), (.ref b16)])
   refine Gz (XS.l2i X17.here hx rfl (hb hby d13_91) rfl) ?_
   show Goes _ _ _ _ _ (fT T17 m 92 #[vr a, vr b2, vi (Int32.ofNat (own_ents (T.take i) (K.take i)).length), vr b16, vi (Int32.ofNat t)] [(.int ((A214.getD t 0).toInt32)), (.int (Int32.ofNat t)), (.ref b16)])
   replace V_b16 := own_padN V_b16 1
   obtain ⟨cl20, Ar20, q20, S20, N20z, H20, G20⟩ := V_b16
   have hin20 : ¬ ((Int32.ofNat t) < 0 ∨ cl20.slots.size ≤ ((Int32.ofNat t)).toNatClampNeg) := inb_of S20 ⟨(own_tnO (n := t) (by omega)).2.1, (own_ltN (by omega) (by omega)).mpr hlt⟩
   obtain ⟨T20, h20, X20, e20, W20, st20⟩ := stI X17 hx hZ e17 Ar20 (j := (Int32.ofNat t)) hin20 (g := (mkF m 92 #[vr a, vr b2, vi (Int32.ofNat (own_ents (T.take i) (K.take i)).length), vr b16, vi (Int32.ofNat t)] [(.int ((A214.getD t 0).toInt32)), (.int (Int32.ofNat t)), (.ref b16)])) rfl rfl (hb hby d13_92)
   have Vn20 := Arv.set Ar20 q20 S20 N20z H20 G20 rfl W20 (t) (own_tnO (by omega)).1 (by rw [List.length_append, own_iVL, List.length_map, List.length_take, List.length_replicate]; omega)
   have N20 := Fr.snoc X20 N6 g_b16
   replace A_a := A_a.wr W20
   replace F_codePoints_a := F_codePoints_a.other W20 (Or.inl ne_a_b16)
   replace F_counts_a := F_counts_a.other W20 (Or.inl ne_a_b16)
   replace F_size_a := F_size_a.other W20 (Or.inl ne_a_b16)
   replace V_b2 := V_b2.other W20 ne_b2_b16
   replace KP := KP.wr W20 (Or.inr sz_b16)
   have V_b16 : Arv Z h20 b16 k16 .int (Int32.ofNat E.length) (iV ((A214.take (t + 1)).map Int64.toInt32)) (.int 0) := own_arvE Vn20 (own_rk2 (by omega))
   replace Z0 : n0 ≤ h20.size := by rw [W20.size]; exact Z0
   refine Gs st20 ?_
   show Goes _ _ _ _ _ (fT T20 m 93 #[vr a, vr b2, vi (Int32.ofNat (own_ents (T.take i) (K.take i)).length), vr b16, vi (Int32.ofNat t)] [])
   refine Gz (XS.iinc X20.here hx rfl (hb hby d13_93) rfl (l' := #[vr a, vr b2, vi (Int32.ofNat (own_ents (T.take i) (K.take i)).length), vr b16, vi ((Int32.ofNat t) + 1)]) rfl) ?_
   show Goes _ _ _ _ _ (fT T20 m 96 #[vr a, vr b2, vi (Int32.ofNat (own_ents (T.take i) (K.take i)).length), vr b16, vi ((Int32.ofNat t) + 1)] [])
   refine gG X20 hx hby d13_96 96 75 ?_
   show Goes _ _ _ _ _ (fT T20 m 75 #[vr a, vr b2, vi (Int32.ofNat (own_ents (T.take i) (K.take i)).length), vr b16, vi ((Int32.ofNat t) + 1)] [])
   rw [own_ofS]
   exact ih6 (t + 1) _ _ (by omega) X20 ⟨hlt, N20, (by rw [e20]; exact Z0), (by rw [e20]; exact KP), (by rw [e20]; exact A_a), (by rw [e20]; exact F_codePoints_a), (by rw [e20]; exact F_counts_a), (by rw [e20]; exact F_size_a), (by rw [e20]; exact V_b2), (by rw [e20]; exact V_b16)⟩
  ·refine gY X17 hx hby d13_81 81 99 (flt hc81_18).2.1 ?_
   have htn : A214.length ≤ t := by
    rcases Nat.lt_or_ge t E.length with z | z
    ·exact absurd ((own_ltN (by omega) (by omega)).mpr z) hc81_18
    ·omega
   rw [List.take_of_length_le htn] at V_b16
   refine gA X17 hx hby d13_99 rfl rfl rfl ?_
   refine Goes.ret X17 (some (.ref b16)) (fun h => by rw [hret] at h; cases h) hlk (by decide) (by decide) ?_ (fun fs hr => ?_)
   ·rw [e17]; exact ⟨b16, k16, (A214.map Int64.toInt32), rfl, N6, KP, V_b16, ⟨A214, hP14.trans (hO.p.map _), hS14, rfl⟩⟩
   ·exact own_retA X17 hx hret rfl rfl (hb hby d13_100) hr
theorem d14_0 : decode method_5_code 0 = .ok (.iload_n 1, 1) := by decide +kernel
theorem d14_1 : decode method_5_code 1 = .ok (.iload_n 2, 1) := by decide +kernel
theorem d14_2 : decode method_5_code 2 = .ok (.if_icmp .lt 5, 3) := by decide +kernel
theorem d14_7 : decode method_5_code 7 = .ok (.iload_n 3, 1) := by decide +kernel
theorem d14_8 : decode method_5_code 8 = .ok (.ifCond .ne 9, 3) := by decide +kernel
theorem d14_11 : decode method_5_code 11 = .ok (.iload_n 1, 1) := by decide +kernel
theorem d14_12 : decode method_5_code 12 = .ok (.istore 7, 2) := by decide +kernel
theorem d14_14 : decode method_5_code 14 = .ok (.goto 33, 3) := by decide +kernel
theorem d14_47 : decode method_5_code 47 = .ok (.aload_n 0, 1) := by decide +kernel
theorem d14_48 : decode method_5_code 48 = .ok (.iload_n 1, 1) := by decide +kernel
theorem d14_49 : decode method_5_code 49 = .ok (.iaload, 1) := by decide +kernel
theorem d14_50 : decode method_5_code 50 = .ok (.iload 5, 2) := by decide +kernel
theorem d14_52 : decode method_5_code 52 = .ok (.iload 7, 2) := by decide +kernel
theorem d14_54 : decode method_5_code 54 = .ok (.iload 6, 2) := by decide +kernel
theorem d14_56 : decode method_5_code 56 = .ok (.imul, 1) := by decide +kernel
theorem d14_57 : decode method_5_code 57 = .ok (.iadd, 1) := by decide +kernel
theorem d14_58 : decode method_5_code 58 = .ok (.if_icmp .ne 7, 3) := by decide +kernel
theorem d14_61 : decode method_5_code 61 = .ok (.iconst 1, 1) := by decide +kernel
theorem d14_62 : decode method_5_code 62 = .ok (.goto 4, 3) := by decide +kernel
theorem d14_66 : decode method_5_code 66 = .ok (.ireturn, 1) := by decide +kernel
theorem d14_17 : decode method_5_code 17 = .ok (.iload_n 1, 1) := by decide +kernel
theorem d14_18 : decode method_5_code 18 = .ok (.ifCond .ne 10, 3) := by decide +kernel
theorem d14_21 : decode method_5_code 21 = .ok (.iload 4, 2) := by decide +kernel
theorem d14_23 : decode method_5_code 23 = .ok (.istore 7, 2) := by decide +kernel
theorem d14_25 : decode method_5_code 25 = .ok (.goto 22, 3) := by decide +kernel
theorem d14_28 : decode method_5_code 28 = .ok (.iload_n 1, 1) := by decide +kernel
theorem d14_29 : decode method_5_code 29 = .ok (.iconst 1, 1) := by decide +kernel
theorem d14_30 : decode method_5_code 30 = .ok (.isub, 1) := by decide +kernel
theorem d14_31 : decode method_5_code 31 = .ok (.iload 4, 2) := by decide +kernel
theorem d14_33 : decode method_5_code 33 = .ok (.if_icmp .ge 11, 3) := by decide +kernel
theorem d14_36 : decode method_5_code 36 = .ok (.iload_n 1, 1) := by decide +kernel
theorem d14_37 : decode method_5_code 37 = .ok (.iconst 1, 1) := by decide +kernel
theorem d14_38 : decode method_5_code 38 = .ok (.isub, 1) := by decide +kernel
theorem d14_39 : decode method_5_code 39 = .ok (.istore 7, 2) := by decide +kernel
theorem d14_41 : decode method_5_code 41 = .ok (.goto 6, 3) := by decide +kernel
theorem d14_44 : decode method_5_code 44 = .ok (.iload_n 1, 1) := by decide +kernel
theorem d14_45 : decode method_5_code 45 = .ok (.istore 7, 2) := by decide +kernel
theorem d14_5 : decode method_5_code 5 = .ok (.iconst 1, 1) := by decide +kernel
theorem d14_6 : decode method_5_code 6 = .ok (.ireturn, 1) := by decide +kernel
theorem own_ef_rm_atc (m : MethodId) (x0 : Addr) (x1 : Int32) (x2 : Int32) (x3 : Int32) (x4 : Int32) (x5 : Int32) (x6 : Int32) : entryFrame m #[(.ref x0), (.int x1), (.int x2), (.int x3), (.int x4), (.int x5), (.int x6)] 8 = mkF m 0 #[vr x0, vi x1, vi x2, vi x3, vi x4, vi x5, vi x6, vu] [] := by first | (simp [entryFrame, mkF, argsToLocals, Value.category]; done) | rfl
def Q_rm_atc (Z : State) (r : Addr) (kr : ClassId) (RR : List Int32) (pp : Nat) (nn : Nat) (dp : Int32) (jj : Int32) (lo : Int32) (st : Int32) (h0 : Heap) (n0 : Nat) (v : Option Value) (h : Heap) (L : List Loc) : Prop := v = some (.int 1) ∧ Fr n0 L ∧ h = h0
theorem rm_atc (l : Launch) (Z : State) (a0 : Array Value) (hw : HW a0 Z) (ws : List Jvm.Cond) (r : Addr) (kr : ClassId) (RR : List Int32) (pp : Nat) (nn : Nat) (dp : Int32) (jj : Int32) (lo : Int32) (st : Int32) (h0 : Heap) (n0 : Nat) (Z0 : n0 ≤ h0.size) (V_r : Arv Z h0 r kr .int (Int32.ofNat nn) (iV RR) (.int 0)) (hn9 : nn ≤ 9) (hp8 : pp ≤ 8) (hat : pp < nn → RR.getD pp 0 = lo + (own_qq (Int32.ofNat pp) dp jj) * st) :
  Met l Z mN14 method_5_code 8 (some .boolean) ({ frames := 0, cells := 0, slots := 0, locals := 0 } : Room) ws #[(.ref r), (.int (Int32.ofNat pp)), (.int (Int32.ofNat nn)), (.int dp), (.int jj), (.int lo), (.int st)] h0 (Q_rm_atc Z r kr RR pp nn dp jj lo st h0 n0) := by
 refine own_met (plainFor_of_name own_pn3) ?_
 intro p e s m below meth c s₁ hret hx hby hlk hml hown hnm X0 e0 hZ hh
 have N0 := Fr.nil n0
 refine Gz (castTop (own_ef_rm_atc m r (Int32.ofNat pp) (Int32.ofNat nn) dp jj lo st)) ?_
 show Goes _ _ _ _ _ (fT s₁ m 0 #[vr r, vi (Int32.ofNat pp), vi (Int32.ofNat nn), vi dp, vi jj, vi lo, vi st, vu] [])
 refine gN X0 hx hby d14_0 rfl rfl ?_
 refine gN X0 hx hby d14_1 rfl rfl ?_
 by_cases hc2_1 : (Int32.ofNat pp) < (Int32.ofNat nn)
 ·refine gY X0 hx hby d14_2 2 7 (tlt hc2_1).1 ?_
  have hlt : pp < nn := (own_ltN (by omega) (by omega)).mp hc2_1
  have hv := hat hlt
  refine gN X0 hx hby d14_7 rfl rfl ?_
  by_cases hc8_2 : dp = 0
  ·refine gu X0 hx hby d14_8 ((if0 _ _).trans (teq hc8_2).2) ?_
   refine gN X0 hx hby d14_11 rfl rfl ?_
   show Goes _ _ _ _ _ (fT s₁ m 12 #[vr r, vi (Int32.ofNat pp), vi (Int32.ofNat nn), vi dp, vi jj, vi lo, vi st, vu] [(.int (Int32.ofNat pp))])
   refine gS X0 hx hby d14_12 #[vr r, vi (Int32.ofNat pp), vi (Int32.ofNat nn), vi dp, vi jj, vi lo, vi st, vi (Int32.ofNat pp)] ?_
   refine gG X0 hx hby d14_14 14 47 ?_
   refine gA X0 hx hby d14_47 rfl rfl rfl ?_
   refine gN X0 hx hby d14_48 rfl rfl ?_
   obtain ⟨cl3, Ar3, -, S3, N3z, H3, -⟩ := id V_r
   have hin3 : ¬ ((Int32.ofNat pp) < 0 ∨ cl3.slots.size ≤ ((Int32.ofNat pp)).toNatClampNeg) := inb_of S3 ⟨(own_tnO (n := pp) (by omega)).2.1, (own_ltN (by omega) (by omega)).mpr hlt⟩
   have hat3 : cl3.slots[((Int32.ofNat pp)).toNatClampNeg]? = some (.int (RR.getD pp 0)) := Has.at H3 hin3 (by rw [(own_tnO (n := pp) (by omega)).1, own_iVg])
   refine Gs (fun _ tk => X0.iaload hx (j := (Int32.ofNat pp)) (v := (.int (RR.getD pp 0))) (by rw [e0]; exact Ar3.1) (State.isArrayOf_alike hZ.alike Ar3.2.1) Ar3.2.2 hin3 hat3 (g := (mkF m 49 #[vr r, vi (Int32.ofNat pp), vi (Int32.ofNat nn), vi dp, vi jj, vi lo, vi st, vi (Int32.ofNat pp)] [(.int (Int32.ofNat pp)), (.ref r)])) rfl rfl (hb hby d14_49) _ tk) ?_
   show Goes _ _ _ _ _ (fT s₁ m 50 #[vr r, vi (Int32.ofNat pp), vi (Int32.ofNat nn), vi dp, vi jj, vi lo, vi st, vi (Int32.ofNat pp)] [(.int (RR.getD pp 0))])
   refine gI X0 hx hby d14_50 rfl rfl ?_
   refine gI X0 hx hby d14_52 rfl rfl ?_
   refine gI X0 hx hby d14_54 rfl rfl ?_
   show Goes _ _ _ _ _ (fT s₁ m 56 #[vr r, vi (Int32.ofNat pp), vi (Int32.ofNat nn), vi dp, vi jj, vi lo, vi st, vi (Int32.ofNat pp)] [(.int st), (.int (Int32.ofNat pp)), (.int lo), (.int (RR.getD pp 0))])
   refine Gz (XS.imul X0.here hx rfl (hb hby d14_56) rfl) ?_
   show Goes _ _ _ _ _ (fT s₁ m 57 #[vr r, vi (Int32.ofNat pp), vi (Int32.ofNat nn), vi dp, vi jj, vi lo, vi st, vi (Int32.ofNat pp)] [(.int ((Int32.ofNat pp) * st)), (.int lo), (.int (RR.getD pp 0))])
   refine Gz (XS.iadd X0.here hx rfl (hb hby d14_57) rfl) ?_
   show Goes _ _ _ _ _ (fT s₁ m 58 #[vr r, vi (Int32.ofNat pp), vi (Int32.ofNat nn), vi dp, vi jj, vi lo, vi st, vi (Int32.ofNat pp)] [(.int (lo + ((Int32.ofNat pp) * st))), (.int (RR.getD pp 0))])
   have hc58_4 : (RR.getD pp 0) = (lo + ((Int32.ofNat pp) * st)) := by rw [hv, own_qq, if_pos hc8_2]
   refine gU X0 hx hby d14_58 (teq hc58_4).2 ?_
   refine gC X0 hx hby d14_61 ?_
   refine gG X0 hx hby d14_62 62 66 ?_
   refine Goes.ret X0 (some (.int 1)) (fun h => by rw [hret] at h; cases h) hlk (by decide) (by decide) ?_ (fun fs hr => ?_)
   ·exact ⟨rfl, N0, e0⟩
   ·exact own_retN X0 hx (t := .boolean) hret (by simp) rfl (hb hby d14_66) hr
  ·refine gy X0 hx hby d14_8 8 17 ((if0 _ _).trans (feq hc8_2).2) ?_
   refine gN X0 hx hby d14_17 rfl rfl ?_
   show Goes _ _ _ _ _ (fT s₁ m 18 #[vr r, vi (Int32.ofNat pp), vi (Int32.ofNat nn), vi dp, vi jj, vi lo, vi st, vu] [(.int (Int32.ofNat pp))])
   by_cases hc18_5 : (Int32.ofNat pp) = 0
   ·refine gu X0 hx hby d14_18 ((if0 _ _).trans (teq hc18_5).2) ?_
    refine gI X0 hx hby d14_21 rfl rfl ?_
    refine gS X0 hx hby d14_23 #[vr r, vi (Int32.ofNat pp), vi (Int32.ofNat nn), vi dp, vi jj, vi lo, vi st, vi jj] ?_
    refine gG X0 hx hby d14_25 25 47 ?_
    refine gA X0 hx hby d14_47 rfl rfl rfl ?_
    refine gN X0 hx hby d14_48 rfl rfl ?_
    show Goes _ _ _ _ _ (fT s₁ m 49 #[vr r, vi (Int32.ofNat pp), vi (Int32.ofNat nn), vi dp, vi jj, vi lo, vi st, vi jj] [(.int (Int32.ofNat pp)), (.ref r)])
    obtain ⟨cl6, Ar6, -, S6, N6z, H6, -⟩ := id V_r
    have hin6 : ¬ ((Int32.ofNat pp) < 0 ∨ cl6.slots.size ≤ ((Int32.ofNat pp)).toNatClampNeg) := inb_of S6 ⟨(own_tnO (n := pp) (by omega)).2.1, (own_ltN (by omega) (by omega)).mpr hlt⟩
    have hat6 : cl6.slots[((Int32.ofNat pp)).toNatClampNeg]? = some (.int (RR.getD pp 0)) := Has.at H6 hin6 (by rw [(own_tnO (n := pp) (by omega)).1, own_iVg])
    refine Gs (fun _ tk => X0.iaload hx (j := (Int32.ofNat pp)) (v := (.int (RR.getD pp 0))) (by rw [e0]; exact Ar6.1) (State.isArrayOf_alike hZ.alike Ar6.2.1) Ar6.2.2 hin6 hat6 (g := (mkF m 49 #[vr r, vi (Int32.ofNat pp), vi (Int32.ofNat nn), vi dp, vi jj, vi lo, vi st, vi jj] [(.int (Int32.ofNat pp)), (.ref r)])) rfl rfl (hb hby d14_49) _ tk) ?_
    show Goes _ _ _ _ _ (fT s₁ m 50 #[vr r, vi (Int32.ofNat pp), vi (Int32.ofNat nn), vi dp, vi jj, vi lo, vi st, vi jj] [(.int (RR.getD pp 0))])
    refine gI X0 hx hby d14_50 rfl rfl ?_
    refine gI X0 hx hby d14_52 rfl rfl ?_
    refine gI X0 hx hby d14_54 rfl rfl ?_
    show Goes _ _ _ _ _ (fT s₁ m 56 #[vr r, vi (Int32.ofNat pp), vi (Int32.ofNat nn), vi dp, vi jj, vi lo, vi st, vi jj] [(.int st), (.int jj), (.int lo), (.int (RR.getD pp 0))])
    refine Gz (XS.imul X0.here hx rfl (hb hby d14_56) rfl) ?_
    show Goes _ _ _ _ _ (fT s₁ m 57 #[vr r, vi (Int32.ofNat pp), vi (Int32.ofNat nn), vi dp, vi jj, vi lo, vi st, vi jj] [(.int (jj * st)), (.int lo), (.int (RR.getD pp 0))])
    refine Gz (XS.iadd X0.here hx rfl (hb hby d14_57) rfl) ?_
    show Goes _ _ _ _ _ (fT s₁ m 58 #[vr r, vi (Int32.ofNat pp), vi (Int32.ofNat nn), vi dp, vi jj, vi lo, vi st, vi jj] [(.int (lo + (jj * st))), (.int (RR.getD pp 0))])
    have hc58_7 : (RR.getD pp 0) = (lo + (jj * st)) := by rw [hv, own_qq, if_neg hc8_2, if_pos hc18_5]
    refine gU X0 hx hby d14_58 (teq hc58_7).2 ?_
    refine gC X0 hx hby d14_61 ?_
    refine gG X0 hx hby d14_62 62 66 ?_
    refine Goes.ret X0 (some (.int 1)) (fun h => by rw [hret] at h; cases h) hlk (by decide) (by decide) ?_ (fun fs hr => ?_)
    ·exact ⟨rfl, N0, e0⟩
    ·exact own_retN X0 hx (t := .boolean) hret (by simp) rfl (hb hby d14_66) hr
   ·refine gy X0 hx hby d14_18 18 28 ((if0 _ _).trans (feq hc18_5).2) ?_
    refine gN X0 hx hby d14_28 rfl rfl ?_
    refine gC X0 hx hby d14_29 ?_
    show Goes _ _ _ _ _ (fT s₁ m 30 #[vr r, vi (Int32.ofNat pp), vi (Int32.ofNat nn), vi dp, vi jj, vi lo, vi st, vu] [(.int 1), (.int (Int32.ofNat pp))])
    refine Gz (XS.isub X0.here hx rfl (hb hby d14_30) rfl) ?_
    show Goes _ _ _ _ _ (fT s₁ m 31 #[vr r, vi (Int32.ofNat pp), vi (Int32.ofNat nn), vi dp, vi jj, vi lo, vi st, vu] [(.int ((Int32.ofNat pp) - 1))])
    refine gI X0 hx hby d14_31 rfl rfl ?_
    by_cases hc33_8 : ((Int32.ofNat pp) - 1) < jj
    ·refine gU X0 hx hby d14_33 (tlt hc33_8).2.1 ?_
     refine gN X0 hx hby d14_36 rfl rfl ?_
     refine gC X0 hx hby d14_37 ?_
     show Goes _ _ _ _ _ (fT s₁ m 38 #[vr r, vi (Int32.ofNat pp), vi (Int32.ofNat nn), vi dp, vi jj, vi lo, vi st, vu] [(.int 1), (.int (Int32.ofNat pp))])
     refine Gz (XS.isub X0.here hx rfl (hb hby d14_38) rfl) ?_
     show Goes _ _ _ _ _ (fT s₁ m 39 #[vr r, vi (Int32.ofNat pp), vi (Int32.ofNat nn), vi dp, vi jj, vi lo, vi st, vu] [(.int ((Int32.ofNat pp) - 1))])
     refine gS X0 hx hby d14_39 #[vr r, vi (Int32.ofNat pp), vi (Int32.ofNat nn), vi dp, vi jj, vi lo, vi st, vi ((Int32.ofNat pp) - 1)] ?_
     refine gG X0 hx hby d14_41 41 47 ?_
     refine gA X0 hx hby d14_47 rfl rfl rfl ?_
     refine gN X0 hx hby d14_48 rfl rfl ?_
     obtain ⟨cl9, Ar9, -, S9, N9z, H9, -⟩ := id V_r
     have hin9 : ¬ ((Int32.ofNat pp) < 0 ∨ cl9.slots.size ≤ ((Int32.ofNat pp)).toNatClampNeg) := inb_of S9 ⟨(own_tnO (n := pp) (by omega)).2.1, (own_ltN (by omega) (by omega)).mpr hlt⟩
     have hat9 : cl9.slots[((Int32.ofNat pp)).toNatClampNeg]? = some (.int (RR.getD pp 0)) := Has.at H9 hin9 (by rw [(own_tnO (n := pp) (by omega)).1, own_iVg])
     refine Gs (fun _ tk => X0.iaload hx (j := (Int32.ofNat pp)) (v := (.int (RR.getD pp 0))) (by rw [e0]; exact Ar9.1) (State.isArrayOf_alike hZ.alike Ar9.2.1) Ar9.2.2 hin9 hat9 (g := (mkF m 49 #[vr r, vi (Int32.ofNat pp), vi (Int32.ofNat nn), vi dp, vi jj, vi lo, vi st, vi ((Int32.ofNat pp) - 1)] [(.int (Int32.ofNat pp)), (.ref r)])) rfl rfl (hb hby d14_49) _ tk) ?_
     show Goes _ _ _ _ _ (fT s₁ m 50 #[vr r, vi (Int32.ofNat pp), vi (Int32.ofNat nn), vi dp, vi jj, vi lo, vi st, vi ((Int32.ofNat pp) - 1)] [(.int (RR.getD pp 0))])
     refine gI X0 hx hby d14_50 rfl rfl ?_
     refine gI X0 hx hby d14_52 rfl rfl ?_
     refine gI X0 hx hby d14_54 rfl rfl ?_
     show Goes _ _ _ _ _ (fT s₁ m 56 #[vr r, vi (Int32.ofNat pp), vi (Int32.ofNat nn), vi dp, vi jj, vi lo, vi st, vi ((Int32.ofNat pp) - 1)] [(.int st), (.int ((Int32.ofNat pp) - 1)), (.int lo), (.int (RR.getD pp 0))])
     refine Gz (XS.imul X0.here hx rfl (hb hby d14_56) rfl) ?_
     show Goes _ _ _ _ _ (fT s₁ m 57 #[vr r, vi (Int32.ofNat pp), vi (Int32.ofNat nn), vi dp, vi jj, vi lo, vi st, vi ((Int32.ofNat pp) - 1)] [(.int (((Int32.ofNat pp) - 1) * st)), (.int lo), (.int (RR.getD pp 0))])
     refine Gz (XS.iadd X0.here hx rfl (hb hby d14_57) rfl) ?_
     show Goes _ _ _ _ _ (fT s₁ m 58 #[vr r, vi (Int32.ofNat pp), vi (Int32.ofNat nn), vi dp, vi jj, vi lo, vi st, vi ((Int32.ofNat pp) - 1)] [(.int (lo + (((Int32.ofNat pp) - 1) * st))), (.int (RR.getD pp 0))])
     have hc58_10 : (RR.getD pp 0) = (lo + (((Int32.ofNat pp) - 1) * st)) := by rw [hv, own_qq, if_neg hc8_2, if_neg hc18_5, if_pos hc33_8]
     refine gU X0 hx hby d14_58 (teq hc58_10).2 ?_
     refine gC X0 hx hby d14_61 ?_
     refine gG X0 hx hby d14_62 62 66 ?_
     refine Goes.ret X0 (some (.int 1)) (fun h => by rw [hret] at h; cases h) hlk (by decide) (by decide) ?_ (fun fs hr => ?_)
     ·exact ⟨rfl, N0, e0⟩
     ·exact own_retN X0 hx (t := .boolean) hret (by simp) rfl (hb hby d14_66) hr
    ·refine gY X0 hx hby d14_33 33 44 (flt hc33_8).2.1 ?_
     refine gN X0 hx hby d14_44 rfl rfl ?_
     refine gS X0 hx hby d14_45 #[vr r, vi (Int32.ofNat pp), vi (Int32.ofNat nn), vi dp, vi jj, vi lo, vi st, vi (Int32.ofNat pp)] ?_
     refine gA X0 hx hby d14_47 rfl rfl rfl ?_
     refine gN X0 hx hby d14_48 rfl rfl ?_
     show Goes _ _ _ _ _ (fT s₁ m 49 #[vr r, vi (Int32.ofNat pp), vi (Int32.ofNat nn), vi dp, vi jj, vi lo, vi st, vi (Int32.ofNat pp)] [(.int (Int32.ofNat pp)), (.ref r)])
     obtain ⟨cl11, Ar11, -, S11, N11z, H11, -⟩ := id V_r
     have hin11 : ¬ ((Int32.ofNat pp) < 0 ∨ cl11.slots.size ≤ ((Int32.ofNat pp)).toNatClampNeg) := inb_of S11 ⟨(own_tnO (n := pp) (by omega)).2.1, (own_ltN (by omega) (by omega)).mpr hlt⟩
     have hat11 : cl11.slots[((Int32.ofNat pp)).toNatClampNeg]? = some (.int (RR.getD pp 0)) := Has.at H11 hin11 (by rw [(own_tnO (n := pp) (by omega)).1, own_iVg])
     refine Gs (fun _ tk => X0.iaload hx (j := (Int32.ofNat pp)) (v := (.int (RR.getD pp 0))) (by rw [e0]; exact Ar11.1) (State.isArrayOf_alike hZ.alike Ar11.2.1) Ar11.2.2 hin11 hat11 (g := (mkF m 49 #[vr r, vi (Int32.ofNat pp), vi (Int32.ofNat nn), vi dp, vi jj, vi lo, vi st, vi (Int32.ofNat pp)] [(.int (Int32.ofNat pp)), (.ref r)])) rfl rfl (hb hby d14_49) _ tk) ?_
     show Goes _ _ _ _ _ (fT s₁ m 50 #[vr r, vi (Int32.ofNat pp), vi (Int32.ofNat nn), vi dp, vi jj, vi lo, vi st, vi (Int32.ofNat pp)] [(.int (RR.getD pp 0))])
     refine gI X0 hx hby d14_50 rfl rfl ?_
     refine gI X0 hx hby d14_52 rfl rfl ?_
     refine gI X0 hx hby d14_54 rfl rfl ?_
     show Goes _ _ _ _ _ (fT s₁ m 56 #[vr r, vi (Int32.ofNat pp), vi (Int32.ofNat nn), vi dp, vi jj, vi lo, vi st, vi (Int32.ofNat pp)] [(.int st), (.int (Int32.ofNat pp)), (.int lo), (.int (RR.getD pp 0))])
     refine Gz (XS.imul X0.here hx rfl (hb hby d14_56) rfl) ?_
     show Goes _ _ _ _ _ (fT s₁ m 57 #[vr r, vi (Int32.ofNat pp), vi (Int32.ofNat nn), vi dp, vi jj, vi lo, vi st, vi (Int32.ofNat pp)] [(.int ((Int32.ofNat pp) * st)), (.int lo), (.int (RR.getD pp 0))])
     refine Gz (XS.iadd X0.here hx rfl (hb hby d14_57) rfl) ?_
     show Goes _ _ _ _ _ (fT s₁ m 58 #[vr r, vi (Int32.ofNat pp), vi (Int32.ofNat nn), vi dp, vi jj, vi lo, vi st, vi (Int32.ofNat pp)] [(.int (lo + ((Int32.ofNat pp) * st))), (.int (RR.getD pp 0))])
     have hc58_12 : (RR.getD pp 0) = (lo + ((Int32.ofNat pp) * st)) := by rw [hv, own_qq, if_neg hc8_2, if_neg hc18_5, if_neg hc33_8]
     refine gU X0 hx hby d14_58 (teq hc58_12).2 ?_
     refine gC X0 hx hby d14_61 ?_
     refine gG X0 hx hby d14_62 62 66 ?_
     refine Goes.ret X0 (some (.int 1)) (fun h => by rw [hret] at h; cases h) hlk (by decide) (by decide) ?_ (fun fs hr => ?_)
     ·exact ⟨rfl, N0, e0⟩
     ·exact own_retN X0 hx (t := .boolean) hret (by simp) rfl (hb hby d14_66) hr
 ·refine gU X0 hx hby d14_2 (flt hc2_1).1 ?_
  refine gC X0 hx hby d14_5 ?_
  refine Goes.ret X0 (some (.int 1)) (fun h => by rw [hret] at h; cases h) hlk (by decide) (by decide) ?_ (fun fs hr => ?_)
  ·exact ⟨rfl, N0, e0⟩
  ·exact own_retN X0 hx (t := .boolean) hret (by simp) rfl (hb hby d14_6) hr
theorem own_pd11 : parseMethodDescriptor "(Lcom/example/tandemtrie/tandemtrie/build/CodePointCounts;IIIIIZ)V" = some ⟨[(.object "com/example/tandemtrie/tandemtrie/build/CodePointCounts"), .int, .int, .int, .int, .int, .boolean], none⟩ := by decide +kernel
theorem own_pd12 : parseMethodDescriptor "()[I" = some ⟨[], some (.array .int)⟩ := by decide +kernel
theorem own_pd13 : parseMethodDescriptor "([IIIZIII)Z" = some ⟨[(.array .int), .int, .int, .boolean, .int, .int, .int], some .boolean⟩ := by decide +kernel
theorem own_ef_rm_law (m : MethodId) (x0 : Int32) (x1 : Int32) (x2 : Int32) (x3 : Int32) (x4 : Int32) : entryFrame m #[(.int x0), (.int x1), (.int x2), (.int x3), (.int x4)] maxLocals = mkF m 0 #[vi x0, vi x1, vi x2, vi x3, vi x4, vu, vu, vu, vu, vu, vu, vu, vu, vu, vu] [] := by first | (simp [entryFrame, mkF, argsToLocals, Value.category, maxLocals]; done) | rfl
def Q_rm_law (Z : State) (x0 : Int32) (x1 : Int32) (x2 : Int32) (x3 : Int32) (x4 : Int32) (h0 : Heap) (n0 : Nat) (v : Option Value) (h : Heap) (L : List Loc) : Prop := v = some (.int 1) ∧ Fr n0 L
theorem rm_law (l : Launch) (Z : State) (a0 : Array Value) (hw : HW a0 Z) (ws : List Jvm.Cond) (x0 : Int32) (x1 : Int32) (x2 : Int32) (x3 : Int32) (x4 : Int32) (h0 : Heap) (n0 : Nat) (Z0 : n0 ≤ h0.size) :
  Met l Z x code maxLocals ret room_1 ws #[(.int x0), (.int x1), (.int x2), (.int x3), (.int x4)] h0 (Q_rm_law Z x0 x1 x2 x3 x4 h0 n0) := by
 refine own_met (plainFor_of_name own_pn3) ?_
 intro p e s m below meth c s₁ hret hx hby hlk hml hown hnm X0 e0 hZ hh
 have N0 := Fr.nil n0
 refine Gz (castTop (own_ef_rm_law m x0 x1 x2 x3 x4)) ?_
 show Goes _ _ _ _ _ (fT s₁ m 0 #[vi x0, vi x1, vi x2, vi x3, vi x4, vu, vu, vu, vu, vu, vu, vu, vu, vu, vu] [])
 refine gC X0 hx hby at_0 ?_
 refine gN X0 hx hby at_1 rfl rfl ?_
 refine Gz (Jvm.Stand.ldcI X0 hx hown (gz hZ hw 0 rfl) rfl (hb hby at_2)) ?_
 show Goes _ _ _ _ _ (fT s₁ m 4 #[vi x0, vi x1, vi x2, vi x3, vi x4, vu, vu, vu, vu, vu, vu, vu, vu, vu, vu] [(.int 2147483647), (.int x1), (.int 1)])
 refine Gz (XS.iand X0.here hx rfl (hb hby at_4) rfl) ?_
 show Goes _ _ _ _ _ (fT s₁ m 5 #[vi x0, vi x1, vi x2, vi x3, vi x4, vu, vu, vu, vu, vu, vu, vu, vu, vu, vu] [(.int (x1 &&& 2147483647)), (.int 1)])
 refine Gz (Jvm.Stand.ldcI X0 hx hown (gz hZ hw 1 rfl) rfl (hb hby at_5)) ?_
 show Goes _ _ _ _ _ (fT s₁ m 7 #[vi x0, vi x1, vi x2, vi x3, vi x4, vu, vu, vu, vu, vu, vu, vu, vu, vu, vu] [(.int 139263), (.int (x1 &&& 2147483647)), (.int 1)])
 refine Gz (XS.irem X0.here hx rfl (hb hby at_7) rfl (by decide)) ?_
 rw [Jvm.irem_eq_mod]
 show Goes _ _ _ _ _ (fT s₁ m 8 #[vi x0, vi x1, vi x2, vi x3, vi x4, vu, vu, vu, vu, vu, vu, vu, vu, vu, vu] [(.int ((x1 &&& 2147483647) % 139263)), (.int 1)])
 refine Gz (XS.iadd X0.here hx rfl (hb hby at_8) rfl) ?_
 show Goes _ _ _ _ _ (fT s₁ m 9 #[vi x0, vi x1, vi x2, vi x3, vi x4, vu, vu, vu, vu, vu, vu, vu, vu, vu, vu] [(.int ((1 : Int32) + ((x1 &&& 2147483647) % 139263)))])
 have hst := own_stp x1
 generalize ((1 : Int32) + ((x1 &&& 2147483647) % 139263)) = st at hst ⊢
 show Goes _ _ _ _ _ (fT s₁ m 9 #[vi x0, vi x1, vi x2, vi x3, vi x4, vu, vu, vu, vu, vu, vu, vu, vu, vu, vu] [(.int st)])
 refine gS X0 hx hby at_9 #[vi x0, vi x1, vi x2, vi x3, vi x4, vi st, vu, vu, vu, vu, vu, vu, vu, vu, vu] ?_
 refine gN X0 hx hby at_11 rfl rfl ?_
 refine Gz (Jvm.Stand.ldcI X0 hx hown (gz hZ hw 0 rfl) rfl (hb hby at_12)) ?_
 show Goes _ _ _ _ _ (fT s₁ m 14 #[vi x0, vi x1, vi x2, vi x3, vi x4, vi st, vu, vu, vu, vu, vu, vu, vu, vu, vu] [(.int 2147483647), (.int x0)])
 refine Gz (XS.iand X0.here hx rfl (hb hby at_14) rfl) ?_
 show Goes _ _ _ _ _ (fT s₁ m 15 #[vi x0, vi x1, vi x2, vi x3, vi x4, vi st, vu, vu, vu, vu, vu, vu, vu, vu, vu] [(.int (x0 &&& 2147483647))])
 refine Gz (Jvm.Stand.ldcI X0 hx hown (gz hZ hw 2 rfl) rfl (hb hby at_15)) ?_
 show Goes _ _ _ _ _ (fT s₁ m 17 #[vi x0, vi x1, vi x2, vi x3, vi x4, vi st, vu, vu, vu, vu, vu, vu, vu, vu, vu] [(.int 1114112), (.int (x0 &&& 2147483647))])
 refine gB X0 hx hby at_17 ?_
 refine gI X0 hx hby at_19 rfl rfl ?_
 show Goes _ _ _ _ _ (fT s₁ m 21 #[vi x0, vi x1, vi x2, vi x3, vi x4, vi st, vu, vu, vu, vu, vu, vu, vu, vu, vu] [(.int st), (.int 8), (.int 1114112), (.int (x0 &&& 2147483647))])
 refine Gz (XS.imul X0.here hx rfl (hb hby at_21) rfl) ?_
 show Goes _ _ _ _ _ (fT s₁ m 22 #[vi x0, vi x1, vi x2, vi x3, vi x4, vi st, vu, vu, vu, vu, vu, vu, vu, vu, vu] [(.int ((8 : Int32) * st)), (.int 1114112), (.int (x0 &&& 2147483647))])
 refine Gz (XS.isub X0.here hx rfl (hb hby at_22) rfl) ?_
 show Goes _ _ _ _ _ (fT s₁ m 23 #[vi x0, vi x1, vi x2, vi x3, vi x4, vi st, vu, vu, vu, vu, vu, vu, vu, vu, vu] [(.int ((1114112 : Int32) - ((8 : Int32) * st))), (.int (x0 &&& 2147483647))])
 refine Gz (XS.irem X0.here hx rfl (hb hby at_23) rfl (own_dnz hst)) ?_
 rw [Jvm.irem_eq_mod]
 show Goes _ _ _ _ _ (fT s₁ m 24 #[vi x0, vi x1, vi x2, vi x3, vi x4, vi st, vu, vu, vu, vu, vu, vu, vu, vu, vu] [(.int ((x0 &&& 2147483647) % ((1114112 : Int32) - ((8 : Int32) * st))))])
 have hB := own_bnd hst x0
 generalize ((x0 &&& 2147483647) % ((1114112 : Int32) - ((8 : Int32) * st))) = bs at hB ⊢
 show Goes _ _ _ _ _ (fT s₁ m 24 #[vi x0, vi x1, vi x2, vi x3, vi x4, vi st, vu, vu, vu, vu, vu, vu, vu, vu, vu] [(.int bs)])
 refine gS X0 hx hby at_24 #[vi x0, vi x1, vi x2, vi x3, vi x4, vi st, vi bs, vu, vu, vu, vu, vu, vu, vu, vu] ?_
 refine gC X0 hx hby at_26 ?_
 refine gN X0 hx hby at_27 rfl rfl ?_
 refine Gz (Jvm.Stand.ldcI X0 hx hown (gz hZ hw 0 rfl) rfl (hb hby at_28)) ?_
 show Goes _ _ _ _ _ (fT s₁ m 30 #[vi x0, vi x1, vi x2, vi x3, vi x4, vi st, vi bs, vu, vu, vu, vu, vu, vu, vu, vu] [(.int 2147483647), (.int x2), (.int 1)])
 refine Gz (XS.iand X0.here hx rfl (hb hby at_30) rfl) ?_
 show Goes _ _ _ _ _ (fT s₁ m 31 #[vi x0, vi x1, vi x2, vi x3, vi x4, vi st, vi bs, vu, vu, vu, vu, vu, vu, vu, vu] [(.int (x2 &&& 2147483647)), (.int 1)])
 refine gB X0 hx hby at_31 ?_
 show Goes _ _ _ _ _ (fT s₁ m 33 #[vi x0, vi x1, vi x2, vi x3, vi x4, vi st, vi bs, vu, vu, vu, vu, vu, vu, vu, vu] [(.int 9), (.int (x2 &&& 2147483647)), (.int 1)])
 refine Gz (XS.irem X0.here hx rfl (hb hby at_33) rfl (by decide)) ?_
 rw [Jvm.irem_eq_mod]
 show Goes _ _ _ _ _ (fT s₁ m 34 #[vi x0, vi x1, vi x2, vi x3, vi x4, vi st, vi bs, vu, vu, vu, vu, vu, vu, vu, vu] [(.int ((x2 &&& 2147483647) % 9)), (.int 1)])
 refine Gz (XS.iadd X0.here hx rfl (hb hby at_34) rfl) ?_
 show Goes _ _ _ _ _ (fT s₁ m 35 #[vi x0, vi x1, vi x2, vi x3, vi x4, vi st, vi bs, vu, vu, vu, vu, vu, vu, vu, vu] [(.int ((1 : Int32) + ((x2 &&& 2147483647) % 9)))])
 obtain ⟨nn, hn1, hn9, en⟩ := own_nn9 x2
 rw [en]
 show Goes _ _ _ _ _ (fT s₁ m 35 #[vi x0, vi x1, vi x2, vi x3, vi x4, vi st, vi bs, vu, vu, vu, vu, vu, vu, vu, vu] [(.int (Int32.ofNat nn))])
 refine gS X0 hx hby at_35 #[vi x0, vi x1, vi x2, vi x3, vi x4, vi st, vi bs, vi (Int32.ofNat nn), vu, vu, vu, vu, vu, vu, vu] ?_
 refine gN X0 hx hby at_37 rfl rfl ?_
 refine Gz (Jvm.Stand.ldcI X0 hx hown (gz hZ hw 0 rfl) rfl (hb hby at_38)) ?_
 show Goes _ _ _ _ _ (fT s₁ m 40 #[vi x0, vi x1, vi x2, vi x3, vi x4, vi st, vi bs, vi (Int32.ofNat nn), vu, vu, vu, vu, vu, vu, vu] [(.int 2147483647), (.int x3)])
 refine Gz (XS.iand X0.here hx rfl (hb hby at_40) rfl) ?_
 show Goes _ _ _ _ _ (fT s₁ m 41 #[vi x0, vi x1, vi x2, vi x3, vi x4, vi st, vi bs, vi (Int32.ofNat nn), vu, vu, vu, vu, vu, vu, vu] [(.int (x3 &&& 2147483647))])
 refine gB X0 hx hby at_41 ?_
 show Goes _ _ _ _ _ (fT s₁ m 43 #[vi x0, vi x1, vi x2, vi x3, vi x4, vi st, vi bs, vi (Int32.ofNat nn), vu, vu, vu, vu, vu, vu, vu] [(.int 10), (.int (x3 &&& 2147483647))])
 refine Gz (XS.irem X0.here hx rfl (hb hby at_43) rfl (by decide)) ?_
 rw [Jvm.irem_eq_mod]
 show Goes _ _ _ _ _ (fT s₁ m 44 #[vi x0, vi x1, vi x2, vi x3, vi x4, vi st, vi bs, vi (Int32.ofNat nn), vu, vu, vu, vu, vu, vu, vu] [(.int ((x3 &&& 2147483647) % 10))])
 obtain ⟨jn, hj9, ej⟩ := own_jn9 x3
 rw [ej]
 show Goes _ _ _ _ _ (fT s₁ m 44 #[vi x0, vi x1, vi x2, vi x3, vi x4, vi st, vi bs, vi (Int32.ofNat nn), vu, vu, vu, vu, vu, vu, vu] [(.int (Int32.ofNat jn))])
 refine gS X0 hx hby at_44 #[vi x0, vi x1, vi x2, vi x3, vi x4, vi st, vi bs, vi (Int32.ofNat nn), vi (Int32.ofNat jn), vu, vu, vu, vu, vu, vu] ?_
 refine gI X0 hx hby at_46 rfl rfl ?_
 refine gC X0 hx hby at_48 ?_
 show Goes _ _ _ _ _ (fT s₁ m 49 #[vi x0, vi x1, vi x2, vi x3, vi x4, vi st, vi bs, vi (Int32.ofNat nn), vi (Int32.ofNat jn), vu, vu, vu, vu, vu, vu] [(.int 1), (.int x4)])
 refine Gz (XS.iand X0.here hx rfl (hb hby at_49) rfl) ?_
 show Goes _ _ _ _ _ (fT s₁ m 50 #[vi x0, vi x1, vi x2, vi x3, vi x4, vi st, vi bs, vi (Int32.ofNat nn), vi (Int32.ofNat jn), vu, vu, vu, vu, vu, vu] [(.int (x4 &&& 1))])
 refine own_joinP (P := fun z => z = 0 ∨ z = 1) (B := fun z => s₁.setTop (mkF m 58 #[vi x0, vi x1, vi x2, vi x3, vi x4, vi st, vi bs, vi (Int32.ofNat nn), vi (Int32.ofNat jn), vu, vu, vu, vu, vu, vu] [(.int z)])) ?_ ?_
 ·intro z hz
  obtain ⟨u, hu⟩ : ∃ u : Bool, z = if u then 1 else 0 := hz.elim (fun q => ⟨false, q⟩) (fun q => ⟨true, q⟩)
  show Goes _ _ _ _ _ (fT s₁ m 58 #[vi x0, vi x1, vi x2, vi x3, vi x4, vi st, vi bs, vi (Int32.ofNat nn), vi (Int32.ofNat jn), vu, vu, vu, vu, vu, vu] [(.int z)])
  refine gS X0 hx hby at_58 #[vi x0, vi x1, vi x2, vi x3, vi x4, vi st, vi bs, vi (Int32.ofNat nn), vi (Int32.ofNat jn), vi z, vu, vu, vu, vu, vu] ?_
  obtain ⟨T1, h1, X1, e1, E1, A1, D1, U1, st1⟩ := newO X0 hx hZ hown (gw hw 3 rfl) (gw hw 4 rfl) (gw hw 5 rfl) e0 (g := (mkF m 60 #[vi x0, vi x1, vi x2, vi x3, vi x4, vi st, vi bs, vi (Int32.ofNat nn), vi (Int32.ofNat jn), vi z, vu, vu, vu, vu, vu] [])) rfl (hb hby at_60) (by decide) (by decide)
  obtain ⟨b1, gq1⟩ : ∃ z, z = h0.size := ⟨_, rfl⟩
  rw [← gq1] at A1 st1 D1
  have g_b1 : n0 ≤ b1 := by rw [gq1]; exact Z0
  replace Z0 : n0 ≤ h1.size := Nat.le_trans Z0 E1.1
  have A_b1 : Exa Z h1 b1 "com/example/tandemtrie/tandemtrie/build/CodePointCounts" := A1
  have F_codePoints_b1 : Fld Z h1 b1 "com/example/tandemtrie/tandemtrie/build/CodePointCounts" "codePoints" "[I" .null := D1 (Or.inl (gw hw 21 rfl)) (ty := (.array .int)) (by decide)
  have F_counts_b1 : Fld Z h1 b1 "com/example/tandemtrie/tandemtrie/build/CodePointCounts" "counts" "[I" .null := D1 (Or.inl (gw hw 23 rfl)) (ty := (.array .int)) (by decide)
  have F_size_b1 : Fld Z h1 b1 "com/example/tandemtrie/tandemtrie/build/CodePointCounts" "size" "I" (.int 0) := D1 (Or.inl (gw hw 46 rfl)) (ty := .int) (by decide)
  refine Gs st1 ?_
  show Goes _ _ _ _ _ (fT T1 m 63 #[vi x0, vi x1, vi x2, vi x3, vi x4, vi st, vi bs, vi (Int32.ofNat nn), vi (Int32.ofNat jn), vi z, vu, vu, vu, vu, vu] [(.ref b1)])
  refine Gz (XS.dup X1.here hx rfl (hb hby at_63) rfl rfl) ?_
  have ltc2_b1 : b1 < h1.size := A_b1.lt
  refine cIg X1 hx hZ hw hown hby hml e1 mN2 6 7 8 5 1 (rm_ini l Z a0 hw [] b1 h1 n0 Z0 A_b1 F_codePoints_b1 F_counts_b1 F_size_b1 g_b1) at_64 (lenOf own_pd4 rfl) (fun _ T2 L2 X2 hQ2 => ?_)
  obtain ⟨b2, kb2, d2, kd2, rfl, N2q, K2, F_codePoints_b1_2', F_counts_b1_2', F_size_b1_2', V_b2_2', V_d2_2', g_b2_2', g_d2_2', sz_b2_2', sz_d2_2', ne_b2_d2_2'⟩ := hQ2
  have N2 := Fr.app N0 N2q
  replace A_b1 := A_b1.keep K2
  replace Z0 := Nat.le_trans Z0 K2.1
  have F_codePoints_b1 := F_codePoints_b1_2'
  have F_counts_b1 := F_counts_b1_2'
  have F_size_b1 := F_size_b1_2'
  have V_b2 := V_b2_2'
  have V_d2 := V_d2_2'
  have g_b2 := g_b2_2'
  have g_d2 := g_d2_2'
  have szc_b2 := sz_b2_2'
  have ne_b1_b2 : b1 ≠ b2 := Nat.ne_of_lt (Nat.lt_of_lt_of_le ltc2_b1 szc_b2)
  have szc_d2 := sz_d2_2'
  have ne_b1_d2 : b1 ≠ d2 := Nat.ne_of_lt (Nat.lt_of_lt_of_le ltc2_b1 szc_d2)
  have ne_b2_d2 := ne_b2_d2_2'
  show Goes _ _ _ _ _ (fT T2 m 67 #[vi x0, vi x1, vi x2, vi x3, vi x4, vi st, vi bs, vi (Int32.ofNat nn), vi (Int32.ofNat jn), vi z, vu, vu, vu, vu, vu] [(.ref b1)])
  replace F_size_b1 : Fld Z T2.heap b1 "com/example/tandemtrie/tandemtrie/build/CodePointCounts" "size" "I" (.int (Int32.ofNat (own_E bs st z nn jn 0).length)) := F_size_b1
  refine Gz (XS.astore X2.here hx rfl (hb hby at_67) rfl rfl (l' := #[vi x0, vi x1, vi x2, vi x3, vi x4, vi st, vi bs, vi (Int32.ofNat nn), vi (Int32.ofNat jn), vi z, vr b1, vu, vu, vu, vu]) rfl) ?_
  refine Gz (XS.aload X2.here hx rfl (hb hby at_69) rfl rfl) ?_
  refine gC X2 hx hby at_71 ?_
  refine gI X2 hx hby at_72 rfl rfl ?_
  refine gI X2 hx hby at_74 rfl rfl ?_
  refine gI X2 hx hby at_76 rfl rfl ?_
  show Goes _ _ _ _ _ (fT T2 m 78 #[vi x0, vi x1, vi x2, vi x3, vi x4, vi st, vi bs, vi (Int32.ofNat nn), vi (Int32.ofNat jn), vi z, vr b1, vu, vu, vu, vu] [(.int bs), (.int (Int32.ofNat jn)), (.int (Int32.ofNat nn)), (.int 0), (.ref b1)])
  refine gI X2 hx hby at_78 rfl rfl ?_
  refine gI X2 hx hby at_80 rfl rfl ?_
  show Goes _ _ _ _ _ (fT T2 m 82 #[vi x0, vi x1, vi x2, vi x3, vi x4, vi st, vi bs, vi (Int32.ofNat nn), vi (Int32.ofNat jn), vi z, vr b1, vu, vu, vu, vu] [(.int z), (.int st), (.int bs), (.int (Int32.ofNat jn)), (.int (Int32.ofNat nn)), (.int (Int32.ofNat 0)), (.ref b1)])
  refine cSg X2 hx hZ hw hown hby hml rfl mN8 24 25 27 26 0 (rm_fd0 l Z a0 hw [] b1 b2 kb2 d2 kd2 (List.replicate 16 (-1 : Int32)) (List.replicate 16 (0 : Int32)) 0 nn jn bs st z T2.heap n0 Z0 A_b1 F_codePoints_b1 F_counts_b1 F_size_b1 V_b2 V_d2 g_b1 g_b2 g_d2 ne_b1_b2 ne_b1_d2 ne_b2_d2 (Oinv.init _ (Or.inl rfl)) hB hn9 hj9 (by decide)) at_82 (lenOf own_pd11 rfl) (fun _ T3 L3 X3 hQ3 => ?_)
  obtain ⟨T23, K23, rfl, N3q, K3, F_codePoints_b1_3', F_counts_b1_3', F_size_b1_3', V_b2_3', V_d2_3', hO_3'⟩ := hQ3
  have N3 := Fr.app N2 N3q
  replace A_b1 := A_b1.keep K3
  replace Z0 := Nat.le_trans Z0 K3.1
  have F_codePoints_b1 := F_codePoints_b1_3'
  have F_counts_b1 := F_counts_b1_3'
  have F_size_b1 := F_size_b1_3'
  have V_b2 := V_b2_3'
  have V_d2 := V_d2_3'
  have hO3 := hO_3'
  show Goes _ _ _ _ _ (fT T3 m 85 #[vi x0, vi x1, vi x2, vi x3, vi x4, vi st, vi bs, vi (Int32.ofNat nn), vi (Int32.ofNat jn), vi z, vr b1, vu, vu, vu, vu] [])
  refine Gz (XS.aload X3.here hx rfl (hb hby at_85) rfl rfl) ?_
  refine gC X3 hx hby at_87 ?_
  refine gI X3 hx hby at_88 rfl rfl ?_
  refine gI X3 hx hby at_90 rfl rfl ?_
  refine gI X3 hx hby at_92 rfl rfl ?_
  refine gI X3 hx hby at_94 rfl rfl ?_
  show Goes _ _ _ _ _ (fT T3 m 96 #[vi x0, vi x1, vi x2, vi x3, vi x4, vi st, vi bs, vi (Int32.ofNat nn), vi (Int32.ofNat jn), vi z, vr b1, vu, vu, vu, vu] [(.int st), (.int bs), (.int (Int32.ofNat jn)), (.int (Int32.ofNat nn)), (.int 1), (.ref b1)])
  refine gI X3 hx hby at_96 rfl rfl ?_
  show Goes _ _ _ _ _ (fT T3 m 98 #[vi x0, vi x1, vi x2, vi x3, vi x4, vi st, vi bs, vi (Int32.ofNat nn), vi (Int32.ofNat jn), vi z, vr b1, vu, vu, vu, vu] [(.int z), (.int st), (.int bs), (.int (Int32.ofNat jn)), (.int (Int32.ofNat nn)), (.int (Int32.ofNat (0 + 1))), (.ref b1)])
  refine cSg X3 hx hZ hw hown hby hml rfl mN8 24 25 27 26 0 (rm_fd0 l Z a0 hw [] b1 b2 kb2 d2 kd2 T23 K23 (0 + 1) nn jn bs st z T3.heap n0 Z0 A_b1 F_codePoints_b1 F_counts_b1 F_size_b1 V_b2 V_d2 g_b1 g_b2 g_d2 ne_b1_b2 ne_b1_d2 ne_b2_d2 hO3 hB hn9 hj9 (by decide)) at_98 (lenOf own_pd11 rfl) (fun _ T4 L4 X4 hQ4 => ?_)
  obtain ⟨T24, K24, rfl, N4q, K4, F_codePoints_b1_4', F_counts_b1_4', F_size_b1_4', V_b2_4', V_d2_4', hO_4'⟩ := hQ4
  have N4 := Fr.app N3 N4q
  replace A_b1 := A_b1.keep K4
  replace Z0 := Nat.le_trans Z0 K4.1
  have F_codePoints_b1 := F_codePoints_b1_4'
  have F_counts_b1 := F_counts_b1_4'
  have F_size_b1 := F_size_b1_4'
  have V_b2 := V_b2_4'
  have V_d2 := V_d2_4'
  have hO4 := hO_4'
  show Goes _ _ _ _ _ (fT T4 m 101 #[vi x0, vi x1, vi x2, vi x3, vi x4, vi st, vi bs, vi (Int32.ofNat nn), vi (Int32.ofNat jn), vi z, vr b1, vu, vu, vu, vu] [])
  refine Gz (XS.aload X4.here hx rfl (hb hby at_101) rfl rfl) ?_
  refine gC X4 hx hby at_103 ?_
  refine gI X4 hx hby at_104 rfl rfl ?_
  refine gI X4 hx hby at_106 rfl rfl ?_
  refine gI X4 hx hby at_108 rfl rfl ?_
  refine gI X4 hx hby at_110 rfl rfl ?_
  show Goes _ _ _ _ _ (fT T4 m 112 #[vi x0, vi x1, vi x2, vi x3, vi x4, vi st, vi bs, vi (Int32.ofNat nn), vi (Int32.ofNat jn), vi z, vr b1, vu, vu, vu, vu] [(.int st), (.int bs), (.int (Int32.ofNat jn)), (.int (Int32.ofNat nn)), (.int 2), (.ref b1)])
  refine gI X4 hx hby at_112 rfl rfl ?_
  show Goes _ _ _ _ _ (fT T4 m 114 #[vi x0, vi x1, vi x2, vi x3, vi x4, vi st, vi bs, vi (Int32.ofNat nn), vi (Int32.ofNat jn), vi z, vr b1, vu, vu, vu, vu] [(.int z), (.int st), (.int bs), (.int (Int32.ofNat jn)), (.int (Int32.ofNat nn)), (.int (Int32.ofNat ((0 + 1) + 1))), (.ref b1)])
  refine cSg X4 hx hZ hw hown hby hml rfl mN8 24 25 27 26 0 (rm_fd0 l Z a0 hw [] b1 b2 kb2 d2 kd2 T24 K24 ((0 + 1) + 1) nn jn bs st z T4.heap n0 Z0 A_b1 F_codePoints_b1 F_counts_b1 F_size_b1 V_b2 V_d2 g_b1 g_b2 g_d2 ne_b1_b2 ne_b1_d2 ne_b2_d2 hO4 hB hn9 hj9 (by decide)) at_114 (lenOf own_pd11 rfl) (fun _ T5 L5 X5 hQ5 => ?_)
  obtain ⟨T25, K25, rfl, N5q, K5, F_codePoints_b1_5', F_counts_b1_5', F_size_b1_5', V_b2_5', V_d2_5', hO_5'⟩ := hQ5
  have N5 := Fr.app N4 N5q
  replace A_b1 := A_b1.keep K5
  replace Z0 := Nat.le_trans Z0 K5.1
  have F_codePoints_b1 := F_codePoints_b1_5'
  have F_counts_b1 := F_counts_b1_5'
  have F_size_b1 := F_size_b1_5'
  have V_b2 := V_b2_5'
  have V_d2 := V_d2_5'
  have hO5 := hO_5'
  show Goes _ _ _ _ _ (fT T5 m 117 #[vi x0, vi x1, vi x2, vi x3, vi x4, vi st, vi bs, vi (Int32.ofNat nn), vi (Int32.ofNat jn), vi z, vr b1, vu, vu, vu, vu] [])
  refine Gz (XS.aload X5.here hx rfl (hb hby at_117) rfl rfl) ?_
  refine gC X5 hx hby at_119 ?_
  refine gI X5 hx hby at_120 rfl rfl ?_
  refine gI X5 hx hby at_122 rfl rfl ?_
  refine gI X5 hx hby at_124 rfl rfl ?_
  refine gI X5 hx hby at_126 rfl rfl ?_
  show Goes _ _ _ _ _ (fT T5 m 128 #[vi x0, vi x1, vi x2, vi x3, vi x4, vi st, vi bs, vi (Int32.ofNat nn), vi (Int32.ofNat jn), vi z, vr b1, vu, vu, vu, vu] [(.int st), (.int bs), (.int (Int32.ofNat jn)), (.int (Int32.ofNat nn)), (.int 3), (.ref b1)])
  refine gI X5 hx hby at_128 rfl rfl ?_
  show Goes _ _ _ _ _ (fT T5 m 130 #[vi x0, vi x1, vi x2, vi x3, vi x4, vi st, vi bs, vi (Int32.ofNat nn), vi (Int32.ofNat jn), vi z, vr b1, vu, vu, vu, vu] [(.int z), (.int st), (.int bs), (.int (Int32.ofNat jn)), (.int (Int32.ofNat nn)), (.int (Int32.ofNat (((0 + 1) + 1) + 1))), (.ref b1)])
  refine cSg X5 hx hZ hw hown hby hml rfl mN8 24 25 27 26 0 (rm_fd0 l Z a0 hw [] b1 b2 kb2 d2 kd2 T25 K25 (((0 + 1) + 1) + 1) nn jn bs st z T5.heap n0 Z0 A_b1 F_codePoints_b1 F_counts_b1 F_size_b1 V_b2 V_d2 g_b1 g_b2 g_d2 ne_b1_b2 ne_b1_d2 ne_b2_d2 hO5 hB hn9 hj9 (by decide)) at_130 (lenOf own_pd11 rfl) (fun _ T6 L6 X6 hQ6 => ?_)
  obtain ⟨T26, K26, rfl, N6q, K6, F_codePoints_b1_6', F_counts_b1_6', F_size_b1_6', V_b2_6', V_d2_6', hO_6'⟩ := hQ6
  have N6 := Fr.app N5 N6q
  replace A_b1 := A_b1.keep K6
  replace Z0 := Nat.le_trans Z0 K6.1
  have F_codePoints_b1 := F_codePoints_b1_6'
  have F_counts_b1 := F_counts_b1_6'
  have F_size_b1 := F_size_b1_6'
  have V_b2 := V_b2_6'
  have V_d2 := V_d2_6'
  have hO6 := hO_6'
  show Goes _ _ _ _ _ (fT T6 m 133 #[vi x0, vi x1, vi x2, vi x3, vi x4, vi st, vi bs, vi (Int32.ofNat nn), vi (Int32.ofNat jn), vi z, vr b1, vu, vu, vu, vu] [])
  refine Gz (XS.aload X6.here hx rfl (hb hby at_133) rfl rfl) ?_
  refine gC X6 hx hby at_135 ?_
  refine gI X6 hx hby at_136 rfl rfl ?_
  refine gI X6 hx hby at_138 rfl rfl ?_
  refine gI X6 hx hby at_140 rfl rfl ?_
  refine gI X6 hx hby at_142 rfl rfl ?_
  show Goes _ _ _ _ _ (fT T6 m 144 #[vi x0, vi x1, vi x2, vi x3, vi x4, vi st, vi bs, vi (Int32.ofNat nn), vi (Int32.ofNat jn), vi z, vr b1, vu, vu, vu, vu] [(.int st), (.int bs), (.int (Int32.ofNat jn)), (.int (Int32.ofNat nn)), (.int 4), (.ref b1)])
  refine gI X6 hx hby at_144 rfl rfl ?_
  show Goes _ _ _ _ _ (fT T6 m 146 #[vi x0, vi x1, vi x2, vi x3, vi x4, vi st, vi bs, vi (Int32.ofNat nn), vi (Int32.ofNat jn), vi z, vr b1, vu, vu, vu, vu] [(.int z), (.int st), (.int bs), (.int (Int32.ofNat jn)), (.int (Int32.ofNat nn)), (.int (Int32.ofNat ((((0 + 1) + 1) + 1) + 1))), (.ref b1)])
  refine cSg X6 hx hZ hw hown hby hml rfl mN8 24 25 27 26 0 (rm_fd0 l Z a0 hw [] b1 b2 kb2 d2 kd2 T26 K26 ((((0 + 1) + 1) + 1) + 1) nn jn bs st z T6.heap n0 Z0 A_b1 F_codePoints_b1 F_counts_b1 F_size_b1 V_b2 V_d2 g_b1 g_b2 g_d2 ne_b1_b2 ne_b1_d2 ne_b2_d2 hO6 hB hn9 hj9 (by decide)) at_146 (lenOf own_pd11 rfl) (fun _ T7 L7 X7 hQ7 => ?_)
  obtain ⟨T27, K27, rfl, N7q, K7, F_codePoints_b1_7', F_counts_b1_7', F_size_b1_7', V_b2_7', V_d2_7', hO_7'⟩ := hQ7
  have N7 := Fr.app N6 N7q
  replace A_b1 := A_b1.keep K7
  replace Z0 := Nat.le_trans Z0 K7.1
  have F_codePoints_b1 := F_codePoints_b1_7'
  have F_counts_b1 := F_counts_b1_7'
  have F_size_b1 := F_size_b1_7'
  have V_b2 := V_b2_7'
  have V_d2 := V_d2_7'
  have hO7 := hO_7'
  show Goes _ _ _ _ _ (fT T7 m 149 #[vi x0, vi x1, vi x2, vi x3, vi x4, vi st, vi bs, vi (Int32.ofNat nn), vi (Int32.ofNat jn), vi z, vr b1, vu, vu, vu, vu] [])
  refine Gz (XS.aload X7.here hx rfl (hb hby at_149) rfl rfl) ?_
  refine gC X7 hx hby at_151 ?_
  refine gI X7 hx hby at_152 rfl rfl ?_
  refine gI X7 hx hby at_154 rfl rfl ?_
  refine gI X7 hx hby at_156 rfl rfl ?_
  refine gI X7 hx hby at_158 rfl rfl ?_
  show Goes _ _ _ _ _ (fT T7 m 160 #[vi x0, vi x1, vi x2, vi x3, vi x4, vi st, vi bs, vi (Int32.ofNat nn), vi (Int32.ofNat jn), vi z, vr b1, vu, vu, vu, vu] [(.int st), (.int bs), (.int (Int32.ofNat jn)), (.int (Int32.ofNat nn)), (.int 5), (.ref b1)])
  refine gI X7 hx hby at_160 rfl rfl ?_
  show Goes _ _ _ _ _ (fT T7 m 162 #[vi x0, vi x1, vi x2, vi x3, vi x4, vi st, vi bs, vi (Int32.ofNat nn), vi (Int32.ofNat jn), vi z, vr b1, vu, vu, vu, vu] [(.int z), (.int st), (.int bs), (.int (Int32.ofNat jn)), (.int (Int32.ofNat nn)), (.int (Int32.ofNat (((((0 + 1) + 1) + 1) + 1) + 1))), (.ref b1)])
  refine cSg X7 hx hZ hw hown hby hml rfl mN8 24 25 27 26 0 (rm_fd0 l Z a0 hw [] b1 b2 kb2 d2 kd2 T27 K27 (((((0 + 1) + 1) + 1) + 1) + 1) nn jn bs st z T7.heap n0 Z0 A_b1 F_codePoints_b1 F_counts_b1 F_size_b1 V_b2 V_d2 g_b1 g_b2 g_d2 ne_b1_b2 ne_b1_d2 ne_b2_d2 hO7 hB hn9 hj9 (by decide)) at_162 (lenOf own_pd11 rfl) (fun _ T8 L8 X8 hQ8 => ?_)
  obtain ⟨T28, K28, rfl, N8q, K8, F_codePoints_b1_8', F_counts_b1_8', F_size_b1_8', V_b2_8', V_d2_8', hO_8'⟩ := hQ8
  have N8 := Fr.app N7 N8q
  replace A_b1 := A_b1.keep K8
  replace Z0 := Nat.le_trans Z0 K8.1
  have F_codePoints_b1 := F_codePoints_b1_8'
  have F_counts_b1 := F_counts_b1_8'
  have F_size_b1 := F_size_b1_8'
  have V_b2 := V_b2_8'
  have V_d2 := V_d2_8'
  have hO8 := hO_8'
  show Goes _ _ _ _ _ (fT T8 m 165 #[vi x0, vi x1, vi x2, vi x3, vi x4, vi st, vi bs, vi (Int32.ofNat nn), vi (Int32.ofNat jn), vi z, vr b1, vu, vu, vu, vu] [])
  refine Gz (XS.aload X8.here hx rfl (hb hby at_165) rfl rfl) ?_
  refine gB X8 hx hby at_167 ?_
  refine gI X8 hx hby at_169 rfl rfl ?_
  refine gI X8 hx hby at_171 rfl rfl ?_
  refine gI X8 hx hby at_173 rfl rfl ?_
  refine gI X8 hx hby at_175 rfl rfl ?_
  show Goes _ _ _ _ _ (fT T8 m 177 #[vi x0, vi x1, vi x2, vi x3, vi x4, vi st, vi bs, vi (Int32.ofNat nn), vi (Int32.ofNat jn), vi z, vr b1, vu, vu, vu, vu] [(.int st), (.int bs), (.int (Int32.ofNat jn)), (.int (Int32.ofNat nn)), (.int 6), (.ref b1)])
  refine gI X8 hx hby at_177 rfl rfl ?_
  show Goes _ _ _ _ _ (fT T8 m 179 #[vi x0, vi x1, vi x2, vi x3, vi x4, vi st, vi bs, vi (Int32.ofNat nn), vi (Int32.ofNat jn), vi z, vr b1, vu, vu, vu, vu] [(.int z), (.int st), (.int bs), (.int (Int32.ofNat jn)), (.int (Int32.ofNat nn)), (.int (Int32.ofNat ((((((0 + 1) + 1) + 1) + 1) + 1) + 1))), (.ref b1)])
  refine cSg X8 hx hZ hw hown hby hml rfl mN8 24 25 27 26 0 (rm_fd0 l Z a0 hw [] b1 b2 kb2 d2 kd2 T28 K28 ((((((0 + 1) + 1) + 1) + 1) + 1) + 1) nn jn bs st z T8.heap n0 Z0 A_b1 F_codePoints_b1 F_counts_b1 F_size_b1 V_b2 V_d2 g_b1 g_b2 g_d2 ne_b1_b2 ne_b1_d2 ne_b2_d2 hO8 hB hn9 hj9 (by decide)) at_179 (lenOf own_pd11 rfl) (fun _ T9 L9 X9 hQ9 => ?_)
  obtain ⟨T29, K29, rfl, N9q, K9, F_codePoints_b1_9', F_counts_b1_9', F_size_b1_9', V_b2_9', V_d2_9', hO_9'⟩ := hQ9
  have N9 := Fr.app N8 N9q
  replace A_b1 := A_b1.keep K9
  replace Z0 := Nat.le_trans Z0 K9.1
  have F_codePoints_b1 := F_codePoints_b1_9'
  have F_counts_b1 := F_counts_b1_9'
  have F_size_b1 := F_size_b1_9'
  have V_b2 := V_b2_9'
  have V_d2 := V_d2_9'
  have hO9 := hO_9'
  show Goes _ _ _ _ _ (fT T9 m 182 #[vi x0, vi x1, vi x2, vi x3, vi x4, vi st, vi bs, vi (Int32.ofNat nn), vi (Int32.ofNat jn), vi z, vr b1, vu, vu, vu, vu] [])
  refine Gz (XS.aload X9.here hx rfl (hb hby at_182) rfl rfl) ?_
  refine gB X9 hx hby at_184 ?_
  refine gI X9 hx hby at_186 rfl rfl ?_
  refine gI X9 hx hby at_188 rfl rfl ?_
  refine gI X9 hx hby at_190 rfl rfl ?_
  refine gI X9 hx hby at_192 rfl rfl ?_
  show Goes _ _ _ _ _ (fT T9 m 194 #[vi x0, vi x1, vi x2, vi x3, vi x4, vi st, vi bs, vi (Int32.ofNat nn), vi (Int32.ofNat jn), vi z, vr b1, vu, vu, vu, vu] [(.int st), (.int bs), (.int (Int32.ofNat jn)), (.int (Int32.ofNat nn)), (.int 7), (.ref b1)])
  refine gI X9 hx hby at_194 rfl rfl ?_
  show Goes _ _ _ _ _ (fT T9 m 196 #[vi x0, vi x1, vi x2, vi x3, vi x4, vi st, vi bs, vi (Int32.ofNat nn), vi (Int32.ofNat jn), vi z, vr b1, vu, vu, vu, vu] [(.int z), (.int st), (.int bs), (.int (Int32.ofNat jn)), (.int (Int32.ofNat nn)), (.int (Int32.ofNat (((((((0 + 1) + 1) + 1) + 1) + 1) + 1) + 1))), (.ref b1)])
  refine cSg X9 hx hZ hw hown hby hml rfl mN8 24 25 27 26 0 (rm_fd0 l Z a0 hw [] b1 b2 kb2 d2 kd2 T29 K29 (((((((0 + 1) + 1) + 1) + 1) + 1) + 1) + 1) nn jn bs st z T9.heap n0 Z0 A_b1 F_codePoints_b1 F_counts_b1 F_size_b1 V_b2 V_d2 g_b1 g_b2 g_d2 ne_b1_b2 ne_b1_d2 ne_b2_d2 hO9 hB hn9 hj9 (by decide)) at_196 (lenOf own_pd11 rfl) (fun _ T10 L10 X10 hQ10 => ?_)
  obtain ⟨T210, K210, rfl, N10q, K10, F_codePoints_b1_10', F_counts_b1_10', F_size_b1_10', V_b2_10', V_d2_10', hO_10'⟩ := hQ10
  have N10 := Fr.app N9 N10q
  replace A_b1 := A_b1.keep K10
  replace Z0 := Nat.le_trans Z0 K10.1
  have F_codePoints_b1 := F_codePoints_b1_10'
  have F_counts_b1 := F_counts_b1_10'
  have F_size_b1 := F_size_b1_10'
  have V_b2 := V_b2_10'
  have V_d2 := V_d2_10'
  have hO10 := hO_10'
  show Goes _ _ _ _ _ (fT T10 m 199 #[vi x0, vi x1, vi x2, vi x3, vi x4, vi st, vi bs, vi (Int32.ofNat nn), vi (Int32.ofNat jn), vi z, vr b1, vu, vu, vu, vu] [])
  refine Gz (XS.aload X10.here hx rfl (hb hby at_199) rfl rfl) ?_
  refine gB X10 hx hby at_201 ?_
  refine gI X10 hx hby at_203 rfl rfl ?_
  refine gI X10 hx hby at_205 rfl rfl ?_
  refine gI X10 hx hby at_207 rfl rfl ?_
  refine gI X10 hx hby at_209 rfl rfl ?_
  show Goes _ _ _ _ _ (fT T10 m 211 #[vi x0, vi x1, vi x2, vi x3, vi x4, vi st, vi bs, vi (Int32.ofNat nn), vi (Int32.ofNat jn), vi z, vr b1, vu, vu, vu, vu] [(.int st), (.int bs), (.int (Int32.ofNat jn)), (.int (Int32.ofNat nn)), (.int 8), (.ref b1)])
  refine gI X10 hx hby at_211 rfl rfl ?_
  show Goes _ _ _ _ _ (fT T10 m 213 #[vi x0, vi x1, vi x2, vi x3, vi x4, vi st, vi bs, vi (Int32.ofNat nn), vi (Int32.ofNat jn), vi z, vr b1, vu, vu, vu, vu] [(.int z), (.int st), (.int bs), (.int (Int32.ofNat jn)), (.int (Int32.ofNat nn)), (.int (Int32.ofNat ((((((((0 + 1) + 1) + 1) + 1) + 1) + 1) + 1) + 1))), (.ref b1)])
  refine cSg X10 hx hZ hw hown hby hml rfl mN8 24 25 27 26 0 (rm_fd8 l Z a0 hw [] b1 b2 kb2 d2 kd2 T210 K210 ((((((((0 + 1) + 1) + 1) + 1) + 1) + 1) + 1) + 1) nn jn bs st z T10.heap n0 Z0 A_b1 F_codePoints_b1 F_counts_b1 F_size_b1 V_b2 V_d2 g_b1 g_b2 g_d2 ne_b1_b2 ne_b1_d2 ne_b2_d2 hO10 hB hn9 hj9 rfl) at_213 (lenOf own_pd11 rfl) (fun _ T11 L11 X11 hQ11 => ?_)
  obtain ⟨b211, kb211, d211, kd211, n211, T211, K211, rfl, N11q, K11, F_codePoints_b1_11', F_counts_b1_11', F_size_b1_11', V_b211_11', V_d211_11', g_b211_11', g_d211_11', hO_11'⟩ := hQ11
  have N11 := Fr.app N10 N11q
  replace A_b1 := A_b1.keep K11
  replace Z0 := Nat.le_trans Z0 K11.1
  have F_codePoints_b1 := F_codePoints_b1_11'
  have F_counts_b1 := F_counts_b1_11'
  have F_size_b1 := F_size_b1_11'
  have V_b211 := V_b211_11'
  have V_d211 := V_d211_11'
  have g_b211 := g_b211_11'
  have g_d211 := g_d211_11'
  have hO11 := hO_11'
  show Goes _ _ _ _ _ (fT T11 m 216 #[vi x0, vi x1, vi x2, vi x3, vi x4, vi st, vi bs, vi (Int32.ofNat nn), vi (Int32.ofNat jn), vi z, vr b1, vu, vu, vu, vu] [])
  refine Gz (XS.aload X11.here hx rfl (hb hby at_216) rfl rfl) ?_
  refine cVg X11 hx hZ hw hown hby hml rfl mN13 47 48 50 49 51 5 0 (rm_rk l Z a0 hw [] n211 b1 b211 kb211 d211 kd211 T211 K211 (own_E bs st z nn jn (((((((((0 + 1) + 1) + 1) + 1) + 1) + 1) + 1) + 1) + 1)) T11.heap n0 Z0 A_b1 F_codePoints_b1 F_counts_b1 F_size_b1 V_b211 V_d211 hO11 (by rw [own_EL]; exact Nat.min_le_left _ _)) A_b1 at_218 (lenOf own_pd12 rfl) (fun _ T12 L12 X12 hQ12 => ?_)
  obtain ⟨r12, kr12, RR12, rfl, N12q, K12, V_r12_12', hR_12'⟩ := hQ12
  have N12 := Fr.app N11 N12q
  replace Z0 := Nat.le_trans Z0 K12.1
  have V_r12 := V_r12_12'
  have hR12 := hR_12'
  show Goes _ _ _ _ _ (fT T12 m 221 #[vi x0, vi x1, vi x2, vi x3, vi x4, vi st, vi bs, vi (Int32.ofNat nn), vi (Int32.ofNat jn), vi z, vr b1, vu, vu, vu, vu] [(.ref r12)])
  have eL : (own_E bs st z nn jn (((((((((0 + 1) + 1) + 1) + 1) + 1) + 1) + 1) + 1) + 1)).length = nn := by rw [own_EL]; exact Nat.min_eq_right hn9
  rw [eL] at V_r12
  obtain ⟨L9, hL1, hL2, hL3⟩ := hR12
  have hfin := own_fin hB hu hn9 hj9 hL1 hL2
  refine Gz (XS.astore X12.here hx rfl (hb hby at_221) rfl rfl (l' := #[vi x0, vi x1, vi x2, vi x3, vi x4, vi st, vi bs, vi (Int32.ofNat nn), vi (Int32.ofNat jn), vi z, vr b1, vr r12, vu, vu, vu]) rfl) ?_
  refine Gz (XS.aload X12.here hx rfl (hb hby at_223) rfl rfl) ?_
  obtain ⟨cl13, Ar13, -, S13, N13z, -, -⟩ := id V_r12
  refine Gs (fun _ tk => X12.arraylength hx Ar13.1 (State.isArrayOf_alike hZ.alike Ar13.2.1) (g := (mkF m 225 #[vi x0, vi x1, vi x2, vi x3, vi x4, vi st, vi bs, vi (Int32.ofNat nn), vi (Int32.ofNat jn), vi z, vr b1, vr r12, vu, vu, vu] [(.ref r12)])) rfl rfl (hb hby at_225) _ tk) ?_
  rw [len_of S13 N13z]
  show Goes _ _ _ _ _ (fT T12 m 226 #[vi x0, vi x1, vi x2, vi x3, vi x4, vi st, vi bs, vi (Int32.ofNat nn), vi (Int32.ofNat jn), vi z, vr b1, vr r12, vu, vu, vu] [(.int (Int32.ofNat nn))])
  refine gI X12 hx hby at_226 rfl rfl ?_
  refine gY X12 hx hby at_228 228 233 (teq (rfl : (Int32.ofNat nn) = (Int32.ofNat nn))).1 ?_
  refine gI X12 hx hby at_233 rfl rfl ?_
  refine gI X12 hx hby at_235 rfl rfl ?_
  show Goes _ _ _ _ _ (fT T12 m 237 #[vi x0, vi x1, vi x2, vi x3, vi x4, vi st, vi bs, vi (Int32.ofNat nn), vi (Int32.ofNat jn), vi z, vr b1, vr r12, vu, vu, vu] [(.int (Int32.ofNat nn)), (.int (Int32.ofNat jn))])
  refine own_join (B := T12.setTop (mkF m 245 #[vi x0, vi x1, vi x2, vi x3, vi x4, vi st, vi bs, vi (Int32.ofNat nn), vi (Int32.ofNat jn), vi z, vr b1, vr r12, vu, vu, vu] [(.int (if jn < nn then (1 : Int32) else 0))])) ?_ ?_
  ·show Goes _ _ _ _ _ (fT T12 m 245 #[vi x0, vi x1, vi x2, vi x3, vi x4, vi st, vi bs, vi (Int32.ofNat nn), vi (Int32.ofNat jn), vi z, vr b1, vr r12, vu, vu, vu] [(.int (if jn < nn then (1 : Int32) else 0))])
   refine gS X12 hx hby at_245 #[vi x0, vi x1, vi x2, vi x3, vi x4, vi st, vi bs, vi (Int32.ofNat nn), vi (Int32.ofNat jn), vi z, vr b1, vr r12, vi (if jn < nn then (1 : Int32) else 0), vu, vu] ?_
   refine gI X12 hx hby at_247 rfl rfl ?_
   show Goes _ _ _ _ _ (fT T12 m 249 #[vi x0, vi x1, vi x2, vi x3, vi x4, vi st, vi bs, vi (Int32.ofNat nn), vi (Int32.ofNat jn), vi z, vr b1, vr r12, vi (if jn < nn then (1 : Int32) else 0), vu, vu] [(.int z)])
   refine own_join (B := T12.setTop (mkF m 268 #[vi x0, vi x1, vi x2, vi x3, vi x4, vi st, vi bs, vi (Int32.ofNat nn), vi (Int32.ofNat jn), vi z, vr b1, vr r12, vi (if jn < nn then (1 : Int32) else 0), vu, vu] [(.int (own_lo z bs st (Int32.ofNat nn)))])) ?_ ?_
   ·show Goes _ _ _ _ _ (fT T12 m 268 #[vi x0, vi x1, vi x2, vi x3, vi x4, vi st, vi bs, vi (Int32.ofNat nn), vi (Int32.ofNat jn), vi z, vr b1, vr r12, vi (if jn < nn then (1 : Int32) else 0), vu, vu] [(.int (own_lo z bs st (Int32.ofNat nn)))])
    refine gS X12 hx hby at_268 #[vi x0, vi x1, vi x2, vi x3, vi x4, vi st, vi bs, vi (Int32.ofNat nn), vi (Int32.ofNat jn), vi z, vr b1, vr r12, vi (if jn < nn then (1 : Int32) else 0), vi (own_lo z bs st (Int32.ofNat nn)), vu] ?_
    refine gI X12 hx hby at_270 rfl rfl ?_
    show Goes _ _ _ _ _ (fT T12 m 272 #[vi x0, vi x1, vi x2, vi x3, vi x4, vi st, vi bs, vi (Int32.ofNat nn), vi (Int32.ofNat jn), vi z, vr b1, vr r12, vi (if jn < nn then (1 : Int32) else 0), vi (own_lo z bs st (Int32.ofNat nn)), vu] [(.int z)])
    refine own_join (B := T12.setTop (mkF m 287 #[vi x0, vi x1, vi x2, vi x3, vi x4, vi st, vi bs, vi (Int32.ofNat nn), vi (Int32.ofNat jn), vi z, vr b1, vr r12, vi (if jn < nn then (1 : Int32) else 0), vi (own_lo z bs st (Int32.ofNat nn)), vu] [(.int (own_jj z (Int32.ofNat nn) (Int32.ofNat jn)))])) ?_ ?_
    ·show Goes _ _ _ _ _ (fT T12 m 287 #[vi x0, vi x1, vi x2, vi x3, vi x4, vi st, vi bs, vi (Int32.ofNat nn), vi (Int32.ofNat jn), vi z, vr b1, vr r12, vi (if jn < nn then (1 : Int32) else 0), vi (own_lo z bs st (Int32.ofNat nn)), vu] [(.int (own_jj z (Int32.ofNat nn) (Int32.ofNat jn)))])
     refine gS X12 hx hby at_287 #[vi x0, vi x1, vi x2, vi x3, vi x4, vi st, vi bs, vi (Int32.ofNat nn), vi (Int32.ofNat jn), vi z, vr b1, vr r12, vi (if jn < nn then (1 : Int32) else 0), vi (own_lo z bs st (Int32.ofNat nn)), vi (own_jj z (Int32.ofNat nn) (Int32.ofNat jn))] ?_
     refine Gz (XS.aload X12.here hx rfl (hb hby at_289) rfl rfl) ?_
     refine gC X12 hx hby at_291 ?_
     refine gI X12 hx hby at_292 rfl rfl ?_
     refine gI X12 hx hby at_294 rfl rfl ?_
     refine gI X12 hx hby at_296 rfl rfl ?_
     show Goes _ _ _ _ _ (fT T12 m 298 #[vi x0, vi x1, vi x2, vi x3, vi x4, vi st, vi bs, vi (Int32.ofNat nn), vi (Int32.ofNat jn), vi z, vr b1, vr r12, vi (if jn < nn then (1 : Int32) else 0), vi (own_lo z bs st (Int32.ofNat nn)), vi (own_jj z (Int32.ofNat nn) (Int32.ofNat jn))] [(.int (own_jj z (Int32.ofNat nn) (Int32.ofNat jn))), (.int (if jn < nn then (1 : Int32) else 0)), (.int (Int32.ofNat nn)), (.int 0), (.ref r12)])
     refine gI X12 hx hby at_298 rfl rfl ?_
     refine gI X12 hx hby at_300 rfl rfl ?_
     show Goes _ _ _ _ _ (fT T12 m 302 #[vi x0, vi x1, vi x2, vi x3, vi x4, vi st, vi bs, vi (Int32.ofNat nn), vi (Int32.ofNat jn), vi z, vr b1, vr r12, vi (if jn < nn then (1 : Int32) else 0), vi (own_lo z bs st (Int32.ofNat nn)), vi (own_jj z (Int32.ofNat nn) (Int32.ofNat jn))] [(.int st), (.int (own_lo z bs st (Int32.ofNat nn))), (.int (own_jj z (Int32.ofNat nn) (Int32.ofNat jn))), (.int (if jn < nn then (1 : Int32) else 0)), (.int (Int32.ofNat nn)), (.int (Int32.ofNat 0)), (.ref r12)])
     refine cS X12 hx hZ hw hown hby hml rfl mN14 66 67 68 26 0 (rm_atc l Z a0 hw [] r12 kr12 RR12 0 nn (if jn < nn then (1 : Int32) else 0) (own_jj z (Int32.ofNat nn) (Int32.ofNat jn)) (own_lo z bs st (Int32.ofNat nn)) st T12.heap n0 Z0 V_r12 hn9 (by decide) (fun hp => by rw [hL3, hfin]; exact own_res hB hu rfl hn9 hj9 hp)) at_302 (lenOf own_pd13 rfl) N12 (fun T17 L17 X17 e17 N17 => ?_)
     show Goes _ _ _ _ _ (fT T17 m 305 #[vi x0, vi x1, vi x2, vi x3, vi x4, vi st, vi bs, vi (Int32.ofNat nn), vi (Int32.ofNat jn), vi z, vr b1, vr r12, vi (if jn < nn then (1 : Int32) else 0), vi (own_lo z bs st (Int32.ofNat nn)), vi (own_jj z (Int32.ofNat nn) (Int32.ofNat jn))] [(.int 1)])
     refine gu X17 hx hby at_305 ((if0 _ _).trans (feq (by decide : ¬ ((1 : Int32) = (0 : Int32)))).1) ?_
     refine Gz (XS.aload X17.here hx rfl (hb hby at_308) rfl rfl) ?_
     refine gC X17 hx hby at_310 ?_
     refine gI X17 hx hby at_311 rfl rfl ?_
     refine gI X17 hx hby at_313 rfl rfl ?_
     refine gI X17 hx hby at_315 rfl rfl ?_
     show Goes _ _ _ _ _ (fT T17 m 317 #[vi x0, vi x1, vi x2, vi x3, vi x4, vi st, vi bs, vi (Int32.ofNat nn), vi (Int32.ofNat jn), vi z, vr b1, vr r12, vi (if jn < nn then (1 : Int32) else 0), vi (own_lo z bs st (Int32.ofNat nn)), vi (own_jj z (Int32.ofNat nn) (Int32.ofNat jn))] [(.int (own_jj z (Int32.ofNat nn) (Int32.ofNat jn))), (.int (if jn < nn then (1 : Int32) else 0)), (.int (Int32.ofNat nn)), (.int 1), (.ref r12)])
     refine gI X17 hx hby at_317 rfl rfl ?_
     refine gI X17 hx hby at_319 rfl rfl ?_
     show Goes _ _ _ _ _ (fT T17 m 321 #[vi x0, vi x1, vi x2, vi x3, vi x4, vi st, vi bs, vi (Int32.ofNat nn), vi (Int32.ofNat jn), vi z, vr b1, vr r12, vi (if jn < nn then (1 : Int32) else 0), vi (own_lo z bs st (Int32.ofNat nn)), vi (own_jj z (Int32.ofNat nn) (Int32.ofNat jn))] [(.int st), (.int (own_lo z bs st (Int32.ofNat nn))), (.int (own_jj z (Int32.ofNat nn) (Int32.ofNat jn))), (.int (if jn < nn then (1 : Int32) else 0)), (.int (Int32.ofNat nn)), (.int (Int32.ofNat 1)), (.ref r12)])
     refine cS X17 hx hZ hw hown hby hml e17 mN14 66 67 68 26 0 (rm_atc l Z a0 hw [] r12 kr12 RR12 1 nn (if jn < nn then (1 : Int32) else 0) (own_jj z (Int32.ofNat nn) (Int32.ofNat jn)) (own_lo z bs st (Int32.ofNat nn)) st T12.heap n0 Z0 V_r12 hn9 (by decide) (fun hp => by rw [hL3, hfin]; exact own_res hB hu rfl hn9 hj9 hp)) at_321 (lenOf own_pd13 rfl) N17 (fun T18 L18 X18 e18 N18 => ?_)
     show Goes _ _ _ _ _ (fT T18 m 324 #[vi x0, vi x1, vi x2, vi x3, vi x4, vi st, vi bs, vi (Int32.ofNat nn), vi (Int32.ofNat jn), vi z, vr b1, vr r12, vi (if jn < nn then (1 : Int32) else 0), vi (own_lo z bs st (Int32.ofNat nn)), vi (own_jj z (Int32.ofNat nn) (Int32.ofNat jn))] [(.int 1)])
     refine gu X18 hx hby at_324 ((if0 _ _).trans (feq (by decide : ¬ ((1 : Int32) = (0 : Int32)))).1) ?_
     refine Gz (XS.aload X18.here hx rfl (hb hby at_327) rfl rfl) ?_
     refine gC X18 hx hby at_329 ?_
     refine gI X18 hx hby at_330 rfl rfl ?_
     refine gI X18 hx hby at_332 rfl rfl ?_
     refine gI X18 hx hby at_334 rfl rfl ?_
     show Goes _ _ _ _ _ (fT T18 m 336 #[vi x0, vi x1, vi x2, vi x3, vi x4, vi st, vi bs, vi (Int32.ofNat nn), vi (Int32.ofNat jn), vi z, vr b1, vr r12, vi (if jn < nn then (1 : Int32) else 0), vi (own_lo z bs st (Int32.ofNat nn)), vi (own_jj z (Int32.ofNat nn) (Int32.ofNat jn))] [(.int (own_jj z (Int32.ofNat nn) (Int32.ofNat jn))), (.int (if jn < nn then (1 : Int32) else 0)), (.int (Int32.ofNat nn)), (.int 2), (.ref r12)])
     refine gI X18 hx hby at_336 rfl rfl ?_
     refine gI X18 hx hby at_338 rfl rfl ?_
     show Goes _ _ _ _ _ (fT T18 m 340 #[vi x0, vi x1, vi x2, vi x3, vi x4, vi st, vi bs, vi (Int32.ofNat nn), vi (Int32.ofNat jn), vi z, vr b1, vr r12, vi (if jn < nn then (1 : Int32) else 0), vi (own_lo z bs st (Int32.ofNat nn)), vi (own_jj z (Int32.ofNat nn) (Int32.ofNat jn))] [(.int st), (.int (own_lo z bs st (Int32.ofNat nn))), (.int (own_jj z (Int32.ofNat nn) (Int32.ofNat jn))), (.int (if jn < nn then (1 : Int32) else 0)), (.int (Int32.ofNat nn)), (.int (Int32.ofNat 2)), (.ref r12)])
     refine cS X18 hx hZ hw hown hby hml e18 mN14 66 67 68 26 0 (rm_atc l Z a0 hw [] r12 kr12 RR12 2 nn (if jn < nn then (1 : Int32) else 0) (own_jj z (Int32.ofNat nn) (Int32.ofNat jn)) (own_lo z bs st (Int32.ofNat nn)) st T12.heap n0 Z0 V_r12 hn9 (by decide) (fun hp => by rw [hL3, hfin]; exact own_res hB hu rfl hn9 hj9 hp)) at_340 (lenOf own_pd13 rfl) N18 (fun T19 L19 X19 e19 N19 => ?_)
     show Goes _ _ _ _ _ (fT T19 m 343 #[vi x0, vi x1, vi x2, vi x3, vi x4, vi st, vi bs, vi (Int32.ofNat nn), vi (Int32.ofNat jn), vi z, vr b1, vr r12, vi (if jn < nn then (1 : Int32) else 0), vi (own_lo z bs st (Int32.ofNat nn)), vi (own_jj z (Int32.ofNat nn) (Int32.ofNat jn))] [(.int 1)])
     refine gu X19 hx hby at_343 ((if0 _ _).trans (feq (by decide : ¬ ((1 : Int32) = (0 : Int32)))).1) ?_
     refine Gz (XS.aload X19.here hx rfl (hb hby at_346) rfl rfl) ?_
     refine gC X19 hx hby at_348 ?_
     refine gI X19 hx hby at_349 rfl rfl ?_
     refine gI X19 hx hby at_351 rfl rfl ?_
     refine gI X19 hx hby at_353 rfl rfl ?_
     show Goes _ _ _ _ _ (fT T19 m 355 #[vi x0, vi x1, vi x2, vi x3, vi x4, vi st, vi bs, vi (Int32.ofNat nn), vi (Int32.ofNat jn), vi z, vr b1, vr r12, vi (if jn < nn then (1 : Int32) else 0), vi (own_lo z bs st (Int32.ofNat nn)), vi (own_jj z (Int32.ofNat nn) (Int32.ofNat jn))] [(.int (own_jj z (Int32.ofNat nn) (Int32.ofNat jn))), (.int (if jn < nn then (1 : Int32) else 0)), (.int (Int32.ofNat nn)), (.int 3), (.ref r12)])
     refine gI X19 hx hby at_355 rfl rfl ?_
     refine gI X19 hx hby at_357 rfl rfl ?_
     show Goes _ _ _ _ _ (fT T19 m 359 #[vi x0, vi x1, vi x2, vi x3, vi x4, vi st, vi bs, vi (Int32.ofNat nn), vi (Int32.ofNat jn), vi z, vr b1, vr r12, vi (if jn < nn then (1 : Int32) else 0), vi (own_lo z bs st (Int32.ofNat nn)), vi (own_jj z (Int32.ofNat nn) (Int32.ofNat jn))] [(.int st), (.int (own_lo z bs st (Int32.ofNat nn))), (.int (own_jj z (Int32.ofNat nn) (Int32.ofNat jn))), (.int (if jn < nn then (1 : Int32) else 0)), (.int (Int32.ofNat nn)), (.int (Int32.ofNat 3)), (.ref r12)])
     refine cS X19 hx hZ hw hown hby hml e19 mN14 66 67 68 26 0 (rm_atc l Z a0 hw [] r12 kr12 RR12 3 nn (if jn < nn then (1 : Int32) else 0) (own_jj z (Int32.ofNat nn) (Int32.ofNat jn)) (own_lo z bs st (Int32.ofNat nn)) st T12.heap n0 Z0 V_r12 hn9 (by decide) (fun hp => by rw [hL3, hfin]; exact own_res hB hu rfl hn9 hj9 hp)) at_359 (lenOf own_pd13 rfl) N19 (fun T20 L20 X20 e20 N20 => ?_)
     show Goes _ _ _ _ _ (fT T20 m 362 #[vi x0, vi x1, vi x2, vi x3, vi x4, vi st, vi bs, vi (Int32.ofNat nn), vi (Int32.ofNat jn), vi z, vr b1, vr r12, vi (if jn < nn then (1 : Int32) else 0), vi (own_lo z bs st (Int32.ofNat nn)), vi (own_jj z (Int32.ofNat nn) (Int32.ofNat jn))] [(.int 1)])
     refine gu X20 hx hby at_362 ((if0 _ _).trans (feq (by decide : ¬ ((1 : Int32) = (0 : Int32)))).1) ?_
     refine Gz (XS.aload X20.here hx rfl (hb hby at_365) rfl rfl) ?_
     refine gC X20 hx hby at_367 ?_
     refine gI X20 hx hby at_368 rfl rfl ?_
     refine gI X20 hx hby at_370 rfl rfl ?_
     refine gI X20 hx hby at_372 rfl rfl ?_
     show Goes _ _ _ _ _ (fT T20 m 374 #[vi x0, vi x1, vi x2, vi x3, vi x4, vi st, vi bs, vi (Int32.ofNat nn), vi (Int32.ofNat jn), vi z, vr b1, vr r12, vi (if jn < nn then (1 : Int32) else 0), vi (own_lo z bs st (Int32.ofNat nn)), vi (own_jj z (Int32.ofNat nn) (Int32.ofNat jn))] [(.int (own_jj z (Int32.ofNat nn) (Int32.ofNat jn))), (.int (if jn < nn then (1 : Int32) else 0)), (.int (Int32.ofNat nn)), (.int 4), (.ref r12)])
     refine gI X20 hx hby at_374 rfl rfl ?_
     refine gI X20 hx hby at_376 rfl rfl ?_
     show Goes _ _ _ _ _ (fT T20 m 378 #[vi x0, vi x1, vi x2, vi x3, vi x4, vi st, vi bs, vi (Int32.ofNat nn), vi (Int32.ofNat jn), vi z, vr b1, vr r12, vi (if jn < nn then (1 : Int32) else 0), vi (own_lo z bs st (Int32.ofNat nn)), vi (own_jj z (Int32.ofNat nn) (Int32.ofNat jn))] [(.int st), (.int (own_lo z bs st (Int32.ofNat nn))), (.int (own_jj z (Int32.ofNat nn) (Int32.ofNat jn))), (.int (if jn < nn then (1 : Int32) else 0)), (.int (Int32.ofNat nn)), (.int (Int32.ofNat 4)), (.ref r12)])
     refine cS X20 hx hZ hw hown hby hml e20 mN14 66 67 68 26 0 (rm_atc l Z a0 hw [] r12 kr12 RR12 4 nn (if jn < nn then (1 : Int32) else 0) (own_jj z (Int32.ofNat nn) (Int32.ofNat jn)) (own_lo z bs st (Int32.ofNat nn)) st T12.heap n0 Z0 V_r12 hn9 (by decide) (fun hp => by rw [hL3, hfin]; exact own_res hB hu rfl hn9 hj9 hp)) at_378 (lenOf own_pd13 rfl) N20 (fun T21 L21 X21 e21 N21 => ?_)
     show Goes _ _ _ _ _ (fT T21 m 381 #[vi x0, vi x1, vi x2, vi x3, vi x4, vi st, vi bs, vi (Int32.ofNat nn), vi (Int32.ofNat jn), vi z, vr b1, vr r12, vi (if jn < nn then (1 : Int32) else 0), vi (own_lo z bs st (Int32.ofNat nn)), vi (own_jj z (Int32.ofNat nn) (Int32.ofNat jn))] [(.int 1)])
     refine gu X21 hx hby at_381 ((if0 _ _).trans (feq (by decide : ¬ ((1 : Int32) = (0 : Int32)))).1) ?_
     refine Gz (XS.aload X21.here hx rfl (hb hby at_384) rfl rfl) ?_
     refine gC X21 hx hby at_386 ?_
     refine gI X21 hx hby at_387 rfl rfl ?_
     refine gI X21 hx hby at_389 rfl rfl ?_
     refine gI X21 hx hby at_391 rfl rfl ?_
     show Goes _ _ _ _ _ (fT T21 m 393 #[vi x0, vi x1, vi x2, vi x3, vi x4, vi st, vi bs, vi (Int32.ofNat nn), vi (Int32.ofNat jn), vi z, vr b1, vr r12, vi (if jn < nn then (1 : Int32) else 0), vi (own_lo z bs st (Int32.ofNat nn)), vi (own_jj z (Int32.ofNat nn) (Int32.ofNat jn))] [(.int (own_jj z (Int32.ofNat nn) (Int32.ofNat jn))), (.int (if jn < nn then (1 : Int32) else 0)), (.int (Int32.ofNat nn)), (.int 5), (.ref r12)])
     refine gI X21 hx hby at_393 rfl rfl ?_
     refine gI X21 hx hby at_395 rfl rfl ?_
     show Goes _ _ _ _ _ (fT T21 m 397 #[vi x0, vi x1, vi x2, vi x3, vi x4, vi st, vi bs, vi (Int32.ofNat nn), vi (Int32.ofNat jn), vi z, vr b1, vr r12, vi (if jn < nn then (1 : Int32) else 0), vi (own_lo z bs st (Int32.ofNat nn)), vi (own_jj z (Int32.ofNat nn) (Int32.ofNat jn))] [(.int st), (.int (own_lo z bs st (Int32.ofNat nn))), (.int (own_jj z (Int32.ofNat nn) (Int32.ofNat jn))), (.int (if jn < nn then (1 : Int32) else 0)), (.int (Int32.ofNat nn)), (.int (Int32.ofNat 5)), (.ref r12)])
     refine cS X21 hx hZ hw hown hby hml e21 mN14 66 67 68 26 0 (rm_atc l Z a0 hw [] r12 kr12 RR12 5 nn (if jn < nn then (1 : Int32) else 0) (own_jj z (Int32.ofNat nn) (Int32.ofNat jn)) (own_lo z bs st (Int32.ofNat nn)) st T12.heap n0 Z0 V_r12 hn9 (by decide) (fun hp => by rw [hL3, hfin]; exact own_res hB hu rfl hn9 hj9 hp)) at_397 (lenOf own_pd13 rfl) N21 (fun T22 L22 X22 e22 N22 => ?_)
     show Goes _ _ _ _ _ (fT T22 m 400 #[vi x0, vi x1, vi x2, vi x3, vi x4, vi st, vi bs, vi (Int32.ofNat nn), vi (Int32.ofNat jn), vi z, vr b1, vr r12, vi (if jn < nn then (1 : Int32) else 0), vi (own_lo z bs st (Int32.ofNat nn)), vi (own_jj z (Int32.ofNat nn) (Int32.ofNat jn))] [(.int 1)])
     refine gu X22 hx hby at_400 ((if0 _ _).trans (feq (by decide : ¬ ((1 : Int32) = (0 : Int32)))).1) ?_
     refine Gz (XS.aload X22.here hx rfl (hb hby at_403) rfl rfl) ?_
     refine gB X22 hx hby at_405 ?_
     refine gI X22 hx hby at_407 rfl rfl ?_
     refine gI X22 hx hby at_409 rfl rfl ?_
     refine gI X22 hx hby at_411 rfl rfl ?_
     show Goes _ _ _ _ _ (fT T22 m 413 #[vi x0, vi x1, vi x2, vi x3, vi x4, vi st, vi bs, vi (Int32.ofNat nn), vi (Int32.ofNat jn), vi z, vr b1, vr r12, vi (if jn < nn then (1 : Int32) else 0), vi (own_lo z bs st (Int32.ofNat nn)), vi (own_jj z (Int32.ofNat nn) (Int32.ofNat jn))] [(.int (own_jj z (Int32.ofNat nn) (Int32.ofNat jn))), (.int (if jn < nn then (1 : Int32) else 0)), (.int (Int32.ofNat nn)), (.int 6), (.ref r12)])
     refine gI X22 hx hby at_413 rfl rfl ?_
     refine gI X22 hx hby at_415 rfl rfl ?_
     show Goes _ _ _ _ _ (fT T22 m 417 #[vi x0, vi x1, vi x2, vi x3, vi x4, vi st, vi bs, vi (Int32.ofNat nn), vi (Int32.ofNat jn), vi z, vr b1, vr r12, vi (if jn < nn then (1 : Int32) else 0), vi (own_lo z bs st (Int32.ofNat nn)), vi (own_jj z (Int32.ofNat nn) (Int32.ofNat jn))] [(.int st), (.int (own_lo z bs st (Int32.ofNat nn))), (.int (own_jj z (Int32.ofNat nn) (Int32.ofNat jn))), (.int (if jn < nn then (1 : Int32) else 0)), (.int (Int32.ofNat nn)), (.int (Int32.ofNat 6)), (.ref r12)])
     refine cS X22 hx hZ hw hown hby hml e22 mN14 66 67 68 26 0 (rm_atc l Z a0 hw [] r12 kr12 RR12 6 nn (if jn < nn then (1 : Int32) else 0) (own_jj z (Int32.ofNat nn) (Int32.ofNat jn)) (own_lo z bs st (Int32.ofNat nn)) st T12.heap n0 Z0 V_r12 hn9 (by decide) (fun hp => by rw [hL3, hfin]; exact own_res hB hu rfl hn9 hj9 hp)) at_417 (lenOf own_pd13 rfl) N22 (fun T23 L23 X23 e23 N23 => ?_)
     show Goes _ _ _ _ _ (fT T23 m 420 #[vi x0, vi x1, vi x2, vi x3, vi x4, vi st, vi bs, vi (Int32.ofNat nn), vi (Int32.ofNat jn), vi z, vr b1, vr r12, vi (if jn < nn then (1 : Int32) else 0), vi (own_lo z bs st (Int32.ofNat nn)), vi (own_jj z (Int32.ofNat nn) (Int32.ofNat jn))] [(.int 1)])
     refine gu X23 hx hby at_420 ((if0 _ _).trans (feq (by decide : ¬ ((1 : Int32) = (0 : Int32)))).1) ?_
     refine Gz (XS.aload X23.here hx rfl (hb hby at_423) rfl rfl) ?_
     refine gB X23 hx hby at_425 ?_
     refine gI X23 hx hby at_427 rfl rfl ?_
     refine gI X23 hx hby at_429 rfl rfl ?_
     refine gI X23 hx hby at_431 rfl rfl ?_
     show Goes _ _ _ _ _ (fT T23 m 433 #[vi x0, vi x1, vi x2, vi x3, vi x4, vi st, vi bs, vi (Int32.ofNat nn), vi (Int32.ofNat jn), vi z, vr b1, vr r12, vi (if jn < nn then (1 : Int32) else 0), vi (own_lo z bs st (Int32.ofNat nn)), vi (own_jj z (Int32.ofNat nn) (Int32.ofNat jn))] [(.int (own_jj z (Int32.ofNat nn) (Int32.ofNat jn))), (.int (if jn < nn then (1 : Int32) else 0)), (.int (Int32.ofNat nn)), (.int 7), (.ref r12)])
     refine gI X23 hx hby at_433 rfl rfl ?_
     refine gI X23 hx hby at_435 rfl rfl ?_
     show Goes _ _ _ _ _ (fT T23 m 437 #[vi x0, vi x1, vi x2, vi x3, vi x4, vi st, vi bs, vi (Int32.ofNat nn), vi (Int32.ofNat jn), vi z, vr b1, vr r12, vi (if jn < nn then (1 : Int32) else 0), vi (own_lo z bs st (Int32.ofNat nn)), vi (own_jj z (Int32.ofNat nn) (Int32.ofNat jn))] [(.int st), (.int (own_lo z bs st (Int32.ofNat nn))), (.int (own_jj z (Int32.ofNat nn) (Int32.ofNat jn))), (.int (if jn < nn then (1 : Int32) else 0)), (.int (Int32.ofNat nn)), (.int (Int32.ofNat 7)), (.ref r12)])
     refine cS X23 hx hZ hw hown hby hml e23 mN14 66 67 68 26 0 (rm_atc l Z a0 hw [] r12 kr12 RR12 7 nn (if jn < nn then (1 : Int32) else 0) (own_jj z (Int32.ofNat nn) (Int32.ofNat jn)) (own_lo z bs st (Int32.ofNat nn)) st T12.heap n0 Z0 V_r12 hn9 (by decide) (fun hp => by rw [hL3, hfin]; exact own_res hB hu rfl hn9 hj9 hp)) at_437 (lenOf own_pd13 rfl) N23 (fun T24 L24 X24 e24 N24 => ?_)
     show Goes _ _ _ _ _ (fT T24 m 440 #[vi x0, vi x1, vi x2, vi x3, vi x4, vi st, vi bs, vi (Int32.ofNat nn), vi (Int32.ofNat jn), vi z, vr b1, vr r12, vi (if jn < nn then (1 : Int32) else 0), vi (own_lo z bs st (Int32.ofNat nn)), vi (own_jj z (Int32.ofNat nn) (Int32.ofNat jn))] [(.int 1)])
     refine gu X24 hx hby at_440 ((if0 _ _).trans (feq (by decide : ¬ ((1 : Int32) = (0 : Int32)))).1) ?_
     refine Gz (XS.aload X24.here hx rfl (hb hby at_443) rfl rfl) ?_
     refine gB X24 hx hby at_445 ?_
     refine gI X24 hx hby at_447 rfl rfl ?_
     refine gI X24 hx hby at_449 rfl rfl ?_
     refine gI X24 hx hby at_451 rfl rfl ?_
     show Goes _ _ _ _ _ (fT T24 m 453 #[vi x0, vi x1, vi x2, vi x3, vi x4, vi st, vi bs, vi (Int32.ofNat nn), vi (Int32.ofNat jn), vi z, vr b1, vr r12, vi (if jn < nn then (1 : Int32) else 0), vi (own_lo z bs st (Int32.ofNat nn)), vi (own_jj z (Int32.ofNat nn) (Int32.ofNat jn))] [(.int (own_jj z (Int32.ofNat nn) (Int32.ofNat jn))), (.int (if jn < nn then (1 : Int32) else 0)), (.int (Int32.ofNat nn)), (.int 8), (.ref r12)])
     refine gI X24 hx hby at_453 rfl rfl ?_
     refine gI X24 hx hby at_455 rfl rfl ?_
     show Goes _ _ _ _ _ (fT T24 m 457 #[vi x0, vi x1, vi x2, vi x3, vi x4, vi st, vi bs, vi (Int32.ofNat nn), vi (Int32.ofNat jn), vi z, vr b1, vr r12, vi (if jn < nn then (1 : Int32) else 0), vi (own_lo z bs st (Int32.ofNat nn)), vi (own_jj z (Int32.ofNat nn) (Int32.ofNat jn))] [(.int st), (.int (own_lo z bs st (Int32.ofNat nn))), (.int (own_jj z (Int32.ofNat nn) (Int32.ofNat jn))), (.int (if jn < nn then (1 : Int32) else 0)), (.int (Int32.ofNat nn)), (.int (Int32.ofNat 8)), (.ref r12)])
     refine cS X24 hx hZ hw hown hby hml e24 mN14 66 67 68 26 0 (rm_atc l Z a0 hw [] r12 kr12 RR12 8 nn (if jn < nn then (1 : Int32) else 0) (own_jj z (Int32.ofNat nn) (Int32.ofNat jn)) (own_lo z bs st (Int32.ofNat nn)) st T12.heap n0 Z0 V_r12 hn9 (by decide) (fun hp => by rw [hL3, hfin]; exact own_res hB hu rfl hn9 hj9 hp)) at_457 (lenOf own_pd13 rfl) N24 (fun T25 L25 X25 e25 N25 => ?_)
     show Goes _ _ _ _ _ (fT T25 m 460 #[vi x0, vi x1, vi x2, vi x3, vi x4, vi st, vi bs, vi (Int32.ofNat nn), vi (Int32.ofNat jn), vi z, vr b1, vr r12, vi (if jn < nn then (1 : Int32) else 0), vi (own_lo z bs st (Int32.ofNat nn)), vi (own_jj z (Int32.ofNat nn) (Int32.ofNat jn))] [(.int 1)])
     refine gu X25 hx hby at_460 ((if0 _ _).trans (feq (by decide : ¬ ((1 : Int32) = (0 : Int32)))).1) ?_
     refine gC X25 hx hby at_463 ?_
     refine gG X25 hx hby at_464 464 468 ?_
     refine Goes.ret X25 (some (.int 1)) (fun h => by rw [hret] at h; cases h) hlk (by decide) (by decide) ?_ (fun fs hr => ?_)
     ·rw [e25]; exact ⟨rfl, N25⟩
     ·exact own_retN X25 hx (t := .boolean) hret (by simp) rfl (hb hby at_468) hr
    intro J287_16
    by_cases hc272_26 : z = 0
    ·refine gy X12 hx hby at_272 272 280 ((if0 _ _).trans (teq hc272_26).1) ?_
     refine gI X12 hx hby at_280 rfl rfl ?_
     refine gC X12 hx hby at_282 ?_
     show Goes _ _ _ _ _ (fT T12 m 283 #[vi x0, vi x1, vi x2, vi x3, vi x4, vi st, vi bs, vi (Int32.ofNat nn), vi (Int32.ofNat jn), vi z, vr b1, vr r12, vi (if jn < nn then (1 : Int32) else 0), vi (own_lo z bs st (Int32.ofNat nn)), vu] [(.int 1), (.int (Int32.ofNat nn))])
     refine Gz (XS.isub X12.here hx rfl (hb hby at_283) rfl) ?_
     show Goes _ _ _ _ _ (fT T12 m 284 #[vi x0, vi x1, vi x2, vi x3, vi x4, vi st, vi bs, vi (Int32.ofNat nn), vi (Int32.ofNat jn), vi z, vr b1, vr r12, vi (if jn < nn then (1 : Int32) else 0), vi (own_lo z bs st (Int32.ofNat nn)), vu] [(.int ((Int32.ofNat nn) - 1))])
     refine gI X12 hx hby at_284 rfl rfl ?_
     show Goes _ _ _ _ _ (fT T12 m 286 #[vi x0, vi x1, vi x2, vi x3, vi x4, vi st, vi bs, vi (Int32.ofNat nn), vi (Int32.ofNat jn), vi z, vr b1, vr r12, vi (if jn < nn then (1 : Int32) else 0), vi (own_lo z bs st (Int32.ofNat nn)), vu] [(.int (Int32.ofNat jn)), (.int ((Int32.ofNat nn) - 1))])
     refine Gz (XS.isub X12.here hx rfl (hb hby at_286) rfl) ?_
     show Goes _ _ _ _ _ (fT T12 m 287 #[vi x0, vi x1, vi x2, vi x3, vi x4, vi st, vi bs, vi (Int32.ofNat nn), vi (Int32.ofNat jn), vi z, vr b1, vr r12, vi (if jn < nn then (1 : Int32) else 0), vi (own_lo z bs st (Int32.ofNat nn)), vu] [(.int (((Int32.ofNat nn) - 1) - (Int32.ofNat jn)))])
     rw [show (own_jj z (Int32.ofNat nn) (Int32.ofNat jn)) = (((Int32.ofNat nn) - 1) - (Int32.ofNat jn)) from by rw [own_jj, if_pos hc272_26]] at J287_16
     exact J287_16
    ·refine gu X12 hx hby at_272 ((if0 _ _).trans (feq hc272_26).1) ?_
     refine gI X12 hx hby at_275 rfl rfl ?_
     refine gG X12 hx hby at_277 277 287 ?_
     rw [show (own_jj z (Int32.ofNat nn) (Int32.ofNat jn)) = (Int32.ofNat jn) from by rw [own_jj, if_neg hc272_26]] at J287_16
     exact J287_16
   intro J268_15
   by_cases hc249_27 : z = 0
   ·refine gy X12 hx hby at_249 249 257 ((if0 _ _).trans (teq hc249_27).1) ?_
    refine gI X12 hx hby at_257 rfl rfl ?_
    refine gB X12 hx hby at_259 ?_
    refine gI X12 hx hby at_261 rfl rfl ?_
    show Goes _ _ _ _ _ (fT T12 m 263 #[vi x0, vi x1, vi x2, vi x3, vi x4, vi st, vi bs, vi (Int32.ofNat nn), vi (Int32.ofNat jn), vi z, vr b1, vr r12, vi (if jn < nn then (1 : Int32) else 0), vu, vu] [(.int (Int32.ofNat nn)), (.int 9), (.int bs)])
    refine Gz (XS.isub X12.here hx rfl (hb hby at_263) rfl) ?_
    show Goes _ _ _ _ _ (fT T12 m 264 #[vi x0, vi x1, vi x2, vi x3, vi x4, vi st, vi bs, vi (Int32.ofNat nn), vi (Int32.ofNat jn), vi z, vr b1, vr r12, vi (if jn < nn then (1 : Int32) else 0), vu, vu] [(.int ((9 : Int32) - (Int32.ofNat nn))), (.int bs)])
    refine gI X12 hx hby at_264 rfl rfl ?_
    show Goes _ _ _ _ _ (fT T12 m 266 #[vi x0, vi x1, vi x2, vi x3, vi x4, vi st, vi bs, vi (Int32.ofNat nn), vi (Int32.ofNat jn), vi z, vr b1, vr r12, vi (if jn < nn then (1 : Int32) else 0), vu, vu] [(.int st), (.int ((9 : Int32) - (Int32.ofNat nn))), (.int bs)])
    refine Gz (XS.imul X12.here hx rfl (hb hby at_266) rfl) ?_
    show Goes _ _ _ _ _ (fT T12 m 267 #[vi x0, vi x1, vi x2, vi x3, vi x4, vi st, vi bs, vi (Int32.ofNat nn), vi (Int32.ofNat jn), vi z, vr b1, vr r12, vi (if jn < nn then (1 : Int32) else 0), vu, vu] [(.int (((9 : Int32) - (Int32.ofNat nn)) * st)), (.int bs)])
    refine Gz (XS.iadd X12.here hx rfl (hb hby at_267) rfl) ?_
    show Goes _ _ _ _ _ (fT T12 m 268 #[vi x0, vi x1, vi x2, vi x3, vi x4, vi st, vi bs, vi (Int32.ofNat nn), vi (Int32.ofNat jn), vi z, vr b1, vr r12, vi (if jn < nn then (1 : Int32) else 0), vu, vu] [(.int (bs + (((9 : Int32) - (Int32.ofNat nn)) * st)))])
    rw [show (own_lo z bs st (Int32.ofNat nn)) = (bs + (((9 : Int32) - (Int32.ofNat nn)) * st)) from by rw [own_lo, if_pos hc249_27]] at J268_15
    exact J268_15
   ·refine gu X12 hx hby at_249 ((if0 _ _).trans (feq hc249_27).1) ?_
    refine gI X12 hx hby at_252 rfl rfl ?_
    refine gG X12 hx hby at_254 254 268 ?_
    rw [show (own_lo z bs st (Int32.ofNat nn)) = bs from by rw [own_lo, if_neg hc249_27]] at J268_15
    exact J268_15
  intro J245_14
  by_cases hc237_28 : (Int32.ofNat jn) < (Int32.ofNat nn)
  ·refine gU X12 hx hby at_237 (tlt hc237_28).2.1 ?_
   refine gC X12 hx hby at_240 ?_
   refine gG X12 hx hby at_241 241 245 ?_
   rw [show (if jn < nn then (1 : Int32) else 0) = 1 from if_pos ((own_ltN (by omega) (by omega)).mp hc237_28)] at J245_14
   exact J245_14
  ·refine gY X12 hx hby at_237 237 244 (flt hc237_28).2.1 ?_
   refine gC X12 hx hby at_244 ?_
   rw [show (if jn < nn then (1 : Int32) else 0) = 0 from if_neg (fun q => hc237_28 ((own_ltN (by omega) (by omega)).mpr q))] at J245_14
   exact J245_14
 intro J58
 by_cases hc50_29 : (x4 &&& 1) = 0
 ·refine gy X0 hx hby at_50 50 57 ((if0 _ _).trans (teq hc50_29).1) ?_
  refine gC X0 hx hby at_57 ?_
  show Goes _ _ _ _ _ (fT s₁ m 58 #[vi x0, vi x1, vi x2, vi x3, vi x4, vi st, vi bs, vi (Int32.ofNat nn), vi (Int32.ofNat jn), vu, vu, vu, vu, vu, vu] [(.int 0)])
  exact J58 _ (Or.inl rfl)
 ·refine gu X0 hx hby at_50 ((if0 _ _).trans (feq hc50_29).1) ?_
  refine gC X0 hx hby at_53 ?_
  refine gG X0 hx hby at_54 54 58 ?_
  show Goes _ _ _ _ _ (fT s₁ m 58 #[vi x0, vi x1, vi x2, vi x3, vi x4, vi st, vi bs, vi (Int32.ofNat nn), vi (Int32.ofNat jn), vu, vu, vu, vu, vu, vu] [(.int 1)])
  exact J58 _ (Or.inr rfl)
theorem comes_1 {Post : Tables → Env → Array Value → State → Outcome → State → Prop} (hpost : ∀ tb e args s v u, (limb_1_1.after args s (.returned v) u = true ∧ limb_1_2.after args s (.returned v) u = true ∧ True) → FrameEnd s (.returned v) u (Jvm.fieldLocs frame_1_writes args s ++ Jvm.arrayLocs frame_1_arrays args s ++ Jvm.staticLocs frame_1_statics s) 24 320 → Post tb e args s (.returned v) u) :
  ArmFor flags0 classFile x code maxLocals ret World_1 tables_1 room_1 Calls_1 rest_1 Pre_1 Post := by
 intro l hfl _ _ p e ha hc hk s m args below hf hA hF happ hP
 obtain ⟨hcalls, hrest, hpre⟩ := hP
 obtain ⟨-, -, -, hnamed, -, -, -, hat⟩ := (Spec.applies_iff hf).mp happ
 obtain ⟨hg, hn⟩ := and_e (Cond.before_iff.mp (show (Jvm.Cond.and given_1 narrow_1).before args s = true from hpre))
 obtain ⟨g0, hg0⟩ := and_e hg
 obtain ⟨ga0, hg0'⟩ := and_e hg0
 obtain ⟨ga1, hg0''⟩ := and_e hg0'
 obtain ⟨ga2, hg0'''⟩ := and_e hg0''
 obtain ⟨ga3, hg0''''⟩ := and_e hg0'''
 obtain ⟨w0, w1, w2, w3, w4, rfl⟩ : ∃ w0 w1 w2 w3 w4 : Value, args = #[w0, w1, w2, w3, w4] := by
  have hs : args.size = 5 := by simpa [Cond.value, given_1] using g0
  obtain ⟨L⟩ := args
  match L, hs with
  | [w0, w1, w2, w3, w4], _ => exact ⟨w0, w1, w2, w3, w4, rfl⟩
 have hw := fun d (hd : d ∈ tables_1) => atoms_spec (ws := Jvm.Cond.code x code maxLocals ret :: tables_1) hat d (List.mem_cons_of_mem _ hd)
 have hfit : Fit s := fun {y c} hc i hi => by
  obtain ⟨ha, rfl⟩ := Array.getElem?_eq_some_iff.mp hc
  have q := List.all_eq_true.mp ((Array.all_eq_true_iff_forall_mem.mp hF) _ (Array.getElem_mem ha)) i (List.mem_range.mpr hi)
  simpa [Array.getElem?_eq_getElem hi] using q
 obtain ⟨i0, ei0⟩ := is_v ga0
 obtain rfl : w0 = (.int i0) := Option.some.inj ei0
 obtain ⟨i1, ei1⟩ := is_v ga1
 obtain rfl : w1 = (.int i1) := Option.some.inj ei1
 obtain ⟨i2, ei2⟩ := is_v ga2
 obtain rfl : w2 = (.int i2) := Option.some.inj ei2
 obtain ⟨i3, ei3⟩ := is_v ga3
 obtain rfl : w3 = (.int i3) := Option.some.inj ei3
 obtain ⟨i4, ei4⟩ := is_v hg0''''
 obtain rfl : w4 = (.int i4) := Option.some.inj ei4
 obtain ⟨n, o, h1, h2, h3, _, L, rfl, ⟨rfl, N⟩, hq⟩ := rm_law l s _ hw tables_1 i0 i1 i2 i3 i4  s.heap s.heap.size (Nat.le_refl _)  p e ha hc hk s m _ below hf ((Spec.applies_iff_loose hf).mp happ).1 ⟨rfl, State.Warmed39.refl s, rfl⟩ trivial
 refine ⟨n, _, h1, h2, h3, hpost _ _ _ _ _ _ ⟨Cond.after_iff.mpr rfl, Cond.after_iff.mpr (eq_i res_at (Term.int_eval (1)) rfl), trivial⟩ ⟨hq.1, hq.2.1, (hq.2.2.sift fun y hy => Or.inr (N y hy)).mono (by decide) (by decide)⟩⟩
theorem main_1_1 : Claimed_1_1 := comes_1 fun _ _ _ _ _ _ h hF => ⟨h.1, hF⟩
theorem main_1_2 : Claimed_1_2 := comes_1 fun _ _ _ _ _ _ h hF => ⟨h.2.1, hF⟩
end Jvm.Pilot.@@N@@
namespace Jvm.Pilot.@@N@@
open Jvm Jvm.ClassFile Sem Op Lib Jvm.Free Jvm.Stand Jvm.Pilot.@@N@@.Jvm.D
/-! MADE BY PROGRAM (witnessworld.py) out of the Statement's table words and the real class files: 18 classes; the members and pool entries that the words name. The judged class is class 1, her method 1. -/
namespace start1
open Jvm.ClassFile
def u (s : String) : CpInfo := .utf8 (stringToUtf16 s)
/-- a pool by its gaps: so many unusable entries, then the entry; so many at the end -/
def gap : Nat → List CpInfo → List CpInfo
  | 0, r => r
  | n + 1, r => .unusable :: gap n r
def poolList (es : List (Nat × CpInfo)) (last : Nat) : List CpInfo := es.foldr (fun e r => gap e.1 (e.2 :: r)) (gap last [])
def pool (es : List (Nat × CpInfo)) (last : Nat) : Array CpInfo := ⟨poolList es last⟩
def fileOf (pool : Array CpInfo) (this : Nat) (attrs : Array Attribute := #[]) (ms : Array MethodInfo := #[]) (fl : Nat := 33) (sup : Nat := 0) (ifs : Array Nat := #[]) (fds : Array FieldInfo := #[]) : ClassFile where
  minorVersion := 0
  majorVersion := 65
  constantPool := pool
  accessFlags := fl
  thisClass := this
  superClass := sup
  interfaces := ifs
  fields := fds
  methods := ms
  attributes := attrs
def plain (name : String) (sup : Option ClassId) : Class where
  name := name
  kind := .ordinary
  loader := none
  accessFlags := 33
  super := sup
  interfaces := #[]
  cf := none
  fields := #[]
  methods := #[]
  instanceTypes := #[]
  staticTypes := #[]
  resolved := #[]
  callSites := []
  init := .initialized
  statics := none
  mirror := none

def pool0 : Array CpInfo := pool [(5, u "<init>"), (0, u "()V"), (1, .class_ 10), (1, u "java/lang/Object")] 113

def k0c0 : Code := { maxStack := 0, maxLocals := 1, code := object_method_1_code, exceptionTable := #[], attributes := #[] }
def k0m0 : Method := { name := "<init>", desc := "()V", sig := { parameters := [], returnType := none }, accessFlags := 1, code := some k0c0 }
/-- java/lang/Object -/
def k0 : Class := { plain "java/lang/Object" none with
  accessFlags := 33
  interfaces := #[]
  cf := some (fileOf pool0 8 #[] #[{ accessFlags := 1, nameIndex := 5, descriptorIndex := 6, attributes := #[] }] 33 0 #[] #[])
  fields := #[]
  methods := #[k0m0]
  instanceTypes := #[]
  staticTypes := #[]
  resolved := Array.replicate 124 none
  statics := none }

def pool1 : Array CpInfo := pool [(2, .class_ 4), (0, .nameAndType 5 6), (0, u "java/lang/Object"), (0, u "<init>"), (0, u "()V"), (0, .integer 2147483647), (0, .integer 139263), (0, .integer 1114112), (0, .class_ 11), (0, u "com/example/tandemtrie/tandemtrie/build/CodePointCounts"), (0, .methodref 10 3), (0, .methodref 14 15), (0, .class_ 16), (0, .nameAndType 17 18), (0, u "com/example/tandemtrie/tandemtrie/build/CodePointCountsCountPinLaw"), (0, u "feed"), (0, u "(Lcom/example/tandemtrie/tandemtrie/build/CodePointCounts;IIIIIZ)V"), (0, .methodref 10 20), (0, .nameAndType 21 22), (0, u "ranked"), (0, u "()[I"), (0, .methodref 14 24), (0, .nameAndType 25 26), (0, u "at"), (0, u "([IIIZIII)Z"), (0, .methodref 14 28), (0, .nameAndType 29 30), (0, u "codePointOf"), (0, u "(IIIZ)I"), (0, .methodref 10 32), (0, .nameAndType 33 34), (0, u "count"), (0, u "(I)V"), (2, u "law"), (0, u "(IIIII)Z")] 5

def k1m0 : Method := { name := "<init>", desc := "()V", sig := { parameters := [], returnType := none }, accessFlags := 1, code := none }
def k1c1 : Code := { maxStack := 7, maxLocals := 15, code := code, exceptionTable := #[], attributes := #[] }
def k1m1 : Method := { name := "law", desc := "(IIIII)Z", sig := { parameters := [.int, .int, .int, .int, .int], returnType := some .boolean }, accessFlags := 9, code := some k1c1 }
def k1c2 : Code := { maxStack := 3, maxLocals := 4, code := method_3_code, exceptionTable := #[], attributes := #[] }
def k1m2 : Method := { name := "codePointOf", desc := "(IIIZ)I", sig := { parameters := [.int, .int, .int, .boolean], returnType := some .int }, accessFlags := 10, code := some k1c2 }
def k1c3 : Code := { maxStack := 4, maxLocals := 8, code := method_4_code, exceptionTable := #[], attributes := #[] }
def k1m3 : Method := { name := "feed", desc := "(Lcom/example/tandemtrie/tandemtrie/build/CodePointCounts;IIIIIZ)V", sig := { parameters := [(.object "com/example/tandemtrie/tandemtrie/build/CodePointCounts"), .int, .int, .int, .int, .int, .boolean], returnType := none }, accessFlags := 10, code := some k1c3 }
def k1c4 : Code := { maxStack := 4, maxLocals := 8, code := method_5_code, exceptionTable := #[], attributes := #[] }
def k1m4 : Method := { name := "at", desc := "([IIIZIII)Z", sig := { parameters := [(.array .int), .int, .int, .boolean, .int, .int, .int], returnType := some .boolean }, accessFlags := 10, code := some k1c4 }
/-- com/example/tandemtrie/tandemtrie/build/CodePointCountsCountPinLaw -/
def k1 : Class := { plain "com/example/tandemtrie/tandemtrie/build/CodePointCountsCountPinLaw" (some 0) with
  accessFlags := 49
  interfaces := #[]
  cf := some (fileOf pool1 14 #[] #[{ accessFlags := 1, nameIndex := 5, descriptorIndex := 6, attributes := #[] }, { accessFlags := 9, nameIndex := 37, descriptorIndex := 38, attributes := #[] }, { accessFlags := 10, nameIndex := 29, descriptorIndex := 30, attributes := #[] }, { accessFlags := 10, nameIndex := 17, descriptorIndex := 18, attributes := #[] }, { accessFlags := 10, nameIndex := 25, descriptorIndex := 26, attributes := #[] }] 49 2 #[] #[])
  fields := #[]
  methods := #[k1m0, k1m1, k1m2, k1m3, k1m4]
  instanceTypes := #[]
  staticTypes := #[]
  resolved := Array.replicate 44 none
  statics := none }

def pool2 : Array CpInfo := pool [(1, .methodref 2 3), (0, .class_ 4), (0, .nameAndType 5 6), (0, u "java/lang/Object"), (0, u "<init>"), (0, u "()V"), (0, .class_ 8), (0, u "com/example/tandemtrie/tandemtrie/build/CodePointCounts"), (0, .methodref 7 10), (0, .nameAndType 11 12), (0, u "unused"), (0, u "(I)[I"), (0, .fieldref 7 14), (0, .nameAndType 15 16), (0, u "codePoints"), (0, u "[I"), (0, .fieldref 7 18), (0, .nameAndType 19 16), (0, u "counts"), (0, .methodref 7 21), (0, .nameAndType 22 23), (0, u "slotOf"), (0, u "([II)I"), (0, .fieldref 7 25), (0, .nameAndType 26 27), (0, u "size"), (0, u "I"), (0, .methodref 7 29), (0, .nameAndType 30 6), (0, u "grow"), (0, .class_ 32), (0, u "java/lang/Integer"), (0, .methodref 34 35), (0, .class_ 36), (0, .nameAndType 37 38), (0, u "java/util/Arrays"), (0, u "sort"), (0, u "([J)V"), (0, .integer 2654435769), (0, .methodref 31 41), (0, .nameAndType 42 43), (0, u "numberOfLeadingZeros"), (0, u "(I)I"), (0, .methodref 34 45), (0, .nameAndType 46 47), (0, u "fill"), (0, u "([II)V"), (0, u "EMPTY"), (2, u "SPREAD"), (0, u "INITIAL_SLOTS"), (3, u "count"), (0, u "(I)V"), (1, u "ranked"), (0, u "()[I")] 5

def k2c0 : Code := { maxStack := 2, maxLocals := 1, code := prog_10_method_1_code, exceptionTable := #[], attributes := #[] }
def k2m0 : Method := { name := "<init>", desc := "()V", sig := { parameters := [], returnType := none }, accessFlags := 0, code := some k2c0 }
def k2c1 : Code := { maxStack := 4, maxLocals := 3, code := prog_10_method_2_code, exceptionTable := #[], attributes := #[] }
def k2m1 : Method := { name := "count", desc := "(I)V", sig := { parameters := [.int], returnType := none }, accessFlags := 0, code := some k2c1 }
def k2c2 : Code := { maxStack := 6, maxLocals := 5, code := prog_10_method_3_code, exceptionTable := #[], attributes := #[] }
def k2m2 : Method := { name := "ranked", desc := "()[I", sig := { parameters := [], returnType := some (.array .int) }, accessFlags := 0, code := some k2c2 }
def k2c3 : Code := { maxStack := 4, maxLocals := 5, code := prog_10_method_4_code, exceptionTable := #[], attributes := #[] }
def k2m3 : Method := { name := "grow", desc := "()V", sig := { parameters := [], returnType := none }, accessFlags := 2, code := some k2c3 }
def k2c4 : Code := { maxStack := 2, maxLocals := 4, code := prog_10_method_5_code, exceptionTable := #[], attributes := #[] }
def k2m4 : Method := { name := "slotOf", desc := "([II)I", sig := { parameters := [(.array .int), .int], returnType := some .int }, accessFlags := 10, code := some k2c4 }
def k2c5 : Code := { maxStack := 2, maxLocals := 2, code := prog_10_method_6_code, exceptionTable := #[], attributes := #[] }
def k2m5 : Method := { name := "unused", desc := "(I)[I", sig := { parameters := [.int], returnType := some (.array .int) }, accessFlags := 10, code := some k2c5 }
/-- com/example/tandemtrie/tandemtrie/build/CodePointCounts -/
def k2 : Class := { plain "com/example/tandemtrie/tandemtrie/build/CodePointCounts" (some 0) with
  accessFlags := 48
  interfaces := #[]
  cf := some (fileOf pool2 7 #[] #[{ accessFlags := 0, nameIndex := 5, descriptorIndex := 6, attributes := #[] }, { accessFlags := 0, nameIndex := 56, descriptorIndex := 57, attributes := #[] }, { accessFlags := 0, nameIndex := 59, descriptorIndex := 60, attributes := #[] }, { accessFlags := 2, nameIndex := 30, descriptorIndex := 6, attributes := #[] }, { accessFlags := 10, nameIndex := 22, descriptorIndex := 23, attributes := #[] }, { accessFlags := 10, nameIndex := 11, descriptorIndex := 12, attributes := #[] }] 48 2 #[] #[{ accessFlags := 26, nameIndex := 48, descriptorIndex := 27, attributes := #[] }, { accessFlags := 26, nameIndex := 51, descriptorIndex := 27, attributes := #[] }, { accessFlags := 26, nameIndex := 52, descriptorIndex := 27, attributes := #[] }, { accessFlags := 2, nameIndex := 15, descriptorIndex := 16, attributes := #[] }, { accessFlags := 2, nameIndex := 19, descriptorIndex := 16, attributes := #[] }, { accessFlags := 2, nameIndex := 26, descriptorIndex := 27, attributes := #[] }])
  fields := #[{ name := "EMPTY", type := .int, accessFlags := 26, slot := 0, constantValue := 0 }, { name := "SPREAD", type := .int, accessFlags := 26, slot := 1, constantValue := 0 }, { name := "INITIAL_SLOTS", type := .int, accessFlags := 26, slot := 2, constantValue := 0 }, { name := "codePoints", type := (.array .int), accessFlags := 2, slot := 0, constantValue := 0 }, { name := "counts", type := (.array .int), accessFlags := 2, slot := 1, constantValue := 0 }, { name := "size", type := .int, accessFlags := 2, slot := 2, constantValue := 0 }]
  methods := #[k2m0, k2m1, k2m2, k2m3, k2m4, k2m5]
  instanceTypes := #[(.array .int), (.array .int), .int]
  staticTypes := #[.int, .int, .int]
  resolved := Array.replicate 66 none
  statics := none }

def pool3 : Array CpInfo := pool [(2, .class_ 4), (1, u "java/lang/Object"), (0, u "<init>"), (0, u "()V"), (1, .class_ 10), (1, u "java/util/DualPivotQuicksort"), (0, u "sort"), (2, .class_ 16), (1, u "java/util/Arrays"), (2, .methodref 8 20), (0, .nameAndType 11 21), (0, u "([JIII)V"), (52, .class_ 76), (1, u "java/util/Arrays$NaturalOrder"), (36, .class_ 115), (1, u "java/util/Arrays$LegacyMergeSort"), (1, u "Z"), (257, .class_ 376), (0, u "java/util/Arrays$ArrayList"), (68, u "$assertionsDisabled"), (269, u "MIN_ARRAY_SORT_GRAN"), (0, u "I"), (2, u "INSERTIONSORT_THRESHOLD"), (11, u "([J)V"), (108, u "fill"), (4, u "([II)V"), (129, .class_ 976), (0, u "java/util/Arrays$ArrayItr")] 52

def k3m0 : Method := { name := "<init>", desc := "()V", sig := { parameters := [], returnType := none }, accessFlags := 2, code := none }
def k3c1 : Code := { maxStack := 4, maxLocals := 1, code := jdk_65_method_4_code, exceptionTable := #[], attributes := #[] }
def k3m1 : Method := { name := "sort", desc := "([J)V", sig := { parameters := [(.array .long)], returnType := none }, accessFlags := 9, code := some k3c1 }
def k3c2 : Code := { maxStack := 3, maxLocals := 4, code := jdk_65_method_103_code, exceptionTable := #[], attributes := #[] }
def k3m2 : Method := { name := "fill", desc := "([II)V", sig := { parameters := [(.array .int), .int], returnType := none }, accessFlags := 9, code := some k3c2 }
/-- java/util/Arrays -/
def k3 : Class := { plain "java/util/Arrays" (some 0) with
  accessFlags := 49
  interfaces := #[]
  cf := some (fileOf pool3 14 #[.nestMembers #[975, 375, 113, 74]] #[{ accessFlags := 2, nameIndex := 5, descriptorIndex := 6, attributes := #[] }, { accessFlags := 9, nameIndex := 11, descriptorIndex := 731, attributes := #[] }, { accessFlags := 9, nameIndex := 840, descriptorIndex := 845, attributes := #[] }] 49 2 #[] #[{ accessFlags := 26, nameIndex := 715, descriptorIndex := 716, attributes := #[] }, { accessFlags := 26, nameIndex := 719, descriptorIndex := 716, attributes := #[] }, { accessFlags := 4120, nameIndex := 445, descriptorIndex := 117, attributes := #[] }])
  fields := #[{ name := "MIN_ARRAY_SORT_GRAN", type := .int, accessFlags := 26, slot := 0, constantValue := 0 }, { name := "INSERTIONSORT_THRESHOLD", type := .int, accessFlags := 26, slot := 1, constantValue := 0 }, { name := "$assertionsDisabled", type := .boolean, accessFlags := 4120, slot := 2, constantValue := 0 }]
  methods := #[k3m0, k3m1, k3m2]
  instanceTypes := #[]
  staticTypes := #[.int, .int, .boolean]
  resolved := Array.replicate 1029 none
  statics := none }

def pool4 : Array CpInfo := pool [(1, .class_ 2), (0, u "java/io/Serializable"), (0, .class_ 4), (0, u "java/lang/Object")] 2

/-- java/io/Serializable -/
def k4 : Class := { plain "java/io/Serializable" (some 0) with
  accessFlags := 1537
  interfaces := #[]
  cf := some (fileOf pool4 1 #[] #[] 1537 3 #[] #[])
  fields := #[]
  methods := #[]
  instanceTypes := #[]
  staticTypes := #[]
  resolved := Array.replicate 7 none
  statics := none }

def pool5 : Array CpInfo := pool [(2, .class_ 4), (1, u "java/lang/Object"), (0, u "<init>"), (0, u "()V"), (1, .class_ 10), (1, u "java/lang/Number"), (2, .class_ 14), (0, u "java/io/Serializable"), (0, u "serialVersionUID"), (0, u "J")] 20

def k5m0 : Method := { name := "<init>", desc := "()V", sig := { parameters := [], returnType := none }, accessFlags := 1, code := none }
/-- java/lang/Number -/
def k5 : Class := { plain "java/lang/Number" (some 0) with
  accessFlags := 1057
  interfaces := #[4]
  cf := some (fileOf pool5 8 #[] #[{ accessFlags := 1, nameIndex := 5, descriptorIndex := 6, attributes := #[] }] 1057 2 #[13] #[{ accessFlags := 26, nameIndex := 15, descriptorIndex := 16, attributes := #[] }])
  fields := #[{ name := "serialVersionUID", type := .long, accessFlags := 26, slot := 0, constantValue := 0 }]
  methods := #[k5m0]
  instanceTypes := #[]
  staticTypes := #[.long]
  resolved := Array.replicate 37 none
  statics := none }

def pool6 : Array CpInfo := pool [(1, .class_ 2), (0, u "java/lang/Comparable"), (0, .class_ 4), (0, u "java/lang/Object")] 7

/-- java/lang/Comparable -/
def k6 : Class := { plain "java/lang/Comparable" (some 0) with
  accessFlags := 1537
  interfaces := #[]
  cf := some (fileOf pool6 1 #[] #[] 1537 3 #[] #[])
  fields := #[]
  methods := #[]
  instanceTypes := #[]
  staticTypes := #[]
  resolved := Array.replicate 12 none
  statics := none }

def pool7 : Array CpInfo := pool [(1, .class_ 2), (0, u "java/lang/constant/Constable"), (0, .class_ 4), (0, u "java/lang/Object")] 6

/-- java/lang/constant/Constable -/
def k7 : Class := { plain "java/lang/constant/Constable" (some 0) with
  accessFlags := 1537
  interfaces := #[]
  cf := some (fileOf pool7 1 #[] #[] 1537 3 #[] #[])
  fields := #[]
  methods := #[]
  instanceTypes := #[]
  staticTypes := #[]
  resolved := Array.replicate 11 none
  statics := none }

def pool8 : Array CpInfo := pool [(1, .class_ 2), (0, u "java/lang/constant/ConstantDesc"), (0, .class_ 4), (0, u "java/lang/Object")] 32

/-- java/lang/constant/ConstantDesc -/
def k8 : Class := { plain "java/lang/constant/ConstantDesc" (some 0) with
  accessFlags := 1537
  interfaces := #[]
  cf := some (fileOf pool8 1 #[] #[] 1537 3 #[] #[])
  fields := #[]
  methods := #[]
  instanceTypes := #[]
  staticTypes := #[]
  resolved := Array.replicate 37 none
  statics := none }

def pool9 : Array CpInfo := pool [(1, .class_ 2), (0, u "java/lang/Integer"), (16, u "digits"), (0, u "[C"), (32, u "numberOfLeadingZeros"), (0, u "(I)I"), (30, u "DigitOnes"), (0, u "[B"), (2, u "DigitTens"), (99, .class_ 190), (0, u "java/lang/Integer$IntegerCache"), (3, u "I"), (8, .class_ 204), (0, u "java/lang/Number"), (2, u "value"), (56, .integer 65536), (37, u "TYPE"), (0, u "Ljava/lang/Class;"), (0, .class_ 305), (0, u "java/lang/Comparable"), (0, .class_ 307), (0, u "java/lang/constant/Constable"), (0, .class_ 309), (0, u "java/lang/constant/ConstantDesc"), (0, u "MIN_VALUE"), (1, u "MAX_VALUE"), (3, u "SIZE"), (1, u "BYTES"), (1, u "serialVersionUID"), (0, u "J")] 131

def k9c0 : Code := { maxStack := 3, maxLocals := 2, code := jdk_33_method_47_code, exceptionTable := #[], attributes := #[] }
def k9m0 : Method := { name := "numberOfLeadingZeros", desc := "(I)I", sig := { parameters := [.int], returnType := some .int }, accessFlags := 9, code := some k9c0 }
/-- java/lang/Integer -/
def k9 : Class := { plain "java/lang/Integer" (some 5) with
  accessFlags := 49
  interfaces := #[6, 7, 8]
  cf := some (fileOf pool9 1 #[.nestMembers #[189]] #[{ accessFlags := 9, nameIndex := 53, descriptorIndex := 54, attributes := #[] }] 49 203 #[304, 306, 308] #[{ accessFlags := 25, nameIndex := 310, descriptorIndex := 194, attributes := #[] }, { accessFlags := 25, nameIndex := 312, descriptorIndex := 194, attributes := #[] }, { accessFlags := 25, nameIndex := 302, descriptorIndex := 303, attributes := #[] }, { accessFlags := 24, nameIndex := 19, descriptorIndex := 20, attributes := #[] }, { accessFlags := 24, nameIndex := 89, descriptorIndex := 86, attributes := #[] }, { accessFlags := 24, nameIndex := 85, descriptorIndex := 86, attributes := #[] }, { accessFlags := 18, nameIndex := 207, descriptorIndex := 194, attributes := #[] }, { accessFlags := 25, nameIndex := 316, descriptorIndex := 194, attributes := #[] }, { accessFlags := 25, nameIndex := 318, descriptorIndex := 194, attributes := #[] }, { accessFlags := 26, nameIndex := 320, descriptorIndex := 321, attributes := #[] }])
  fields := #[{ name := "MIN_VALUE", type := .int, accessFlags := 25, slot := 0, constantValue := 0 }, { name := "MAX_VALUE", type := .int, accessFlags := 25, slot := 1, constantValue := 0 }, { name := "TYPE", type := (.object "java/lang/Class"), accessFlags := 25, slot := 2, constantValue := 0 }, { name := "digits", type := (.array .char), accessFlags := 24, slot := 3, constantValue := 0 }, { name := "DigitTens", type := (.array .byte), accessFlags := 24, slot := 4, constantValue := 0 }, { name := "DigitOnes", type := (.array .byte), accessFlags := 24, slot := 5, constantValue := 0 }, { name := "value", type := .int, accessFlags := 18, slot := 0, constantValue := 0 }, { name := "SIZE", type := .int, accessFlags := 25, slot := 6, constantValue := 0 }, { name := "BYTES", type := .int, accessFlags := 25, slot := 7, constantValue := 0 }, { name := "serialVersionUID", type := .long, accessFlags := 26, slot := 8, constantValue := 0 }]
  methods := #[k9m0]
  instanceTypes := #[.int]
  staticTypes := #[.int, .int, (.object "java/lang/Class"), (.array .char), (.array .byte), (.array .byte), .int, .int, .long]
  resolved := Array.replicate 453 none
  statics := none }

def pool10 : Array CpInfo := pool [(1, .class_ 2), (0, u "java/util/DualPivotQuicksort"), (5, .class_ 10), (1, u "java/lang/Object"), (0, u "<init>"), (0, u "()V"), (4, .class_ 18), (0, u "java/util/DualPivotQuicksort$Sorter"), (9, u "sort"), (7, u "insertionSort"), (31, u "I"), (4, .class_ 74), (0, u "java/util/DualPivotQuicksort$RunMerger"), (10, .class_ 86), (0, u "java/util/DualPivotQuicksort$Merger"), (12, .methodref 1 100), (0, .nameAndType 28 101), (0, u "(Ljava/util/DualPivotQuicksort$Sorter;[JIII)V"), (2, u "([JIII)V"), (0, .methodref 1 106), (0, .nameAndType 36 107), (0, u "([JII)V"), (106, u "MAX_MIXED_INSERTION_SORT_SIZE"), (2, u "MAX_INSERTION_SORT_SIZE"), (1, u "MIN_PARALLEL_SORT_SIZE"), (1, u "MIN_TRY_MERGE_SIZE"), (0, u "MIN_FIRST_RUN_SIZE"), (1, u "MIN_FIRST_RUNS_FACTOR"), (1, u "MAX_RUN_CAPACITY"), (1, u "MIN_RUN_COUNT"), (1, u "MIN_PARALLEL_MERGE_PARTS_SIZE"), (0, u "MIN_BYTE_COUNTING_SORT_SIZE"), (1, u "MIN_SHORT_OR_CHAR_COUNTING_SORT_SIZE"), (1, u "DELTA"), (1, u "MAX_RECURSION_DEPTH"), (1, u "NUM_BYTE_VALUES"), (1, u "MAX_BYTE_INDEX"), (0, u "NUM_CHAR_VALUES"), (0, u "NUM_SHORT_VALUES"), (0, u "MAX_SHORT_INDEX")] 86

def k10m0 : Method := { name := "<init>", desc := "()V", sig := { parameters := [], returnType := none }, accessFlags := 2, code := none }
def k10c1 : Code := { maxStack := 9, maxLocals := 7, code := jdk_2529_method_12_code, exceptionTable := #[], attributes := #[] }
def k10m1 : Method := { name := "sort", desc := "([JIII)V", sig := { parameters := [(.array .long), .int, .int, .int], returnType := none }, accessFlags := 8, code := some k10c1 }
def k10c2 : Code := { maxStack := 6, maxLocals := 25, code := jdk_2529_method_13_code, exceptionTable := #[], attributes := #[] }
def k10m2 : Method := { name := "sort", desc := "(Ljava/util/DualPivotQuicksort$Sorter;[JIII)V", sig := { parameters := [(.object "java/util/DualPivotQuicksort$Sorter"), (.array .long), .int, .int, .int], returnType := none }, accessFlags := 8, code := some k10c2 }
def k10c3 : Code := { maxStack := 5, maxLocals := 7, code := jdk_2529_method_15_code, exceptionTable := #[], attributes := #[] }
def k10m3 : Method := { name := "insertionSort", desc := "([JII)V", sig := { parameters := [(.array .long), .int, .int], returnType := none }, accessFlags := 10, code := some k10c3 }
/-- java/util/DualPivotQuicksort -/
def k10 : Class := { plain "java/util/DualPivotQuicksort" (some 0) with
  accessFlags := 48
  interfaces := #[]
  cf := some (fileOf pool10 1 #[.nestMembers #[73, 85, 17]] #[{ accessFlags := 2, nameIndex := 11, descriptorIndex := 12, attributes := #[] }, { accessFlags := 8, nameIndex := 28, descriptorIndex := 104, attributes := #[] }, { accessFlags := 8, nameIndex := 28, descriptorIndex := 101, attributes := #[] }, { accessFlags := 10, nameIndex := 36, descriptorIndex := 107, attributes := #[] }] 48 8 #[] #[{ accessFlags := 26, nameIndex := 214, descriptorIndex := 68, attributes := #[] }, { accessFlags := 26, nameIndex := 217, descriptorIndex := 68, attributes := #[] }, { accessFlags := 26, nameIndex := 219, descriptorIndex := 68, attributes := #[] }, { accessFlags := 26, nameIndex := 221, descriptorIndex := 68, attributes := #[] }, { accessFlags := 26, nameIndex := 222, descriptorIndex := 68, attributes := #[] }, { accessFlags := 26, nameIndex := 224, descriptorIndex := 68, attributes := #[] }, { accessFlags := 26, nameIndex := 226, descriptorIndex := 68, attributes := #[] }, { accessFlags := 26, nameIndex := 228, descriptorIndex := 68, attributes := #[] }, { accessFlags := 26, nameIndex := 230, descriptorIndex := 68, attributes := #[] }, { accessFlags := 26, nameIndex := 231, descriptorIndex := 68, attributes := #[] }, { accessFlags := 26, nameIndex := 233, descriptorIndex := 68, attributes := #[] }, { accessFlags := 26, nameIndex := 235, descriptorIndex := 68, attributes := #[] }, { accessFlags := 26, nameIndex := 237, descriptorIndex := 68, attributes := #[] }, { accessFlags := 26, nameIndex := 239, descriptorIndex := 68, attributes := #[] }, { accessFlags := 26, nameIndex := 241, descriptorIndex := 68, attributes := #[] }, { accessFlags := 26, nameIndex := 242, descriptorIndex := 68, attributes := #[] }, { accessFlags := 26, nameIndex := 243, descriptorIndex := 68, attributes := #[] }, { accessFlags := 26, nameIndex := 244, descriptorIndex := 68, attributes := #[] }])
  fields := #[{ name := "MAX_MIXED_INSERTION_SORT_SIZE", type := .int, accessFlags := 26, slot := 0, constantValue := 0 }, { name := "MAX_INSERTION_SORT_SIZE", type := .int, accessFlags := 26, slot := 1, constantValue := 0 }, { name := "MIN_PARALLEL_SORT_SIZE", type := .int, accessFlags := 26, slot := 2, constantValue := 0 }, { name := "MIN_TRY_MERGE_SIZE", type := .int, accessFlags := 26, slot := 3, constantValue := 0 }, { name := "MIN_FIRST_RUN_SIZE", type := .int, accessFlags := 26, slot := 4, constantValue := 0 }, { name := "MIN_FIRST_RUNS_FACTOR", type := .int, accessFlags := 26, slot := 5, constantValue := 0 }, { name := "MAX_RUN_CAPACITY", type := .int, accessFlags := 26, slot := 6, constantValue := 0 }, { name := "MIN_RUN_COUNT", type := .int, accessFlags := 26, slot := 7, constantValue := 0 }, { name := "MIN_PARALLEL_MERGE_PARTS_SIZE", type := .int, accessFlags := 26, slot := 8, constantValue := 0 }, { name := "MIN_BYTE_COUNTING_SORT_SIZE", type := .int, accessFlags := 26, slot := 9, constantValue := 0 }, { name := "MIN_SHORT_OR_CHAR_COUNTING_SORT_SIZE", type := .int, accessFlags := 26, slot := 10, constantValue := 0 }, { name := "DELTA", type := .int, accessFlags := 26, slot := 11, constantValue := 0 }, { name := "MAX_RECURSION_DEPTH", type := .int, accessFlags := 26, slot := 12, constantValue := 0 }, { name := "NUM_BYTE_VALUES", type := .int, accessFlags := 26, slot := 13, constantValue := 0 }, { name := "MAX_BYTE_INDEX", type := .int, accessFlags := 26, slot := 14, constantValue := 0 }, { name := "NUM_CHAR_VALUES", type := .int, accessFlags := 26, slot := 15, constantValue := 0 }, { name := "NUM_SHORT_VALUES", type := .int, accessFlags := 26, slot := 16, constantValue := 0 }, { name := "MAX_SHORT_INDEX", type := .int, accessFlags := 26, slot := 17, constantValue := 0 }]
  methods := #[k10m0, k10m1, k10m2, k10m3]
  instanceTypes := #[]
  staticTypes := #[.int, .int, .int, .int, .int, .int, .int, .int, .int, .int, .int, .int, .int, .int, .int, .int, .int, .int]
  resolved := Array.replicate 331 none
  statics := none }

def pool11 : Array CpInfo := pool [(1, u "java/lang/Cloneable"), (0, .class_ 1), (0, u "java/lang/Object"), (0, .class_ 3)] 3

/-- java/lang/Cloneable -/
def k11 : Class := { plain "java/lang/Cloneable" (some 0) with
  accessFlags := 1537
  interfaces := #[]
  cf := some (fileOf pool11 2 #[] #[] 1537 4 #[] #[])
  fields := #[]
  methods := #[]
  instanceTypes := #[]
  staticTypes := #[]
  resolved := Array.replicate 8 none
  statics := none }

/-- the primitive byte -/
def k12 : Class := { plain "byte" none with kind := .primitive 'B', accessFlags := 0x411 }
/-- [B -/
def k13 : Class := { plain "[B" (some 0) with kind := .array 12 .byte, interfaces := #[11, 4], accessFlags := 1041 }

/-- the primitive int -/
def k14 : Class := { plain "int" none with kind := .primitive 'I', accessFlags := 0x411 }
/-- [I -/
def k15 : Class := { plain "[I" (some 0) with kind := .array 14 .int, interfaces := #[11, 4], accessFlags := 1041 }

/-- the primitive long -/
def k16 : Class := { plain "long" none with kind := .primitive 'J', accessFlags := 0x411 }
/-- [J -/
def k17 : Class := { plain "[J" (some 0) with kind := .array 16 .long, interfaces := #[11, 4], accessFlags := 1041 }

def heap : Heap := #[]
def classes : Array Class := #[k0, k1, k2, k3, k4, k5, k6, k7, k8, k9, k10, k11, k12, k13, k14, k15, k16, k17]
def interned : List (Array UInt16 × Addr) := []
def slotsUsed : Nat := 0
def theMethod : MethodId := ⟨1, 1⟩
def args0 : Array Value := #[.int 5, .int 7, .int 8, .int 3, .int 1]
def aboutOver (below : List Frame) : State where
  vm := { classes := classes, interned := interned.toArray }
  heap := heap
  slotsUsed := slotsUsed
  threads := #[{ frames := .invoking theMethod args0 :: below }]
def below0 : List Frame := [.native { method := ⟨0, 0⟩, args := #[] }]
def about1 : State := aboutOver below0
def p0 : Program := .bare "" "" ""
def e0 : Env := launch0.env 0 0 0
theorem w_frames : about1.frames = Frame.invoking theMethod args0 :: below0 := rfl
set_option maxRecDepth 65536 in
theorem w_args : argsFit about1.vm theMethod args0 = true := by decide +kernel
set_option maxRecDepth 65536 in
theorem w_heap : heapFits about1 = true := by decide +kernel
set_option maxRecDepth 65536 in
theorem w_runnable : about1.curStatus? = some .runnable := by decide +kernel
set_option maxRecDepth 65536 in
theorem w_alone : about1.alone = true := by decide +kernel
set_option maxRecDepth 65536 in
theorem w_named : about1.methodNamed? x = some theMethod := by decide +kernel
set_option maxRecDepth 65536 in
theorem w_hears : about1.hears theMethod below0 = true := by decide +kernel
set_option maxRecDepth 65536 in
theorem w_ripe : about1.ripe theMethod args0 below0 = true := by decide +kernel
theorem w_running : about1.status = .running := rfl
set_option maxRecDepth 65536 in
theorem w_room : about1.hasRoom e0.platform room_1 = true :=
  launch0.hasRoom_least _ room_1 (by decide +kernel) (by decide +kernel) (by decide +kernel) (by decide +kernel) (by decide +kernel) (by decide +kernel)
theorem allAtoms_all (ts : List Jvm.Cond) (a : Array Jvm.Value) (st : Jvm.State) : (allAtoms ts).before a st = ts.all (fun c => c.before a st) := by
  induction ts with
  | nil => rfl
  | cons c t ih =>
    show (Jvm.Cond.and c (allAtoms t)).before a st = _
    rw [Jvm.Cond.before_and, ih, List.all_cons]
def words1 : List Jvm.Cond := Jvm.Cond.code x code maxLocals ret :: tables_1
/-- a 'code' word, met by the world's own term for the bytes: nothing is compared byte by byte -/
theorem code_word {y : MethodName} {bytes : ByteArray} {mx : Nat} {rt : Option FieldType} {a : Array Value} {s : State} {m : MethodId} {meth : Method} {c : Code} (h1 : s.methodNamed? y = some m) (h2 : s.vm.method? m = some meth) (h3 : meth.code = some c) (h4 : c.code = bytes)
    (h5 : (c.maxLocals == mx && c.exceptionTable.isEmpty && decide (c.maxStack ≤ mostOperands) && decide (meth.sig.returnType = rt) && !meth.locks && decide (parseMethodDescriptor y.desc = some meth.sig)) = true) : (Jvm.Cond.code y bytes mx rt).before a s = true := by
  simp only [Bool.and_eq_true, beq_iff_eq, Bool.not_eq_true', decide_eq_true_eq] at h5
  obtain ⟨⟨⟨⟨⟨g1, g2⟩, g3⟩, g4⟩, g5⟩, g6⟩ := h5
  simp [Cond.before, Cond.holds, Cond.value, h1, h2, h3, h4, g1, g2, g3, g4, g5, g6]
def isCode : Jvm.Cond → Bool
  | .code _ _ _ _ => true
  | _ => false
theorem all_split {L : List Jvm.Cond} {P : Jvm.Cond → Bool} (h1 : L.all (fun c => isCode c || P c) = true) (h2 : ∀ c ∈ L.filter isCode, P c = true) : L.all P = true := by
  refine List.all_eq_true.mpr fun c hc => ?_
  have h := List.all_eq_true.mp h1 c hc
  rcases Bool.eq_false_or_eq_true (isCode c) with hi | hi
  · exact h2 c (List.mem_filter.mpr ⟨hc, hi⟩)
  · simpa [hi] using h
set_option maxRecDepth 65536 in
theorem w_c0 : (Jvm.Cond.code x code maxLocals ret).before args0 about1 = true := code_word (m := ⟨1, 1⟩) (meth := k1m1) (c := k1c1) (by decide +kernel) rfl rfl rfl (by decide +kernel)
set_option maxRecDepth 65536 in
theorem w_c1 : (Jvm.Cond.code ({ cls := "com/example/tandemtrie/tandemtrie/build/CodePointCounts", name := "<init>", desc := "()V" } : Jvm.MethodName) prog_10_method_1_code (1 : Nat) (Option.none : Option Jvm.ClassFile.FieldType)).before args0 about1 = true := code_word (m := ⟨2, 0⟩) (meth := k2m0) (c := k2c0) (by decide +kernel) rfl rfl rfl (by decide +kernel)
set_option maxRecDepth 65536 in
theorem w_c2 : (Jvm.Cond.code ({ cls := "java/lang/Object", name := "<init>", desc := "()V" } : Jvm.MethodName) object_method_1_code (1 : Nat) (Option.none : Option Jvm.ClassFile.FieldType)).before args0 about1 = true := code_word (m := ⟨0, 0⟩) (meth := k0m0) (c := k0c0) (by decide +kernel) rfl rfl rfl (by decide +kernel)
set_option maxRecDepth 65536 in
theorem w_c3 : (Jvm.Cond.code ({ cls := "com/example/tandemtrie/tandemtrie/build/CodePointCounts", name := "unused", desc := "(I)[I" } : Jvm.MethodName) prog_10_method_6_code (2 : Nat) (Option.some (Jvm.ClassFile.FieldType.array Jvm.ClassFile.FieldType.int))).before args0 about1 = true := code_word (m := ⟨2, 5⟩) (meth := k2m5) (c := k2c5) (by decide +kernel) rfl rfl rfl (by decide +kernel)
set_option maxRecDepth 65536 in
theorem w_c4 : (Jvm.Cond.code ({ cls := "java/util/Arrays", name := "fill", desc := "([II)V" } : Jvm.MethodName) jdk_65_method_103_code (4 : Nat) (Option.none : Option Jvm.ClassFile.FieldType)).before args0 about1 = true := code_word (m := ⟨3, 2⟩) (meth := k3m2) (c := k3c2) (by decide +kernel) rfl rfl rfl (by decide +kernel)
set_option maxRecDepth 65536 in
theorem w_c5 : (Jvm.Cond.code ({ cls := "com/example/tandemtrie/tandemtrie/build/CodePointCountsCountPinLaw", name := "feed", desc := "(Lcom/example/tandemtrie/tandemtrie/build/CodePointCounts;IIIIIZ)V" } : Jvm.MethodName) method_4_code (8 : Nat) (Option.none : Option Jvm.ClassFile.FieldType)).before args0 about1 = true := code_word (m := ⟨1, 3⟩) (meth := k1m3) (c := k1c3) (by decide +kernel) rfl rfl rfl (by decide +kernel)
set_option maxRecDepth 65536 in
theorem w_c6 : (Jvm.Cond.code ({ cls := "com/example/tandemtrie/tandemtrie/build/CodePointCountsCountPinLaw", name := "codePointOf", desc := "(IIIZ)I" } : Jvm.MethodName) method_3_code (4 : Nat) (Option.some Jvm.ClassFile.FieldType.int)).before args0 about1 = true := code_word (m := ⟨1, 2⟩) (meth := k1m2) (c := k1c2) (by decide +kernel) rfl rfl rfl (by decide +kernel)
set_option maxRecDepth 65536 in
theorem w_c7 : (Jvm.Cond.code ({ cls := "com/example/tandemtrie/tandemtrie/build/CodePointCounts", name := "count", desc := "(I)V" } : Jvm.MethodName) prog_10_method_2_code (3 : Nat) (Option.none : Option Jvm.ClassFile.FieldType)).before args0 about1 = true := code_word (m := ⟨2, 1⟩) (meth := k2m1) (c := k2c1) (by decide +kernel) rfl rfl rfl (by decide +kernel)
set_option maxRecDepth 65536 in
theorem w_c8 : (Jvm.Cond.code ({ cls := "com/example/tandemtrie/tandemtrie/build/CodePointCounts", name := "slotOf", desc := "([II)I" } : Jvm.MethodName) prog_10_method_5_code (4 : Nat) (Option.some Jvm.ClassFile.FieldType.int)).before args0 about1 = true := code_word (m := ⟨2, 4⟩) (meth := k2m4) (c := k2c4) (by decide +kernel) rfl rfl rfl (by decide +kernel)
set_option maxRecDepth 65536 in
theorem w_c9 : (Jvm.Cond.code ({ cls := "java/lang/Integer", name := "numberOfLeadingZeros", desc := "(I)I" } : Jvm.MethodName) jdk_33_method_47_code (2 : Nat) (Option.some Jvm.ClassFile.FieldType.int)).before args0 about1 = true := code_word (m := ⟨9, 0⟩) (meth := k9m0) (c := k9c0) (by decide +kernel) rfl rfl rfl (by decide +kernel)
set_option maxRecDepth 65536 in
theorem w_c10 : (Jvm.Cond.code ({ cls := "com/example/tandemtrie/tandemtrie/build/CodePointCounts", name := "ranked", desc := "()[I" } : Jvm.MethodName) prog_10_method_3_code (5 : Nat) (Option.some (Jvm.ClassFile.FieldType.array Jvm.ClassFile.FieldType.int))).before args0 about1 = true := code_word (m := ⟨2, 2⟩) (meth := k2m2) (c := k2c2) (by decide +kernel) rfl rfl rfl (by decide +kernel)
set_option maxRecDepth 65536 in
theorem w_c11 : (Jvm.Cond.code ({ cls := "java/util/Arrays", name := "sort", desc := "([J)V" } : Jvm.MethodName) jdk_65_method_4_code (1 : Nat) (Option.none : Option Jvm.ClassFile.FieldType)).before args0 about1 = true := code_word (m := ⟨3, 1⟩) (meth := k3m1) (c := k3c1) (by decide +kernel) rfl rfl rfl (by decide +kernel)
set_option maxRecDepth 65536 in
theorem w_c12 : (Jvm.Cond.code ({ cls := "java/util/DualPivotQuicksort", name := "sort", desc := "([JIII)V" } : Jvm.MethodName) jdk_2529_method_12_code (7 : Nat) (Option.none : Option Jvm.ClassFile.FieldType)).before args0 about1 = true := code_word (m := ⟨10, 1⟩) (meth := k10m1) (c := k10c1) (by decide +kernel) rfl rfl rfl (by decide +kernel)
set_option maxRecDepth 65536 in
theorem w_c13 : (Jvm.Cond.code ({ cls := "java/util/DualPivotQuicksort", name := "sort", desc := "(Ljava/util/DualPivotQuicksort$Sorter;[JIII)V" } : Jvm.MethodName) jdk_2529_method_13_code (25 : Nat) (Option.none : Option Jvm.ClassFile.FieldType)).before args0 about1 = true := code_word (m := ⟨10, 2⟩) (meth := k10m2) (c := k10c2) (by decide +kernel) rfl rfl rfl (by decide +kernel)
set_option maxRecDepth 65536 in
theorem w_c14 : (Jvm.Cond.code ({ cls := "java/util/DualPivotQuicksort", name := "insertionSort", desc := "([JII)V" } : Jvm.MethodName) jdk_2529_method_15_code (7 : Nat) (Option.none : Option Jvm.ClassFile.FieldType)).before args0 about1 = true := code_word (m := ⟨10, 3⟩) (meth := k10m3) (c := k10c3) (by decide +kernel) rfl rfl rfl (by decide +kernel)
set_option maxRecDepth 65536 in
theorem w_c15 : (Jvm.Cond.code ({ cls := "com/example/tandemtrie/tandemtrie/build/CodePointCountsCountPinLaw", name := "at", desc := "([IIIZIII)Z" } : Jvm.MethodName) method_5_code (8 : Nat) (Option.some Jvm.ClassFile.FieldType.boolean)).before args0 about1 = true := code_word (m := ⟨1, 4⟩) (meth := k1m4) (c := k1c4) (by decide +kernel) rfl rfl rfl (by decide +kernel)
set_option maxRecDepth 65536 in
theorem w_c16 : (Jvm.Cond.code ({ cls := "com/example/tandemtrie/tandemtrie/build/CodePointCounts", name := "grow", desc := "()V" } : Jvm.MethodName) prog_10_method_4_code (5 : Nat) (Option.none : Option Jvm.ClassFile.FieldType)).before args0 about1 = true := code_word (m := ⟨2, 3⟩) (meth := k2m3) (c := k2c3) (by decide +kernel) rfl rfl rfl (by decide +kernel)
def codes1 : List Jvm.Cond := [Jvm.Cond.code x code maxLocals ret, Jvm.Cond.code ({ cls := "com/example/tandemtrie/tandemtrie/build/CodePointCounts", name := "<init>", desc := "()V" } : Jvm.MethodName) prog_10_method_1_code (1 : Nat) (Option.none : Option Jvm.ClassFile.FieldType), Jvm.Cond.code ({ cls := "java/lang/Object", name := "<init>", desc := "()V" } : Jvm.MethodName) object_method_1_code (1 : Nat) (Option.none : Option Jvm.ClassFile.FieldType), Jvm.Cond.code ({ cls := "com/example/tandemtrie/tandemtrie/build/CodePointCounts", name := "unused", desc := "(I)[I" } : Jvm.MethodName) prog_10_method_6_code (2 : Nat) (Option.some (Jvm.ClassFile.FieldType.array Jvm.ClassFile.FieldType.int)), Jvm.Cond.code ({ cls := "java/util/Arrays", name := "fill", desc := "([II)V" } : Jvm.MethodName) jdk_65_method_103_code (4 : Nat) (Option.none : Option Jvm.ClassFile.FieldType), Jvm.Cond.code ({ cls := "com/example/tandemtrie/tandemtrie/build/CodePointCountsCountPinLaw", name := "feed", desc := "(Lcom/example/tandemtrie/tandemtrie/build/CodePointCounts;IIIIIZ)V" } : Jvm.MethodName) method_4_code (8 : Nat) (Option.none : Option Jvm.ClassFile.FieldType), Jvm.Cond.code ({ cls := "com/example/tandemtrie/tandemtrie/build/CodePointCountsCountPinLaw", name := "codePointOf", desc := "(IIIZ)I" } : Jvm.MethodName) method_3_code (4 : Nat) (Option.some Jvm.ClassFile.FieldType.int), Jvm.Cond.code ({ cls := "com/example/tandemtrie/tandemtrie/build/CodePointCounts", name := "count", desc := "(I)V" } : Jvm.MethodName) prog_10_method_2_code (3 : Nat) (Option.none : Option Jvm.ClassFile.FieldType), Jvm.Cond.code ({ cls := "com/example/tandemtrie/tandemtrie/build/CodePointCounts", name := "slotOf", desc := "([II)I" } : Jvm.MethodName) prog_10_method_5_code (4 : Nat) (Option.some Jvm.ClassFile.FieldType.int), Jvm.Cond.code ({ cls := "java/lang/Integer", name := "numberOfLeadingZeros", desc := "(I)I" } : Jvm.MethodName) jdk_33_method_47_code (2 : Nat) (Option.some Jvm.ClassFile.FieldType.int), Jvm.Cond.code ({ cls := "com/example/tandemtrie/tandemtrie/build/CodePointCounts", name := "ranked", desc := "()[I" } : Jvm.MethodName) prog_10_method_3_code (5 : Nat) (Option.some (Jvm.ClassFile.FieldType.array Jvm.ClassFile.FieldType.int)), Jvm.Cond.code ({ cls := "java/util/Arrays", name := "sort", desc := "([J)V" } : Jvm.MethodName) jdk_65_method_4_code (1 : Nat) (Option.none : Option Jvm.ClassFile.FieldType), Jvm.Cond.code ({ cls := "java/util/DualPivotQuicksort", name := "sort", desc := "([JIII)V" } : Jvm.MethodName) jdk_2529_method_12_code (7 : Nat) (Option.none : Option Jvm.ClassFile.FieldType), Jvm.Cond.code ({ cls := "java/util/DualPivotQuicksort", name := "sort", desc := "(Ljava/util/DualPivotQuicksort$Sorter;[JIII)V" } : Jvm.MethodName) jdk_2529_method_13_code (25 : Nat) (Option.none : Option Jvm.ClassFile.FieldType), Jvm.Cond.code ({ cls := "java/util/DualPivotQuicksort", name := "insertionSort", desc := "([JII)V" } : Jvm.MethodName) jdk_2529_method_15_code (7 : Nat) (Option.none : Option Jvm.ClassFile.FieldType), Jvm.Cond.code ({ cls := "com/example/tandemtrie/tandemtrie/build/CodePointCountsCountPinLaw", name := "at", desc := "([IIIZIII)Z" } : Jvm.MethodName) method_5_code (8 : Nat) (Option.some Jvm.ClassFile.FieldType.boolean), Jvm.Cond.code ({ cls := "com/example/tandemtrie/tandemtrie/build/CodePointCounts", name := "grow", desc := "()V" } : Jvm.MethodName) prog_10_method_4_code (5 : Nat) (Option.none : Option Jvm.ClassFile.FieldType)]
set_option maxRecDepth 65536 in
theorem codes_eq : words1.filter isCode = codes1 := rfl
theorem w_codes : ∀ c ∈ words1.filter isCode, c.before args0 about1 = true := by
  rw [codes_eq]
  intro c hc
  simp only [codes1, List.mem_cons, List.not_mem_nil, or_false] at hc
  rcases hc with rfl | rfl | rfl | rfl | rfl | rfl | rfl | rfl | rfl | rfl | rfl | rfl | rfl | rfl | rfl | rfl | rfl
  · exact w_c0
  · exact w_c1
  · exact w_c2
  · exact w_c3
  · exact w_c4
  · exact w_c5
  · exact w_c6
  · exact w_c7
  · exact w_c8
  · exact w_c9
  · exact w_c10
  · exact w_c11
  · exact w_c12
  · exact w_c13
  · exact w_c14
  · exact w_c15
  · exact w_c16
set_option maxRecDepth 65536 in
theorem w_t1 : (words1.take 24).all (fun c => isCode c || c.before args0 about1) = true := by decide +kernel
set_option maxRecDepth 65536 in
theorem w_t2 : ((words1.drop 24).take 24).all (fun c => isCode c || c.before args0 about1) = true := by decide +kernel
set_option maxRecDepth 65536 in
theorem w_t3 : (((words1.drop 24).drop 24).take 24).all (fun c => isCode c || c.before args0 about1) = true := by decide +kernel
set_option maxRecDepth 65536 in
theorem w_t4 : (((words1.drop 24).drop 24).drop 24).all (fun c => isCode c || c.before args0 about1) = true := by decide +kernel
theorem w_tables : (allAtoms (Jvm.Cond.code x code maxLocals ret :: tables_1)).before args0 about1 = true := by
  rw [allAtoms_all]
  show words1.all (fun c => c.before args0 about1) = true
  refine all_split ?_ w_codes
  rw [← List.take_append_drop 24 words1, List.all_append, w_t1, ← List.take_append_drop 24 (words1.drop 24), List.all_append, w_t2, ← List.take_append_drop 24 ((words1.drop 24).drop 24), List.all_append, w_t3, w_t4]
  rfl
set_option maxRecDepth 65536 in
theorem w_case : (Jvm.Cond.and given_1 narrow_1).before args0 about1 = true := by decide +kernel
theorem w_applies : (headSpec (Jvm.Cond.code x code maxLocals ret :: tables_1) room_1).applies x e0.platform about1 = true :=
  (Spec.applies_iff w_frames).mpr ⟨w_running, w_runnable, w_alone, w_named, w_hears, w_ripe, w_room, w_tables⟩
theorem atStart : AtStart classFile x code maxLocals ret World_1 tables_1 room_1 Calls_1 rest_1 Pre_1 launch0 p0 e0 about1 theMethod args0 below0 :=
  ⟨lists_1, trivial, launch0.admits_env _ _ _, launch0.least_env, fairChoices_fair.cas, fairChoices_fair.clock, w_frames, w_args, w_heap, w_applies, trivial, trivial, w_case⟩
end start1
theorem witness_1 : WitnessClaimed_1 := ⟨start1.p0, start1.e0, start1.about1, start1.theMethod, start1.args0, start1.below0, start1.atStart⟩
end Jvm.Pilot.@@N@@
