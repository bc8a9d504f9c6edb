import JvmDerived
import JvmDerived.Pilot.@@N@@Statement
import JvmDerived.Pilot.@@N@@Code
set_option linter.unusedVariables false
set_option linter.unusedSimpArgs false
namespace Jvm.RoadKit
open Sem ClassFile Op Lib Jvm.Stand Jvm.Free Jvm.LawKit
section New
variable {p : Program} {l : Launch} {e : Env} {R : Room} {s : State} {m : MethodId} {args : Array Value} {below : List Frame} {meth : Method} {c : Code} {T : State} {locs : List Loc} {cells slots : Nat}
theorem retI (X : Stand p l e R s m args below meth c T locs cells slots) (hx : p.tables.exec = Jvm.exec) {pc : Nat} {Ls : Array Slot} {z : Int32} {rest : List Value} (hret : meth.sig.returnType = some .int) (hd : decode c.code pc = .ok (.ireturn, 1)) {fs : List Frame}
    (hl : ∀ (f : JFrame) (acts : List Action), f.method = m → f.locked = none → f.entered = [] → (doReturn e (T.setTop f) acts (some (.int z))).1 = T.setFrames fs) : Steps p.tables e below (T.setTop (mkF m pc Ls (.int z :: rest))) (T.setFrames fs) := by
  have hm' : T.vm.method? m = some meth := X.method'
  have hn : narrow .int (.int z) = .int z := rfl
  show Steps p.tables e below (T.setTop { method := m, pc := pc, locals := Ls, stack := _ :: rest, locked := none }) _
  jvm_step X.here [X.here.top, hx, hd, hm', hret, hn]
  first | (intro acts; rw [hl _ acts rfl rfl rfl]) | rw [hl _ _ rfl rfl rfl]
  exact Steps.refl _
end New
end Jvm.RoadKit
namespace Jvm.Pilot.@@N@@
open Jvm Jvm.ClassFile Sem Op Lib Jvm.Free Jvm.Stand Jvm.LawKit Jvm.RoadKit Bundle Jvm.Pilot.@@N@@.Jvm.D
/-- from A the run comes to its end, as the contract wants it -/
def Goes (p : Program) (e : Env) (below : List Frame) (En : Outcome → State → List Loc → Prop) (Q : Option Value → Heap → List Loc → Prop) (A : State) : Prop :=
  ∃ s₂ o, Steps p.tables e below A s₂ ∧ s₂.status = .running ∧ Ended s₂ below o ∧ ∃ v L, o = .returned v ∧ Q v s₂.heap L ∧ En o s₂ L
abbrev Met (l : Launch) (Z : State) (y : MethodName) (bytes : ByteArray) (maxL : Nat) (ret : Option FieldType) (rm : Room) (ws : List Jvm.Cond) (as : Array Value) (h0 : Heap) (Q : Option Value → Heap → List Loc → Prop) : Prop :=
  MetFree l y (head1 (Jvm.Cond.code y bytes maxL ret :: ws) rm) (fun aa U => aa = as ∧ Z.Warmed39 U.vm ∧ U.heap = h0) (fun _ _ _ _ _ => True) (fun _ U o U' => ∃ v L, o = .returned v ∧ Q v U'.heap L ∧ FrameEnd U o U' L rm.cells rm.slots)
abbrev MetW (l : Launch) (Z : State) (y : MethodName) (bytes : ByteArray) (maxL : Nat) (ret : Option FieldType) (rm : Room) (ws : List Jvm.Cond) (as : Array Value) (h0 : Heap) (Q : Option Value → Heap → List Loc → Prop) : Prop :=
  MetFree l y (head1 (Jvm.Cond.code y bytes maxL ret :: ws) rm) (fun aa U => aa = as ∧ Z.Warmed39 U.vm ∧ U.heap = h0) (fun _ _ _ _ _ => True) (fun _ U o U' => ∃ v L, o = .returned v ∧ Q v U'.heap L ∧ ReturnedEndW U o U' L rm.cells rm.slots)
theorem gw {a0 : Array Value} {Z : State} (hw : ∀ d ∈ tables_1, d.before a0 Z = true) (i : Nat) {d : Jvm.Cond} (h : tables_1[i]? = some d) : d.before a0 Z = true := hw _ (List.mem_of_getElem? h)
theorem w0 {n W : Nat} (h : n ≤ W) : 2 * 0 + n ≤ W := by omega
def Ob (h : Heap) (x : Addr) : Prop := ∀ c : Cell, h[x]? = some c → c.vm.isStatics = false
theorem own_obE {Z : State} {h : Heap} {a : Addr} {C : String} (F : Exa Z h a C) : Ob h a := fun c hc => by obtain ⟨c', k, h1, -, -, h4, -⟩ := F; cases h1.symm.trans hc; exact h4
theorem own_obF {Z : State} {h : Heap} {a : Addr} {C n d : String} {v : Value} (F : Fld Z h a C n d v) : Ob h a := fun c hc => by obtain ⟨c', cf, k, i, f, h1, -, -, -, h5, -⟩ := F; cases h1.symm.trans hc; exact h5
theorem own_obA {Z : State} {h : Heap} {a : Addr} {k : ClassId} {ty : FieldType} {z : Int32} {vs : List Value} {d : Value} (F : Arv Z h a k ty z vs d) : Ob h a := fun c hc => by obtain ⟨c', A, -⟩ := F; cases A.1.symm.trans hc; exact A.plain
theorem own_staK {Z : State} {h h' : Heap} {C n d : String} {v : Value} {ws : List Addr} (F : Sta Z h C n d v) (K : Keep h h' ws) (q : ∀ x ∈ ws, Ob h x) : Sta Z h' C n d v := by
  obtain ⟨cf, i, k, f, st, cell, h1, h2, h3, h4, h5, h6, h7⟩ := F
  exact ⟨cf, i, k, f, st, cell, h1, h2, h3, h4, K.2.1 st cell h5 (fun hm => by have := q st hm cell h5; rw [this] at h6; cases h6), h6, h7⟩
theorem own_insK {Z : State} {h h' : Heap} {a : Addr} {C : String} {b : Bool} {ws : List Addr} (F : Ins Z h a C b) (K : Keep h h' ws) : Ins Z h' a C b := by
  obtain ⟨cell, cT, h1, h2, h3⟩ := F
  obtain ⟨c', g1, g2, g3, -⟩ := K.2.2 _ _ h1
  exact ⟨c', cT, g1, h2, by rw [g2, g3]; exact h3⟩
def NFc (Z : State) (K : String) : Prop := ∃ t kt, Z.vm.findClass K = some t ∧ Z.vm.classes[t]? = some kt ∧ kt.isInterface = false
theorem own_nfI {Z : State} {a0 : Array Value} {K : String} {n : Nat} (w : (Cond.instantiable K n).before a0 Z = true) : NFc Z K := by
  obtain ⟨c, k, h1, h2, -, h4, -⟩ := Cond.instantiable_spec w
  exact ⟨c, k, h1, h2, (Bool.or_eq_false_iff.mp h4).1⟩
theorem own_nfS {Z : State} {a0 : Array Value} {K : String} {x : MethodName} {n d : String} (w : (Cond.selects K x ⟨K, n, d⟩).before a0 Z = true) : NFc Z K := by
  obtain ⟨c, r, m, h1, h2, h3, h4, mk, h5, h6⟩ := Cond.selects_spec w
  exact ⟨_, mk, findClass_of_methodNamed h3, h5, h6⟩
theorem own_nsRoot {Z : State} {a0 : Array Value} {O K : String} (w : (Cond.noSuperclass O).before a0 Z = true) (wk : NFc Z K) (hn : O ≠ K) : NS Z O K := by
  obtain ⟨c, k, h1, h2, h3, -⟩ := Cond.noSuperclass_spec w
  obtain ⟨t, kt, g1, -⟩ := wk
  have ne := ids_ne h1 g1 hn
  refine ⟨c, t, h1, g1, fun fuel => ?_⟩
  cases fuel <;> simp [Vm.isSubclassAux, ne, h2, h3]
set_option maxRecDepth 65536 in
theorem own_nsNo {Z : State} {a0 : Array Value} {C S K : String} (w : (Cond.superclass C S).before a0 Z = true) (wk : NFc Z K) (n : NS Z C K) (hn : C ≠ K) : ∃ c t, Z.vm.findClass C = some c ∧ Z.vm.findClass K = some t ∧ Z.vm.assignable c t = false := by
  obtain ⟨c, t, h0, g0, n3⟩ := n
  obtain ⟨p, k, kp, h1, h2, h3, h4, h5, -⟩ := Cond.superclass_spec h0 w
  obtain ⟨t', kt, g1, g2, g3⟩ := wk
  cases g0.symm.trans g1
  have ne := ids_ne h0 g0 hn
  refine ⟨c, t, h0, g0, ?_⟩
  show Z.vm.assignableAux (255 + 1) c t = false
  cases hq : kt.kind <;> simp [Vm.assignableAux, ne, h2, g2, h5, hq, g3, Vm.isSubclass, n3]
theorem own_selP {Z s : State} {a0 args : Array Value} {y : MethodName} {n : Nat} (hZ : Z.Warmed39 s.vm) (wi : (Cond.instantiable y.cls n).before a0 Z = true) (wp : (Cond.privateMethod y).before a0 Z = true) (wm : (Cond.instanceMethod y).before a0 Z = true) (hy : y.cls ≠ "java/lang/invoke/MethodHandle" ∧ y.cls ≠ "java/lang/invoke/VarHandle") : (Cond.selects y.cls y y).before args s = true := by
  obtain ⟨c, k, h1, h2, -, h4, -⟩ := Cond.instantiable_spec (mvT hZ wi : (Cond.instantiable y.cls n).before #[] s = true)
  exact selects_self_of_private h1 h2 (Bool.or_eq_false_iff.mp h4).1 (Cond.privateMethod_at (mvP hZ wp (args := #[]))) (mvT hZ wm) hy
section OwnSteps
variable {p : Program} {l : Launch} {e : Env} {R : Room} {s : State} {m : MethodId} {args : Array Value} {below : List Frame} {meth : Method} {c : Code} {T : State} {locs : List Loc} {cells slots : Nat}
theorem Goes.step {En : Outcome → State → List Loc → Prop} {Q : Option Value → Heap → List Loc → Prop} {A B : State} (st : ∀ t, Steps p.tables e below A t → Steps p.tables e below B t) (h : Goes p e below En Q A) : Goes p e below En Q B :=
  let ⟨s₂, o, h1, r⟩ := h; ⟨s₂, o, st _ h1, r⟩
theorem Gs {En : Outcome → State → List Loc → Prop} {Q : Option Value → Heap → List Loc → Prop} {A B : State} (st : ∀ t, Steps p.tables e below A t → Steps p.tables e below B t) (h : Goes p e below En Q A) : Goes p e below En Q B := Goes.step st h
theorem own_met {Z : State} {y : MethodName} {bytes : ByteArray} {maxL : Nat} {ret : Option FieldType} {rm : Room} {ws : List Jvm.Cond} {as : Array Value} {h0 : Heap} {Q : Option Value → Heap → List Loc → Prop} (hp : plainFor y = true)
    (body : ∀ p e s m below meth c s₁, meth.sig.returnType = ret → p.tables.exec = Jvm.exec → c.code = bytes → meth.locks = false → c.maxLocals = maxL → s.vm.findClass y.cls = some m.cls → meth.name = y.name → Stand p l e rm s m as below meth c s₁ [] 0 0 → s₁.heap = h0 → Z.Warmed39 s.vm → s.heap = h0 →
      Goes p e below (fun o u L => FrameEnd s o u L rm.cells rm.slots) Q (s₁.setTop (entryFrame m as maxL))) : Met l Z y bytes maxL ret rm ws as h0 Q := by
  refine MetFree.of_bodySF hp hisR ?_
  intro p e s m args below meth c s₁ Bd hml0 hP hK
  obtain ⟨rfl, hZ, hh⟩ := hP
  exact body p e s m below meth c s₁ Bd.returns Bd.exec Bd.bytes (BodyLoose.notSynchronized Bd) hml0 (findClass_of_methodNamed Bd.named) (name_of_methodNamed Bd.named Bd.method).1 (Stand.of_body Bd) (by rw [← hh, Bd.state]; rfl) hZ hh
theorem own_metW {Z : State} {y : MethodName} {bytes : ByteArray} {maxL : Nat} {ret : Option FieldType} {rm : Room} {ws : List Jvm.Cond} {as : Array Value} {h0 : Heap} {Q : Option Value → Heap → List Loc → Prop} (hp : plainFor y = true)
    (body : ∀ p e s m below meth c s₁, meth.sig.returnType = ret → p.tables.exec = Jvm.exec → c.code = bytes → meth.locks = false → c.maxLocals = maxL → (s.setVm s.vm).vm.findClass y.cls = some m.cls → meth.name = y.name → Stand p l e rm (s.setVm s.vm) m as below meth c s₁ [] 0 0 → s₁.heap = h0 → Z.Warmed39 s.vm → s.heap = h0 →
      Goes p e below (fun o u L => ReturnedEndW s o u L rm.cells rm.slots) Q (s₁.setTop (entryFrame m as maxL))) : MetW l Z y bytes maxL ret rm ws as h0 Q := by
  refine MetFree.of_bodySF hp hisR ?_
  intro p e s m args below meth c s₁ Bd hml0 hP hK
  obtain ⟨rfl, hZ, hh⟩ := hP
  exact body p e s m below meth c s₁ Bd.returns Bd.exec Bd.bytes (BodyLoose.notSynchronized Bd) hml0 (findClass_of_methodNamed Bd.named) (name_of_methodNamed Bd.named Bd.method).1 (Stand.of_body Bd) (by rw [← hh, Bd.state]; rfl) hZ hh
theorem Goes.ret (X : Stand p l e R s m args below meth c T locs cells slots) {rc rs : Nat} {Q : Option Value → Heap → List Loc → Prop} {B : State} (v : Option Value) (hv : meth.sig.returnType = none → v = none) (hlk : meth.locks = false) (hc : cells ≤ rc) (hs : slots ≤ rs) (q : Q v T.heap locs)
    (k : ∀ fs, (∀ (f : JFrame) (acts : List Action), f.method = m → f.locked = none → f.entered = [] → (doReturn e (T.setTop f) acts v).1 = T.setFrames fs) → Steps p.tables e below B (T.setFrames fs)) : Goes p e below (fun o u L => FrameEnd s o u L rc rs) Q B := by
  obtain ⟨fs, hr, hrun, hended, hW, hsame⟩ := X.leave (v := v) hv hlk
  exact ⟨_, _, k fs hr, hrun, hended, _, _, rfl, q, ⟨_, rfl⟩, hW, hsame.mono hc hs⟩
theorem Goes.retW {vm₁ : Vm} (X : Stand p l e R (s.setVm vm₁) m args below meth c T locs cells slots) {n : Nat} (hS : s.Since vm₁ n) (hn : n ≤ T.heap.size) {rc rs : Nat} {Q : Option Value → Heap → List Loc → Prop} {B : State} (v : Option Value) (hv : meth.sig.returnType = none → v = none) (hlk : meth.locks = false) (hc : cells ≤ rc) (hs : slots ≤ rs) (q : Q v T.heap locs)
    (k : ∀ fs, (∀ (f : JFrame) (acts : List Action), f.method = m → f.locked = none → f.entered = [] → (doReturn e (T.setTop f) acts v).1 = T.setFrames fs) → Steps p.tables e below B (T.setFrames fs)) : Goes p e below (fun o u L => ReturnedEndW s o u L rc rs) Q B := by
  obtain ⟨fs, hr, hrun, hended, h1, h2, h3, h4⟩ := X.leaveW hS hn (v := v) hv hlk
  exact ⟨_, _, k fs hr, hrun, hended, _, _, rfl, q, h1, h2, h3, h4.mono hc hs⟩
theorem own_ldcM {Z : State} {a0 : Array Value} {h : Heap} {own C : String} {index : Nat} {a : Addr} (X : Stand p l e R s m args below meth c T locs cells slots) (hx : p.tables.exec = Jvm.exec) (hZ : Z.Warmed39 s.vm) (hown : s.vm.findClass own = some m.cls) (w : (Cond.classLink own index C).before a0 Z = true) (eT : T.heap = h) (M : Mir Z C a)
    {g : JFrame} (hg : g.method = m) (hd : decode c.code g.pc = .ok (.ldc index, 2)) : ∃ T', Stand p l e R s m args below meth c T' locs cells slots ∧ T'.heap = h ∧ ∀ target, Steps p.tables e below (T'.setTop { g with pc := g.pc + 2, stack := .ref a :: g.stack }) target → Steps p.tables e below (T.setTop g) target := by
  obtain ⟨cc, kc, m1, m2, m3, -⟩ := M
  obtain ⟨k', q, ek⟩ := hZ.alike.2.2 _ _ m2
  obtain ⟨vm', X', st⟩ := X.ldcMirror hx hown (mvT hZ w) (a := a) (by
    have e1 : s.vm.findClass C = some cc := by rw [hZ.alike.findClass]; exact m1
    have e2 : k'.mirror = some a := by rw [ek]; exact m3
    simp [Term.eval, e1, q, e2]) hg hd
  exact ⟨_, X', eT, st⟩
theorem own_retN (X : Stand p l e R s m args below meth c T locs cells slots) (hx : p.tables.exec = Jvm.exec) {pc : Nat} {Ls : Array Slot} {z : Int32} {t : FieldType} {rest : List Value} (hret : meth.sig.returnType = some t) (ht : t = .boolean ∨ t = .byte ∨ t = .char ∨ t = .short) (hn : nar t z = z) (hd : decode c.code pc = .ok (.ireturn, 1)) {fs : List Frame}
    (hl : ∀ (f : JFrame) (acts : List Action), f.method = m → f.locked = none → f.entered = [] → (doReturn e (T.setTop f) acts (some (.int z))).1 = T.setFrames fs) : Steps p.tables e below (T.setTop (mkF m pc Ls (.int z :: rest))) (T.setFrames fs) :=
  retN X hx hret ht hd (by rw [hn]; exact hl)
theorem own_retA (X : Stand p l e R s m args below meth c T locs cells slots) (hx : p.tables.exec = Jvm.exec) {pc : Nat} {Ls : Array Slot} {z : Value} {t : FieldType} {rest : List Value} (hret : meth.sig.returnType = some t) (ht : t.isReference = true) (hz : z.isRef = true) (hd : decode c.code pc = .ok (.areturn, 1)) {fs : List Frame}
    (hl : ∀ (f : JFrame) (acts : List Action), f.method = m → f.locked = none → f.entered = [] → (doReturn e (T.setTop f) acts (some z)).1 = T.setFrames fs) : Steps p.tables e below (T.setTop (mkF m pc Ls (z :: rest))) (T.setFrames fs) := by
  have hm' : T.vm.method? m = some meth := X.method'
  show Steps p.tables e below (T.setTop { method := m, pc := pc, locals := Ls, stack := _ :: rest, locked := none }) _
  jvm_step X.here [X.here.top, hx, hd, hm', hret, hz, ht]
  first | (intro acts; rw [hl _ acts rfl rfl rfl]) | rw [hl _ _ rfl rfl rfl]
  exact Steps.refl _
end OwnSteps
abbrev mN0 : MethodName := ⟨"java/lang/Record", "<init>", "()V"⟩
abbrev mN1 : MethodName := ⟨"java/util/AbstractCollection", "<init>", "()V"⟩
abbrev mN2 : MethodName := ⟨"java/util/ImmutableCollections$AbstractImmutableCollection", "<init>", "()V"⟩
abbrev mN3 : MethodName := ⟨"java/util/ImmutableCollections$AbstractImmutableList", "<init>", "()V"⟩
abbrev mN4 : MethodName := ⟨"java/util/Objects", "requireNonNull", "(Ljava/lang/Object;)Ljava/lang/Object;"⟩
abbrev mN5 : MethodName := ⟨"java/util/AbstractList", "<init>", "()V"⟩
abbrev mN6 : MethodName := ⟨"java/util/ArrayList", "<init>", "()V"⟩
abbrev mN7 : MethodName := ⟨"java/lang/Math", "max", "(II)I"⟩
abbrev mN8 : MethodName := ⟨"java/lang/Math", "min", "(II)I"⟩
abbrev mN9 : MethodName := ⟨"java/util/ArrayList", "grow", "(I)[Ljava/lang/Object;"⟩
abbrev mN10 : MethodName := ⟨"java/util/ArrayList", "grow", "()[Ljava/lang/Object;"⟩
abbrev mN11 : MethodName := ⟨"java/util/ArrayList", "add", "(Ljava/lang/Object;[Ljava/lang/Object;I)V"⟩
abbrev mN12 : MethodName := ⟨"java/util/ArrayList", "add", "(Ljava/lang/Object;)Z"⟩
abbrev mN13 : MethodName := ⟨"java/util/ArrayList", "isEmpty", "()Z"⟩
abbrev mN14 : MethodName := ⟨"java/util/Arrays", "copyOf", "([Ljava/lang/Object;ILjava/lang/Class;)[Ljava/lang/Object;"⟩
abbrev mN15 : MethodName := ⟨"java/util/Arrays", "copyOf", "([Ljava/lang/Object;I)[Ljava/lang/Object;"⟩
abbrev mN16 : MethodName := ⟨"java/util/ArrayList", "toArray", "()[Ljava/lang/Object;"⟩
abbrev mN17 : MethodName := ⟨"java/util/ImmutableCollections$List12", "<init>", "(Ljava/lang/Object;)V"⟩
abbrev mN18 : MethodName := ⟨"java/util/ImmutableCollections$List12", "<init>", "(Ljava/lang/Object;Ljava/lang/Object;)V"⟩
abbrev mN19 : MethodName := ⟨"java/util/List", "of", "([Ljava/lang/Object;)Ljava/util/List;"⟩
abbrev mN20 : MethodName := ⟨"java/util/Collection", "isEmpty", "()Z"⟩
abbrev mN21 : MethodName := ⟨"java/util/Collection", "toArray", "()[Ljava/lang/Object;"⟩
abbrev mN22 : MethodName := ⟨"java/util/ImmutableCollections", "listCopy", "(Ljava/util/Collection;)Ljava/util/List;"⟩
abbrev mN23 : MethodName := ⟨"java/util/List", "copyOf", "(Ljava/util/Collection;)Ljava/util/List;"⟩
abbrev mN24 : MethodName := ⟨"java/util/List", "of", "()Ljava/util/List;"⟩
abbrev mN25 : MethodName := ⟨"org/stripeward/scenario/Node", "<init>", "(ILjava/lang/String;Lorg/stripeward/scenario/Rack;)V"⟩
abbrev mN26 : MethodName := ⟨"org/stripeward/scenario/Block", "<init>", "(ILjava/lang/String;Ljava/util/List;Lorg/stripeward/scenario/Stripe;ZD)V"⟩
abbrev mN27 : MethodName := ⟨"org/stripeward/scenario/Block", "index", "()I"⟩
abbrev mN28 : MethodName := ⟨"org/stripeward/scenario/Block", "holders", "()Ljava/util/List;"⟩
abbrev mN29 : MethodName := ⟨"java/util/ImmutableCollections$List12", "size", "()I"⟩
abbrev mN30 : MethodName := ⟨"java/util/ImmutableCollections$List12", "get", "(I)Ljava/lang/Object;"⟩
abbrev mN31 : MethodName := ⟨"java/util/ImmutableCollections$ListN", "size", "()I"⟩
abbrev mN32 : MethodName := ⟨"org/stripeward/scenario/Blocks$Records", "<init>", "(Ljava/util/List;)V"⟩
abbrev mN33 : MethodName := ⟨"org/stripeward/scenario/Blocks", "<init>", "(Lorg/stripeward/scenario/Blocks$Source;[III)V"⟩
abbrev mN34 : MethodName := ⟨"java/util/List", "isEmpty", "()Z"⟩
abbrev mN35 : MethodName := ⟨"org/stripeward/scenario/Blocks", "of", "(Ljava/util/List;)Lorg/stripeward/scenario/Blocks;"⟩
abbrev mN36 : MethodName := ⟨"java/util/List", "size", "()I"⟩
abbrev mN37 : MethodName := ⟨"org/stripeward/scenario/Blocks", "size", "()I"⟩
abbrev mN38 : MethodName := ⟨"org/stripeward/scenario/Blocks", "place", "(I)I"⟩
abbrev mN39 : MethodName := ⟨"java/util/List", "get", "(I)Ljava/lang/Object;"⟩
abbrev mN40 : MethodName := ⟨"org/stripeward/scenario/Blocks$Records", "block", "(I)Lorg/stripeward/scenario/Block;"⟩
abbrev mN41 : MethodName := ⟨"org/stripeward/scenario/Blocks$Records", "index", "(I)I"⟩
abbrev mN42 : MethodName := ⟨"org/stripeward/scenario/Blocks$Records", "holderCount", "(I)I"⟩
abbrev mN43 : MethodName := ⟨"org/stripeward/scenario/Blocks$Source", "block", "(I)Lorg/stripeward/scenario/Block;"⟩
abbrev mN44 : MethodName := ⟨"org/stripeward/scenario/Blocks", "get", "(I)Lorg/stripeward/scenario/Block;"⟩
abbrev mN45 : MethodName := ⟨"org/stripeward/scenario/Blocks$Source", "index", "(I)I"⟩
abbrev mN46 : MethodName := ⟨"org/stripeward/scenario/Blocks", "index", "(I)I"⟩
abbrev mN47 : MethodName := ⟨"org/stripeward/scenario/Blocks$Source", "holderCount", "(I)I"⟩
abbrev mN48 : MethodName := ⟨"org/stripeward/scenario/Blocks", "holderCount", "(I)I"⟩
abbrev mN49 : MethodName := ⟨"java/util/List", "add", "(Ljava/lang/Object;)Z"⟩
theorem own_three (x : Int32) : ((x &&& (3 : Int32)) % (3 : Int32)) = 0 ∨ ((x &&& (3 : Int32)) % (3 : Int32)) = 1 ∨ ((x &&& (3 : Int32)) % (3 : Int32)) = 2 := by
  have h := c_and x 3 (by decide)
  have h2 := (c_irem (x &&& (3 : Int32)) 3 3 (by decide)).1 h.1
  generalize ((x &&& (3 : Int32)) % (3 : Int32)) = r at *
  generalize (x &&& (3 : Int32)) = y at *
  have e0 : (0 : Int32).toInt = 0 := by decide
  have e1 : (1 : Int32).toInt = 1 := by decide
  have e2 : (2 : Int32).toInt = 2 := by decide
  simp only [← Int32.toInt_inj, e0, e1, e2]
  omega
theorem own_fld {s : State} {args : Array Value} {t : Term} {a : Addr} {C n d : String} {k : Int32} (ev : t.eval args s none [] s = some (.ref a)) (h : (Jvm.Cond.eq (Jvm.Term.field t C n d) (Jvm.Term.int k)).value args s none s [] = some true) : Fld s s.heap a C n d (.int k) := by
  refine Fld.start ?_
  simp only [Cond.value, Term.eval, ev] at h ⊢
  cases hf : s.fieldOf? a C n d with
  | none => simp [hf] at h
  | some v => cases v <;> simp_all
theorem own_fldR {s : State} {args : Array Value} {t : Term} {a b : Addr} {C n d : String} (ev : t.eval args s none [] s = some (.ref a)) (h : (Jvm.Term.field t C n d).eval args s none [] s = some (.ref b)) : Fld s s.heap a C n d (.ref b) := by
  refine Fld.start ?_
  rw [fld_at ev] at h; exact h
theorem own_arr0 {s : State} {args : Array Value} {t : Term} {a : Addr} {cl : Cell} {ty : FieldType} (A : Arr s s.heap a cl ty) (ev : t.eval args s none [] s = some (.ref a)) (h : (Jvm.Cond.eq (Jvm.Term.length t) (Jvm.Term.int 0)).value args s none s [] = some true) : Arv s s.heap a cl.cls ty 0 [] .null := by
  have q := A.fin (Vm.Alike.refl _)
  have hz : cl.slots.size = 0 := by
    by_cases c : cl.slots.size < 2 ^ 31
    · have e := gotT (Cond.eq_ints (len_f ev q c) rfl) h
      have e2 := len_toInt c
      rw [e] at e2
      have e0 : (0 : Int32).toInt = 0 := by decide
      omega
    · simp [Cond.value, Term.eval, ev, q, c] at h
  exact ⟨cl, A, rfl, by rw [hz]; decide, by decide, fun k hk => absurd hk (by omega), fun i hi => absurd hi (by omega)⟩
theorem d0_0 : decode jdk_30_method_1_code 0 = .ok (.aload_n 0, 1) := by decide +kernel
theorem d0_1 : decode jdk_30_method_1_code 1 = .ok (.invokespecial 1, 3) := by decide +kernel
theorem d0_4 : decode jdk_30_method_1_code 4 = .ok (.return_, 1) := by decide +kernel
theorem own_pn0 : plainName "java/lang/Record" = true := by first | (simp [plainName, overriddenIn]; done) | decide +kernel
theorem own_ef_rm_rec (m : MethodId) (x0 : Addr) : entryFrame m #[(.ref x0)] 1 = mkF m 0 #[.val (.ref x0)] [] := by first | (simp [entryFrame, mkF, argsToLocals, Value.category]; done) | rfl
def Q_rm_rec (Z : State) (a : Addr) (h0 : Heap) (n0 : Nat) (v : Option Value) (h : Heap) (L : List Loc) : Prop := v = none ∧ Fr n0 L ∧ h = h0
set_option maxRecDepth 65536 in
set_option maxHeartbeats 40000000 in
theorem rm_rec (l : Launch) (Z : State) (a0 : Array Value) (hw : ∀ d ∈ tables_1, d.before a0 Z = true) (ws : List Jvm.Cond) (a : Addr) (h0 : Heap) (n0 : Nat) (Z0 : n0 ≤ h0.size) :
    Met l Z mN0 jdk_30_method_1_code 1 none ({ frames := 1, cells := 0, slots := 0, locals := 12 } : Room) ws #[(.ref a)] h0 (Q_rm_rec Z a h0 n0) := by
  refine own_met (plainFor_of_name own_pn0) ?_
  intro p e s m below meth c s₁ hret hx hby hlk hml hown hnm X0 e0 hZ hh
  have N0 := Fr.nil n0
  refine Gs (fun _ tk => castTop (own_ef_rm_rec m a) tk) ?_
  show Goes _ _ _ _ _ (s₁.setTop (mkF m 0 #[.val (.ref a)] []))
  refine Gs (fun _ tk => XS.aloadN X0.here hx rfl (hb hby d0_0) rfl rfl tk) ?_
  obtain ⟨T1, X1, e1, st1⟩ := initO X0 hx hZ hown (gw hw 11 rfl) (gw hw 12 rfl) (gw hw 13 rfl) e0 (g := (mkF m 1 #[.val (.ref a)] [(.ref a)])) rfl (by rw [hml]; rfl) rfl (hb hby d0_1) (by decide) (W := 0) (w0 (Nat.le_of_eq rfl)) (by decide)
  refine Gs st1 ?_
  show Goes _ _ _ _ _ (T1.setTop (mkF m 4 #[.val (.ref a)] []))
  refine Goes.ret X1 none (fun _ => rfl) hlk (by decide) (by decide) ?_ (fun fs hr => ?_)
  · exact ⟨rfl, N0, e1⟩
  · exact X1.returnOut hx hret (hb hby d0_4) hr
theorem d1_0 : decode jdk_22_method_1_code 0 = .ok (.aload_n 0, 1) := by decide +kernel
theorem d1_1 : decode jdk_22_method_1_code 1 = .ok (.invokespecial 1, 3) := by decide +kernel
theorem d1_4 : decode jdk_22_method_1_code 4 = .ok (.return_, 1) := by decide +kernel
theorem own_pn1 : plainName "java/util/AbstractCollection" = true := by first | (simp [plainName, overriddenIn]; done) | decide +kernel
theorem own_ef_rm_abc (m : MethodId) (x0 : Addr) : entryFrame m #[(.ref x0)] 1 = mkF m 0 #[.val (.ref x0)] [] := by first | (simp [entryFrame, mkF, argsToLocals, Value.category]; done) | rfl
def Q_rm_abc (Z : State) (a : Addr) (h0 : Heap) (n0 : Nat) (v : Option Value) (h : Heap) (L : List Loc) : Prop := v = none ∧ Fr n0 L ∧ h = h0
set_option maxRecDepth 65536 in
set_option maxHeartbeats 40000000 in
theorem rm_abc (l : Launch) (Z : State) (a0 : Array Value) (hw : ∀ d ∈ tables_1, d.before a0 Z = true) (ws : List Jvm.Cond) (a : Addr) (h0 : Heap) (n0 : Nat) (Z0 : n0 ≤ h0.size) :
    Met l Z mN1 jdk_22_method_1_code 1 none ({ frames := 1, cells := 0, slots := 0, locals := 12 } : Room) ws #[(.ref a)] h0 (Q_rm_abc Z a h0 n0) := by
  refine own_met (plainFor_of_name own_pn1) ?_
  intro p e s m below meth c s₁ hret hx hby hlk hml hown hnm X0 e0 hZ hh
  have N0 := Fr.nil n0
  refine Gs (fun _ tk => castTop (own_ef_rm_abc m a) tk) ?_
  show Goes _ _ _ _ _ (s₁.setTop (mkF m 0 #[.val (.ref a)] []))
  refine Gs (fun _ tk => XS.aloadN X0.here hx rfl (hb hby d1_0) rfl rfl tk) ?_
  obtain ⟨T1, X1, e1, st1⟩ := initO X0 hx hZ hown (gw hw 38 rfl) (gw hw 12 rfl) (gw hw 13 rfl) e0 (g := (mkF m 1 #[.val (.ref a)] [(.ref a)])) rfl (by rw [hml]; rfl) rfl (hb hby d1_1) (by decide) (W := 0) (w0 (Nat.le_of_eq rfl)) (by decide)
  refine Gs st1 ?_
  show Goes _ _ _ _ _ (T1.setTop (mkF m 4 #[.val (.ref a)] []))
  refine Goes.ret X1 none (fun _ => rfl) hlk (by decide) (by decide) ?_ (fun fs hr => ?_)
  · exact ⟨rfl, N0, e1⟩
  · exact X1.returnOut hx hret (hb hby d1_4) hr
theorem d2_0 : decode jdk_47_method_1_code 0 = .ok (.aload_n 0, 1) := by decide +kernel
theorem d2_1 : decode jdk_47_method_1_code 1 = .ok (.invokespecial 1, 3) := by decide +kernel
theorem own_pd0 : parseMethodDescriptor "()V" = some ⟨[], none⟩ := by decide +kernel
theorem d2_4 : decode jdk_47_method_1_code 4 = .ok (.return_, 1) := by decide +kernel
theorem own_pn2 : plainName "java/util/ImmutableCollections$AbstractImmutableCollection" = true := by first | (simp [plainName, overriddenIn]; done) | decide +kernel
theorem own_ef_rm_aic (m : MethodId) (x0 : Addr) : entryFrame m #[(.ref x0)] 1 = mkF m 0 #[.val (.ref x0)] [] := by first | (simp [entryFrame, mkF, argsToLocals, Value.category]; done) | rfl
def Q_rm_aic (Z : State) (a : Addr) (h0 : Heap) (n0 : Nat) (v : Option Value) (h : Heap) (L : List Loc) : Prop := v = none ∧ Fr n0 L ∧ h = h0
set_option maxRecDepth 65536 in
set_option maxHeartbeats 40000000 in
theorem rm_aic (l : Launch) (Z : State) (a0 : Array Value) (hw : ∀ d ∈ tables_1, d.before a0 Z = true) (ws : List Jvm.Cond) (a : Addr) (h0 : Heap) (n0 : Nat) (Z0 : n0 ≤ h0.size) :
    Met l Z mN2 jdk_47_method_1_code 1 none ({ frames := 2, cells := 0, slots := 0, locals := 24 } : Room) ws #[(.ref a)] h0 (Q_rm_aic Z a h0 n0) := by
  refine own_met (plainFor_of_name own_pn2) ?_
  intro p e s m below meth c s₁ hret hx hby hlk hml hown hnm X0 e0 hZ hh
  have N0 := Fr.nil n0
  refine Gs (fun _ tk => castTop (own_ef_rm_aic m a) tk) ?_
  show Goes _ _ _ _ _ (s₁.setTop (mkF m 0 #[.val (.ref a)] []))
  refine Gs (fun _ tk => XS.aloadN X0.here hx rfl (hb hby d2_0) rfl rfl tk) ?_
  obtain ⟨_, _, ⟨T1, L1, k1, n1⟩, -, X1, ⟨Lc1, hQ1, l1, y1, z1⟩, st1⟩ := X0.specialBack hx (y := mN1) rfl hown (mvT hZ (gw hw 197 rfl)) (mvT hZ (gw hw 33 rfl)) (mvT hZ (gw hw 37 rfl)) (by decide) (backOf (W := 0) (rm_abc l Z a0 hw [] a h0 n0 Z0) hZ (gw hw 37 rfl) (gw hw 36 rfl) (by decide) (by decide)) (g := (mkF m 1 #[.val (.ref a)] [(.ref a)])) rfl (by rw [hml]; rfl) (Steps.refl _) (a := a) (argsL := []) (rest := []) (lenOf own_pd0 rfl) rfl (w0 (Nat.le_of_eq rfl)) (hb hby d2_1) (fun _ _ => ⟨rfl, e0, (by decide : 0 + 0 ≤ _), (by decide : 0 + 0 ≤ _)⟩)
  dsimp only [Pt.U, Pt.locs, Pt.cells, Pt.slots] at X1 l1 y1 z1 st1 hQ1
  subst l1 y1 z1
  obtain ⟨rfl, N1q, e1⟩ := hQ1
  have N1 := Fr.app N0 N1q
  refine Gs (fun _ tk => st1.trans tk) ?_
  show Goes _ _ _ _ _ (T1.setTop (mkF m 4 #[.val (.ref a)] []))
  refine Goes.ret X1 none (fun _ => rfl) hlk (by decide) (by decide) ?_ (fun fs hr => ?_)
  · exact ⟨rfl, N1, e1⟩
  · exact X1.returnOut hx hret (hb hby d2_4) hr
theorem d3_0 : decode jdk_46_method_1_code 0 = .ok (.aload_n 0, 1) := by decide +kernel
theorem d3_1 : decode jdk_46_method_1_code 1 = .ok (.invokespecial 1, 3) := by decide +kernel
theorem d3_4 : decode jdk_46_method_1_code 4 = .ok (.return_, 1) := by decide +kernel
theorem own_pn3 : plainName "java/util/ImmutableCollections$AbstractImmutableList" = true := by first | (simp [plainName, overriddenIn]; done) | decide +kernel
theorem own_ef_rm_ail (m : MethodId) (x0 : Addr) : entryFrame m #[(.ref x0)] 1 = mkF m 0 #[.val (.ref x0)] [] := by first | (simp [entryFrame, mkF, argsToLocals, Value.category]; done) | rfl
def Q_rm_ail (Z : State) (a : Addr) (h0 : Heap) (n0 : Nat) (v : Option Value) (h : Heap) (L : List Loc) : Prop := v = none ∧ Fr n0 L ∧ h = h0
set_option maxRecDepth 65536 in
set_option maxHeartbeats 40000000 in
theorem rm_ail (l : Launch) (Z : State) (a0 : Array Value) (hw : ∀ d ∈ tables_1, d.before a0 Z = true) (ws : List Jvm.Cond) (a : Addr) (h0 : Heap) (n0 : Nat) (Z0 : n0 ≤ h0.size) :
    Met l Z mN3 jdk_46_method_1_code 1 none ({ frames := 3, cells := 0, slots := 0, locals := 36 } : Room) ws #[(.ref a)] h0 (Q_rm_ail Z a h0 n0) := by
  refine own_met (plainFor_of_name own_pn3) ?_
  intro p e s m below meth c s₁ hret hx hby hlk hml hown hnm X0 e0 hZ hh
  have N0 := Fr.nil n0
  refine Gs (fun _ tk => castTop (own_ef_rm_ail m a) tk) ?_
  show Goes _ _ _ _ _ (s₁.setTop (mkF m 0 #[.val (.ref a)] []))
  refine Gs (fun _ tk => XS.aloadN X0.here hx rfl (hb hby d3_0) rfl rfl tk) ?_
  obtain ⟨_, _, ⟨T1, L1, k1, n1⟩, -, X1, ⟨Lc1, hQ1, l1, y1, z1⟩, st1⟩ := X0.specialBack hx (y := mN2) rfl hown (mvT hZ (gw hw 191 rfl)) (mvT hZ (gw hw 192 rfl)) (mvT hZ (gw hw 196 rfl)) (by decide) (backOf (W := 0) (rm_aic l Z a0 hw [] a h0 n0 Z0) hZ (gw hw 196 rfl) (gw hw 195 rfl) (by decide) (by decide)) (g := (mkF m 1 #[.val (.ref a)] [(.ref a)])) rfl (by rw [hml]; rfl) (Steps.refl _) (a := a) (argsL := []) (rest := []) (lenOf own_pd0 rfl) rfl (w0 (Nat.le_of_eq rfl)) (hb hby d3_1) (fun _ _ => ⟨rfl, e0, (by decide : 0 + 0 ≤ _), (by decide : 0 + 0 ≤ _)⟩)
  dsimp only [Pt.U, Pt.locs, Pt.cells, Pt.slots] at X1 l1 y1 z1 st1 hQ1
  subst l1 y1 z1
  obtain ⟨rfl, N1q, e1⟩ := hQ1
  have N1 := Fr.app N0 N1q
  refine Gs (fun _ tk => st1.trans tk) ?_
  show Goes _ _ _ _ _ (T1.setTop (mkF m 4 #[.val (.ref a)] []))
  refine Goes.ret X1 none (fun _ => rfl) hlk (by decide) (by decide) ?_ (fun fs hr => ?_)
  · exact ⟨rfl, N1, e1⟩
  · exact X1.returnOut hx hret (hb hby d3_4) hr
theorem d4_0 : decode jdk_31_method_10_code 0 = .ok (.aload_n 0, 1) := by decide +kernel
theorem d4_1 : decode jdk_31_method_10_code 1 = .ok (.ifnonnull 11, 3) := by decide +kernel
theorem d4_12 : decode jdk_31_method_10_code 12 = .ok (.aload_n 0, 1) := by decide +kernel
theorem d4_13 : decode jdk_31_method_10_code 13 = .ok (.areturn, 1) := by decide +kernel
theorem own_pn4 : plainName "java/util/Objects" = true := by first | (simp [plainName, overriddenIn]; done) | decide +kernel
theorem own_ef_rm_nn (m : MethodId) (x0 : Addr) : entryFrame m #[(.ref x0)] 1 = mkF m 0 #[.val (.ref x0)] [] := by first | (simp [entryFrame, mkF, argsToLocals, Value.category]; done) | rfl
def Q_rm_nn (Z : State) (a : Addr) (h0 : Heap) (n0 : Nat) (v : Option Value) (h : Heap) (L : List Loc) : Prop := v = some (.ref a) ∧ Fr n0 L ∧ h = h0
set_option maxRecDepth 65536 in
set_option maxHeartbeats 40000000 in
theorem rm_nn (l : Launch) (Z : State) (a0 : Array Value) (hw : ∀ d ∈ tables_1, d.before a0 Z = true) (ws : List Jvm.Cond) (a : Addr) (h0 : Heap) (n0 : Nat) (Z0 : n0 ≤ h0.size) :
    Met l Z mN4 jdk_31_method_10_code 1 (some (.object "java/lang/Object")) ({ frames := 0, cells := 0, slots := 0, locals := 0 } : Room) ws #[(.ref a)] h0 (Q_rm_nn Z a h0 n0) := by
  refine own_met (plainFor_of_name own_pn4) ?_
  intro p e s m below meth c s₁ hret hx hby hlk hml hown hnm X0 e0 hZ hh
  have N0 := Fr.nil n0
  refine Gs (fun _ tk => castTop (own_ef_rm_nn m a) tk) ?_
  show Goes _ _ _ _ _ (s₁.setTop (mkF m 0 #[.val (.ref a)] []))
  refine Gs (fun _ tk => XS.aloadN X0.here hx rfl (hb hby d4_0) rfl rfl tk) ?_
  refine Gs (fun _ tk => XS.ifnonnullYes X0.here hx rfl (pc0 := 1) (pc' := 12) rfl (hb hby d4_1) rfl (by decide) (by decide) tk) ?_
  refine Gs (fun _ tk => XS.aloadN X0.here hx rfl (hb hby d4_12) rfl rfl tk) ?_
  refine Goes.ret X0 (some (.ref a)) (fun h => by rw [hret] at h; cases h) hlk (by decide) (by decide) ?_ (fun fs hr => ?_)
  · exact ⟨rfl, N0, e0⟩
  · exact own_retA X0 hx hret rfl rfl (hb hby d4_13) hr
theorem d5_0 : decode jdk_39_method_1_code 0 = .ok (.aload_n 0, 1) := by decide +kernel
theorem d5_1 : decode jdk_39_method_1_code 1 = .ok (.invokespecial 1, 3) := by decide +kernel
theorem d5_4 : decode jdk_39_method_1_code 4 = .ok (.aload_n 0, 1) := by decide +kernel
theorem d5_5 : decode jdk_39_method_1_code 5 = .ok (.iconst 0, 1) := by decide +kernel
theorem d5_6 : decode jdk_39_method_1_code 6 = .ok (.putfield 7, 3) := by decide +kernel
theorem d5_9 : decode jdk_39_method_1_code 9 = .ok (.return_, 1) := by decide +kernel
theorem own_pn5 : plainName "java/util/AbstractList" = true := by first | (simp [plainName, overriddenIn]; done) | decide +kernel
theorem own_ef_rm_ablAL (m : MethodId) (x0 : Addr) : entryFrame m #[(.ref x0)] 1 = mkF m 0 #[.val (.ref x0)] [] := by first | (simp [entryFrame, mkF, argsToLocals, Value.category]; done) | rfl
def Q_rm_ablAL (Z : State) (a : Addr) (h0 : Heap) (n0 : Nat) (v : Option Value) (h : Heap) (L : List Loc) : Prop := v = none ∧ Fr n0 L ∧ Wr h0 h a (Jvm.RoadKit.slotOf Z "java/util/AbstractList" "modCount" "I") (.int (0 : Int32))
set_option maxRecDepth 65536 in
set_option maxHeartbeats 40000000 in
theorem rm_ablAL (l : Launch) (Z : State) (a0 : Array Value) (hw : ∀ d ∈ tables_1, d.before a0 Z = true) (ws : List Jvm.Cond) (a : Addr) (h0 : Heap) (n0 : Nat) (Z0 : n0 ≤ h0.size) (A_a : Exa Z h0 a "java/util/ArrayList") (F_modCount_a : Fld Z h0 a "java/util/AbstractList" "modCount" "I" (.int (0 : Int32))) (g_a : n0 ≤ a) :
    Met l Z mN5 jdk_39_method_1_code 1 none ({ frames := 2, cells := 0, slots := 0, locals := 24 } : Room) ws #[(.ref a)] h0 (Q_rm_ablAL Z a h0 n0) := by
  refine own_met (plainFor_of_name own_pn5) ?_
  intro p e s m below meth c s₁ hret hx hby hlk hml hown hnm X0 e0 hZ hh
  have N0 := Fr.nil n0
  refine Gs (fun _ tk => castTop (own_ef_rm_ablAL m a) tk) ?_
  show Goes _ _ _ _ _ (s₁.setTop (mkF m 0 #[.val (.ref a)] []))
  refine Gs (fun _ tk => XS.aloadN X0.here hx rfl (hb hby d5_0) rfl rfl tk) ?_
  obtain ⟨_, _, ⟨T1, L1, k1, n1⟩, -, X1, ⟨Lc1, hQ1, l1, y1, z1⟩, st1⟩ := X0.specialBack hx (y := mN1) rfl hown (mvT hZ (gw hw 32 rfl)) (mvT hZ (gw hw 33 rfl)) (mvT hZ (gw hw 37 rfl)) (by decide) (backOf (W := 0) (rm_abc l Z a0 hw [] a h0 n0 Z0) hZ (gw hw 37 rfl) (gw hw 36 rfl) (by decide) (by decide)) (g := (mkF m 1 #[.val (.ref a)] [(.ref a)])) rfl (by rw [hml]; rfl) (Steps.refl _) (a := a) (argsL := []) (rest := []) (lenOf own_pd0 rfl) rfl (w0 (Nat.le_of_eq rfl)) (hb hby d5_1) (fun _ _ => ⟨rfl, e0, (by decide : 0 + 0 ≤ _), (by decide : 0 + 0 ≤ _)⟩)
  dsimp only [Pt.U, Pt.locs, Pt.cells, Pt.slots] at X1 l1 y1 z1 st1 hQ1
  subst l1 y1 z1
  obtain ⟨rfl, N1q, e1⟩ := hQ1
  have N1 := Fr.app N0 N1q
  refine Gs (fun _ tk => st1.trans tk) ?_
  show Goes _ _ _ _ _ (T1.setTop (mkF m 4 #[.val (.ref a)] []))
  refine Gs (fun _ tk => XS.aloadN X1.here hx rfl (hb hby d5_4) rfl rfl tk) ?_
  refine Gs (fun _ tk => XS.iconst X1.here hx rfl (hb hby d5_5) tk) ?_
  obtain ⟨T2, h2, X2, e2, W2, st2⟩ := putF X1 hx hZ hown (host := "") (Or.inl (gw hw 39 rfl)) Via.refl e1 F_modCount_a A_a (Or.inl (gw hw 40 rfl)) (gw hw 21 rfl) (ty := .int) (by decide) rfl rfl (g := (mkF m 6 #[.val (.ref a)] [(.int (0 : Int32)), (.ref a)])) rfl rfl (hb hby d5_6)
  have N2 := Fr.snoc X2 N1 g_a
  replace Z0 : n0 ≤ h2.size := by rw [W2.size]; exact Z0
  refine Gs st2 ?_
  show Goes _ _ _ _ _ (T2.setTop (mkF m 9 #[.val (.ref a)] []))
  refine Goes.ret X2 none (fun _ => rfl) hlk (by decide) (by decide) ?_ (fun fs hr => ?_)
  · rw [e2]; exact ⟨rfl, N2, W2⟩
  · exact X2.returnOut hx hret (hb hby d5_9) hr
theorem own_ef_rm_ablBS (m : MethodId) (x0 : Addr) : entryFrame m #[(.ref x0)] 1 = mkF m 0 #[.val (.ref x0)] [] := by first | (simp [entryFrame, mkF, argsToLocals, Value.category]; done) | rfl
def Q_rm_ablBS (Z : State) (a : Addr) (h0 : Heap) (n0 : Nat) (v : Option Value) (h : Heap) (L : List Loc) : Prop := v = none ∧ Fr n0 L ∧ Wr h0 h a (Jvm.RoadKit.slotOf Z "java/util/AbstractList" "modCount" "I") (.int (0 : Int32))
set_option maxRecDepth 65536 in
set_option maxHeartbeats 40000000 in
theorem rm_ablBS (l : Launch) (Z : State) (a0 : Array Value) (hw : ∀ d ∈ tables_1, d.before a0 Z = true) (ws : List Jvm.Cond) (a : Addr) (h0 : Heap) (n0 : Nat) (Z0 : n0 ≤ h0.size) (A_a : Exa Z h0 a "org/stripeward/scenario/Blocks") (F_modCount_a : Fld Z h0 a "java/util/AbstractList" "modCount" "I" (.int (0 : Int32))) (g_a : n0 ≤ a) :
    Met l Z mN5 jdk_39_method_1_code 1 none ({ frames := 2, cells := 0, slots := 0, locals := 24 } : Room) ws #[(.ref a)] h0 (Q_rm_ablBS Z a h0 n0) := by
  refine own_met (plainFor_of_name own_pn5) ?_
  intro p e s m below meth c s₁ hret hx hby hlk hml hown hnm X0 e0 hZ hh
  have N0 := Fr.nil n0
  refine Gs (fun _ tk => castTop (own_ef_rm_ablBS m a) tk) ?_
  show Goes _ _ _ _ _ (s₁.setTop (mkF m 0 #[.val (.ref a)] []))
  refine Gs (fun _ tk => XS.aloadN X0.here hx rfl (hb hby d5_0) rfl rfl tk) ?_
  obtain ⟨_, _, ⟨T1, L1, k1, n1⟩, -, X1, ⟨Lc1, hQ1, l1, y1, z1⟩, st1⟩ := X0.specialBack hx (y := mN1) rfl hown (mvT hZ (gw hw 32 rfl)) (mvT hZ (gw hw 33 rfl)) (mvT hZ (gw hw 37 rfl)) (by decide) (backOf (W := 0) (rm_abc l Z a0 hw [] a h0 n0 Z0) hZ (gw hw 37 rfl) (gw hw 36 rfl) (by decide) (by decide)) (g := (mkF m 1 #[.val (.ref a)] [(.ref a)])) rfl (by rw [hml]; rfl) (Steps.refl _) (a := a) (argsL := []) (rest := []) (lenOf own_pd0 rfl) rfl (w0 (Nat.le_of_eq rfl)) (hb hby d5_1) (fun _ _ => ⟨rfl, e0, (by decide : 0 + 0 ≤ _), (by decide : 0 + 0 ≤ _)⟩)
  dsimp only [Pt.U, Pt.locs, Pt.cells, Pt.slots] at X1 l1 y1 z1 st1 hQ1
  subst l1 y1 z1
  obtain ⟨rfl, N1q, e1⟩ := hQ1
  have N1 := Fr.app N0 N1q
  refine Gs (fun _ tk => st1.trans tk) ?_
  show Goes _ _ _ _ _ (T1.setTop (mkF m 4 #[.val (.ref a)] []))
  refine Gs (fun _ tk => XS.aloadN X1.here hx rfl (hb hby d5_4) rfl rfl tk) ?_
  refine Gs (fun _ tk => XS.iconst X1.here hx rfl (hb hby d5_5) tk) ?_
  obtain ⟨T2, h2, X2, e2, W2, st2⟩ := putF X1 hx hZ hown (host := "") (Or.inl (gw hw 39 rfl)) Via.refl e1 F_modCount_a A_a (Or.inl (gw hw 237 rfl)) (gw hw 213 rfl) (ty := .int) (by decide) rfl rfl (g := (mkF m 6 #[.val (.ref a)] [(.int (0 : Int32)), (.ref a)])) rfl rfl (hb hby d5_6)
  have N2 := Fr.snoc X2 N1 g_a
  replace Z0 : n0 ≤ h2.size := by rw [W2.size]; exact Z0
  refine Gs st2 ?_
  show Goes _ _ _ _ _ (T2.setTop (mkF m 9 #[.val (.ref a)] []))
  refine Goes.ret X2 none (fun _ => rfl) hlk (by decide) (by decide) ?_ (fun fs hr => ?_)
  · rw [e2]; exact ⟨rfl, N2, W2⟩
  · exact X2.returnOut hx hret (hb hby d5_9) hr
theorem d6_0 : decode jdk_38_method_2_code 0 = .ok (.aload_n 0, 1) := by decide +kernel
theorem d6_1 : decode jdk_38_method_2_code 1 = .ok (.invokespecial 1, 3) := by decide +kernel
theorem d6_4 : decode jdk_38_method_2_code 4 = .ok (.aload_n 0, 1) := by decide +kernel
theorem d6_5 : decode jdk_38_method_2_code 5 = .ok (.getstatic 39, 3) := by decide +kernel
theorem d6_8 : decode jdk_38_method_2_code 8 = .ok (.putfield 9, 3) := by decide +kernel
theorem d6_11 : decode jdk_38_method_2_code 11 = .ok (.return_, 1) := by decide +kernel
theorem own_pn6 : plainName "java/util/ArrayList" = true := by first | (simp [plainName, overriddenIn]; done) | decide +kernel
theorem own_ef_rm_alinit (m : MethodId) (x0 : Addr) : entryFrame m #[(.ref x0)] 1 = mkF m 0 #[.val (.ref x0)] [] := by first | (simp [entryFrame, mkF, argsToLocals, Value.category]; done) | rfl
def Q_rm_alinit (Z : State) (a : Addr) (d : Addr) (h0 : Heap) (n0 : Nat) (v : Option Value) (h : Heap) (L : List Loc) : Prop := v = none ∧ Fr n0 L ∧ Keep h0 h [a] ∧ Fld Z h a "java/util/AbstractList" "modCount" "I" (.int (0 : Int32)) ∧ Fld Z h a "java/util/ArrayList" "elementData" "[Ljava/lang/Object;" (.ref d) ∧ Fld Z h a "java/util/ArrayList" "size" "I" (.int (0 : Int32))
set_option maxRecDepth 65536 in
set_option maxHeartbeats 40000000 in
theorem rm_alinit (l : Launch) (Z : State) (a0 : Array Value) (hw : ∀ d ∈ tables_1, d.before a0 Z = true) (ws : List Jvm.Cond) (a : Addr) (d : Addr) (h0 : Heap) (n0 : Nat) (Z0 : n0 ≤ h0.size) (A_a : Exa Z h0 a "java/util/ArrayList") (F_modCount_a : Fld Z h0 a "java/util/AbstractList" "modCount" "I" (.int (0 : Int32))) (F_elementData_a : Fld Z h0 a "java/util/ArrayList" "elementData" "[Ljava/lang/Object;" .null) (F_size_a : Fld Z h0 a "java/util/ArrayList" "size" "I" (.int (0 : Int32))) (S_DEFAULTCAPACITY_EMPTY_ELEMENTDATA : Sta Z h0 "java/util/ArrayList" "DEFAULTCAPACITY_EMPTY_ELEMENTDATA" "[Ljava/lang/Object;" (.ref d)) (g_a : n0 ≤ a) :
    Met l Z mN6 jdk_38_method_2_code 1 none ({ frames := 3, cells := 0, slots := 0, locals := 36 } : Room) ws #[(.ref a)] h0 (Q_rm_alinit Z a d h0 n0) := by
  refine own_met (plainFor_of_name own_pn6) ?_
  intro p e s m below meth c s₁ hret hx hby hlk hml hown hnm X0 e0 hZ hh
  have N0 := Fr.nil n0
  refine Gs (fun _ tk => castTop (own_ef_rm_alinit m a) tk) ?_
  have KP : Keep h0 h0 [a] := Keep.refl _ _
  show Goes _ _ _ _ _ (s₁.setTop (mkF m 0 #[.val (.ref a)] []))
  refine Gs (fun _ tk => XS.aloadN X0.here hx rfl (hb hby d6_0) rfl rfl tk) ?_
  obtain ⟨_, _, ⟨T1, L1, k1, n1⟩, -, X1, ⟨Lc1, hQ1, l1, y1, z1⟩, st1⟩ := X0.specialBack hx (y := mN5) rfl hown (mvT hZ (gw hw 26 rfl)) (mvT hZ (gw hw 27 rfl)) (mvT hZ (gw hw 31 rfl)) (by decide) (backOf (W := 0) (rm_ablAL l Z a0 hw [] a h0 n0 Z0 A_a F_modCount_a g_a) hZ (gw hw 31 rfl) (gw hw 30 rfl) (by decide) (by decide)) (g := (mkF m 1 #[.val (.ref a)] [(.ref a)])) rfl (by rw [hml]; rfl) (Steps.refl _) (a := a) (argsL := []) (rest := []) (lenOf own_pd0 rfl) rfl (w0 (Nat.le_of_eq rfl)) (hb hby d6_1) (fun _ _ => ⟨rfl, e0, (by decide : 0 + 0 ≤ _), (by decide : 0 + 0 ≤ _)⟩)
  dsimp only [Pt.U, Pt.locs, Pt.cells, Pt.slots] at X1 l1 y1 z1 st1 hQ1
  subst l1 y1 z1
  obtain ⟨rfl, N1q, W1⟩ := hQ1
  have N1 := Fr.app N0 N1q
  replace A_a := A_a.wr W1
  replace F_elementData_a := F_elementData_a.other W1 (Or.inr (slot_ne (Or.inl (gw hw 43 rfl)) (Or.inl (gw hw 40 rfl)) (by decide) (t := (.array (.object "java/lang/Object"))) (t' := .int) (by decide) (by decide)))
  replace F_size_a := F_size_a.other W1 (Or.inr (slot_ne (Or.inl (gw hw 75 rfl)) (Or.inl (gw hw 40 rfl)) (by decide) (t := .int) (t' := .int) (by decide) (by decide)))
  replace S_DEFAULTCAPACITY_EMPTY_ELEMENTDATA := S_DEFAULTCAPACITY_EMPTY_ELEMENTDATA.wr W1
  replace KP := KP.wr W1 (Or.inl (List.mem_of_getElem? (i := 0) rfl))
  replace F_modCount_a := F_modCount_a.same W1
  replace Z0 := Nat.le_trans Z0 (Nat.le_of_eq W1.size.symm)
  refine Gs (fun _ tk => st1.trans tk) ?_
  show Goes _ _ _ _ _ (T1.setTop (mkF m 4 #[.val (.ref a)] []))
  refine Gs (fun _ tk => XS.aloadN X1.here hx rfl (hb hby d6_4) rfl rfl tk) ?_
  obtain ⟨T2, X2, e2, st2⟩ := getS2 X1 hx hZ hown (host := "") (Or.inl (gw hw 41 rfl)) Via.refl rfl S_DEFAULTCAPACITY_EMPTY_ELEMENTDATA (g := (mkF m 5 #[.val (.ref a)] [(.ref a)])) rfl (hb hby d6_5)
  refine Gs st2 ?_
  show Goes _ _ _ _ _ (T2.setTop (mkF m 8 #[.val (.ref a)] [(.ref d), (.ref a)]))
  obtain ⟨T3, h3, X3, e3, W3, st3⟩ := putF X2 hx hZ hown (host := "") (Or.inl (gw hw 42 rfl)) Via.refl e2 F_elementData_a A_a (Or.inl (gw hw 43 rfl)) (gw hw 21 rfl) (ty := (.array (.object "java/lang/Object"))) (by decide) rfl rfl (g := (mkF m 8 #[.val (.ref a)] [(.ref d), (.ref a)])) rfl rfl (hb hby d6_8)
  have N3 := Fr.snoc X3 N1 g_a
  replace F_modCount_a := F_modCount_a.other W3 (Or.inr (slot_ne (Or.inl (gw hw 40 rfl)) (Or.inl (gw hw 43 rfl)) (by decide) (t := .int) (t' := (.array (.object "java/lang/Object"))) (by decide) (by decide)))
  replace F_size_a := F_size_a.other W3 (Or.inr (slot_ne (Or.inl (gw hw 75 rfl)) (Or.inl (gw hw 43 rfl)) (by decide) (t := .int) (t' := (.array (.object "java/lang/Object"))) (by decide) (by decide)))
  replace KP := KP.wr W3 (Or.inl (List.mem_of_getElem? (i := 0) rfl))
  replace F_elementData_a := F_elementData_a.same W3
  replace Z0 : n0 ≤ h3.size := by rw [W3.size]; exact Z0
  refine Gs st3 ?_
  show Goes _ _ _ _ _ (T3.setTop (mkF m 11 #[.val (.ref a)] []))
  refine Goes.ret X3 none (fun _ => rfl) hlk (by decide) (by decide) ?_ (fun fs hr => ?_)
  · rw [e3]; exact ⟨rfl, N3, KP, F_modCount_a, F_elementData_a, F_size_a⟩
  · exact X3.returnOut hx hret (hb hby d6_11) hr
theorem d7_0 : decode jdk_29_method_65_code 0 = .ok (.iload_n 0, 1) := by decide +kernel
theorem d7_1 : decode jdk_29_method_65_code 1 = .ok (.iload_n 1, 1) := by decide +kernel
theorem d7_2 : decode jdk_29_method_65_code 2 = .ok (.if_icmp .lt 7, 3) := by decide +kernel
theorem d7_5 : decode jdk_29_method_65_code 5 = .ok (.iload_n 0, 1) := by decide +kernel
theorem d7_6 : decode jdk_29_method_65_code 6 = .ok (.goto 4, 3) := by decide +kernel
theorem d7_10 : decode jdk_29_method_65_code 10 = .ok (.ireturn, 1) := by decide +kernel
theorem own_ef_rm_max (m : MethodId) (x0 : Int32) (x1 : Int32) : entryFrame m #[(.int x0), (.int x1)] 2 = mkF m 0 #[.val (.int x0), .val (.int x1)] [] := by first | (simp [entryFrame, mkF, argsToLocals, Value.category]; done) | rfl
def Q_rm_max (Z : State) (x : Int32) (y : Int32) (h0 : Heap) (n0 : Nat) (v : Option Value) (h : Heap) (L : List Loc) : Prop := v = some (.int x) ∧ Fr n0 L ∧ h = h0
set_option maxRecDepth 65536 in
set_option maxHeartbeats 40000000 in
theorem rm_max (l : Launch) (Z : State) (a0 : Array Value) (hw : ∀ d ∈ tables_1, d.before a0 Z = true) (ws : List Jvm.Cond) (x : Int32) (y : Int32) (h0 : Heap) (n0 : Nat) (Z0 : n0 ≤ h0.size) (hge : ¬ (x < y)) :
    Met l Z mN7 jdk_29_method_65_code 2 (some .int) ({ frames := 0, cells := 0, slots := 0, locals := 0 } : Room) ws #[(.int x), (.int y)] h0 (Q_rm_max Z x y h0 n0) := by
  refine own_met (Jvm.Free.JP.mathPlain rfl (by decide +kernel)) ?_
  intro p e s m below meth c s₁ hret hx hby hlk hml hown hnm X0 e0 hZ hh
  have N0 := Fr.nil n0
  refine Gs (fun _ tk => castTop (own_ef_rm_max m x y) tk) ?_
  show Goes _ _ _ _ _ (s₁.setTop (mkF m 0 #[.val (.int x), .val (.int y)] []))
  refine Gs (fun _ tk => XS.iloadN X0.here hx rfl (hb hby d7_0) rfl tk) ?_
  refine Gs (fun _ tk => XS.iloadN X0.here hx rfl (hb hby d7_1) rfl tk) ?_
  refine Gs (fun _ tk => XS.icmpNo X0.here hx rfl (hb hby d7_2) rfl (flt hge).1 tk) ?_
  refine Gs (fun _ tk => XS.iloadN X0.here hx rfl (hb hby d7_5) rfl tk) ?_
  refine Gs (fun _ tk => XS.goto X0.here hx rfl (pc0 := 6) (pc' := 10) rfl (hb hby d7_6) (by decide) (by decide) tk) ?_
  refine Goes.ret X0 (some (.int x)) (fun h => by rw [hret] at h; cases h) hlk (by decide) (by decide) ?_ (fun fs hr => ?_)
  · exact ⟨rfl, N0, e0⟩
  · exact retI X0 hx hret (hb hby d7_10) hr
theorem d8_0 : decode jdk_29_method_69_code 0 = .ok (.iload_n 0, 1) := by decide +kernel
theorem d8_1 : decode jdk_29_method_69_code 1 = .ok (.iload_n 1, 1) := by decide +kernel
theorem d8_2 : decode jdk_29_method_69_code 2 = .ok (.if_icmp .gt 7, 3) := by decide +kernel
theorem d8_9 : decode jdk_29_method_69_code 9 = .ok (.iload_n 1, 1) := by decide +kernel
theorem d8_10 : decode jdk_29_method_69_code 10 = .ok (.ireturn, 1) := by decide +kernel
theorem own_ef_rm_min (m : MethodId) (x0 : Int32) (x1 : Int32) : entryFrame m #[(.int x0), (.int x1)] 2 = mkF m 0 #[.val (.int x0), .val (.int x1)] [] := by first | (simp [entryFrame, mkF, argsToLocals, Value.category]; done) | rfl
def Q_rm_min (Z : State) (x : Int32) (y : Int32) (h0 : Heap) (n0 : Nat) (v : Option Value) (h : Heap) (L : List Loc) : Prop := v = some (.int y) ∧ Fr n0 L ∧ h = h0
set_option maxRecDepth 65536 in
set_option maxHeartbeats 40000000 in
theorem rm_min (l : Launch) (Z : State) (a0 : Array Value) (hw : ∀ d ∈ tables_1, d.before a0 Z = true) (ws : List Jvm.Cond) (x : Int32) (y : Int32) (h0 : Heap) (n0 : Nat) (Z0 : n0 ≤ h0.size) (hlt : y < x) :
    Met l Z mN8 jdk_29_method_69_code 2 (some .int) ({ frames := 0, cells := 0, slots := 0, locals := 0 } : Room) ws #[(.int x), (.int y)] h0 (Q_rm_min Z x y h0 n0) := by
  refine own_met (Jvm.Free.JP.mathPlain rfl (by decide +kernel)) ?_
  intro p e s m below meth c s₁ hret hx hby hlk hml hown hnm X0 e0 hZ hh
  have N0 := Fr.nil n0
  refine Gs (fun _ tk => castTop (own_ef_rm_min m x y) tk) ?_
  show Goes _ _ _ _ _ (s₁.setTop (mkF m 0 #[.val (.int x), .val (.int y)] []))
  refine Gs (fun _ tk => XS.iloadN X0.here hx rfl (hb hby d8_0) rfl tk) ?_
  refine Gs (fun _ tk => XS.iloadN X0.here hx rfl (hb hby d8_1) rfl tk) ?_
  refine Gs (fun _ tk => XS.icmpYes X0.here hx rfl (pc0 := 2) (pc' := 9) rfl (hb hby d8_2) rfl (tlt hlt).2.2.1 (by decide) (by decide) tk) ?_
  refine Gs (fun _ tk => XS.iloadN X0.here hx rfl (hb hby d8_9) rfl tk) ?_
  refine Goes.ret X0 (some (.int y)) (fun h => by rw [hret] at h; cases h) hlk (by decide) (by decide) ?_ (fun fs hr => ?_)
  · exact ⟨rfl, N0, e0⟩
  · exact retI X0 hx hret (hb hby d8_10) hr
theorem d9_0 : decode jdk_38_method_6_code 0 = .ok (.aload_n 0, 1) := by decide +kernel
theorem d9_1 : decode jdk_38_method_6_code 1 = .ok (.getfield 9, 3) := by decide +kernel
theorem d9_4 : decode jdk_38_method_6_code 4 = .ok (.arraylength, 1) := by decide +kernel
theorem d9_5 : decode jdk_38_method_6_code 5 = .ok (.istore_n 2, 1) := by decide +kernel
theorem d9_6 : decode jdk_38_method_6_code 6 = .ok (.iload_n 2, 1) := by decide +kernel
theorem d9_7 : decode jdk_38_method_6_code 7 = .ok (.ifCond .gt 13, 3) := by decide +kernel
theorem d9_10 : decode jdk_38_method_6_code 10 = .ok (.aload_n 0, 1) := by decide +kernel
theorem d9_11 : decode jdk_38_method_6_code 11 = .ok (.getfield 9, 3) := by decide +kernel
theorem d9_14 : decode jdk_38_method_6_code 14 = .ok (.getstatic 39, 3) := by decide +kernel
theorem d9_17 : decode jdk_38_method_6_code 17 = .ok (.if_acmp .eq 28, 3) := by decide +kernel
theorem d9_45 : decode jdk_38_method_6_code 45 = .ok (.aload_n 0, 1) := by decide +kernel
theorem d9_46 : decode jdk_38_method_6_code 46 = .ok (.bipush 10, 2) := by decide +kernel
theorem d9_48 : decode jdk_38_method_6_code 48 = .ok (.iload_n 1, 1) := by decide +kernel
theorem d9_49 : decode jdk_38_method_6_code 49 = .ok (.invokestatic 79, 3) := by decide +kernel
theorem own_pd1 : parseMethodDescriptor "(II)I" = some ⟨[.int, .int], some .int⟩ := by decide +kernel
theorem d9_52 : decode jdk_38_method_6_code 52 = .ok (.anewarray 7, 3) := by decide +kernel
theorem d9_55 : decode jdk_38_method_6_code 55 = .ok (.dup_x1, 1) := by decide +kernel
theorem d9_56 : decode jdk_38_method_6_code 56 = .ok (.putfield 9, 3) := by decide +kernel
theorem d9_59 : decode jdk_38_method_6_code 59 = .ok (.areturn, 1) := by decide +kernel
theorem own_ef_rm_grow1 (m : MethodId) (x0 : Addr) (x1 : Int32) : entryFrame m #[(.ref x0), (.int x1)] 4 = mkF m 0 #[.val (.ref x0), .val (.int x1), .unset, .unset] [] := by first | (simp [entryFrame, mkF, argsToLocals, Value.category]; done) | rfl
def Q_rm_grow1 (Z : State) (a : Addr) (mc : Int32) (d : Addr) (kd : ClassId) (h0 : Heap) (n0 : Nat) (v : Option Value) (h : Heap) (L : List Loc) : Prop := ∃ b : Addr, ∃ kb : ClassId, v = some (.ref b) ∧ Fr n0 L ∧ Keep h0 h [a] ∧ Fld Z h a "java/util/AbstractList" "modCount" "I" (.int mc) ∧ Fld Z h a "java/util/ArrayList" "elementData" "[Ljava/lang/Object;" (.ref b) ∧ Fld Z h a "java/util/ArrayList" "size" "I" (.int (0 : Int32)) ∧ Arv Z h b kb (.object "java/lang/Object") (10 : Int32) [.null, .null, .null, .null, .null, .null, .null, .null, .null, .null] .null ∧ Exa Z h b "[Ljava/lang/Object;" ∧ Ovr Z kb "java/lang/Object" ∧ n0 ≤ b ∧ h0.size ≤ b
set_option maxRecDepth 65536 in
set_option maxHeartbeats 40000000 in
theorem rm_grow1 (l : Launch) (Z : State) (a0 : Array Value) (hw : ∀ d ∈ tables_1, d.before a0 Z = true) (ws : List Jvm.Cond) (a : Addr) (mc : Int32) (d : Addr) (kd : ClassId) (h0 : Heap) (n0 : Nat) (Z0 : n0 ≤ h0.size) (A_a : Exa Z h0 a "java/util/ArrayList") (F_modCount_a : Fld Z h0 a "java/util/AbstractList" "modCount" "I" (.int mc)) (F_elementData_a : Fld Z h0 a "java/util/ArrayList" "elementData" "[Ljava/lang/Object;" (.ref d)) (F_size_a : Fld Z h0 a "java/util/ArrayList" "size" "I" (.int (0 : Int32))) (S_DEFAULTCAPACITY_EMPTY_ELEMENTDATA : Sta Z h0 "java/util/ArrayList" "DEFAULTCAPACITY_EMPTY_ELEMENTDATA" "[Ljava/lang/Object;" (.ref d)) (V_d : Arv Z h0 d kd (.object "java/lang/Object") (0 : Int32) [] .null) (g_a : n0 ≤ a) (ne_d_a : d ≠ a) :
    Met l Z mN9 jdk_38_method_6_code 4 (some (.array (.object "java/lang/Object"))) ({ frames := 1, cells := 1, slots := 10, locals := 14 } : Room) ws #[(.ref a), (.int (1 : Int32))] h0 (Q_rm_grow1 Z a mc d kd h0 n0) := by
  refine own_met (plainFor_of_name own_pn6) ?_
  intro p e s m below meth c s₁ hret hx hby hlk hml hown hnm X0 e0 hZ hh
  have N0 := Fr.nil n0
  refine Gs (fun _ tk => castTop (own_ef_rm_grow1 m a (1 : Int32)) tk) ?_
  have KP : Keep h0 h0 [a] := Keep.refl _ _
  show Goes _ _ _ _ _ (s₁.setTop (mkF m 0 #[.val (.ref a), .val (.int (1 : Int32)), .unset, .unset] []))
  refine Gs (fun _ tk => XS.aloadN X0.here hx rfl (hb hby d9_0) rfl rfl tk) ?_
  obtain ⟨T1, X1, e1, st1⟩ := getF X0 hx hZ hown (host := "") (Or.inl (gw hw 42 rfl)) Via.refl e0 F_elementData_a (g := (mkF m 1 #[.val (.ref a), .val (.int (1 : Int32)), .unset, .unset] [(.ref a)])) rfl rfl (hb hby d9_1)
  refine Gs st1 ?_
  show Goes _ _ _ _ _ (T1.setTop (mkF m 4 #[.val (.ref a), .val (.int (1 : Int32)), .unset, .unset] [(.ref d)]))
  obtain ⟨cl2, Ar2, -, S2, N2z, -, -⟩ := id V_d
  refine Gs (fun _ tk => X1.arraylength hx (by rw [e1]; exact Ar2.1) (State.isArrayOf_alike hZ.alike Ar2.2.1) (g := (mkF m 4 #[.val (.ref a), .val (.int (1 : Int32)), .unset, .unset] [(.ref d)])) rfl rfl (hb hby d9_4) _ tk) ?_
  rw [len_of S2 N2z]
  show Goes _ _ _ _ _ (T1.setTop (mkF m 5 #[.val (.ref a), .val (.int (1 : Int32)), .unset, .unset] [(.int (0 : Int32))]))
  refine Gs (fun _ tk => XS.istoreN X1.here hx rfl (hb hby d9_5) rfl (l' := #[.val (.ref a), .val (.int (1 : Int32)), .val (.int (0 : Int32)), .unset]) rfl tk) ?_
  refine Gs (fun _ tk => XS.iloadN X1.here hx rfl (hb hby d9_6) rfl tk) ?_
  refine Gs (fun _ tk => XS.ifNo X1.here hx rfl (hb hby d9_7) rfl ((if0 _ _).trans (flt (by decide : ¬ ((0 : Int32) < (0 : Int32)))).2.2.1) tk) ?_
  refine Gs (fun _ tk => XS.aloadN X1.here hx rfl (hb hby d9_10) rfl rfl tk) ?_
  obtain ⟨T3, X3, e3, st3⟩ := getF X1 hx hZ hown (host := "") (Or.inl (gw hw 42 rfl)) Via.refl e1 F_elementData_a (g := (mkF m 11 #[.val (.ref a), .val (.int (1 : Int32)), .val (.int (0 : Int32)), .unset] [(.ref a)])) rfl rfl (hb hby d9_11)
  refine Gs st3 ?_
  show Goes _ _ _ _ _ (T3.setTop (mkF m 14 #[.val (.ref a), .val (.int (1 : Int32)), .val (.int (0 : Int32)), .unset] [(.ref d)]))
  obtain ⟨T4, X4, e4, st4⟩ := getS2 X3 hx hZ hown (host := "") (Or.inl (gw hw 41 rfl)) Via.refl e3 S_DEFAULTCAPACITY_EMPTY_ELEMENTDATA (g := (mkF m 14 #[.val (.ref a), .val (.int (1 : Int32)), .val (.int (0 : Int32)), .unset] [(.ref d)])) rfl (hb hby d9_14)
  refine Gs st4 ?_
  show Goes _ _ _ _ _ (T4.setTop (mkF m 17 #[.val (.ref a), .val (.int (1 : Int32)), .val (.int (0 : Int32)), .unset] [(.ref d), (.ref d)]))
  refine Gs (fun _ tk => Jvm.RoadKit.acmp (g := (mkF m 17 #[.val (.ref a), .val (.int (1 : Int32)), .val (.int (0 : Int32)), .unset] [(.ref d), (.ref d)])) X4 hx rfl rfl rfl (pc0 := 17) (pc' := 45) (same := true) rfl (hb hby d9_17) rfl (decide_eq_true (congrArg Value.ref rfl)) (by decide) (by decide) tk) ?_
  refine Gs (fun _ tk => XS.aloadN X4.here hx rfl (hb hby d9_45) rfl rfl tk) ?_
  refine Gs (fun _ tk => XS.bipush X4.here hx rfl (hb hby d9_46) tk) ?_
  refine Gs (fun _ tk => XS.iloadN X4.here hx rfl (hb hby d9_48) rfl tk) ?_
  obtain ⟨_, _, ⟨T5, L5, k5, n5⟩, -, X5, ⟨Lc5, hQ5, l5, y5, z5⟩, st5⟩ := Jvm.LawKit.callS X4 hx (y := mN7) hown (mvT hZ (gw hw 138 rfl)) (mvT hZ (gw hw 139 rfl)) (mvT hZ (gw hw 140 rfl)) (mvT hZ (gw hw 141 rfl)) (by decide) (backOf (W := 1) (rm_max l Z a0 hw [] (10 : Int32) (1 : Int32) h0 n0 Z0 (by first | assumption | decide)) hZ (gw hw 141 rfl) (gw hw 140 rfl) (by decide) (by decide)) (g := (mkF m 49 #[.val (.ref a), .val (.int (1 : Int32)), .val (.int (0 : Int32)), .unset] [(.int (1 : Int32)), (.int (10 : Int32)), (.ref a)])) rfl (by rw [hml]; rfl) (argsL := [(.int (10 : Int32)), (.int (1 : Int32))]) (rest := [(.ref a)]) (lenOf own_pd1 rfl) rfl (w0 (Nat.le_of_eq rfl)) (hb hby d9_49) (fun _ _ => ⟨rfl, e4, (by decide : 0 + 0 ≤ _), (by decide : 0 + 0 ≤ _)⟩)
  dsimp only [Pt.U, Pt.locs, Pt.cells, Pt.slots] at X5 l5 y5 z5 st5 hQ5
  subst l5 y5 z5
  obtain ⟨rfl, N5q, e5⟩ := hQ5
  have N5 := Fr.app N0 N5q
  refine Gs st5 ?_
  show Goes _ _ _ _ _ (T5.setTop (mkF m 52 #[.val (.ref a), .val (.int (1 : Int32)), .val (.int (0 : Int32)), .unset] [(.int (10 : Int32)), (.ref a)]))
  obtain ⟨T6, h6, k6, X6, e6, E6, A6, AE6, O6, st6⟩ := newRE X5 hx hZ hown (gw hw 142 rfl) (gw hw 143 rfl) e5 (g := (mkF m 52 #[.val (.ref a), .val (.int (1 : Int32)), .val (.int (0 : Int32)), .unset] [(.int (10 : Int32)), (.ref a)])) rfl (hb hby d9_52) rfl (by decide) (cap := 10) (by decide) (by decide) (by decide) (by decide) rfl
  obtain ⟨b6, gq6⟩ : ∃ z, z = h0.size := ⟨_, rfl⟩
  rw [← gq6] at A6 st6 AE6
  have g_b6 : n0 ≤ b6 := by rw [gq6]; exact Z0
  have sz_b6 : h0.size ≤ b6 := by rw [gq6]; exact KP.1
  have ne_a_b6 : a ≠ b6 := by rw [gq6]; exact Nat.ne_of_lt A_a.lt
  have ne_d_b6 : d ≠ b6 := by rw [gq6]; exact Nat.ne_of_lt V_d.lt
  replace A_a := A_a.ext E6
  replace F_modCount_a := F_modCount_a.ext E6
  replace F_elementData_a := F_elementData_a.ext E6
  replace F_size_a := F_size_a.ext E6
  replace KP := KP.ext E6
  replace Z0 : n0 ≤ h6.size := Nat.le_trans Z0 E6.1
  have A_b6 : Exa Z h6 b6 "[Ljava/lang/Object;" := AE6
  have V_b6 : Arv Z h6 b6 k6 (.object "java/lang/Object") (10 : Int32) [.null, .null, .null, .null, .null, .null, .null, .null, .null, .null] .null := (Arv.new A6 (by decide)).pad (pad_rep [] .null 10)
  refine Gs st6 ?_
  show Goes _ _ _ _ _ (T6.setTop (mkF m 55 #[.val (.ref a), .val (.int (1 : Int32)), .val (.int (0 : Int32)), .unset] [(.ref b6), (.ref a)]))
  refine Gs (fun _ tk => XS.dupX1 X6.here hx rfl (hb hby d9_55) rfl rfl rfl tk) ?_
  show Goes _ _ _ _ _ (T6.setTop (mkF m 56 #[.val (.ref a), .val (.int (1 : Int32)), .val (.int (0 : Int32)), .unset] [(.ref b6), (.ref a), (.ref b6)]))
  obtain ⟨T7, h7, X7, e7, W7, st7⟩ := putF X6 hx hZ hown (host := "") (Or.inl (gw hw 42 rfl)) Via.refl e6 F_elementData_a A_a (Or.inl (gw hw 43 rfl)) (gw hw 21 rfl) (ty := (.array (.object "java/lang/Object"))) (by decide) rfl rfl (g := (mkF m 56 #[.val (.ref a), .val (.int (1 : Int32)), .val (.int (0 : Int32)), .unset] [(.ref b6), (.ref a), (.ref b6)])) rfl rfl (hb hby d9_56)
  have N7 := Fr.snoc X7 N5 g_a
  replace F_modCount_a := F_modCount_a.other W7 (Or.inr (slot_ne (Or.inl (gw hw 40 rfl)) (Or.inl (gw hw 43 rfl)) (by decide) (t := .int) (t' := (.array (.object "java/lang/Object"))) (by decide) (by decide)))
  replace F_size_a := F_size_a.other W7 (Or.inr (slot_ne (Or.inl (gw hw 75 rfl)) (Or.inl (gw hw 43 rfl)) (by decide) (t := .int) (t' := (.array (.object "java/lang/Object"))) (by decide) (by decide)))
  replace A_b6 := A_b6.wr W7
  replace V_b6 := V_b6.other W7 (Ne.symm ne_a_b6)
  replace KP := KP.wr W7 (Or.inl (List.mem_of_getElem? (i := 0) rfl))
  replace F_elementData_a := F_elementData_a.same W7
  replace Z0 : n0 ≤ h7.size := by rw [W7.size]; exact Z0
  refine Gs st7 ?_
  show Goes _ _ _ _ _ (T7.setTop (mkF m 59 #[.val (.ref a), .val (.int (1 : Int32)), .val (.int (0 : Int32)), .unset] [(.ref b6)]))
  refine Goes.ret X7 (some (.ref b6)) (fun h => by rw [hret] at h; cases h) hlk (by decide) (by decide) ?_ (fun fs hr => ?_)
  · rw [e7]; exact ⟨b6, k6, rfl, N7, KP, F_modCount_a, F_elementData_a, F_size_a, V_b6, A_b6, O6, g_b6, sz_b6⟩
  · exact own_retA X7 hx hret rfl rfl (hb hby d9_59) hr
theorem d10_0 : decode jdk_38_method_7_code 0 = .ok (.aload_n 0, 1) := by decide +kernel
theorem d10_1 : decode jdk_38_method_7_code 1 = .ok (.aload_n 0, 1) := by decide +kernel
theorem d10_2 : decode jdk_38_method_7_code 2 = .ok (.getfield 48, 3) := by decide +kernel
theorem d10_5 : decode jdk_38_method_7_code 5 = .ok (.iconst 1, 1) := by decide +kernel
theorem d10_6 : decode jdk_38_method_7_code 6 = .ok (.iadd, 1) := by decide +kernel
theorem d10_7 : decode jdk_38_method_7_code 7 = .ok (.invokevirtual 69, 3) := by decide +kernel
theorem own_pd2 : parseMethodDescriptor "(I)[Ljava/lang/Object;" = some ⟨[.int], some (.array (.object "java/lang/Object"))⟩ := by decide +kernel
theorem d10_10 : decode jdk_38_method_7_code 10 = .ok (.areturn, 1) := by decide +kernel
theorem own_ef_rm_grow0 (m : MethodId) (x0 : Addr) : entryFrame m #[(.ref x0)] 1 = mkF m 0 #[.val (.ref x0)] [] := by first | (simp [entryFrame, mkF, argsToLocals, Value.category]; done) | rfl
def Q_rm_grow0 (Z : State) (a : Addr) (mc : Int32) (d : Addr) (kd : ClassId) (h0 : Heap) (n0 : Nat) (v : Option Value) (h : Heap) (L : List Loc) : Prop := ∃ b : Addr, ∃ kb : ClassId, v = some (.ref b) ∧ Fr n0 L ∧ Keep h0 h [a] ∧ Fld Z h a "java/util/AbstractList" "modCount" "I" (.int mc) ∧ Fld Z h a "java/util/ArrayList" "elementData" "[Ljava/lang/Object;" (.ref b) ∧ Fld Z h a "java/util/ArrayList" "size" "I" (.int (0 : Int32)) ∧ Arv Z h b kb (.object "java/lang/Object") (10 : Int32) [.null, .null, .null, .null, .null, .null, .null, .null, .null, .null] .null ∧ Exa Z h b "[Ljava/lang/Object;" ∧ Ovr Z kb "java/lang/Object" ∧ n0 ≤ b ∧ h0.size ≤ b
set_option maxRecDepth 65536 in
set_option maxHeartbeats 40000000 in
theorem rm_grow0 (l : Launch) (Z : State) (a0 : Array Value) (hw : ∀ d ∈ tables_1, d.before a0 Z = true) (ws : List Jvm.Cond) (a : Addr) (mc : Int32) (d : Addr) (kd : ClassId) (h0 : Heap) (n0 : Nat) (Z0 : n0 ≤ h0.size) (A_a : Exa Z h0 a "java/util/ArrayList") (F_modCount_a : Fld Z h0 a "java/util/AbstractList" "modCount" "I" (.int mc)) (F_elementData_a : Fld Z h0 a "java/util/ArrayList" "elementData" "[Ljava/lang/Object;" (.ref d)) (F_size_a : Fld Z h0 a "java/util/ArrayList" "size" "I" (.int (0 : Int32))) (S_DEFAULTCAPACITY_EMPTY_ELEMENTDATA : Sta Z h0 "java/util/ArrayList" "DEFAULTCAPACITY_EMPTY_ELEMENTDATA" "[Ljava/lang/Object;" (.ref d)) (V_d : Arv Z h0 d kd (.object "java/lang/Object") (0 : Int32) [] .null) (g_a : n0 ≤ a) (ne_d_a : d ≠ a) :
    Met l Z mN10 jdk_38_method_7_code 1 (some (.array (.object "java/lang/Object"))) ({ frames := 2, cells := 1, slots := 10, locals := 29 } : Room) ws #[(.ref a)] h0 (Q_rm_grow0 Z a mc d kd h0 n0) := by
  refine own_met (plainFor_of_name own_pn6) ?_
  intro p e s m below meth c s₁ hret hx hby hlk hml hown hnm X0 e0 hZ hh
  have N0 := Fr.nil n0
  refine Gs (fun _ tk => castTop (own_ef_rm_grow0 m a) tk) ?_
  have KP : Keep h0 h0 [a] := Keep.refl _ _
  show Goes _ _ _ _ _ (s₁.setTop (mkF m 0 #[.val (.ref a)] []))
  refine Gs (fun _ tk => XS.aloadN X0.here hx rfl (hb hby d10_0) rfl rfl tk) ?_
  refine Gs (fun _ tk => XS.aloadN X0.here hx rfl (hb hby d10_1) rfl rfl tk) ?_
  obtain ⟨T1, X1, e1, st1⟩ := getF X0 hx hZ hown (host := "") (Or.inl (gw hw 74 rfl)) Via.refl e0 F_size_a (g := (mkF m 2 #[.val (.ref a)] [(.ref a), (.ref a)])) rfl rfl (hb hby d10_2)
  refine Gs st1 ?_
  show Goes _ _ _ _ _ (T1.setTop (mkF m 5 #[.val (.ref a)] [(.int (0 : Int32)), (.ref a)]))
  refine Gs (fun _ tk => XS.iconst X1.here hx rfl (hb hby d10_5) tk) ?_
  show Goes _ _ _ _ _ (T1.setTop (mkF m 6 #[.val (.ref a)] [(.int (1 : Int32)), (.int (0 : Int32)), (.ref a)]))
  refine Gs (fun _ tk => XS.iadd X1.here hx rfl (hb hby d10_6) rfl tk) ?_
  rw [show ((0 : Int32) + (1 : Int32)) = (1 : Int32) from by decide]
  show Goes _ _ _ _ _ (T1.setTop (mkF m 7 #[.val (.ref a)] [(.int (1 : Int32)), (.ref a)]))
  have szs2 : h0.size ≤ h0.size := KP.1
  obtain ⟨cq2, q2, q2'⟩ := A_a.cell
  obtain ⟨_, _, ⟨T2, L2, k2, n2⟩, -, X2, ⟨Lc2, hQ2, l2, y2, z2⟩, st2⟩ := X1.privateBack hx (y := mN9) hown (mvT hZ (gw hw 133 rfl)) (mvT hZ (gw hw 134 rfl)) (mvT hZ (gw hw 136 rfl)) (Cond.privateMethod_at (mvP hZ (gw hw 135 rfl) (args := #[]))) (mvT hZ (gw hw 137 rfl)) (by decide) (backOf (W := 0) (rm_grow1 l Z a0 hw [] a mc d kd h0 n0 Z0 A_a F_modCount_a F_elementData_a F_size_a S_DEFAULTCAPACITY_EMPTY_ELEMENTDATA V_d g_a ne_d_a) hZ (gw hw 137 rfl) (gw hw 22 rfl) (by decide) (by decide)) (g := (mkF m 7 #[.val (.ref a)] [(.int (1 : Int32)), (.ref a)])) rfl (by rw [hml]; rfl) (Steps.refl _) (a := a) (by rw [e1]; exact q2) q2' (argsL := [(.int (1 : Int32))]) (rest := []) (lenOf own_pd2 rfl) rfl (w0 (Nat.le_of_eq rfl)) (hb hby d10_7) (fun _ _ => ⟨rfl, e1, (by decide : 0 + 1 ≤ _), (by decide : 0 + 10 ≤ _)⟩)
  dsimp only [Pt.U, Pt.locs, Pt.cells, Pt.slots] at X2 l2 y2 z2 st2 hQ2
  subst l2 y2 z2
  obtain ⟨b2, kb2, rfl, N2q, K2, F_modCount_a_2', F_elementData_a_2', F_size_a_2', V_b2_2', A_b2_2', Ov_2', g_b2_2', sz_b2_2'⟩ := hQ2
  have N2 := Fr.app N0 N2q
  replace KP := KP.trans K2 (allS (Or.inl (List.mem_of_getElem? (i := 0) rfl)) all0)
  replace Z0 := Nat.le_trans Z0 K2.1
  have F_modCount_a := F_modCount_a_2'
  have F_elementData_a := F_elementData_a_2'
  have F_size_a := F_size_a_2'
  have V_b2 := V_b2_2'
  have A_b2 := A_b2_2'
  have Ov2 := Ov_2'
  have g_b2 := g_b2_2'
  have szc_b2 := sz_b2_2'
  have sz_b2 : h0.size ≤ b2 := Nat.le_trans szs2 szc_b2
  refine Gs (fun _ tk => st2.trans tk) ?_
  show Goes _ _ _ _ _ (T2.setTop (mkF m 10 #[.val (.ref a)] [(.ref b2)]))
  refine Goes.ret X2 (some (.ref b2)) (fun h => by rw [hret] at h; cases h) hlk (by decide) (by decide) ?_ (fun fs hr => ?_)
  · exact ⟨b2, kb2, rfl, N2, KP, F_modCount_a, F_elementData_a, F_size_a, V_b2, A_b2, Ov2, g_b2, sz_b2⟩
  · exact own_retA X2 hx hret rfl rfl (hb hby d10_10) hr
theorem d11_0 : decode jdk_38_method_24_code 0 = .ok (.iload_n 3, 1) := by decide +kernel
theorem d11_1 : decode jdk_38_method_24_code 1 = .ok (.aload_n 2, 1) := by decide +kernel
theorem d11_2 : decode jdk_38_method_24_code 2 = .ok (.arraylength, 1) := by decide +kernel
theorem d11_3 : decode jdk_38_method_24_code 3 = .ok (.if_icmp .ne 8, 3) := by decide +kernel
theorem d11_6 : decode jdk_38_method_24_code 6 = .ok (.aload_n 0, 1) := by decide +kernel
theorem d11_7 : decode jdk_38_method_24_code 7 = .ok (.invokevirtual 129, 3) := by decide +kernel
theorem own_pd3 : parseMethodDescriptor "()[Ljava/lang/Object;" = some ⟨[], some (.array (.object "java/lang/Object"))⟩ := by decide +kernel
theorem d11_10 : decode jdk_38_method_24_code 10 = .ok (.astore_n 2, 1) := by decide +kernel
theorem d11_11 : decode jdk_38_method_24_code 11 = .ok (.aload_n 2, 1) := by decide +kernel
theorem d11_12 : decode jdk_38_method_24_code 12 = .ok (.iload_n 3, 1) := by decide +kernel
theorem d11_13 : decode jdk_38_method_24_code 13 = .ok (.aload_n 1, 1) := by decide +kernel
theorem d11_14 : decode jdk_38_method_24_code 14 = .ok (.aastore, 1) := by decide +kernel
theorem d11_15 : decode jdk_38_method_24_code 15 = .ok (.aload_n 0, 1) := by decide +kernel
theorem d11_16 : decode jdk_38_method_24_code 16 = .ok (.iload_n 3, 1) := by decide +kernel
theorem d11_17 : decode jdk_38_method_24_code 17 = .ok (.iconst 1, 1) := by decide +kernel
theorem d11_18 : decode jdk_38_method_24_code 18 = .ok (.iadd, 1) := by decide +kernel
theorem d11_19 : decode jdk_38_method_24_code 19 = .ok (.putfield 48, 3) := by decide +kernel
theorem d11_22 : decode jdk_38_method_24_code 22 = .ok (.return_, 1) := by decide +kernel
theorem own_ef_rm_addp0 (m : MethodId) (x0 : Addr) (x1 : Addr) (x2 : Addr) (x3 : Int32) : entryFrame m #[(.ref x0), (.ref x1), (.ref x2), (.int x3)] 4 = mkF m 0 #[.val (.ref x0), .val (.ref x1), .val (.ref x2), .val (.int x3)] [] := by first | (simp [entryFrame, mkF, argsToLocals, Value.category]; done) | rfl
def Q_rm_addp0 (Z : State) (a : Addr) (el : Addr) (mc : Int32) (d : Addr) (kd : ClassId) (h0 : Heap) (n0 : Nat) (v : Option Value) (h : Heap) (L : List Loc) : Prop := ∃ b : Addr, ∃ kb : ClassId, v = none ∧ Fr n0 L ∧ Keep h0 h [a] ∧ Fld Z h a "java/util/AbstractList" "modCount" "I" (.int mc) ∧ Fld Z h a "java/util/ArrayList" "elementData" "[Ljava/lang/Object;" (.ref b) ∧ Fld Z h a "java/util/ArrayList" "size" "I" (.int (1 : Int32)) ∧ Arv Z h b kb (.object "java/lang/Object") (10 : Int32) [(.ref el), .null, .null, .null, .null, .null, .null, .null, .null, .null] .null ∧ Exa Z h b "[Ljava/lang/Object;" ∧ Ovr Z kb "java/lang/Object" ∧ n0 ≤ b ∧ h0.size ≤ b
set_option maxRecDepth 65536 in
set_option maxHeartbeats 40000000 in
theorem rm_addp0 (l : Launch) (Z : State) (a0 : Array Value) (hw : ∀ d ∈ tables_1, d.before a0 Z = true) (ws : List Jvm.Cond) (a : Addr) (el : Addr) (mc : Int32) (d : Addr) (kd : ClassId) (h0 : Heap) (n0 : Nat) (Z0 : n0 ≤ h0.size) (A_a : Exa Z h0 a "java/util/ArrayList") (F_modCount_a : Fld Z h0 a "java/util/AbstractList" "modCount" "I" (.int mc)) (F_elementData_a : Fld Z h0 a "java/util/ArrayList" "elementData" "[Ljava/lang/Object;" (.ref d)) (F_size_a : Fld Z h0 a "java/util/ArrayList" "size" "I" (.int (0 : Int32))) (S_DEFAULTCAPACITY_EMPTY_ELEMENTDATA : Sta Z h0 "java/util/ArrayList" "DEFAULTCAPACITY_EMPTY_ELEMENTDATA" "[Ljava/lang/Object;" (.ref d)) (V_d : Arv Z h0 d kd (.object "java/lang/Object") (0 : Int32) [] .null) (g_a : n0 ≤ a) (ne_d_a : d ≠ a) (I_el_8 : Ins Z h0 el "java/lang/Object" true) :
    Met l Z mN11 jdk_38_method_24_code 4 none ({ frames := 3, cells := 1, slots := 10, locals := 41 } : Room) ws #[(.ref a), (.ref el), (.ref d), (.int (0 : Int32))] h0 (Q_rm_addp0 Z a el mc d kd h0 n0) := by
  refine own_met (plainFor_of_name own_pn6) ?_
  intro p e s m below meth c s₁ hret hx hby hlk hml hown hnm X0 e0 hZ hh
  have N0 := Fr.nil n0
  refine Gs (fun _ tk => castTop (own_ef_rm_addp0 m a el d (0 : Int32)) tk) ?_
  have KP : Keep h0 h0 [a] := Keep.refl _ _
  show Goes _ _ _ _ _ (s₁.setTop (mkF m 0 #[.val (.ref a), .val (.ref el), .val (.ref d), .val (.int (0 : Int32))] []))
  refine Gs (fun _ tk => XS.iloadN X0.here hx rfl (hb hby d11_0) rfl tk) ?_
  refine Gs (fun _ tk => XS.aloadN X0.here hx rfl (hb hby d11_1) rfl rfl tk) ?_
  obtain ⟨cl1, Ar1, -, S1, N1z, -, -⟩ := id V_d
  refine Gs (fun _ tk => X0.arraylength hx (by rw [e0]; exact Ar1.1) (State.isArrayOf_alike hZ.alike Ar1.2.1) (g := (mkF m 2 #[.val (.ref a), .val (.ref el), .val (.ref d), .val (.int (0 : Int32))] [(.ref d), (.int (0 : Int32))])) rfl rfl (hb hby d11_2) _ tk) ?_
  rw [len_of S1 N1z]
  show Goes _ _ _ _ _ (s₁.setTop (mkF m 3 #[.val (.ref a), .val (.ref el), .val (.ref d), .val (.int (0 : Int32))] [(.int (0 : Int32)), (.int (0 : Int32))]))
  refine Gs (fun _ tk => XS.icmpNo X0.here hx rfl (hb hby d11_3) rfl (teq (by decide : ((0 : Int32) = (0 : Int32)))).2 tk) ?_
  refine Gs (fun _ tk => XS.aloadN X0.here hx rfl (hb hby d11_6) rfl rfl tk) ?_
  have ltc2_a : a < h0.size := A_a.lt
  have szs2 : h0.size ≤ h0.size := KP.1
  obtain ⟨cq2, q2, q2'⟩ := A_a.cell
  obtain ⟨_, _, ⟨T2, L2, k2, n2⟩, -, X2, ⟨Lc2, hQ2, l2, y2, z2⟩, st2⟩ := X0.privateBack hx (y := mN10) hown (mvT hZ (gw hw 128 rfl)) (mvT hZ (gw hw 129 rfl)) (mvT hZ (gw hw 131 rfl)) (Cond.privateMethod_at (mvP hZ (gw hw 130 rfl) (args := #[]))) (mvT hZ (gw hw 132 rfl)) (by decide) (backOf (W := 0) (rm_grow0 l Z a0 hw [] a mc d kd h0 n0 Z0 A_a F_modCount_a F_elementData_a F_size_a S_DEFAULTCAPACITY_EMPTY_ELEMENTDATA V_d g_a ne_d_a) hZ (gw hw 132 rfl) (gw hw 22 rfl) (by decide) (by decide)) (g := (mkF m 7 #[.val (.ref a), .val (.ref el), .val (.ref d), .val (.int (0 : Int32))] [(.ref a)])) rfl (by rw [hml]; rfl) (Steps.refl _) (a := a) (by rw [e0]; exact q2) q2' (argsL := []) (rest := []) (lenOf own_pd3 rfl) rfl (w0 (Nat.le_of_eq rfl)) (hb hby d11_7) (fun _ _ => ⟨rfl, e0, (by decide : 0 + 1 ≤ _), (by decide : 0 + 10 ≤ _)⟩)
  dsimp only [Pt.U, Pt.locs, Pt.cells, Pt.slots] at X2 l2 y2 z2 st2 hQ2
  subst l2 y2 z2
  obtain ⟨b2, kb2, rfl, N2q, K2, F_modCount_a_2', F_elementData_a_2', F_size_a_2', V_b2_2', A_b2_2', Ov_2', g_b2_2', sz_b2_2'⟩ := hQ2
  have N2 := Fr.app N0 N2q
  replace A_a := A_a.keep K2
  replace I_el_8 := own_insK I_el_8 K2
  replace KP := KP.trans K2 (allS (Or.inl (List.mem_of_getElem? (i := 0) rfl)) all0)
  replace Z0 := Nat.le_trans Z0 K2.1
  have F_modCount_a := F_modCount_a_2'
  have F_elementData_a := F_elementData_a_2'
  have F_size_a := F_size_a_2'
  have V_b2 := V_b2_2'
  have A_b2 := A_b2_2'
  have Ov2 := Ov_2'
  have g_b2 := g_b2_2'
  have szc_b2 := sz_b2_2'
  have ne_a_b2 : a ≠ b2 := Nat.ne_of_lt (Nat.lt_of_lt_of_le ltc2_a szc_b2)
  have sz_b2 : h0.size ≤ b2 := Nat.le_trans szs2 szc_b2
  refine Gs (fun _ tk => st2.trans tk) ?_
  show Goes _ _ _ _ _ (T2.setTop (mkF m 10 #[.val (.ref a), .val (.ref el), .val (.ref d), .val (.int (0 : Int32))] [(.ref b2)]))
  refine Gs (fun _ tk => XS.astoreN X2.here hx rfl (hb hby d11_10) rfl rfl (l' := #[.val (.ref a), .val (.ref el), .val (.ref b2), .val (.int (0 : Int32))]) rfl tk) ?_
  refine Gs (fun _ tk => XS.aloadN X2.here hx rfl (hb hby d11_11) rfl rfl tk) ?_
  refine Gs (fun _ tk => XS.iloadN X2.here hx rfl (hb hby d11_12) rfl tk) ?_
  refine Gs (fun _ tk => XS.aloadN X2.here hx rfl (hb hby d11_13) rfl rfl tk) ?_
  obtain ⟨cl3, Ar3, q3, S3, N3z, H3, G3⟩ := V_b2
  have hin3 : ¬ ((0 : Int32) < 0 ∨ cl3.slots.size ≤ ((0 : Int32)).toNatClampNeg) := inb_of S3 ⟨by decide, by decide⟩
  obtain ⟨T3, h3, X3, e3, W3, st3⟩ := stR X2 hx hZ rfl Ar3 (j := (0 : Int32)) hin3 rfl (Sto.ofV Ar3 q3 Ov2 I_el_8) (g := (mkF m 14 #[.val (.ref a), .val (.ref el), .val (.ref b2), .val (.int (0 : Int32))] [(.ref el), (.int (0 : Int32)), (.ref b2)])) rfl rfl (hb hby d11_14)
  have Vn3 := Arv.set Ar3 q3 S3 N3z H3 G3 rfl W3 0 rfl (Nat.le_of_ble_eq_true rfl)
  have N3 := Fr.snoc X3 N2 g_b2
  replace A_a := A_a.wr W3
  replace F_modCount_a := F_modCount_a.other W3 (Or.inl ne_a_b2)
  replace F_elementData_a := F_elementData_a.other W3 (Or.inl ne_a_b2)
  replace F_size_a := F_size_a.other W3 (Or.inl ne_a_b2)
  replace A_b2 := A_b2.wr W3
  replace KP := KP.wr W3 (Or.inr sz_b2)
  have V_b2 : Arv Z h3 b2 _ (.object "java/lang/Object") (10 : Int32) [(.ref el), .null, .null, .null, .null, .null, .null, .null, .null, .null] .null := Vn3
  replace Z0 : n0 ≤ h3.size := by rw [W3.size]; exact Z0
  refine Gs st3 ?_
  show Goes _ _ _ _ _ (T3.setTop (mkF m 15 #[.val (.ref a), .val (.ref el), .val (.ref b2), .val (.int (0 : Int32))] []))
  refine Gs (fun _ tk => XS.aloadN X3.here hx rfl (hb hby d11_15) rfl rfl tk) ?_
  refine Gs (fun _ tk => XS.iloadN X3.here hx rfl (hb hby d11_16) rfl tk) ?_
  refine Gs (fun _ tk => XS.iconst X3.here hx rfl (hb hby d11_17) tk) ?_
  show Goes _ _ _ _ _ (T3.setTop (mkF m 18 #[.val (.ref a), .val (.ref el), .val (.ref b2), .val (.int (0 : Int32))] [(.int (1 : Int32)), (.int (0 : Int32)), (.ref a)]))
  refine Gs (fun _ tk => XS.iadd X3.here hx rfl (hb hby d11_18) rfl tk) ?_
  rw [show ((0 : Int32) + (1 : Int32)) = (1 : Int32) from by decide]
  show Goes _ _ _ _ _ (T3.setTop (mkF m 19 #[.val (.ref a), .val (.ref el), .val (.ref b2), .val (.int (0 : Int32))] [(.int (1 : Int32)), (.ref a)]))
  obtain ⟨T4, h4, X4, e4, W4, st4⟩ := putF X3 hx hZ hown (host := "") (Or.inl (gw hw 74 rfl)) Via.refl e3 F_size_a A_a (Or.inl (gw hw 75 rfl)) (gw hw 21 rfl) (ty := .int) (by decide) rfl rfl (g := (mkF m 19 #[.val (.ref a), .val (.ref el), .val (.ref b2), .val (.int (0 : Int32))] [(.int (1 : Int32)), (.ref a)])) rfl rfl (hb hby d11_19)
  have N4 := Fr.snoc X4 N3 g_a
  replace F_modCount_a := F_modCount_a.other W4 (Or.inr (slot_ne (Or.inl (gw hw 40 rfl)) (Or.inl (gw hw 75 rfl)) (by decide) (t := .int) (t' := .int) (by decide) (by decide)))
  replace F_elementData_a := F_elementData_a.other W4 (Or.inr (slot_ne (Or.inl (gw hw 43 rfl)) (Or.inl (gw hw 75 rfl)) (by decide) (t := (.array (.object "java/lang/Object"))) (t' := .int) (by decide) (by decide)))
  replace V_b2 := V_b2.other W4 (Ne.symm ne_a_b2)
  replace A_b2 := A_b2.wr W4
  replace KP := KP.wr W4 (Or.inl (List.mem_of_getElem? (i := 0) rfl))
  replace F_size_a := F_size_a.same W4
  replace Z0 : n0 ≤ h4.size := by rw [W4.size]; exact Z0
  refine Gs st4 ?_
  show Goes _ _ _ _ _ (T4.setTop (mkF m 22 #[.val (.ref a), .val (.ref el), .val (.ref b2), .val (.int (0 : Int32))] []))
  refine Goes.ret X4 none (fun _ => rfl) hlk (by decide) (by decide) ?_ (fun fs hr => ?_)
  · rw [e4]; exact ⟨b2, kb2, rfl, N4, KP, F_modCount_a, F_elementData_a, F_size_a, V_b2, A_b2, Ov2, g_b2, sz_b2⟩
  · exact X4.returnOut hx hret (hb hby d11_22) hr
theorem d12_0 : decode jdk_38_method_25_code 0 = .ok (.aload_n 0, 1) := by decide +kernel
theorem d12_1 : decode jdk_38_method_25_code 1 = .ok (.dup, 1) := by decide +kernel
theorem d12_2 : decode jdk_38_method_25_code 2 = .ok (.getfield 63, 3) := by decide +kernel
theorem d12_5 : decode jdk_38_method_25_code 5 = .ok (.iconst 1, 1) := by decide +kernel
theorem d12_6 : decode jdk_38_method_25_code 6 = .ok (.iadd, 1) := by decide +kernel
theorem d12_7 : decode jdk_38_method_25_code 7 = .ok (.putfield 63, 3) := by decide +kernel
theorem d12_10 : decode jdk_38_method_25_code 10 = .ok (.aload_n 0, 1) := by decide +kernel
theorem d12_11 : decode jdk_38_method_25_code 11 = .ok (.aload_n 1, 1) := by decide +kernel
theorem d12_12 : decode jdk_38_method_25_code 12 = .ok (.aload_n 0, 1) := by decide +kernel
theorem d12_13 : decode jdk_38_method_25_code 13 = .ok (.getfield 9, 3) := by decide +kernel
theorem d12_16 : decode jdk_38_method_25_code 16 = .ok (.aload_n 0, 1) := by decide +kernel
theorem d12_17 : decode jdk_38_method_25_code 17 = .ok (.getfield 48, 3) := by decide +kernel
theorem d12_20 : decode jdk_38_method_25_code 20 = .ok (.invokevirtual 131, 3) := by decide +kernel
theorem own_pd4 : parseMethodDescriptor "(Ljava/lang/Object;[Ljava/lang/Object;I)V" = some ⟨[(.object "java/lang/Object"), (.array (.object "java/lang/Object")), .int], none⟩ := by decide +kernel
theorem d12_23 : decode jdk_38_method_25_code 23 = .ok (.iconst 1, 1) := by decide +kernel
theorem d12_24 : decode jdk_38_method_25_code 24 = .ok (.ireturn, 1) := by decide +kernel
theorem own_ef_rm_add0 (m : MethodId) (x0 : Addr) (x1 : Addr) : entryFrame m #[(.ref x0), (.ref x1)] 2 = mkF m 0 #[.val (.ref x0), .val (.ref x1)] [] := by first | (simp [entryFrame, mkF, argsToLocals, Value.category]; done) | rfl
def Q_rm_add0 (Z : State) (a : Addr) (el : Addr) (mc : Int32) (d : Addr) (kd : ClassId) (h0 : Heap) (n0 : Nat) (v : Option Value) (h : Heap) (L : List Loc) : Prop := ∃ b : Addr, ∃ kb : ClassId, v = some (.int (1 : Int32)) ∧ Fr n0 L ∧ Keep h0 h [a] ∧ Fld Z h a "java/util/AbstractList" "modCount" "I" (.int (mc + (1 : Int32))) ∧ Fld Z h a "java/util/ArrayList" "elementData" "[Ljava/lang/Object;" (.ref b) ∧ Fld Z h a "java/util/ArrayList" "size" "I" (.int (1 : Int32)) ∧ Arv Z h b kb (.object "java/lang/Object") (10 : Int32) [(.ref el), .null, .null, .null, .null, .null, .null, .null, .null, .null] .null ∧ Exa Z h b "[Ljava/lang/Object;" ∧ Ovr Z kb "java/lang/Object" ∧ n0 ≤ b ∧ h0.size ≤ b
set_option maxRecDepth 65536 in
set_option maxHeartbeats 40000000 in
theorem rm_add0 (l : Launch) (Z : State) (a0 : Array Value) (hw : ∀ d ∈ tables_1, d.before a0 Z = true) (ws : List Jvm.Cond) (a : Addr) (el : Addr) (mc : Int32) (d : Addr) (kd : ClassId) (h0 : Heap) (n0 : Nat) (Z0 : n0 ≤ h0.size) (A_a : Exa Z h0 a "java/util/ArrayList") (F_modCount_a : Fld Z h0 a "java/util/AbstractList" "modCount" "I" (.int mc)) (F_elementData_a : Fld Z h0 a "java/util/ArrayList" "elementData" "[Ljava/lang/Object;" (.ref d)) (F_size_a : Fld Z h0 a "java/util/ArrayList" "size" "I" (.int (0 : Int32))) (S_DEFAULTCAPACITY_EMPTY_ELEMENTDATA : Sta Z h0 "java/util/ArrayList" "DEFAULTCAPACITY_EMPTY_ELEMENTDATA" "[Ljava/lang/Object;" (.ref d)) (V_d : Arv Z h0 d kd (.object "java/lang/Object") (0 : Int32) [] .null) (g_a : n0 ≤ a) (ne_d_a : d ≠ a) (I_el_8 : Ins Z h0 el "java/lang/Object" true) :
    Met l Z mN12 jdk_38_method_25_code 2 (some .boolean) ({ frames := 4, cells := 1, slots := 10, locals := 56 } : Room) ws #[(.ref a), (.ref el)] h0 (Q_rm_add0 Z a el mc d kd h0 n0) := by
  refine own_met (plainFor_of_name own_pn6) ?_
  intro p e s m below meth c s₁ hret hx hby hlk hml hown hnm X0 e0 hZ hh
  have N0 := Fr.nil n0
  refine Gs (fun _ tk => castTop (own_ef_rm_add0 m a el) tk) ?_
  have KP : Keep h0 h0 [a] := Keep.refl _ _
  show Goes _ _ _ _ _ (s₁.setTop (mkF m 0 #[.val (.ref a), .val (.ref el)] []))
  refine Gs (fun _ tk => XS.aloadN X0.here hx rfl (hb hby d12_0) rfl rfl tk) ?_
  refine Gs (fun _ tk => XS.dup X0.here hx rfl (hb hby d12_1) rfl rfl tk) ?_
  obtain ⟨T1, X1, e1, st1⟩ := getF X0 hx hZ hown (host := "") (Or.inl (gw hw 121 rfl)) (Via.of (gw hw 122 rfl)) e0 F_modCount_a (g := (mkF m 2 #[.val (.ref a), .val (.ref el)] [(.ref a), (.ref a)])) rfl rfl (hb hby d12_2)
  refine Gs st1 ?_
  show Goes _ _ _ _ _ (T1.setTop (mkF m 5 #[.val (.ref a), .val (.ref el)] [(.int mc), (.ref a)]))
  refine Gs (fun _ tk => XS.iconst X1.here hx rfl (hb hby d12_5) tk) ?_
  show Goes _ _ _ _ _ (T1.setTop (mkF m 6 #[.val (.ref a), .val (.ref el)] [(.int (1 : Int32)), (.int mc), (.ref a)]))
  refine Gs (fun _ tk => XS.iadd X1.here hx rfl (hb hby d12_6) rfl tk) ?_
  show Goes _ _ _ _ _ (T1.setTop (mkF m 7 #[.val (.ref a), .val (.ref el)] [(.int (mc + (1 : Int32))), (.ref a)]))
  obtain ⟨T2, h2, X2, e2, W2, st2⟩ := putF X1 hx hZ hown (host := "") (Or.inl (gw hw 121 rfl)) (Via.of (gw hw 122 rfl)) e1 F_modCount_a A_a (Or.inl (gw hw 40 rfl)) (gw hw 21 rfl) (ty := .int) (by decide) rfl rfl (g := (mkF m 7 #[.val (.ref a), .val (.ref el)] [(.int (mc + (1 : Int32))), (.ref a)])) rfl rfl (hb hby d12_7)
  have N2 := Fr.snoc X2 N0 g_a
  replace A_a := A_a.wr W2
  replace F_elementData_a := F_elementData_a.other W2 (Or.inr (slot_ne (Or.inl (gw hw 43 rfl)) (Or.inl (gw hw 40 rfl)) (by decide) (t := (.array (.object "java/lang/Object"))) (t' := .int) (by decide) (by decide)))
  replace F_size_a := F_size_a.other W2 (Or.inr (slot_ne (Or.inl (gw hw 75 rfl)) (Or.inl (gw hw 40 rfl)) (by decide) (t := .int) (t' := .int) (by decide) (by decide)))
  replace S_DEFAULTCAPACITY_EMPTY_ELEMENTDATA := S_DEFAULTCAPACITY_EMPTY_ELEMENTDATA.wr W2
  replace V_d := V_d.other W2 ne_d_a
  replace I_el_8 := I_el_8.wr W2
  replace KP := KP.wr W2 (Or.inl (List.mem_of_getElem? (i := 0) rfl))
  replace F_modCount_a := F_modCount_a.same W2
  replace Z0 : n0 ≤ h2.size := by rw [W2.size]; exact Z0
  refine Gs st2 ?_
  show Goes _ _ _ _ _ (T2.setTop (mkF m 10 #[.val (.ref a), .val (.ref el)] []))
  refine Gs (fun _ tk => XS.aloadN X2.here hx rfl (hb hby d12_10) rfl rfl tk) ?_
  refine Gs (fun _ tk => XS.aloadN X2.here hx rfl (hb hby d12_11) rfl rfl tk) ?_
  refine Gs (fun _ tk => XS.aloadN X2.here hx rfl (hb hby d12_12) rfl rfl tk) ?_
  obtain ⟨T3, X3, e3, st3⟩ := getF X2 hx hZ hown (host := "") (Or.inl (gw hw 42 rfl)) Via.refl e2 F_elementData_a (g := (mkF m 13 #[.val (.ref a), .val (.ref el)] [(.ref a), (.ref el), (.ref a)])) rfl rfl (hb hby d12_13)
  refine Gs st3 ?_
  show Goes _ _ _ _ _ (T3.setTop (mkF m 16 #[.val (.ref a), .val (.ref el)] [(.ref d), (.ref el), (.ref a)]))
  refine Gs (fun _ tk => XS.aloadN X3.here hx rfl (hb hby d12_16) rfl rfl tk) ?_
  obtain ⟨T4, X4, e4, st4⟩ := getF X3 hx hZ hown (host := "") (Or.inl (gw hw 74 rfl)) Via.refl e3 F_size_a (g := (mkF m 17 #[.val (.ref a), .val (.ref el)] [(.ref a), (.ref d), (.ref el), (.ref a)])) rfl rfl (hb hby d12_17)
  refine Gs st4 ?_
  show Goes _ _ _ _ _ (T4.setTop (mkF m 20 #[.val (.ref a), .val (.ref el)] [(.int (0 : Int32)), (.ref d), (.ref el), (.ref a)]))
  have szs5 : h0.size ≤ h2.size := KP.1
  obtain ⟨cq5, q5, q5'⟩ := A_a.cell
  obtain ⟨_, _, ⟨T5, L5, k5, n5⟩, -, X5, ⟨Lc5, hQ5, l5, y5, z5⟩, st5⟩ := X4.privateBack hx (y := mN11) hown (mvT hZ (gw hw 123 rfl)) (mvT hZ (gw hw 124 rfl)) (mvT hZ (gw hw 126 rfl)) (Cond.privateMethod_at (mvP hZ (gw hw 125 rfl) (args := #[]))) (mvT hZ (gw hw 127 rfl)) (by decide) (backOf (W := 0) (rm_addp0 l Z a0 hw [] a el (mc + (1 : Int32)) d kd h2 n0 Z0 A_a F_modCount_a F_elementData_a F_size_a S_DEFAULTCAPACITY_EMPTY_ELEMENTDATA V_d g_a ne_d_a I_el_8) hZ (gw hw 127 rfl) (gw hw 22 rfl) (by decide) (by decide)) (g := (mkF m 20 #[.val (.ref a), .val (.ref el)] [(.int (0 : Int32)), (.ref d), (.ref el), (.ref a)])) rfl (by rw [hml]; rfl) (Steps.refl _) (a := a) (by rw [e4]; exact q5) q5' (argsL := [(.ref el), (.ref d), (.int (0 : Int32))]) (rest := []) (lenOf own_pd4 rfl) rfl (w0 (Nat.le_of_eq rfl)) (hb hby d12_20) (fun _ _ => ⟨rfl, e4, (by decide : 0 + 1 ≤ _), (by decide : 0 + 10 ≤ _)⟩)
  dsimp only [Pt.U, Pt.locs, Pt.cells, Pt.slots] at X5 l5 y5 z5 st5 hQ5
  subst l5 y5 z5
  obtain ⟨b5, kb5, rfl, N5q, K5, F_modCount_a_5', F_elementData_a_5', F_size_a_5', V_b5_5', A_b5_5', Ov_5', g_b5_5', sz_b5_5'⟩ := hQ5
  have N5 := Fr.app N2 N5q
  replace KP := KP.trans K5 (allS (Or.inl (List.mem_of_getElem? (i := 0) rfl)) all0)
  replace Z0 := Nat.le_trans Z0 K5.1
  have F_modCount_a := F_modCount_a_5'
  have F_elementData_a := F_elementData_a_5'
  have F_size_a := F_size_a_5'
  have V_b5 := V_b5_5'
  have A_b5 := A_b5_5'
  have Ov5 := Ov_5'
  have g_b5 := g_b5_5'
  have szc_b5 := sz_b5_5'
  have sz_b5 : h0.size ≤ b5 := Nat.le_trans szs5 szc_b5
  refine Gs (fun _ tk => st5.trans tk) ?_
  show Goes _ _ _ _ _ (T5.setTop (mkF m 23 #[.val (.ref a), .val (.ref el)] []))
  refine Gs (fun _ tk => XS.iconst X5.here hx rfl (hb hby d12_23) tk) ?_
  refine Goes.ret X5 (some (.int (1 : Int32))) (fun h => by rw [hret] at h; cases h) hlk (by decide) (by decide) ?_ (fun fs hr => ?_)
  · exact ⟨b5, kb5, rfl, N5, KP, F_modCount_a, F_elementData_a, F_size_a, V_b5, A_b5, Ov5, g_b5, sz_b5⟩
  · exact own_retN X5 hx (t := .boolean) hret (by simp) rfl (hb hby d12_24) hr
theorem own_ef_rm_addp1 (m : MethodId) (x0 : Addr) (x1 : Addr) (x2 : Addr) (x3 : Int32) : entryFrame m #[(.ref x0), (.ref x1), (.ref x2), (.int x3)] 4 = mkF m 0 #[.val (.ref x0), .val (.ref x1), .val (.ref x2), .val (.int x3)] [] := by first | (simp [entryFrame, mkF, argsToLocals, Value.category]; done) | rfl
def Q_rm_addp1 (Z : State) (a : Addr) (el0 : Addr) (el : Addr) (mc : Int32) (b : Addr) (kb : ClassId) (h0 : Heap) (n0 : Nat) (v : Option Value) (h : Heap) (L : List Loc) : Prop := v = none ∧ Fr n0 L ∧ Keep h0 h [a, b] ∧ Fld Z h a "java/util/AbstractList" "modCount" "I" (.int mc) ∧ Fld Z h a "java/util/ArrayList" "elementData" "[Ljava/lang/Object;" (.ref b) ∧ Fld Z h a "java/util/ArrayList" "size" "I" (.int (2 : Int32)) ∧ Arv Z h b kb (.object "java/lang/Object") (10 : Int32) [(.ref el0), (.ref el), .null, .null, .null, .null, .null, .null, .null, .null] .null
set_option maxRecDepth 65536 in
set_option maxHeartbeats 40000000 in
theorem rm_addp1 (l : Launch) (Z : State) (a0 : Array Value) (hw : ∀ d ∈ tables_1, d.before a0 Z = true) (ws : List Jvm.Cond) (a : Addr) (el0 : Addr) (el : Addr) (mc : Int32) (b : Addr) (kb : ClassId) (h0 : Heap) (n0 : Nat) (Z0 : n0 ≤ h0.size) (A_a : Exa Z h0 a "java/util/ArrayList") (F_modCount_a : Fld Z h0 a "java/util/AbstractList" "modCount" "I" (.int mc)) (F_elementData_a : Fld Z h0 a "java/util/ArrayList" "elementData" "[Ljava/lang/Object;" (.ref b)) (F_size_a : Fld Z h0 a "java/util/ArrayList" "size" "I" (.int (1 : Int32))) (V_b : Arv Z h0 b kb (.object "java/lang/Object") (10 : Int32) [(.ref el0), .null, .null, .null, .null, .null, .null, .null, .null, .null] .null) (A_b : Exa Z h0 b "[Ljava/lang/Object;") (Ov : Ovr Z kb "java/lang/Object") (g_b : n0 ≤ b) (g_a : n0 ≤ a) (ne_b_a : b ≠ a) (I_el_10 : Ins Z h0 el "java/lang/Object" true) :
    Met l Z mN11 jdk_38_method_24_code 4 none ({ frames := 0, cells := 0, slots := 0, locals := 0 } : Room) ws #[(.ref a), (.ref el), (.ref b), (.int (1 : Int32))] h0 (Q_rm_addp1 Z a el0 el mc b kb h0 n0) := by
  refine own_met (plainFor_of_name own_pn6) ?_
  intro p e s m below meth c s₁ hret hx hby hlk hml hown hnm X0 e0 hZ hh
  have N0 := Fr.nil n0
  refine Gs (fun _ tk => castTop (own_ef_rm_addp1 m a el b (1 : Int32)) tk) ?_
  have KP : Keep h0 h0 [a, b] := Keep.refl _ _
  show Goes _ _ _ _ _ (s₁.setTop (mkF m 0 #[.val (.ref a), .val (.ref el), .val (.ref b), .val (.int (1 : Int32))] []))
  refine Gs (fun _ tk => XS.iloadN X0.here hx rfl (hb hby d11_0) rfl tk) ?_
  refine Gs (fun _ tk => XS.aloadN X0.here hx rfl (hb hby d11_1) rfl rfl tk) ?_
  obtain ⟨cl1, Ar1, -, S1, N1z, -, -⟩ := id V_b
  refine Gs (fun _ tk => X0.arraylength hx (by rw [e0]; exact Ar1.1) (State.isArrayOf_alike hZ.alike Ar1.2.1) (g := (mkF m 2 #[.val (.ref a), .val (.ref el), .val (.ref b), .val (.int (1 : Int32))] [(.ref b), (.int (1 : Int32))])) rfl rfl (hb hby d11_2) _ tk) ?_
  rw [len_of S1 N1z]
  show Goes _ _ _ _ _ (s₁.setTop (mkF m 3 #[.val (.ref a), .val (.ref el), .val (.ref b), .val (.int (1 : Int32))] [(.int (10 : Int32)), (.int (1 : Int32))]))
  refine Gs (fun _ tk => XS.icmpYes X0.here hx rfl (pc0 := 3) (pc' := 11) rfl (hb hby d11_3) rfl (feq (by decide : ¬ ((1 : Int32) = (10 : Int32)))).2 (by decide) (by decide) tk) ?_
  refine Gs (fun _ tk => XS.aloadN X0.here hx rfl (hb hby d11_11) rfl rfl tk) ?_
  refine Gs (fun _ tk => XS.iloadN X0.here hx rfl (hb hby d11_12) rfl tk) ?_
  refine Gs (fun _ tk => XS.aloadN X0.here hx rfl (hb hby d11_13) rfl rfl tk) ?_
  obtain ⟨cl2, Ar2, q2, S2, N2z, H2, G2⟩ := V_b
  have hin2 : ¬ ((1 : Int32) < 0 ∨ cl2.slots.size ≤ ((1 : Int32)).toNatClampNeg) := inb_of S2 ⟨by decide, by decide⟩
  obtain ⟨T2, h2, X2, e2, W2, st2⟩ := stR X0 hx hZ e0 Ar2 (j := (1 : Int32)) hin2 rfl (Sto.ofV Ar2 q2 Ov I_el_10) (g := (mkF m 14 #[.val (.ref a), .val (.ref el), .val (.ref b), .val (.int (1 : Int32))] [(.ref el), (.int (1 : Int32)), (.ref b)])) rfl rfl (hb hby d11_14)
  have Vn2 := Arv.set Ar2 q2 S2 N2z H2 G2 rfl W2 1 rfl (Nat.le_of_ble_eq_true rfl)
  have N2 := Fr.snoc X2 N0 g_b
  replace A_a := A_a.wr W2
  replace F_modCount_a := F_modCount_a.other W2 (Or.inl (Ne.symm ne_b_a))
  replace F_elementData_a := F_elementData_a.other W2 (Or.inl (Ne.symm ne_b_a))
  replace F_size_a := F_size_a.other W2 (Or.inl (Ne.symm ne_b_a))
  replace KP := KP.wr W2 (Or.inl (List.mem_of_getElem? (i := 1) rfl))
  have V_b : Arv Z h2 b _ (.object "java/lang/Object") (10 : Int32) [(.ref el0), (.ref el), .null, .null, .null, .null, .null, .null, .null, .null] .null := Vn2
  replace Z0 : n0 ≤ h2.size := by rw [W2.size]; exact Z0
  refine Gs st2 ?_
  show Goes _ _ _ _ _ (T2.setTop (mkF m 15 #[.val (.ref a), .val (.ref el), .val (.ref b), .val (.int (1 : Int32))] []))
  refine Gs (fun _ tk => XS.aloadN X2.here hx rfl (hb hby d11_15) rfl rfl tk) ?_
  refine Gs (fun _ tk => XS.iloadN X2.here hx rfl (hb hby d11_16) rfl tk) ?_
  refine Gs (fun _ tk => XS.iconst X2.here hx rfl (hb hby d11_17) tk) ?_
  show Goes _ _ _ _ _ (T2.setTop (mkF m 18 #[.val (.ref a), .val (.ref el), .val (.ref b), .val (.int (1 : Int32))] [(.int (1 : Int32)), (.int (1 : Int32)), (.ref a)]))
  refine Gs (fun _ tk => XS.iadd X2.here hx rfl (hb hby d11_18) rfl tk) ?_
  rw [show ((1 : Int32) + (1 : Int32)) = (2 : Int32) from by decide]
  show Goes _ _ _ _ _ (T2.setTop (mkF m 19 #[.val (.ref a), .val (.ref el), .val (.ref b), .val (.int (1 : Int32))] [(.int (2 : Int32)), (.ref a)]))
  obtain ⟨T3, h3, X3, e3, W3, st3⟩ := putF X2 hx hZ hown (host := "") (Or.inl (gw hw 74 rfl)) Via.refl e2 F_size_a A_a (Or.inl (gw hw 75 rfl)) (gw hw 21 rfl) (ty := .int) (by decide) rfl rfl (g := (mkF m 19 #[.val (.ref a), .val (.ref el), .val (.ref b), .val (.int (1 : Int32))] [(.int (2 : Int32)), (.ref a)])) rfl rfl (hb hby d11_19)
  have N3 := Fr.snoc X3 N2 g_a
  replace F_modCount_a := F_modCount_a.other W3 (Or.inr (slot_ne (Or.inl (gw hw 40 rfl)) (Or.inl (gw hw 75 rfl)) (by decide) (t := .int) (t' := .int) (by decide) (by decide)))
  replace F_elementData_a := F_elementData_a.other W3 (Or.inr (slot_ne (Or.inl (gw hw 43 rfl)) (Or.inl (gw hw 75 rfl)) (by decide) (t := (.array (.object "java/lang/Object"))) (t' := .int) (by decide) (by decide)))
  replace V_b := V_b.other W3 ne_b_a
  replace KP := KP.wr W3 (Or.inl (List.mem_of_getElem? (i := 0) rfl))
  replace F_size_a := F_size_a.same W3
  replace Z0 : n0 ≤ h3.size := by rw [W3.size]; exact Z0
  refine Gs st3 ?_
  show Goes _ _ _ _ _ (T3.setTop (mkF m 22 #[.val (.ref a), .val (.ref el), .val (.ref b), .val (.int (1 : Int32))] []))
  refine Goes.ret X3 none (fun _ => rfl) hlk (by decide) (by decide) ?_ (fun fs hr => ?_)
  · rw [e3]; exact ⟨rfl, N3, KP, F_modCount_a, F_elementData_a, F_size_a, V_b⟩
  · exact X3.returnOut hx hret (hb hby d11_22) hr
theorem own_ef_rm_add1 (m : MethodId) (x0 : Addr) (x1 : Addr) : entryFrame m #[(.ref x0), (.ref x1)] 2 = mkF m 0 #[.val (.ref x0), .val (.ref x1)] [] := by first | (simp [entryFrame, mkF, argsToLocals, Value.category]; done) | rfl
def Q_rm_add1 (Z : State) (a : Addr) (el0 : Addr) (el : Addr) (mc : Int32) (b : Addr) (kb : ClassId) (h0 : Heap) (n0 : Nat) (v : Option Value) (h : Heap) (L : List Loc) : Prop := v = some (.int (1 : Int32)) ∧ Fr n0 L ∧ Keep h0 h [a, b] ∧ Fld Z h a "java/util/AbstractList" "modCount" "I" (.int (mc + (1 : Int32))) ∧ Fld Z h a "java/util/ArrayList" "elementData" "[Ljava/lang/Object;" (.ref b) ∧ Fld Z h a "java/util/ArrayList" "size" "I" (.int (2 : Int32)) ∧ Arv Z h b kb (.object "java/lang/Object") (10 : Int32) [(.ref el0), (.ref el), .null, .null, .null, .null, .null, .null, .null, .null] .null
set_option maxRecDepth 65536 in
set_option maxHeartbeats 40000000 in
theorem rm_add1 (l : Launch) (Z : State) (a0 : Array Value) (hw : ∀ d ∈ tables_1, d.before a0 Z = true) (ws : List Jvm.Cond) (a : Addr) (el0 : Addr) (el : Addr) (mc : Int32) (b : Addr) (kb : ClassId) (h0 : Heap) (n0 : Nat) (Z0 : n0 ≤ h0.size) (A_a : Exa Z h0 a "java/util/ArrayList") (F_modCount_a : Fld Z h0 a "java/util/AbstractList" "modCount" "I" (.int mc)) (F_elementData_a : Fld Z h0 a "java/util/ArrayList" "elementData" "[Ljava/lang/Object;" (.ref b)) (F_size_a : Fld Z h0 a "java/util/ArrayList" "size" "I" (.int (1 : Int32))) (V_b : Arv Z h0 b kb (.object "java/lang/Object") (10 : Int32) [(.ref el0), .null, .null, .null, .null, .null, .null, .null, .null, .null] .null) (A_b : Exa Z h0 b "[Ljava/lang/Object;") (Ov : Ovr Z kb "java/lang/Object") (g_b : n0 ≤ b) (g_a : n0 ≤ a) (ne_b_a : b ≠ a) (I_el_10 : Ins Z h0 el "java/lang/Object" true) :
    Met l Z mN12 jdk_38_method_25_code 2 (some .boolean) ({ frames := 1, cells := 0, slots := 0, locals := 15 } : Room) ws #[(.ref a), (.ref el)] h0 (Q_rm_add1 Z a el0 el mc b kb h0 n0) := by
  refine own_met (plainFor_of_name own_pn6) ?_
  intro p e s m below meth c s₁ hret hx hby hlk hml hown hnm X0 e0 hZ hh
  have N0 := Fr.nil n0
  refine Gs (fun _ tk => castTop (own_ef_rm_add1 m a el) tk) ?_
  have KP : Keep h0 h0 [a, b] := Keep.refl _ _
  show Goes _ _ _ _ _ (s₁.setTop (mkF m 0 #[.val (.ref a), .val (.ref el)] []))
  refine Gs (fun _ tk => XS.aloadN X0.here hx rfl (hb hby d12_0) rfl rfl tk) ?_
  refine Gs (fun _ tk => XS.dup X0.here hx rfl (hb hby d12_1) rfl rfl tk) ?_
  obtain ⟨T1, X1, e1, st1⟩ := getF X0 hx hZ hown (host := "") (Or.inl (gw hw 121 rfl)) (Via.of (gw hw 122 rfl)) e0 F_modCount_a (g := (mkF m 2 #[.val (.ref a), .val (.ref el)] [(.ref a), (.ref a)])) rfl rfl (hb hby d12_2)
  refine Gs st1 ?_
  show Goes _ _ _ _ _ (T1.setTop (mkF m 5 #[.val (.ref a), .val (.ref el)] [(.int mc), (.ref a)]))
  refine Gs (fun _ tk => XS.iconst X1.here hx rfl (hb hby d12_5) tk) ?_
  show Goes _ _ _ _ _ (T1.setTop (mkF m 6 #[.val (.ref a), .val (.ref el)] [(.int (1 : Int32)), (.int mc), (.ref a)]))
  refine Gs (fun _ tk => XS.iadd X1.here hx rfl (hb hby d12_6) rfl tk) ?_
  show Goes _ _ _ _ _ (T1.setTop (mkF m 7 #[.val (.ref a), .val (.ref el)] [(.int (mc + (1 : Int32))), (.ref a)]))
  obtain ⟨T2, h2, X2, e2, W2, st2⟩ := putF X1 hx hZ hown (host := "") (Or.inl (gw hw 121 rfl)) (Via.of (gw hw 122 rfl)) e1 F_modCount_a A_a (Or.inl (gw hw 40 rfl)) (gw hw 21 rfl) (ty := .int) (by decide) rfl rfl (g := (mkF m 7 #[.val (.ref a), .val (.ref el)] [(.int (mc + (1 : Int32))), (.ref a)])) rfl rfl (hb hby d12_7)
  have N2 := Fr.snoc X2 N0 g_a
  replace A_a := A_a.wr W2
  replace F_elementData_a := F_elementData_a.other W2 (Or.inr (slot_ne (Or.inl (gw hw 43 rfl)) (Or.inl (gw hw 40 rfl)) (by decide) (t := (.array (.object "java/lang/Object"))) (t' := .int) (by decide) (by decide)))
  replace F_size_a := F_size_a.other W2 (Or.inr (slot_ne (Or.inl (gw hw 75 rfl)) (Or.inl (gw hw 40 rfl)) (by decide) (t := .int) (t' := .int) (by decide) (by decide)))
  replace V_b := V_b.other W2 ne_b_a
  replace A_b := A_b.wr W2
  replace I_el_10 := I_el_10.wr W2
  replace KP := KP.wr W2 (Or.inl (List.mem_of_getElem? (i := 0) rfl))
  replace F_modCount_a := F_modCount_a.same W2
  replace Z0 : n0 ≤ h2.size := by rw [W2.size]; exact Z0
  refine Gs st2 ?_
  show Goes _ _ _ _ _ (T2.setTop (mkF m 10 #[.val (.ref a), .val (.ref el)] []))
  refine Gs (fun _ tk => XS.aloadN X2.here hx rfl (hb hby d12_10) rfl rfl tk) ?_
  refine Gs (fun _ tk => XS.aloadN X2.here hx rfl (hb hby d12_11) rfl rfl tk) ?_
  refine Gs (fun _ tk => XS.aloadN X2.here hx rfl (hb hby d12_12) rfl rfl tk) ?_
  obtain ⟨T3, X3, e3, st3⟩ := getF X2 hx hZ hown (host := "") (Or.inl (gw hw 42 rfl)) Via.refl e2 F_elementData_a (g := (mkF m 13 #[.val (.ref a), .val (.ref el)] [(.ref a), (.ref el), (.ref a)])) rfl rfl (hb hby d12_13)
  refine Gs st3 ?_
  show Goes _ _ _ _ _ (T3.setTop (mkF m 16 #[.val (.ref a), .val (.ref el)] [(.ref b), (.ref el), (.ref a)]))
  refine Gs (fun _ tk => XS.aloadN X3.here hx rfl (hb hby d12_16) rfl rfl tk) ?_
  obtain ⟨T4, X4, e4, st4⟩ := getF X3 hx hZ hown (host := "") (Or.inl (gw hw 74 rfl)) Via.refl e3 F_size_a (g := (mkF m 17 #[.val (.ref a), .val (.ref el)] [(.ref a), (.ref b), (.ref el), (.ref a)])) rfl rfl (hb hby d12_17)
  refine Gs st4 ?_
  show Goes _ _ _ _ _ (T4.setTop (mkF m 20 #[.val (.ref a), .val (.ref el)] [(.int (1 : Int32)), (.ref b), (.ref el), (.ref a)]))
  obtain ⟨cq5, q5, q5'⟩ := A_a.cell
  obtain ⟨_, _, ⟨T5, L5, k5, n5⟩, -, X5, ⟨Lc5, hQ5, l5, y5, z5⟩, st5⟩ := X4.privateBack hx (y := mN11) hown (mvT hZ (gw hw 123 rfl)) (mvT hZ (gw hw 124 rfl)) (mvT hZ (gw hw 126 rfl)) (Cond.privateMethod_at (mvP hZ (gw hw 125 rfl) (args := #[]))) (mvT hZ (gw hw 127 rfl)) (by decide) (backOf (W := 0) (rm_addp1 l Z a0 hw [] a el0 el (mc + (1 : Int32)) b kb h2 n0 Z0 A_a F_modCount_a F_elementData_a F_size_a V_b A_b (by first | assumption | decide) g_b g_a ne_b_a I_el_10) hZ (gw hw 127 rfl) (gw hw 22 rfl) (by decide) (by decide)) (g := (mkF m 20 #[.val (.ref a), .val (.ref el)] [(.int (1 : Int32)), (.ref b), (.ref el), (.ref a)])) rfl (by rw [hml]; rfl) (Steps.refl _) (a := a) (by rw [e4]; exact q5) q5' (argsL := [(.ref el), (.ref b), (.int (1 : Int32))]) (rest := []) (lenOf own_pd4 rfl) rfl (w0 (Nat.le_of_eq rfl)) (hb hby d12_20) (fun _ _ => ⟨rfl, e4, (by decide : 0 + 0 ≤ _), (by decide : 0 + 0 ≤ _)⟩)
  dsimp only [Pt.U, Pt.locs, Pt.cells, Pt.slots] at X5 l5 y5 z5 st5 hQ5
  subst l5 y5 z5
  obtain ⟨rfl, N5q, K5, F_modCount_a_5', F_elementData_a_5', F_size_a_5', V_b_5'⟩ := hQ5
  have N5 := Fr.app N2 N5q
  replace KP := KP.trans K5 (allS (Or.inl (List.mem_of_getElem? (i := 0) rfl)) (allS (Or.inl (List.mem_of_getElem? (i := 1) rfl)) all0))
  replace Z0 := Nat.le_trans Z0 K5.1
  have F_modCount_a := F_modCount_a_5'
  have F_elementData_a := F_elementData_a_5'
  have F_size_a := F_size_a_5'
  have V_b := V_b_5'
  refine Gs (fun _ tk => st5.trans tk) ?_
  show Goes _ _ _ _ _ (T5.setTop (mkF m 23 #[.val (.ref a), .val (.ref el)] []))
  refine Gs (fun _ tk => XS.iconst X5.here hx rfl (hb hby d12_23) tk) ?_
  refine Goes.ret X5 (some (.int (1 : Int32))) (fun h => by rw [hret] at h; cases h) hlk (by decide) (by decide) ?_ (fun fs hr => ?_)
  · exact ⟨rfl, N5, KP, F_modCount_a, F_elementData_a, F_size_a, V_b⟩
  · exact own_retN X5 hx (t := .boolean) hret (by simp) rfl (hb hby d12_24) hr
theorem d13_0 : decode jdk_38_method_9_code 0 = .ok (.aload_n 0, 1) := by decide +kernel
theorem d13_1 : decode jdk_38_method_9_code 1 = .ok (.getfield 48, 3) := by decide +kernel
theorem d13_4 : decode jdk_38_method_9_code 4 = .ok (.ifCond .ne 7, 3) := by decide +kernel
theorem d13_7 : decode jdk_38_method_9_code 7 = .ok (.iconst 1, 1) := by decide +kernel
theorem d13_8 : decode jdk_38_method_9_code 8 = .ok (.goto 4, 3) := by decide +kernel
theorem d13_12 : decode jdk_38_method_9_code 12 = .ok (.ireturn, 1) := by decide +kernel
theorem own_ef_rm_emp0 (m : MethodId) (x0 : Addr) : entryFrame m #[(.ref x0)] 1 = mkF m 0 #[.val (.ref x0)] [] := by first | (simp [entryFrame, mkF, argsToLocals, Value.category]; done) | rfl
def Q_rm_emp0 (Z : State) (a : Addr) (h0 : Heap) (n0 : Nat) (v : Option Value) (h : Heap) (L : List Loc) : Prop := v = some (.int (1 : Int32)) ∧ Fr n0 L ∧ h = h0
set_option maxRecDepth 65536 in
set_option maxHeartbeats 40000000 in
theorem rm_emp0 (l : Launch) (Z : State) (a0 : Array Value) (hw : ∀ d ∈ tables_1, d.before a0 Z = true) (ws : List Jvm.Cond) (a : Addr) (h0 : Heap) (n0 : Nat) (Z0 : n0 ≤ h0.size) (F_size_a : Fld Z h0 a "java/util/ArrayList" "size" "I" (.int (0 : Int32))) :
    Met l Z mN13 jdk_38_method_9_code 1 (some .boolean) ({ frames := 0, cells := 0, slots := 0, locals := 0 } : Room) ws #[(.ref a)] h0 (Q_rm_emp0 Z a h0 n0) := by
  refine own_met (plainFor_of_name own_pn6) ?_
  intro p e s m below meth c s₁ hret hx hby hlk hml hown hnm X0 e0 hZ hh
  have N0 := Fr.nil n0
  refine Gs (fun _ tk => castTop (own_ef_rm_emp0 m a) tk) ?_
  show Goes _ _ _ _ _ (s₁.setTop (mkF m 0 #[.val (.ref a)] []))
  refine Gs (fun _ tk => XS.aloadN X0.here hx rfl (hb hby d13_0) rfl rfl tk) ?_
  obtain ⟨T1, X1, e1, st1⟩ := getF X0 hx hZ hown (host := "") (Or.inl (gw hw 74 rfl)) Via.refl e0 F_size_a (g := (mkF m 1 #[.val (.ref a)] [(.ref a)])) rfl rfl (hb hby d13_1)
  refine Gs st1 ?_
  show Goes _ _ _ _ _ (T1.setTop (mkF m 4 #[.val (.ref a)] [(.int (0 : Int32))]))
  refine Gs (fun _ tk => XS.ifNo X1.here hx rfl (hb hby d13_4) rfl ((if0 _ _).trans (teq (by decide : ((0 : Int32) = (0 : Int32)))).2) tk) ?_
  refine Gs (fun _ tk => XS.iconst X1.here hx rfl (hb hby d13_7) tk) ?_
  refine Gs (fun _ tk => XS.goto X1.here hx rfl (pc0 := 8) (pc' := 12) rfl (hb hby d13_8) (by decide) (by decide) tk) ?_
  refine Goes.ret X1 (some (.int (1 : Int32))) (fun h => by rw [hret] at h; cases h) hlk (by decide) (by decide) ?_ (fun fs hr => ?_)
  · exact ⟨rfl, N0, e1⟩
  · exact own_retN X1 hx (t := .boolean) hret (by simp) rfl (hb hby d13_12) hr
theorem d13_11 : decode jdk_38_method_9_code 11 = .ok (.iconst 0, 1) := by decide +kernel
theorem own_ef_rm_emp1 (m : MethodId) (x0 : Addr) : entryFrame m #[(.ref x0)] 1 = mkF m 0 #[.val (.ref x0)] [] := by first | (simp [entryFrame, mkF, argsToLocals, Value.category]; done) | rfl
def Q_rm_emp1 (Z : State) (a : Addr) (h0 : Heap) (n0 : Nat) (v : Option Value) (h : Heap) (L : List Loc) : Prop := v = some (.int (0 : Int32)) ∧ Fr n0 L ∧ h = h0
set_option maxRecDepth 65536 in
set_option maxHeartbeats 40000000 in
theorem rm_emp1 (l : Launch) (Z : State) (a0 : Array Value) (hw : ∀ d ∈ tables_1, d.before a0 Z = true) (ws : List Jvm.Cond) (a : Addr) (h0 : Heap) (n0 : Nat) (Z0 : n0 ≤ h0.size) (F_size_a : Fld Z h0 a "java/util/ArrayList" "size" "I" (.int (1 : Int32))) :
    Met l Z mN13 jdk_38_method_9_code 1 (some .boolean) ({ frames := 0, cells := 0, slots := 0, locals := 0 } : Room) ws #[(.ref a)] h0 (Q_rm_emp1 Z a h0 n0) := by
  refine own_met (plainFor_of_name own_pn6) ?_
  intro p e s m below meth c s₁ hret hx hby hlk hml hown hnm X0 e0 hZ hh
  have N0 := Fr.nil n0
  refine Gs (fun _ tk => castTop (own_ef_rm_emp1 m a) tk) ?_
  show Goes _ _ _ _ _ (s₁.setTop (mkF m 0 #[.val (.ref a)] []))
  refine Gs (fun _ tk => XS.aloadN X0.here hx rfl (hb hby d13_0) rfl rfl tk) ?_
  obtain ⟨T1, X1, e1, st1⟩ := getF X0 hx hZ hown (host := "") (Or.inl (gw hw 74 rfl)) Via.refl e0 F_size_a (g := (mkF m 1 #[.val (.ref a)] [(.ref a)])) rfl rfl (hb hby d13_1)
  refine Gs st1 ?_
  show Goes _ _ _ _ _ (T1.setTop (mkF m 4 #[.val (.ref a)] [(.int (1 : Int32))]))
  refine Gs (fun _ tk => XS.ifYes X1.here hx rfl (pc0 := 4) (pc' := 11) rfl (hb hby d13_4) rfl ((if0 _ _).trans (feq (by decide : ¬ ((1 : Int32) = (0 : Int32)))).2) (by decide) (by decide) tk) ?_
  refine Gs (fun _ tk => XS.iconst X1.here hx rfl (hb hby d13_11) tk) ?_
  refine Goes.ret X1 (some (.int (0 : Int32))) (fun h => by rw [hret] at h; cases h) hlk (by decide) (by decide) ?_ (fun fs hr => ?_)
  · exact ⟨rfl, N0, e1⟩
  · exact own_retN X1 hx (t := .boolean) hret (by simp) rfl (hb hby d13_12) hr
theorem own_ef_rm_emp2 (m : MethodId) (x0 : Addr) : entryFrame m #[(.ref x0)] 1 = mkF m 0 #[.val (.ref x0)] [] := by first | (simp [entryFrame, mkF, argsToLocals, Value.category]; done) | rfl
def Q_rm_emp2 (Z : State) (a : Addr) (h0 : Heap) (n0 : Nat) (v : Option Value) (h : Heap) (L : List Loc) : Prop := v = some (.int (0 : Int32)) ∧ Fr n0 L ∧ h = h0
set_option maxRecDepth 65536 in
set_option maxHeartbeats 40000000 in
theorem rm_emp2 (l : Launch) (Z : State) (a0 : Array Value) (hw : ∀ d ∈ tables_1, d.before a0 Z = true) (ws : List Jvm.Cond) (a : Addr) (h0 : Heap) (n0 : Nat) (Z0 : n0 ≤ h0.size) (F_size_a : Fld Z h0 a "java/util/ArrayList" "size" "I" (.int (2 : Int32))) :
    Met l Z mN13 jdk_38_method_9_code 1 (some .boolean) ({ frames := 0, cells := 0, slots := 0, locals := 0 } : Room) ws #[(.ref a)] h0 (Q_rm_emp2 Z a h0 n0) := by
  refine own_met (plainFor_of_name own_pn6) ?_
  intro p e s m below meth c s₁ hret hx hby hlk hml hown hnm X0 e0 hZ hh
  have N0 := Fr.nil n0
  refine Gs (fun _ tk => castTop (own_ef_rm_emp2 m a) tk) ?_
  show Goes _ _ _ _ _ (s₁.setTop (mkF m 0 #[.val (.ref a)] []))
  refine Gs (fun _ tk => XS.aloadN X0.here hx rfl (hb hby d13_0) rfl rfl tk) ?_
  obtain ⟨T1, X1, e1, st1⟩ := getF X0 hx hZ hown (host := "") (Or.inl (gw hw 74 rfl)) Via.refl e0 F_size_a (g := (mkF m 1 #[.val (.ref a)] [(.ref a)])) rfl rfl (hb hby d13_1)
  refine Gs st1 ?_
  show Goes _ _ _ _ _ (T1.setTop (mkF m 4 #[.val (.ref a)] [(.int (2 : Int32))]))
  refine Gs (fun _ tk => XS.ifYes X1.here hx rfl (pc0 := 4) (pc' := 11) rfl (hb hby d13_4) rfl ((if0 _ _).trans (feq (by decide : ¬ ((2 : Int32) = (0 : Int32)))).2) (by decide) (by decide) tk) ?_
  refine Gs (fun _ tk => XS.iconst X1.here hx rfl (hb hby d13_11) tk) ?_
  refine Goes.ret X1 (some (.int (0 : Int32))) (fun h => by rw [hret] at h; cases h) hlk (by decide) (by decide) ?_ (fun fs hr => ?_)
  · exact ⟨rfl, N0, e1⟩
  · exact own_retN X1 hx (t := .boolean) hret (by simp) rfl (hb hby d13_12) hr
theorem d14_0 : decode jdk_65_method_120_code 0 = .ok (.aload_n 2, 1) := by decide +kernel
theorem d14_1 : decode jdk_65_method_120_code 1 = .ok (.ldc 110, 2) := by decide +kernel
theorem d14_3 : decode jdk_65_method_120_code 3 = .ok (.if_acmp .ne 10, 3) := by decide +kernel
theorem d14_6 : decode jdk_65_method_120_code 6 = .ok (.iload_n 1, 1) := by decide +kernel
theorem d14_7 : decode jdk_65_method_120_code 7 = .ok (.anewarray 2, 3) := by decide +kernel
theorem d14_10 : decode jdk_65_method_120_code 10 = .ok (.goto 14, 3) := by decide +kernel
theorem d14_24 : decode jdk_65_method_120_code 24 = .ok (.astore_n 3, 1) := by decide +kernel
theorem d14_25 : decode jdk_65_method_120_code 25 = .ok (.aload_n 0, 1) := by decide +kernel
theorem d14_26 : decode jdk_65_method_120_code 26 = .ok (.iconst 0, 1) := by decide +kernel
theorem d14_27 : decode jdk_65_method_120_code 27 = .ok (.aload_n 3, 1) := by decide +kernel
theorem d14_28 : decode jdk_65_method_120_code 28 = .ok (.iconst 0, 1) := by decide +kernel
theorem d14_29 : decode jdk_65_method_120_code 29 = .ok (.aload_n 0, 1) := by decide +kernel
theorem d14_30 : decode jdk_65_method_120_code 30 = .ok (.arraylength, 1) := by decide +kernel
theorem d14_31 : decode jdk_65_method_120_code 31 = .ok (.iload_n 1, 1) := by decide +kernel
theorem d14_32 : decode jdk_65_method_120_code 32 = .ok (.invokestatic 304, 3) := by decide +kernel
theorem d14_35 : decode jdk_65_method_120_code 35 = .ok (.invokestatic 150, 3) := by decide +kernel
theorem d14_38 : decode jdk_65_method_120_code 38 = .ok (.aload_n 3, 1) := by decide +kernel
theorem d14_39 : decode jdk_65_method_120_code 39 = .ok (.areturn, 1) := by decide +kernel
theorem own_pn7 : plainName "java/util/Arrays" = true := by first | (simp [plainName, overriddenIn]; done) | decide +kernel
theorem own_ef_rm_cp3_1 (m : MethodId) (x0 : Addr) (x1 : Int32) (x2 : Addr) : entryFrame m #[(.ref x0), (.int x1), (.ref x2)] 4 = mkF m 0 #[.val (.ref x0), .val (.int x1), .val (.ref x2), .unset] [] := by first | (simp [entryFrame, mkF, argsToLocals, Value.category]; done) | rfl
def Q_rm_cp3_1 (Z : State) (el0 : Addr) (b : Addr) (kb : ClassId) (mr : Addr) (h0 : Heap) (n0 : Nat) (v : Option Value) (h : Heap) (L : List Loc) : Prop := ∃ cb : Addr, ∃ kc : ClassId, v = some (.ref cb) ∧ Fr n0 L ∧ Keep h0 h [] ∧ Arv Z h cb kc (.object "java/lang/Object") (1 : Int32) [(.ref el0)] .null ∧ n0 ≤ cb ∧ h0.size ≤ cb
set_option maxRecDepth 65536 in
set_option maxHeartbeats 40000000 in
theorem rm_cp3_1 (l : Launch) (Z : State) (a0 : Array Value) (hw : ∀ d ∈ tables_1, d.before a0 Z = true) (ws : List Jvm.Cond) (el0 : Addr) (b : Addr) (kb : ClassId) (mr : Addr) (h0 : Heap) (n0 : Nat) (Z0 : n0 ≤ h0.size) (V_b : Arv Z h0 b kb (.object "java/lang/Object") (10 : Int32) [(.ref el0), .null, .null, .null, .null, .null, .null, .null, .null, .null] .null) (A_b : Exa Z h0 b "[Ljava/lang/Object;") (I_el0_2 : Ins Z h0 el0 "java/lang/Object" true) (hmr : Mir Z "[Ljava/lang/Object;" mr) :
    Met l Z mN14 jdk_65_method_120_code 4 (some (.array (.object "java/lang/Object"))) ({ frames := 1, cells := 1, slots := 1, locals := 18 } : Room) ws #[(.ref b), (.int (1 : Int32)), (.ref mr)] h0 (Q_rm_cp3_1 Z el0 b kb mr h0 n0) := by
  refine own_met (plainFor_of_name own_pn7) ?_
  intro p e s m below meth c s₁ hret hx hby hlk hml hown hnm X0 e0 hZ hh
  have N0 := Fr.nil n0
  refine Gs (fun _ tk => castTop (own_ef_rm_cp3_1 m b (1 : Int32) mr) tk) ?_
  have KP : Keep h0 h0 [] := Keep.refl _ _
  show Goes _ _ _ _ _ (s₁.setTop (mkF m 0 #[.val (.ref b), .val (.int (1 : Int32)), .val (.ref mr), .unset] []))
  refine Gs (fun _ tk => XS.aloadN X0.here hx rfl (hb hby d14_0) rfl rfl tk) ?_
  obtain ⟨T1, X1, e1, st1⟩ := own_ldcM X0 hx hZ hown (gw hw 166 rfl) e0 hmr (g := (mkF m 1 #[.val (.ref b), .val (.int (1 : Int32)), .val (.ref mr), .unset] [(.ref mr)])) rfl (hb hby d14_1)
  refine Gs st1 ?_
  show Goes _ _ _ _ _ (T1.setTop (mkF m 3 #[.val (.ref b), .val (.int (1 : Int32)), .val (.ref mr), .unset] [(.ref mr), (.ref mr)]))
  refine Gs (fun _ tk => Jvm.RoadKit.acmp (g := (mkF m 3 #[.val (.ref b), .val (.int (1 : Int32)), .val (.ref mr), .unset] [(.ref mr), (.ref mr)])) X1 hx rfl rfl rfl (pc0 := 3) (pc' := 6) (same := true) rfl (hb hby d14_3) rfl (decide_eq_true (congrArg Value.ref rfl)) (by decide) (by decide) tk) ?_
  refine Gs (fun _ tk => XS.iloadN X1.here hx rfl (hb hby d14_6) rfl tk) ?_
  obtain ⟨T2, h2, k2, X2, e2, E2, A2, AE2, O2, st2⟩ := newRE X1 hx hZ hown (gw hw 167 rfl) (gw hw 143 rfl) e1 (g := (mkF m 7 #[.val (.ref b), .val (.int (1 : Int32)), .val (.ref mr), .unset] [(.int (1 : Int32))])) rfl (hb hby d14_7) rfl (by decide) (cap := 1) (by decide) (by decide) (by decide) (by decide) rfl
  obtain ⟨b2, gq2⟩ : ∃ z, z = h0.size := ⟨_, rfl⟩
  rw [← gq2] at A2 st2 AE2
  have g_b2 : n0 ≤ b2 := by rw [gq2]; exact Z0
  have sz_b2 : h0.size ≤ b2 := by rw [gq2]; exact KP.1
  have ne_b_b2 : b ≠ b2 := by rw [gq2]; exact Nat.ne_of_lt V_b.lt
  replace V_b := V_b.ext E2
  replace I_el0_2 := I_el0_2.ext E2
  replace KP := KP.ext E2
  replace Z0 : n0 ≤ h2.size := Nat.le_trans Z0 E2.1
  have V_b2 : Arv Z h2 b2 k2 (.object "java/lang/Object") (1 : Int32) [.null] .null := (Arv.new A2 (by decide)).pad (pad_rep [] .null 1)
  refine Gs st2 ?_
  show Goes _ _ _ _ _ (T2.setTop (mkF m 10 #[.val (.ref b), .val (.int (1 : Int32)), .val (.ref mr), .unset] [(.ref b2)]))
  refine Gs (fun _ tk => XS.goto X2.here hx rfl (pc0 := 10) (pc' := 24) rfl (hb hby d14_10) (by decide) (by decide) tk) ?_
  refine Gs (fun _ tk => XS.astoreN X2.here hx rfl (hb hby d14_24) rfl rfl (l' := #[.val (.ref b), .val (.int (1 : Int32)), .val (.ref mr), .val (.ref b2)]) rfl tk) ?_
  refine Gs (fun _ tk => XS.aloadN X2.here hx rfl (hb hby d14_25) rfl rfl tk) ?_
  refine Gs (fun _ tk => XS.iconst X2.here hx rfl (hb hby d14_26) tk) ?_
  refine Gs (fun _ tk => XS.aloadN X2.here hx rfl (hb hby d14_27) rfl rfl tk) ?_
  refine Gs (fun _ tk => XS.iconst X2.here hx rfl (hb hby d14_28) tk) ?_
  show Goes _ _ _ _ _ (T2.setTop (mkF m 29 #[.val (.ref b), .val (.int (1 : Int32)), .val (.ref mr), .val (.ref b2)] [(.int (0 : Int32)), (.ref b2), (.int (0 : Int32)), (.ref b)]))
  refine Gs (fun _ tk => XS.aloadN X2.here hx rfl (hb hby d14_29) rfl rfl tk) ?_
  obtain ⟨cl3, Ar3, -, S3, N3z, -, -⟩ := id V_b
  refine Gs (fun _ tk => X2.arraylength hx (by rw [e2]; exact Ar3.1) (State.isArrayOf_alike hZ.alike Ar3.2.1) (g := (mkF m 30 #[.val (.ref b), .val (.int (1 : Int32)), .val (.ref mr), .val (.ref b2)] [(.ref b), (.int (0 : Int32)), (.ref b2), (.int (0 : Int32)), (.ref b)])) rfl rfl (hb hby d14_30) _ tk) ?_
  rw [len_of S3 N3z]
  show Goes _ _ _ _ _ (T2.setTop (mkF m 31 #[.val (.ref b), .val (.int (1 : Int32)), .val (.ref mr), .val (.ref b2)] [(.int (10 : Int32)), (.int (0 : Int32)), (.ref b2), (.int (0 : Int32)), (.ref b)]))
  refine Gs (fun _ tk => XS.iloadN X2.here hx rfl (hb hby d14_31) rfl tk) ?_
  obtain ⟨_, _, ⟨T4, L4, k4, n4⟩, -, X4, ⟨Lc4, hQ4, l4, y4, z4⟩, st4⟩ := Jvm.LawKit.callS X2 hx (y := mN8) hown (mvT hZ (gw hw 168 rfl)) (mvT hZ (gw hw 169 rfl)) (mvT hZ (gw hw 140 rfl)) (mvT hZ (gw hw 170 rfl)) (by decide) (backOf (W := 4) (rm_min l Z a0 hw [] (10 : Int32) (1 : Int32) h2 n0 Z0 (by first | assumption | decide)) hZ (gw hw 170 rfl) (gw hw 140 rfl) (by decide) (by decide)) (g := (mkF m 32 #[.val (.ref b), .val (.int (1 : Int32)), .val (.ref mr), .val (.ref b2)] [(.int (1 : Int32)), (.int (10 : Int32)), (.int (0 : Int32)), (.ref b2), (.int (0 : Int32)), (.ref b)])) rfl (by rw [hml]; rfl) (argsL := [(.int (10 : Int32)), (.int (1 : Int32))]) (rest := [(.int (0 : Int32)), (.ref b2), (.int (0 : Int32)), (.ref b)]) (lenOf own_pd1 rfl) rfl (w0 (Nat.le_of_eq rfl)) (hb hby d14_32) (fun _ _ => ⟨rfl, e2, (by decide : 1 + 0 ≤ _), (by decide : 1 + 0 ≤ _)⟩)
  dsimp only [Pt.U, Pt.locs, Pt.cells, Pt.slots] at X4 l4 y4 z4 st4 hQ4
  subst l4 y4 z4
  obtain ⟨rfl, N4q, e4⟩ := hQ4
  have N4 := Fr.app N0 N4q
  refine Gs st4 ?_
  show Goes _ _ _ _ _ (T4.setTop (mkF m 35 #[.val (.ref b), .val (.int (1 : Int32)), .val (.ref mr), .val (.ref b2)] [(.int (1 : Int32)), (.int (0 : Int32)), (.ref b2), (.int (0 : Int32)), (.ref b)]))
  obtain ⟨cl5, Ar5, q5, -⟩ := id V_b2
  obtain ⟨T5, h5, L5, X5, e5, N5, K5, Vn5, st5⟩ := cpA X4 hx hZ hown (gw hw 171 rfl) (gw hw 174 rfl) (gw hw 172 rfl) (gw hw 173 rfl) e4 V_b V_b2 (us := [(.ref el0)]) (Or.inr ⟨rfl, rfl, ⟨Sto.ofV Ar5 q5 O2 I_el0_2, trivial⟩⟩) (by decide) (by decide) (by decide) (by decide) (by decide) rfl (by decide) N4 g_b2 (g := (mkF m 35 #[.val (.ref b), .val (.int (1 : Int32)), .val (.ref mr), .val (.ref b2)] [(.int (1 : Int32)), (.int (0 : Int32)), (.ref b2), (.int (0 : Int32)), (.ref b)])) rfl (by rw [hml]; rfl) rfl (hb hby d14_35) (by decide) (W := 0) (w0 (Nat.le_of_eq rfl)) (by decide)
  replace KP := KP.trans K5 (allS (Or.inr sz_b2) all0)
  replace Z0 := Nat.le_trans Z0 K5.1
  have V_b2 : Arv Z h5 b2 _ (.object "java/lang/Object") (1 : Int32) [(.ref el0)] .null := Vn5
  refine Gs st5 ?_
  show Goes _ _ _ _ _ (T5.setTop (mkF m 38 #[.val (.ref b), .val (.int (1 : Int32)), .val (.ref mr), .val (.ref b2)] []))
  refine Gs (fun _ tk => XS.aloadN X5.here hx rfl (hb hby d14_38) rfl rfl tk) ?_
  refine Goes.ret X5 (some (.ref b2)) (fun h => by rw [hret] at h; cases h) hlk (by decide) (by decide) ?_ (fun fs hr => ?_)
  · rw [e5]; exact ⟨b2, k2, rfl, N5, KP, V_b2, g_b2, sz_b2⟩
  · exact own_retA X5 hx hret rfl rfl (hb hby d14_39) hr
theorem d15_0 : decode jdk_65_method_119_code 0 = .ok (.aload_n 0, 1) := by decide +kernel
theorem d15_1 : decode jdk_65_method_119_code 1 = .ok (.iload_n 1, 1) := by decide +kernel
theorem d15_2 : decode jdk_65_method_119_code 2 = .ok (.aload_n 0, 1) := by decide +kernel
theorem d15_3 : decode jdk_65_method_119_code 3 = .ok (.invokevirtual 86, 3) := by decide +kernel
theorem d15_6 : decode jdk_65_method_119_code 6 = .ok (.invokestatic 300, 3) := by decide +kernel
theorem own_pd5 : parseMethodDescriptor "([Ljava/lang/Object;ILjava/lang/Class;)[Ljava/lang/Object;" = some ⟨[(.array (.object "java/lang/Object")), .int, (.object "java/lang/Class")], some (.array (.object "java/lang/Object"))⟩ := by decide +kernel
theorem d15_9 : decode jdk_65_method_119_code 9 = .ok (.areturn, 1) := by decide +kernel
theorem own_ef_rm_cp2_1 (m : MethodId) (x0 : Addr) (x1 : Int32) : entryFrame m #[(.ref x0), (.int x1)] 2 = mkF m 0 #[.val (.ref x0), .val (.int x1)] [] := by first | (simp [entryFrame, mkF, argsToLocals, Value.category]; done) | rfl
def Q_rm_cp2_1 (Z : State) (el0 : Addr) (b : Addr) (kb : ClassId) (mr : Addr) (h0 : Heap) (n0 : Nat) (v : Option Value) (h : Heap) (L : List Loc) : Prop := ∃ cb : Addr, ∃ kc : ClassId, v = some (.ref cb) ∧ Fr n0 L ∧ Keep h0 h [] ∧ Arv Z h cb kc (.object "java/lang/Object") (1 : Int32) [(.ref el0)] .null ∧ n0 ≤ cb ∧ h0.size ≤ cb
set_option maxRecDepth 65536 in
set_option maxHeartbeats 40000000 in
theorem rm_cp2_1 (l : Launch) (Z : State) (a0 : Array Value) (hw : ∀ d ∈ tables_1, d.before a0 Z = true) (ws : List Jvm.Cond) (el0 : Addr) (b : Addr) (kb : ClassId) (mr : Addr) (h0 : Heap) (n0 : Nat) (Z0 : n0 ≤ h0.size) (V_b : Arv Z h0 b kb (.object "java/lang/Object") (10 : Int32) [(.ref el0), .null, .null, .null, .null, .null, .null, .null, .null, .null] .null) (A_b : Exa Z h0 b "[Ljava/lang/Object;") (I_el0_2 : Ins Z h0 el0 "java/lang/Object" true) (hmr : Mir Z "[Ljava/lang/Object;" mr) :
    Met l Z mN15 jdk_65_method_119_code 2 (some (.array (.object "java/lang/Object"))) ({ frames := 2, cells := 1, slots := 1, locals := 33 } : Room) ws #[(.ref b), (.int (1 : Int32))] h0 (Q_rm_cp2_1 Z el0 b kb mr h0 n0) := by
  refine own_met (plainFor_of_name own_pn7) ?_
  intro p e s m below meth c s₁ hret hx hby hlk hml hown hnm X0 e0 hZ hh
  have N0 := Fr.nil n0
  refine Gs (fun _ tk => castTop (own_ef_rm_cp2_1 m b (1 : Int32)) tk) ?_
  have KP : Keep h0 h0 [] := Keep.refl _ _
  show Goes _ _ _ _ _ (s₁.setTop (mkF m 0 #[.val (.ref b), .val (.int (1 : Int32))] []))
  refine Gs (fun _ tk => XS.aloadN X0.here hx rfl (hb hby d15_0) rfl rfl tk) ?_
  refine Gs (fun _ tk => XS.iloadN X0.here hx rfl (hb hby d15_1) rfl tk) ?_
  refine Gs (fun _ tk => XS.aloadN X0.here hx rfl (hb hby d15_2) rfl rfl tk) ?_
  obtain ⟨T1, X1, e1, st1⟩ := gcls X0 hx hZ hown (gw hw 157 rfl) (gw hw 158 rfl) (gw hw 63 rfl) (gw hw 160 rfl) (gw hw 159 rfl) (gw hw 161 rfl) e0 A_b hmr (g := (mkF m 3 #[.val (.ref b), .val (.int (1 : Int32))] [(.ref b), (.int (1 : Int32)), (.ref b)])) rfl (by rw [hml]; rfl) rfl (hb hby d15_3) (by decide) (W := 2) (w0 (Nat.le_of_eq rfl)) (by decide)
  refine Gs st1 ?_
  show Goes _ _ _ _ _ (T1.setTop (mkF m 6 #[.val (.ref b), .val (.int (1 : Int32))] [(.ref mr), (.int (1 : Int32)), (.ref b)]))
  have ltc2_b : b < h0.size := V_b.lt
  have szs2 : h0.size ≤ h0.size := KP.1
  obtain ⟨_, _, ⟨T2, L2, k2, n2⟩, -, X2, ⟨Lc2, hQ2, l2, y2, z2⟩, st2⟩ := Jvm.LawKit.callS X1 hx (y := mN14) hown (mvT hZ (gw hw 163 rfl)) (mvT hZ (gw hw 164 rfl)) (mvT hZ (gw hw 155 rfl)) (mvT hZ (gw hw 165 rfl)) (by decide) (backOf (W := 0) (rm_cp3_1 l Z a0 hw [] el0 b kb mr h0 n0 Z0 V_b A_b I_el0_2 (by first | assumption | decide)) hZ (gw hw 165 rfl) (gw hw 155 rfl) (by decide) (by decide)) (g := (mkF m 6 #[.val (.ref b), .val (.int (1 : Int32))] [(.ref mr), (.int (1 : Int32)), (.ref b)])) rfl (by rw [hml]; rfl) (argsL := [(.ref b), (.int (1 : Int32)), (.ref mr)]) (rest := []) (lenOf own_pd5 rfl) rfl (w0 (Nat.le_of_eq rfl)) (hb hby d15_6) (fun _ _ => ⟨rfl, e1, (by decide : 0 + 1 ≤ _), (by decide : 0 + 1 ≤ _)⟩)
  dsimp only [Pt.U, Pt.locs, Pt.cells, Pt.slots] at X2 l2 y2 z2 st2 hQ2
  subst l2 y2 z2
  obtain ⟨cb2, kc2, rfl, N2q, K2, V_cb2_2', g_cb2_2', sz_cb2_2'⟩ := hQ2
  have N2 := Fr.app N0 N2q
  replace KP := KP.trans K2 all0
  replace Z0 := Nat.le_trans Z0 K2.1
  have V_cb2 := V_cb2_2'
  have g_cb2 := g_cb2_2'
  have szc_cb2 := sz_cb2_2'
  have ne_b_cb2 : b ≠ cb2 := Nat.ne_of_lt (Nat.lt_of_lt_of_le ltc2_b szc_cb2)
  have sz_cb2 : h0.size ≤ cb2 := Nat.le_trans szs2 szc_cb2
  refine Gs st2 ?_
  show Goes _ _ _ _ _ (T2.setTop (mkF m 9 #[.val (.ref b), .val (.int (1 : Int32))] [(.ref cb2)]))
  refine Goes.ret X2 (some (.ref cb2)) (fun h => by rw [hret] at h; cases h) hlk (by decide) (by decide) ?_ (fun fs hr => ?_)
  · exact ⟨cb2, kc2, rfl, N2, KP, V_cb2, g_cb2, sz_cb2⟩
  · exact own_retA X2 hx hret rfl rfl (hb hby d15_9) hr
theorem d16_0 : decode jdk_38_method_16_code 0 = .ok (.aload_n 0, 1) := by decide +kernel
theorem d16_1 : decode jdk_38_method_16_code 1 = .ok (.getfield 9, 3) := by decide +kernel
theorem d16_4 : decode jdk_38_method_16_code 4 = .ok (.aload_n 0, 1) := by decide +kernel
theorem d16_5 : decode jdk_38_method_16_code 5 = .ok (.getfield 48, 3) := by decide +kernel
theorem d16_8 : decode jdk_38_method_16_code 8 = .ok (.invokestatic 66, 3) := by decide +kernel
theorem own_pd6 : parseMethodDescriptor "([Ljava/lang/Object;I)[Ljava/lang/Object;" = some ⟨[(.array (.object "java/lang/Object")), .int], some (.array (.object "java/lang/Object"))⟩ := by decide +kernel
theorem d16_11 : decode jdk_38_method_16_code 11 = .ok (.areturn, 1) := by decide +kernel
theorem own_ef_rm_toarr1 (m : MethodId) (x0 : Addr) : entryFrame m #[(.ref x0)] 1 = mkF m 0 #[.val (.ref x0)] [] := by first | (simp [entryFrame, mkF, argsToLocals, Value.category]; done) | rfl
def Q_rm_toarr1 (Z : State) (a : Addr) (el0 : Addr) (b : Addr) (kb : ClassId) (mr : Addr) (h0 : Heap) (n0 : Nat) (v : Option Value) (h : Heap) (L : List Loc) : Prop := ∃ cb : Addr, ∃ kc : ClassId, v = some (.ref cb) ∧ Fr n0 L ∧ Keep h0 h [] ∧ Arv Z h cb kc (.object "java/lang/Object") (1 : Int32) [(.ref el0)] .null ∧ n0 ≤ cb ∧ h0.size ≤ cb
set_option maxRecDepth 65536 in
set_option maxHeartbeats 40000000 in
theorem rm_toarr1 (l : Launch) (Z : State) (a0 : Array Value) (hw : ∀ d ∈ tables_1, d.before a0 Z = true) (ws : List Jvm.Cond) (a : Addr) (el0 : Addr) (b : Addr) (kb : ClassId) (mr : Addr) (h0 : Heap) (n0 : Nat) (Z0 : n0 ≤ h0.size) (F_elementData_a : Fld Z h0 a "java/util/ArrayList" "elementData" "[Ljava/lang/Object;" (.ref b)) (F_size_a : Fld Z h0 a "java/util/ArrayList" "size" "I" (.int (1 : Int32))) (V_b : Arv Z h0 b kb (.object "java/lang/Object") (10 : Int32) [(.ref el0), .null, .null, .null, .null, .null, .null, .null, .null, .null] .null) (A_b : Exa Z h0 b "[Ljava/lang/Object;") (I_el0_4 : Ins Z h0 el0 "java/lang/Object" true) (hmr : Mir Z "[Ljava/lang/Object;" mr) :
    Met l Z mN16 jdk_38_method_16_code 1 (some (.array (.object "java/lang/Object"))) ({ frames := 3, cells := 1, slots := 1, locals := 46 } : Room) ws #[(.ref a)] h0 (Q_rm_toarr1 Z a el0 b kb mr h0 n0) := by
  refine own_met (plainFor_of_name own_pn6) ?_
  intro p e s m below meth c s₁ hret hx hby hlk hml hown hnm X0 e0 hZ hh
  have N0 := Fr.nil n0
  refine Gs (fun _ tk => castTop (own_ef_rm_toarr1 m a) tk) ?_
  have KP : Keep h0 h0 [] := Keep.refl _ _
  show Goes _ _ _ _ _ (s₁.setTop (mkF m 0 #[.val (.ref a)] []))
  refine Gs (fun _ tk => XS.aloadN X0.here hx rfl (hb hby d16_0) rfl rfl tk) ?_
  obtain ⟨T1, X1, e1, st1⟩ := getF X0 hx hZ hown (host := "") (Or.inl (gw hw 42 rfl)) Via.refl e0 F_elementData_a (g := (mkF m 1 #[.val (.ref a)] [(.ref a)])) rfl rfl (hb hby d16_1)
  refine Gs st1 ?_
  show Goes _ _ _ _ _ (T1.setTop (mkF m 4 #[.val (.ref a)] [(.ref b)]))
  refine Gs (fun _ tk => XS.aloadN X1.here hx rfl (hb hby d16_4) rfl rfl tk) ?_
  obtain ⟨T2, X2, e2, st2⟩ := getF X1 hx hZ hown (host := "") (Or.inl (gw hw 74 rfl)) Via.refl e1 F_size_a (g := (mkF m 5 #[.val (.ref a)] [(.ref a), (.ref b)])) rfl rfl (hb hby d16_5)
  refine Gs st2 ?_
  show Goes _ _ _ _ _ (T2.setTop (mkF m 8 #[.val (.ref a)] [(.int (1 : Int32)), (.ref b)]))
  have ltc3_a : a < h0.size := F_elementData_a.lt
  have ltc3_b : b < h0.size := V_b.lt
  have szs3 : h0.size ≤ h0.size := KP.1
  obtain ⟨_, _, ⟨T3, L3, k3, n3⟩, -, X3, ⟨Lc3, hQ3, l3, y3, z3⟩, st3⟩ := Jvm.LawKit.callS X2 hx (y := mN15) hown (mvT hZ (gw hw 153 rfl)) (mvT hZ (gw hw 154 rfl)) (mvT hZ (gw hw 155 rfl)) (mvT hZ (gw hw 156 rfl)) (by decide) (backOf (W := 0) (rm_cp2_1 l Z a0 hw [] el0 b kb mr h0 n0 Z0 V_b A_b I_el0_4 (by first | assumption | decide)) hZ (gw hw 156 rfl) (gw hw 155 rfl) (by decide) (by decide)) (g := (mkF m 8 #[.val (.ref a)] [(.int (1 : Int32)), (.ref b)])) rfl (by rw [hml]; rfl) (argsL := [(.ref b), (.int (1 : Int32))]) (rest := []) (lenOf own_pd6 rfl) rfl (w0 (Nat.le_of_eq rfl)) (hb hby d16_8) (fun _ _ => ⟨rfl, e2, (by decide : 0 + 1 ≤ _), (by decide : 0 + 1 ≤ _)⟩)
  dsimp only [Pt.U, Pt.locs, Pt.cells, Pt.slots] at X3 l3 y3 z3 st3 hQ3
  subst l3 y3 z3
  obtain ⟨cb3, kc3, rfl, N3q, K3, V_cb3_3', g_cb3_3', sz_cb3_3'⟩ := hQ3
  have N3 := Fr.app N0 N3q
  replace KP := KP.trans K3 all0
  replace Z0 := Nat.le_trans Z0 K3.1
  have V_cb3 := V_cb3_3'
  have g_cb3 := g_cb3_3'
  have szc_cb3 := sz_cb3_3'
  have ne_a_cb3 : a ≠ cb3 := Nat.ne_of_lt (Nat.lt_of_lt_of_le ltc3_a szc_cb3)
  have ne_b_cb3 : b ≠ cb3 := Nat.ne_of_lt (Nat.lt_of_lt_of_le ltc3_b szc_cb3)
  have sz_cb3 : h0.size ≤ cb3 := Nat.le_trans szs3 szc_cb3
  refine Gs st3 ?_
  show Goes _ _ _ _ _ (T3.setTop (mkF m 11 #[.val (.ref a)] [(.ref cb3)]))
  refine Goes.ret X3 (some (.ref cb3)) (fun h => by rw [hret] at h; cases h) hlk (by decide) (by decide) ?_ (fun fs hr => ?_)
  · exact ⟨cb3, kc3, rfl, N3, KP, V_cb3, g_cb3, sz_cb3⟩
  · exact own_retA X3 hx hret rfl rfl (hb hby d16_11) hr
theorem own_ef_rm_cp3_2 (m : MethodId) (x0 : Addr) (x1 : Int32) (x2 : Addr) : entryFrame m #[(.ref x0), (.int x1), (.ref x2)] 4 = mkF m 0 #[.val (.ref x0), .val (.int x1), .val (.ref x2), .unset] [] := by first | (simp [entryFrame, mkF, argsToLocals, Value.category]; done) | rfl
def Q_rm_cp3_2 (Z : State) (el0 : Addr) (el1 : Addr) (b : Addr) (kb : ClassId) (mr : Addr) (h0 : Heap) (n0 : Nat) (v : Option Value) (h : Heap) (L : List Loc) : Prop := ∃ cb : Addr, ∃ kc : ClassId, v = some (.ref cb) ∧ Fr n0 L ∧ Keep h0 h [] ∧ Arv Z h cb kc (.object "java/lang/Object") (2 : Int32) [(.ref el0), (.ref el1)] .null ∧ n0 ≤ cb ∧ h0.size ≤ cb
set_option maxRecDepth 65536 in
set_option maxHeartbeats 40000000 in
theorem rm_cp3_2 (l : Launch) (Z : State) (a0 : Array Value) (hw : ∀ d ∈ tables_1, d.before a0 Z = true) (ws : List Jvm.Cond) (el0 : Addr) (el1 : Addr) (b : Addr) (kb : ClassId) (mr : Addr) (h0 : Heap) (n0 : Nat) (Z0 : n0 ≤ h0.size) (V_b : Arv Z h0 b kb (.object "java/lang/Object") (10 : Int32) [(.ref el0), (.ref el1), .null, .null, .null, .null, .null, .null, .null, .null] .null) (A_b : Exa Z h0 b "[Ljava/lang/Object;") (I_el0_2 : Ins Z h0 el0 "java/lang/Object" true) (I_el1_3 : Ins Z h0 el1 "java/lang/Object" true) (hmr : Mir Z "[Ljava/lang/Object;" mr) :
    Met l Z mN14 jdk_65_method_120_code 4 (some (.array (.object "java/lang/Object"))) ({ frames := 1, cells := 1, slots := 2, locals := 18 } : Room) ws #[(.ref b), (.int (2 : Int32)), (.ref mr)] h0 (Q_rm_cp3_2 Z el0 el1 b kb mr h0 n0) := by
  refine own_met (plainFor_of_name own_pn7) ?_
  intro p e s m below meth c s₁ hret hx hby hlk hml hown hnm X0 e0 hZ hh
  have N0 := Fr.nil n0
  refine Gs (fun _ tk => castTop (own_ef_rm_cp3_2 m b (2 : Int32) mr) tk) ?_
  have KP : Keep h0 h0 [] := Keep.refl _ _
  show Goes _ _ _ _ _ (s₁.setTop (mkF m 0 #[.val (.ref b), .val (.int (2 : Int32)), .val (.ref mr), .unset] []))
  refine Gs (fun _ tk => XS.aloadN X0.here hx rfl (hb hby d14_0) rfl rfl tk) ?_
  obtain ⟨T1, X1, e1, st1⟩ := own_ldcM X0 hx hZ hown (gw hw 166 rfl) e0 hmr (g := (mkF m 1 #[.val (.ref b), .val (.int (2 : Int32)), .val (.ref mr), .unset] [(.ref mr)])) rfl (hb hby d14_1)
  refine Gs st1 ?_
  show Goes _ _ _ _ _ (T1.setTop (mkF m 3 #[.val (.ref b), .val (.int (2 : Int32)), .val (.ref mr), .unset] [(.ref mr), (.ref mr)]))
  refine Gs (fun _ tk => Jvm.RoadKit.acmp (g := (mkF m 3 #[.val (.ref b), .val (.int (2 : Int32)), .val (.ref mr), .unset] [(.ref mr), (.ref mr)])) X1 hx rfl rfl rfl (pc0 := 3) (pc' := 6) (same := true) rfl (hb hby d14_3) rfl (decide_eq_true (congrArg Value.ref rfl)) (by decide) (by decide) tk) ?_
  refine Gs (fun _ tk => XS.iloadN X1.here hx rfl (hb hby d14_6) rfl tk) ?_
  obtain ⟨T2, h2, k2, X2, e2, E2, A2, AE2, O2, st2⟩ := newRE X1 hx hZ hown (gw hw 167 rfl) (gw hw 143 rfl) e1 (g := (mkF m 7 #[.val (.ref b), .val (.int (2 : Int32)), .val (.ref mr), .unset] [(.int (2 : Int32))])) rfl (hb hby d14_7) rfl (by decide) (cap := 2) (by decide) (by decide) (by decide) (by decide) rfl
  obtain ⟨b2, gq2⟩ : ∃ z, z = h0.size := ⟨_, rfl⟩
  rw [← gq2] at A2 st2 AE2
  have g_b2 : n0 ≤ b2 := by rw [gq2]; exact Z0
  have sz_b2 : h0.size ≤ b2 := by rw [gq2]; exact KP.1
  have ne_b_b2 : b ≠ b2 := by rw [gq2]; exact Nat.ne_of_lt V_b.lt
  replace V_b := V_b.ext E2
  replace I_el0_2 := I_el0_2.ext E2
  replace I_el1_3 := I_el1_3.ext E2
  replace KP := KP.ext E2
  replace Z0 : n0 ≤ h2.size := Nat.le_trans Z0 E2.1
  have V_b2 : Arv Z h2 b2 k2 (.object "java/lang/Object") (2 : Int32) [.null, .null] .null := (Arv.new A2 (by decide)).pad (pad_rep [] .null 2)
  refine Gs st2 ?_
  show Goes _ _ _ _ _ (T2.setTop (mkF m 10 #[.val (.ref b), .val (.int (2 : Int32)), .val (.ref mr), .unset] [(.ref b2)]))
  refine Gs (fun _ tk => XS.goto X2.here hx rfl (pc0 := 10) (pc' := 24) rfl (hb hby d14_10) (by decide) (by decide) tk) ?_
  refine Gs (fun _ tk => XS.astoreN X2.here hx rfl (hb hby d14_24) rfl rfl (l' := #[.val (.ref b), .val (.int (2 : Int32)), .val (.ref mr), .val (.ref b2)]) rfl tk) ?_
  refine Gs (fun _ tk => XS.aloadN X2.here hx rfl (hb hby d14_25) rfl rfl tk) ?_
  refine Gs (fun _ tk => XS.iconst X2.here hx rfl (hb hby d14_26) tk) ?_
  refine Gs (fun _ tk => XS.aloadN X2.here hx rfl (hb hby d14_27) rfl rfl tk) ?_
  refine Gs (fun _ tk => XS.iconst X2.here hx rfl (hb hby d14_28) tk) ?_
  show Goes _ _ _ _ _ (T2.setTop (mkF m 29 #[.val (.ref b), .val (.int (2 : Int32)), .val (.ref mr), .val (.ref b2)] [(.int (0 : Int32)), (.ref b2), (.int (0 : Int32)), (.ref b)]))
  refine Gs (fun _ tk => XS.aloadN X2.here hx rfl (hb hby d14_29) rfl rfl tk) ?_
  obtain ⟨cl3, Ar3, -, S3, N3z, -, -⟩ := id V_b
  refine Gs (fun _ tk => X2.arraylength hx (by rw [e2]; exact Ar3.1) (State.isArrayOf_alike hZ.alike Ar3.2.1) (g := (mkF m 30 #[.val (.ref b), .val (.int (2 : Int32)), .val (.ref mr), .val (.ref b2)] [(.ref b), (.int (0 : Int32)), (.ref b2), (.int (0 : Int32)), (.ref b)])) rfl rfl (hb hby d14_30) _ tk) ?_
  rw [len_of S3 N3z]
  show Goes _ _ _ _ _ (T2.setTop (mkF m 31 #[.val (.ref b), .val (.int (2 : Int32)), .val (.ref mr), .val (.ref b2)] [(.int (10 : Int32)), (.int (0 : Int32)), (.ref b2), (.int (0 : Int32)), (.ref b)]))
  refine Gs (fun _ tk => XS.iloadN X2.here hx rfl (hb hby d14_31) rfl tk) ?_
  obtain ⟨_, _, ⟨T4, L4, k4, n4⟩, -, X4, ⟨Lc4, hQ4, l4, y4, z4⟩, st4⟩ := Jvm.LawKit.callS X2 hx (y := mN8) hown (mvT hZ (gw hw 168 rfl)) (mvT hZ (gw hw 169 rfl)) (mvT hZ (gw hw 140 rfl)) (mvT hZ (gw hw 170 rfl)) (by decide) (backOf (W := 4) (rm_min l Z a0 hw [] (10 : Int32) (2 : Int32) h2 n0 Z0 (by first | assumption | decide)) hZ (gw hw 170 rfl) (gw hw 140 rfl) (by decide) (by decide)) (g := (mkF m 32 #[.val (.ref b), .val (.int (2 : Int32)), .val (.ref mr), .val (.ref b2)] [(.int (2 : Int32)), (.int (10 : Int32)), (.int (0 : Int32)), (.ref b2), (.int (0 : Int32)), (.ref b)])) rfl (by rw [hml]; rfl) (argsL := [(.int (10 : Int32)), (.int (2 : Int32))]) (rest := [(.int (0 : Int32)), (.ref b2), (.int (0 : Int32)), (.ref b)]) (lenOf own_pd1 rfl) rfl (w0 (Nat.le_of_eq rfl)) (hb hby d14_32) (fun _ _ => ⟨rfl, e2, (by decide : 1 + 0 ≤ _), (by decide : 2 + 0 ≤ _)⟩)
  dsimp only [Pt.U, Pt.locs, Pt.cells, Pt.slots] at X4 l4 y4 z4 st4 hQ4
  subst l4 y4 z4
  obtain ⟨rfl, N4q, e4⟩ := hQ4
  have N4 := Fr.app N0 N4q
  refine Gs st4 ?_
  show Goes _ _ _ _ _ (T4.setTop (mkF m 35 #[.val (.ref b), .val (.int (2 : Int32)), .val (.ref mr), .val (.ref b2)] [(.int (2 : Int32)), (.int (0 : Int32)), (.ref b2), (.int (0 : Int32)), (.ref b)]))
  obtain ⟨cl5, Ar5, q5, -⟩ := id V_b2
  obtain ⟨T5, h5, L5, X5, e5, N5, K5, Vn5, st5⟩ := cpA X4 hx hZ hown (gw hw 171 rfl) (gw hw 174 rfl) (gw hw 172 rfl) (gw hw 173 rfl) e4 V_b V_b2 (us := [(.ref el0), (.ref el1)]) (Or.inr ⟨rfl, rfl, ⟨Sto.ofV Ar5 q5 O2 I_el0_2, ⟨Sto.ofV Ar5 q5 O2 I_el1_3, trivial⟩⟩⟩) (by decide) (by decide) (by decide) (by decide) (by decide) rfl (by decide) N4 g_b2 (g := (mkF m 35 #[.val (.ref b), .val (.int (2 : Int32)), .val (.ref mr), .val (.ref b2)] [(.int (2 : Int32)), (.int (0 : Int32)), (.ref b2), (.int (0 : Int32)), (.ref b)])) rfl (by rw [hml]; rfl) rfl (hb hby d14_35) (by decide) (W := 0) (w0 (Nat.le_of_eq rfl)) (by decide)
  replace KP := KP.trans K5 (allS (Or.inr sz_b2) all0)
  replace Z0 := Nat.le_trans Z0 K5.1
  have V_b2 : Arv Z h5 b2 _ (.object "java/lang/Object") (2 : Int32) [(.ref el0), (.ref el1)] .null := Vn5
  refine Gs st5 ?_
  show Goes _ _ _ _ _ (T5.setTop (mkF m 38 #[.val (.ref b), .val (.int (2 : Int32)), .val (.ref mr), .val (.ref b2)] []))
  refine Gs (fun _ tk => XS.aloadN X5.here hx rfl (hb hby d14_38) rfl rfl tk) ?_
  refine Goes.ret X5 (some (.ref b2)) (fun h => by rw [hret] at h; cases h) hlk (by decide) (by decide) ?_ (fun fs hr => ?_)
  · rw [e5]; exact ⟨b2, k2, rfl, N5, KP, V_b2, g_b2, sz_b2⟩
  · exact own_retA X5 hx hret rfl rfl (hb hby d14_39) hr
theorem own_ef_rm_cp2_2 (m : MethodId) (x0 : Addr) (x1 : Int32) : entryFrame m #[(.ref x0), (.int x1)] 2 = mkF m 0 #[.val (.ref x0), .val (.int x1)] [] := by first | (simp [entryFrame, mkF, argsToLocals, Value.category]; done) | rfl
def Q_rm_cp2_2 (Z : State) (el0 : Addr) (el1 : Addr) (b : Addr) (kb : ClassId) (mr : Addr) (h0 : Heap) (n0 : Nat) (v : Option Value) (h : Heap) (L : List Loc) : Prop := ∃ cb : Addr, ∃ kc : ClassId, v = some (.ref cb) ∧ Fr n0 L ∧ Keep h0 h [] ∧ Arv Z h cb kc (.object "java/lang/Object") (2 : Int32) [(.ref el0), (.ref el1)] .null ∧ n0 ≤ cb ∧ h0.size ≤ cb
set_option maxRecDepth 65536 in
set_option maxHeartbeats 40000000 in
theorem rm_cp2_2 (l : Launch) (Z : State) (a0 : Array Value) (hw : ∀ d ∈ tables_1, d.before a0 Z = true) (ws : List Jvm.Cond) (el0 : Addr) (el1 : Addr) (b : Addr) (kb : ClassId) (mr : Addr) (h0 : Heap) (n0 : Nat) (Z0 : n0 ≤ h0.size) (V_b : Arv Z h0 b kb (.object "java/lang/Object") (10 : Int32) [(.ref el0), (.ref el1), .null, .null, .null, .null, .null, .null, .null, .null] .null) (A_b : Exa Z h0 b "[Ljava/lang/Object;") (I_el0_2 : Ins Z h0 el0 "java/lang/Object" true) (I_el1_3 : Ins Z h0 el1 "java/lang/Object" true) (hmr : Mir Z "[Ljava/lang/Object;" mr) :
    Met l Z mN15 jdk_65_method_119_code 2 (some (.array (.object "java/lang/Object"))) ({ frames := 2, cells := 1, slots := 2, locals := 33 } : Room) ws #[(.ref b), (.int (2 : Int32))] h0 (Q_rm_cp2_2 Z el0 el1 b kb mr h0 n0) := by
  refine own_met (plainFor_of_name own_pn7) ?_
  intro p e s m below meth c s₁ hret hx hby hlk hml hown hnm X0 e0 hZ hh
  have N0 := Fr.nil n0
  refine Gs (fun _ tk => castTop (own_ef_rm_cp2_2 m b (2 : Int32)) tk) ?_
  have KP : Keep h0 h0 [] := Keep.refl _ _
  show Goes _ _ _ _ _ (s₁.setTop (mkF m 0 #[.val (.ref b), .val (.int (2 : Int32))] []))
  refine Gs (fun _ tk => XS.aloadN X0.here hx rfl (hb hby d15_0) rfl rfl tk) ?_
  refine Gs (fun _ tk => XS.iloadN X0.here hx rfl (hb hby d15_1) rfl tk) ?_
  refine Gs (fun _ tk => XS.aloadN X0.here hx rfl (hb hby d15_2) rfl rfl tk) ?_
  obtain ⟨T1, X1, e1, st1⟩ := gcls X0 hx hZ hown (gw hw 157 rfl) (gw hw 158 rfl) (gw hw 63 rfl) (gw hw 160 rfl) (gw hw 159 rfl) (gw hw 161 rfl) e0 A_b hmr (g := (mkF m 3 #[.val (.ref b), .val (.int (2 : Int32))] [(.ref b), (.int (2 : Int32)), (.ref b)])) rfl (by rw [hml]; rfl) rfl (hb hby d15_3) (by decide) (W := 2) (w0 (Nat.le_of_eq rfl)) (by decide)
  refine Gs st1 ?_
  show Goes _ _ _ _ _ (T1.setTop (mkF m 6 #[.val (.ref b), .val (.int (2 : Int32))] [(.ref mr), (.int (2 : Int32)), (.ref b)]))
  have ltc2_b : b < h0.size := V_b.lt
  have szs2 : h0.size ≤ h0.size := KP.1
  obtain ⟨_, _, ⟨T2, L2, k2, n2⟩, -, X2, ⟨Lc2, hQ2, l2, y2, z2⟩, st2⟩ := Jvm.LawKit.callS X1 hx (y := mN14) hown (mvT hZ (gw hw 163 rfl)) (mvT hZ (gw hw 164 rfl)) (mvT hZ (gw hw 155 rfl)) (mvT hZ (gw hw 165 rfl)) (by decide) (backOf (W := 0) (rm_cp3_2 l Z a0 hw [] el0 el1 b kb mr h0 n0 Z0 V_b A_b I_el0_2 I_el1_3 (by first | assumption | decide)) hZ (gw hw 165 rfl) (gw hw 155 rfl) (by decide) (by decide)) (g := (mkF m 6 #[.val (.ref b), .val (.int (2 : Int32))] [(.ref mr), (.int (2 : Int32)), (.ref b)])) rfl (by rw [hml]; rfl) (argsL := [(.ref b), (.int (2 : Int32)), (.ref mr)]) (rest := []) (lenOf own_pd5 rfl) rfl (w0 (Nat.le_of_eq rfl)) (hb hby d15_6) (fun _ _ => ⟨rfl, e1, (by decide : 0 + 1 ≤ _), (by decide : 0 + 2 ≤ _)⟩)
  dsimp only [Pt.U, Pt.locs, Pt.cells, Pt.slots] at X2 l2 y2 z2 st2 hQ2
  subst l2 y2 z2
  obtain ⟨cb2, kc2, rfl, N2q, K2, V_cb2_2', g_cb2_2', sz_cb2_2'⟩ := hQ2
  have N2 := Fr.app N0 N2q
  replace KP := KP.trans K2 all0
  replace Z0 := Nat.le_trans Z0 K2.1
  have V_cb2 := V_cb2_2'
  have g_cb2 := g_cb2_2'
  have szc_cb2 := sz_cb2_2'
  have ne_b_cb2 : b ≠ cb2 := Nat.ne_of_lt (Nat.lt_of_lt_of_le ltc2_b szc_cb2)
  have sz_cb2 : h0.size ≤ cb2 := Nat.le_trans szs2 szc_cb2
  refine Gs st2 ?_
  show Goes _ _ _ _ _ (T2.setTop (mkF m 9 #[.val (.ref b), .val (.int (2 : Int32))] [(.ref cb2)]))
  refine Goes.ret X2 (some (.ref cb2)) (fun h => by rw [hret] at h; cases h) hlk (by decide) (by decide) ?_ (fun fs hr => ?_)
  · exact ⟨cb2, kc2, rfl, N2, KP, V_cb2, g_cb2, sz_cb2⟩
  · exact own_retA X2 hx hret rfl rfl (hb hby d15_9) hr
theorem own_ef_rm_toarr2 (m : MethodId) (x0 : Addr) : entryFrame m #[(.ref x0)] 1 = mkF m 0 #[.val (.ref x0)] [] := by first | (simp [entryFrame, mkF, argsToLocals, Value.category]; done) | rfl
def Q_rm_toarr2 (Z : State) (a : Addr) (el0 : Addr) (el1 : Addr) (b : Addr) (kb : ClassId) (mr : Addr) (h0 : Heap) (n0 : Nat) (v : Option Value) (h : Heap) (L : List Loc) : Prop := ∃ cb : Addr, ∃ kc : ClassId, v = some (.ref cb) ∧ Fr n0 L ∧ Keep h0 h [] ∧ Arv Z h cb kc (.object "java/lang/Object") (2 : Int32) [(.ref el0), (.ref el1)] .null ∧ n0 ≤ cb ∧ h0.size ≤ cb
set_option maxRecDepth 65536 in
set_option maxHeartbeats 40000000 in
theorem rm_toarr2 (l : Launch) (Z : State) (a0 : Array Value) (hw : ∀ d ∈ tables_1, d.before a0 Z = true) (ws : List Jvm.Cond) (a : Addr) (el0 : Addr) (el1 : Addr) (b : Addr) (kb : ClassId) (mr : Addr) (h0 : Heap) (n0 : Nat) (Z0 : n0 ≤ h0.size) (F_elementData_a : Fld Z h0 a "java/util/ArrayList" "elementData" "[Ljava/lang/Object;" (.ref b)) (F_size_a : Fld Z h0 a "java/util/ArrayList" "size" "I" (.int (2 : Int32))) (V_b : Arv Z h0 b kb (.object "java/lang/Object") (10 : Int32) [(.ref el0), (.ref el1), .null, .null, .null, .null, .null, .null, .null, .null] .null) (A_b : Exa Z h0 b "[Ljava/lang/Object;") (I_el0_4 : Ins Z h0 el0 "java/lang/Object" true) (I_el1_5 : Ins Z h0 el1 "java/lang/Object" true) (hmr : Mir Z "[Ljava/lang/Object;" mr) :
    Met l Z mN16 jdk_38_method_16_code 1 (some (.array (.object "java/lang/Object"))) ({ frames := 3, cells := 1, slots := 2, locals := 46 } : Room) ws #[(.ref a)] h0 (Q_rm_toarr2 Z a el0 el1 b kb mr h0 n0) := by
  refine own_met (plainFor_of_name own_pn6) ?_
  intro p e s m below meth c s₁ hret hx hby hlk hml hown hnm X0 e0 hZ hh
  have N0 := Fr.nil n0
  refine Gs (fun _ tk => castTop (own_ef_rm_toarr2 m a) tk) ?_
  have KP : Keep h0 h0 [] := Keep.refl _ _
  show Goes _ _ _ _ _ (s₁.setTop (mkF m 0 #[.val (.ref a)] []))
  refine Gs (fun _ tk => XS.aloadN X0.here hx rfl (hb hby d16_0) rfl rfl tk) ?_
  obtain ⟨T1, X1, e1, st1⟩ := getF X0 hx hZ hown (host := "") (Or.inl (gw hw 42 rfl)) Via.refl e0 F_elementData_a (g := (mkF m 1 #[.val (.ref a)] [(.ref a)])) rfl rfl (hb hby d16_1)
  refine Gs st1 ?_
  show Goes _ _ _ _ _ (T1.setTop (mkF m 4 #[.val (.ref a)] [(.ref b)]))
  refine Gs (fun _ tk => XS.aloadN X1.here hx rfl (hb hby d16_4) rfl rfl tk) ?_
  obtain ⟨T2, X2, e2, st2⟩ := getF X1 hx hZ hown (host := "") (Or.inl (gw hw 74 rfl)) Via.refl e1 F_size_a (g := (mkF m 5 #[.val (.ref a)] [(.ref a), (.ref b)])) rfl rfl (hb hby d16_5)
  refine Gs st2 ?_
  show Goes _ _ _ _ _ (T2.setTop (mkF m 8 #[.val (.ref a)] [(.int (2 : Int32)), (.ref b)]))
  have ltc3_a : a < h0.size := F_elementData_a.lt
  have ltc3_b : b < h0.size := V_b.lt
  have szs3 : h0.size ≤ h0.size := KP.1
  obtain ⟨_, _, ⟨T3, L3, k3, n3⟩, -, X3, ⟨Lc3, hQ3, l3, y3, z3⟩, st3⟩ := Jvm.LawKit.callS X2 hx (y := mN15) hown (mvT hZ (gw hw 153 rfl)) (mvT hZ (gw hw 154 rfl)) (mvT hZ (gw hw 155 rfl)) (mvT hZ (gw hw 156 rfl)) (by decide) (backOf (W := 0) (rm_cp2_2 l Z a0 hw [] el0 el1 b kb mr h0 n0 Z0 V_b A_b I_el0_4 I_el1_5 (by first | assumption | decide)) hZ (gw hw 156 rfl) (gw hw 155 rfl) (by decide) (by decide)) (g := (mkF m 8 #[.val (.ref a)] [(.int (2 : Int32)), (.ref b)])) rfl (by rw [hml]; rfl) (argsL := [(.ref b), (.int (2 : Int32))]) (rest := []) (lenOf own_pd6 rfl) rfl (w0 (Nat.le_of_eq rfl)) (hb hby d16_8) (fun _ _ => ⟨rfl, e2, (by decide : 0 + 1 ≤ _), (by decide : 0 + 2 ≤ _)⟩)
  dsimp only [Pt.U, Pt.locs, Pt.cells, Pt.slots] at X3 l3 y3 z3 st3 hQ3
  subst l3 y3 z3
  obtain ⟨cb3, kc3, rfl, N3q, K3, V_cb3_3', g_cb3_3', sz_cb3_3'⟩ := hQ3
  have N3 := Fr.app N0 N3q
  replace KP := KP.trans K3 all0
  replace Z0 := Nat.le_trans Z0 K3.1
  have V_cb3 := V_cb3_3'
  have g_cb3 := g_cb3_3'
  have szc_cb3 := sz_cb3_3'
  have ne_a_cb3 : a ≠ cb3 := Nat.ne_of_lt (Nat.lt_of_lt_of_le ltc3_a szc_cb3)
  have ne_b_cb3 : b ≠ cb3 := Nat.ne_of_lt (Nat.lt_of_lt_of_le ltc3_b szc_cb3)
  have sz_cb3 : h0.size ≤ cb3 := Nat.le_trans szs3 szc_cb3
  refine Gs st3 ?_
  show Goes _ _ _ _ _ (T3.setTop (mkF m 11 #[.val (.ref a)] [(.ref cb3)]))
  refine Goes.ret X3 (some (.ref cb3)) (fun h => by rw [hret] at h; cases h) hlk (by decide) (by decide) ?_ (fun fs hr => ?_)
  · exact ⟨cb3, kc3, rfl, N3, KP, V_cb3, g_cb3, sz_cb3⟩
  · exact own_retA X3 hx hret rfl rfl (hb hby d16_11) hr
theorem d17_0 : decode jdk_44_method_1_code 0 = .ok (.aload_n 0, 1) := by decide +kernel
theorem d17_1 : decode jdk_44_method_1_code 1 = .ok (.invokespecial 1, 3) := by decide +kernel
theorem d17_4 : decode jdk_44_method_1_code 4 = .ok (.aload_n 0, 1) := by decide +kernel
theorem d17_5 : decode jdk_44_method_1_code 5 = .ok (.aload_n 1, 1) := by decide +kernel
theorem d17_6 : decode jdk_44_method_1_code 6 = .ok (.invokestatic 7, 3) := by decide +kernel
theorem own_pd7 : parseMethodDescriptor "(Ljava/lang/Object;)Ljava/lang/Object;" = some ⟨[(.object "java/lang/Object")], some (.object "java/lang/Object")⟩ := by decide +kernel
theorem d17_9 : decode jdk_44_method_1_code 9 = .ok (.putfield 13, 3) := by decide +kernel
theorem d17_12 : decode jdk_44_method_1_code 12 = .ok (.aload_n 0, 1) := by decide +kernel
theorem d17_13 : decode jdk_44_method_1_code 13 = .ok (.getstatic 19, 3) := by decide +kernel
theorem d17_16 : decode jdk_44_method_1_code 16 = .ok (.putfield 24, 3) := by decide +kernel
theorem d17_19 : decode jdk_44_method_1_code 19 = .ok (.return_, 1) := by decide +kernel
theorem own_pn8 : plainName "java/util/ImmutableCollections$List12" = true := by first | (simp [plainName, overriddenIn]; done) | decide +kernel
theorem own_ef_rm_l12i1 (m : MethodId) (x0 : Addr) (x1 : Addr) : entryFrame m #[(.ref x0), (.ref x1)] 2 = mkF m 0 #[.val (.ref x0), .val (.ref x1)] [] := by first | (simp [entryFrame, mkF, argsToLocals, Value.category]; done) | rfl
def Q_rm_l12i1 (Z : State) (a : Addr) (el0 : Addr) (em : Addr) (h0 : Heap) (n0 : Nat) (v : Option Value) (h : Heap) (L : List Loc) : Prop := v = none ∧ Fr n0 L ∧ Keep h0 h [a] ∧ Fld Z h a "java/util/ImmutableCollections$List12" "e0" "Ljava/lang/Object;" (.ref el0) ∧ Fld Z h a "java/util/ImmutableCollections$List12" "e1" "Ljava/lang/Object;" (.ref em)
set_option maxRecDepth 65536 in
set_option maxHeartbeats 40000000 in
theorem rm_l12i1 (l : Launch) (Z : State) (a0 : Array Value) (hw : ∀ d ∈ tables_1, d.before a0 Z = true) (ws : List Jvm.Cond) (a : Addr) (el0 : Addr) (em : Addr) (h0 : Heap) (n0 : Nat) (Z0 : n0 ≤ h0.size) (A_a : Exa Z h0 a "java/util/ImmutableCollections$List12") (F_e0_a : Fld Z h0 a "java/util/ImmutableCollections$List12" "e0" "Ljava/lang/Object;" .null) (F_e1_a : Fld Z h0 a "java/util/ImmutableCollections$List12" "e1" "Ljava/lang/Object;" .null) (g_a : n0 ≤ a) (S_EMPTY : Sta Z h0 "java/util/ImmutableCollections" "EMPTY" "Ljava/lang/Object;" (.ref em)) :
    Met l Z mN17 jdk_44_method_1_code 2 none ({ frames := 4, cells := 0, slots := 0, locals := 48 } : Room) ws #[(.ref a), (.ref el0)] h0 (Q_rm_l12i1 Z a el0 em h0 n0) := by
  refine own_met (plainFor_of_name own_pn8) ?_
  intro p e s m below meth c s₁ hret hx hby hlk hml hown hnm X0 e0 hZ hh
  have N0 := Fr.nil n0
  refine Gs (fun _ tk => castTop (own_ef_rm_l12i1 m a el0) tk) ?_
  have KP : Keep h0 h0 [a] := Keep.refl _ _
  show Goes _ _ _ _ _ (s₁.setTop (mkF m 0 #[.val (.ref a), .val (.ref el0)] []))
  refine Gs (fun _ tk => XS.aloadN X0.here hx rfl (hb hby d17_0) rfl rfl tk) ?_
  obtain ⟨_, _, ⟨T1, L1, k1, n1⟩, -, X1, ⟨Lc1, hQ1, l1, y1, z1⟩, st1⟩ := X0.specialBack hx (y := mN3) rfl hown (mvT hZ (gw hw 185 rfl)) (mvT hZ (gw hw 186 rfl)) (mvT hZ (gw hw 190 rfl)) (by decide) (backOf (W := 0) (rm_ail l Z a0 hw [] a h0 n0 Z0) hZ (gw hw 190 rfl) (gw hw 189 rfl) (by decide) (by decide)) (g := (mkF m 1 #[.val (.ref a), .val (.ref el0)] [(.ref a)])) rfl (by rw [hml]; rfl) (Steps.refl _) (a := a) (argsL := []) (rest := []) (lenOf own_pd0 rfl) rfl (w0 (Nat.le_of_eq rfl)) (hb hby d17_1) (fun _ _ => ⟨rfl, e0, (by decide : 0 + 0 ≤ _), (by decide : 0 + 0 ≤ _)⟩)
  dsimp only [Pt.U, Pt.locs, Pt.cells, Pt.slots] at X1 l1 y1 z1 st1 hQ1
  subst l1 y1 z1
  obtain ⟨rfl, N1q, e1⟩ := hQ1
  have N1 := Fr.app N0 N1q
  refine Gs (fun _ tk => st1.trans tk) ?_
  show Goes _ _ _ _ _ (T1.setTop (mkF m 4 #[.val (.ref a), .val (.ref el0)] []))
  refine Gs (fun _ tk => XS.aloadN X1.here hx rfl (hb hby d17_4) rfl rfl tk) ?_
  refine Gs (fun _ tk => XS.aloadN X1.here hx rfl (hb hby d17_5) rfl rfl tk) ?_
  obtain ⟨_, _, ⟨T2, L2, k2, n2⟩, -, X2, ⟨Lc2, hQ2, l2, y2, z2⟩, st2⟩ := Jvm.LawKit.callS X1 hx (y := mN4) hown (mvT hZ (gw hw 199 rfl)) (mvT hZ (gw hw 200 rfl)) (mvT hZ (gw hw 201 rfl)) (mvT hZ (gw hw 202 rfl)) (by decide) (backOf (W := 1) (rm_nn l Z a0 hw [] el0 h0 n0 Z0) hZ (gw hw 202 rfl) (gw hw 201 rfl) (by decide) (by decide)) (g := (mkF m 6 #[.val (.ref a), .val (.ref el0)] [(.ref el0), (.ref a)])) rfl (by rw [hml]; rfl) (argsL := [(.ref el0)]) (rest := [(.ref a)]) (lenOf own_pd7 rfl) rfl (w0 (Nat.le_of_eq rfl)) (hb hby d17_6) (fun _ _ => ⟨rfl, e1, (by decide : 0 + 0 ≤ _), (by decide : 0 + 0 ≤ _)⟩)
  dsimp only [Pt.U, Pt.locs, Pt.cells, Pt.slots] at X2 l2 y2 z2 st2 hQ2
  subst l2 y2 z2
  obtain ⟨rfl, N2q, e2⟩ := hQ2
  have N2 := Fr.app N1 N2q
  refine Gs st2 ?_
  show Goes _ _ _ _ _ (T2.setTop (mkF m 9 #[.val (.ref a), .val (.ref el0)] [(.ref el0), (.ref a)]))
  obtain ⟨T3, h3, X3, e3, W3, st3⟩ := putF X2 hx hZ hown (host := "") (Or.inl (gw hw 203 rfl)) Via.refl e2 F_e0_a A_a (Or.inr ⟨(gw hw 204 rfl), rfl, hnm⟩) (gw hw 179 rfl) (ty := (.object "java/lang/Object")) (by decide) rfl rfl (g := (mkF m 9 #[.val (.ref a), .val (.ref el0)] [(.ref el0), (.ref a)])) rfl rfl (hb hby d17_9)
  have N3 := Fr.snoc X3 N2 g_a
  replace A_a := A_a.wr W3
  replace F_e1_a := F_e1_a.other W3 (Or.inr (slot_ne (Or.inr (gw hw 207 rfl)) (Or.inr (gw hw 204 rfl)) (by decide) (t := (.object "java/lang/Object")) (t' := (.object "java/lang/Object")) (by decide) (by decide)))
  replace S_EMPTY := S_EMPTY.wr W3
  replace KP := KP.wr W3 (Or.inl (List.mem_of_getElem? (i := 0) rfl))
  replace F_e0_a := F_e0_a.same W3
  replace Z0 : n0 ≤ h3.size := by rw [W3.size]; exact Z0
  refine Gs st3 ?_
  show Goes _ _ _ _ _ (T3.setTop (mkF m 12 #[.val (.ref a), .val (.ref el0)] []))
  refine Gs (fun _ tk => XS.aloadN X3.here hx rfl (hb hby d17_12) rfl rfl tk) ?_
  obtain ⟨T4, X4, e4, st4⟩ := getS2 X3 hx hZ hown (Or.inr (gw hw 205 rfl)) Via.refl e3 S_EMPTY (g := (mkF m 13 #[.val (.ref a), .val (.ref el0)] [(.ref a)])) rfl (hb hby d17_13)
  refine Gs st4 ?_
  show Goes _ _ _ _ _ (T4.setTop (mkF m 16 #[.val (.ref a), .val (.ref el0)] [(.ref em), (.ref a)]))
  obtain ⟨T5, h5, X5, e5, W5, st5⟩ := putF X4 hx hZ hown (host := "") (Or.inl (gw hw 206 rfl)) Via.refl e4 F_e1_a A_a (Or.inr ⟨(gw hw 207 rfl), rfl, hnm⟩) (gw hw 179 rfl) (ty := (.object "java/lang/Object")) (by decide) rfl rfl (g := (mkF m 16 #[.val (.ref a), .val (.ref el0)] [(.ref em), (.ref a)])) rfl rfl (hb hby d17_16)
  have N5 := Fr.snoc X5 N3 g_a
  replace F_e0_a := F_e0_a.other W5 (Or.inr (slot_ne (Or.inr (gw hw 204 rfl)) (Or.inr (gw hw 207 rfl)) (by decide) (t := (.object "java/lang/Object")) (t' := (.object "java/lang/Object")) (by decide) (by decide)))
  replace KP := KP.wr W5 (Or.inl (List.mem_of_getElem? (i := 0) rfl))
  replace F_e1_a := F_e1_a.same W5
  replace Z0 : n0 ≤ h5.size := by rw [W5.size]; exact Z0
  refine Gs st5 ?_
  show Goes _ _ _ _ _ (T5.setTop (mkF m 19 #[.val (.ref a), .val (.ref el0)] []))
  refine Goes.ret X5 none (fun _ => rfl) hlk (by decide) (by decide) ?_ (fun fs hr => ?_)
  · rw [e5]; exact ⟨rfl, N5, KP, F_e0_a, F_e1_a⟩
  · exact X5.returnOut hx hret (hb hby d17_19) hr
theorem d18_0 : decode jdk_44_method_2_code 0 = .ok (.aload_n 0, 1) := by decide +kernel
theorem d18_1 : decode jdk_44_method_2_code 1 = .ok (.invokespecial 1, 3) := by decide +kernel
theorem d18_4 : decode jdk_44_method_2_code 4 = .ok (.aload_n 0, 1) := by decide +kernel
theorem d18_5 : decode jdk_44_method_2_code 5 = .ok (.aload_n 1, 1) := by decide +kernel
theorem d18_6 : decode jdk_44_method_2_code 6 = .ok (.invokestatic 7, 3) := by decide +kernel
theorem d18_9 : decode jdk_44_method_2_code 9 = .ok (.putfield 13, 3) := by decide +kernel
theorem d18_12 : decode jdk_44_method_2_code 12 = .ok (.aload_n 0, 1) := by decide +kernel
theorem d18_13 : decode jdk_44_method_2_code 13 = .ok (.aload_n 2, 1) := by decide +kernel
theorem d18_14 : decode jdk_44_method_2_code 14 = .ok (.invokestatic 7, 3) := by decide +kernel
theorem d18_17 : decode jdk_44_method_2_code 17 = .ok (.putfield 24, 3) := by decide +kernel
theorem d18_20 : decode jdk_44_method_2_code 20 = .ok (.return_, 1) := by decide +kernel
theorem own_ef_rm_l12i2 (m : MethodId) (x0 : Addr) (x1 : Addr) (x2 : Addr) : entryFrame m #[(.ref x0), (.ref x1), (.ref x2)] 3 = mkF m 0 #[.val (.ref x0), .val (.ref x1), .val (.ref x2)] [] := by first | (simp [entryFrame, mkF, argsToLocals, Value.category]; done) | rfl
def Q_rm_l12i2 (Z : State) (a : Addr) (el0 : Addr) (el1 : Addr) (h0 : Heap) (n0 : Nat) (v : Option Value) (h : Heap) (L : List Loc) : Prop := v = none ∧ Fr n0 L ∧ Keep h0 h [a] ∧ Fld Z h a "java/util/ImmutableCollections$List12" "e0" "Ljava/lang/Object;" (.ref el0) ∧ Fld Z h a "java/util/ImmutableCollections$List12" "e1" "Ljava/lang/Object;" (.ref el1)
set_option maxRecDepth 65536 in
set_option maxHeartbeats 40000000 in
theorem rm_l12i2 (l : Launch) (Z : State) (a0 : Array Value) (hw : ∀ d ∈ tables_1, d.before a0 Z = true) (ws : List Jvm.Cond) (a : Addr) (el0 : Addr) (el1 : Addr) (h0 : Heap) (n0 : Nat) (Z0 : n0 ≤ h0.size) (A_a : Exa Z h0 a "java/util/ImmutableCollections$List12") (F_e0_a : Fld Z h0 a "java/util/ImmutableCollections$List12" "e0" "Ljava/lang/Object;" .null) (F_e1_a : Fld Z h0 a "java/util/ImmutableCollections$List12" "e1" "Ljava/lang/Object;" .null) (g_a : n0 ≤ a) :
    Met l Z mN18 jdk_44_method_2_code 3 none ({ frames := 4, cells := 0, slots := 0, locals := 48 } : Room) ws #[(.ref a), (.ref el0), (.ref el1)] h0 (Q_rm_l12i2 Z a el0 el1 h0 n0) := by
  refine own_met (plainFor_of_name own_pn8) ?_
  intro p e s m below meth c s₁ hret hx hby hlk hml hown hnm X0 e0 hZ hh
  have N0 := Fr.nil n0
  refine Gs (fun _ tk => castTop (own_ef_rm_l12i2 m a el0 el1) tk) ?_
  have KP : Keep h0 h0 [a] := Keep.refl _ _
  show Goes _ _ _ _ _ (s₁.setTop (mkF m 0 #[.val (.ref a), .val (.ref el0), .val (.ref el1)] []))
  refine Gs (fun _ tk => XS.aloadN X0.here hx rfl (hb hby d18_0) rfl rfl tk) ?_
  obtain ⟨_, _, ⟨T1, L1, k1, n1⟩, -, X1, ⟨Lc1, hQ1, l1, y1, z1⟩, st1⟩ := X0.specialBack hx (y := mN3) rfl hown (mvT hZ (gw hw 185 rfl)) (mvT hZ (gw hw 186 rfl)) (mvT hZ (gw hw 190 rfl)) (by decide) (backOf (W := 0) (rm_ail l Z a0 hw [] a h0 n0 Z0) hZ (gw hw 190 rfl) (gw hw 189 rfl) (by decide) (by decide)) (g := (mkF m 1 #[.val (.ref a), .val (.ref el0), .val (.ref el1)] [(.ref a)])) rfl (by rw [hml]; rfl) (Steps.refl _) (a := a) (argsL := []) (rest := []) (lenOf own_pd0 rfl) rfl (w0 (Nat.le_of_eq rfl)) (hb hby d18_1) (fun _ _ => ⟨rfl, e0, (by decide : 0 + 0 ≤ _), (by decide : 0 + 0 ≤ _)⟩)
  dsimp only [Pt.U, Pt.locs, Pt.cells, Pt.slots] at X1 l1 y1 z1 st1 hQ1
  subst l1 y1 z1
  obtain ⟨rfl, N1q, e1⟩ := hQ1
  have N1 := Fr.app N0 N1q
  refine Gs (fun _ tk => st1.trans tk) ?_
  show Goes _ _ _ _ _ (T1.setTop (mkF m 4 #[.val (.ref a), .val (.ref el0), .val (.ref el1)] []))
  refine Gs (fun _ tk => XS.aloadN X1.here hx rfl (hb hby d18_4) rfl rfl tk) ?_
  refine Gs (fun _ tk => XS.aloadN X1.here hx rfl (hb hby d18_5) rfl rfl tk) ?_
  obtain ⟨_, _, ⟨T2, L2, k2, n2⟩, -, X2, ⟨Lc2, hQ2, l2, y2, z2⟩, st2⟩ := Jvm.LawKit.callS X1 hx (y := mN4) hown (mvT hZ (gw hw 199 rfl)) (mvT hZ (gw hw 200 rfl)) (mvT hZ (gw hw 201 rfl)) (mvT hZ (gw hw 202 rfl)) (by decide) (backOf (W := 1) (rm_nn l Z a0 hw [] el0 h0 n0 Z0) hZ (gw hw 202 rfl) (gw hw 201 rfl) (by decide) (by decide)) (g := (mkF m 6 #[.val (.ref a), .val (.ref el0), .val (.ref el1)] [(.ref el0), (.ref a)])) rfl (by rw [hml]; rfl) (argsL := [(.ref el0)]) (rest := [(.ref a)]) (lenOf own_pd7 rfl) rfl (w0 (Nat.le_of_eq rfl)) (hb hby d18_6) (fun _ _ => ⟨rfl, e1, (by decide : 0 + 0 ≤ _), (by decide : 0 + 0 ≤ _)⟩)
  dsimp only [Pt.U, Pt.locs, Pt.cells, Pt.slots] at X2 l2 y2 z2 st2 hQ2
  subst l2 y2 z2
  obtain ⟨rfl, N2q, e2⟩ := hQ2
  have N2 := Fr.app N1 N2q
  refine Gs st2 ?_
  show Goes _ _ _ _ _ (T2.setTop (mkF m 9 #[.val (.ref a), .val (.ref el0), .val (.ref el1)] [(.ref el0), (.ref a)]))
  obtain ⟨T3, h3, X3, e3, W3, st3⟩ := putF X2 hx hZ hown (host := "") (Or.inl (gw hw 203 rfl)) Via.refl e2 F_e0_a A_a (Or.inr ⟨(gw hw 204 rfl), rfl, hnm⟩) (gw hw 179 rfl) (ty := (.object "java/lang/Object")) (by decide) rfl rfl (g := (mkF m 9 #[.val (.ref a), .val (.ref el0), .val (.ref el1)] [(.ref el0), (.ref a)])) rfl rfl (hb hby d18_9)
  have N3 := Fr.snoc X3 N2 g_a
  replace A_a := A_a.wr W3
  replace F_e1_a := F_e1_a.other W3 (Or.inr (slot_ne (Or.inr (gw hw 207 rfl)) (Or.inr (gw hw 204 rfl)) (by decide) (t := (.object "java/lang/Object")) (t' := (.object "java/lang/Object")) (by decide) (by decide)))
  replace KP := KP.wr W3 (Or.inl (List.mem_of_getElem? (i := 0) rfl))
  replace F_e0_a := F_e0_a.same W3
  replace Z0 : n0 ≤ h3.size := by rw [W3.size]; exact Z0
  refine Gs st3 ?_
  show Goes _ _ _ _ _ (T3.setTop (mkF m 12 #[.val (.ref a), .val (.ref el0), .val (.ref el1)] []))
  refine Gs (fun _ tk => XS.aloadN X3.here hx rfl (hb hby d18_12) rfl rfl tk) ?_
  refine Gs (fun _ tk => XS.aloadN X3.here hx rfl (hb hby d18_13) rfl rfl tk) ?_
  obtain ⟨_, _, ⟨T4, L4, k4, n4⟩, -, X4, ⟨Lc4, hQ4, l4, y4, z4⟩, st4⟩ := Jvm.LawKit.callS X3 hx (y := mN4) hown (mvT hZ (gw hw 199 rfl)) (mvT hZ (gw hw 200 rfl)) (mvT hZ (gw hw 201 rfl)) (mvT hZ (gw hw 202 rfl)) (by decide) (backOf (W := 1) (rm_nn l Z a0 hw [] el1 h3 n0 Z0) hZ (gw hw 202 rfl) (gw hw 201 rfl) (by decide) (by decide)) (g := (mkF m 14 #[.val (.ref a), .val (.ref el0), .val (.ref el1)] [(.ref el1), (.ref a)])) rfl (by rw [hml]; rfl) (argsL := [(.ref el1)]) (rest := [(.ref a)]) (lenOf own_pd7 rfl) rfl (w0 (Nat.le_of_eq rfl)) (hb hby d18_14) (fun _ _ => ⟨rfl, e3, (by decide : 0 + 0 ≤ _), (by decide : 0 + 0 ≤ _)⟩)
  dsimp only [Pt.U, Pt.locs, Pt.cells, Pt.slots] at X4 l4 y4 z4 st4 hQ4
  subst l4 y4 z4
  obtain ⟨rfl, N4q, e4⟩ := hQ4
  have N4 := Fr.app N3 N4q
  refine Gs st4 ?_
  show Goes _ _ _ _ _ (T4.setTop (mkF m 17 #[.val (.ref a), .val (.ref el0), .val (.ref el1)] [(.ref el1), (.ref a)]))
  obtain ⟨T5, h5, X5, e5, W5, st5⟩ := putF X4 hx hZ hown (host := "") (Or.inl (gw hw 206 rfl)) Via.refl e4 F_e1_a A_a (Or.inr ⟨(gw hw 207 rfl), rfl, hnm⟩) (gw hw 179 rfl) (ty := (.object "java/lang/Object")) (by decide) rfl rfl (g := (mkF m 17 #[.val (.ref a), .val (.ref el0), .val (.ref el1)] [(.ref el1), (.ref a)])) rfl rfl (hb hby d18_17)
  have N5 := Fr.snoc X5 N4 g_a
  replace F_e0_a := F_e0_a.other W5 (Or.inr (slot_ne (Or.inr (gw hw 204 rfl)) (Or.inr (gw hw 207 rfl)) (by decide) (t := (.object "java/lang/Object")) (t' := (.object "java/lang/Object")) (by decide) (by decide)))
  replace KP := KP.wr W5 (Or.inl (List.mem_of_getElem? (i := 0) rfl))
  replace F_e1_a := F_e1_a.same W5
  replace Z0 : n0 ≤ h5.size := by rw [W5.size]; exact Z0
  refine Gs st5 ?_
  show Goes _ _ _ _ _ (T5.setTop (mkF m 20 #[.val (.ref a), .val (.ref el0), .val (.ref el1)] []))
  refine Goes.ret X5 none (fun _ => rfl) hlk (by decide) (by decide) ?_ (fun fs hr => ?_)
  · rw [e5]; exact ⟨rfl, N5, KP, F_e0_a, F_e1_a⟩
  · exact X5.returnOut hx hret (hb hby d18_20) hr
theorem d19_0 : decode jdk_40_method_47_code 0 = .ok (.aload_n 0, 1) := by decide +kernel
theorem d19_1 : decode jdk_40_method_47_code 1 = .ok (.arraylength, 1) := by decide +kernel
theorem d19_2 : decode jdk_40_method_47_code 2 = .ok (.tableswitch 57 0 2 #[26, 32, 43], 26) := by decide +kernel
theorem d19_34 : decode jdk_40_method_47_code 34 = .ok (.new 96, 3) := by decide +kernel
theorem d19_37 : decode jdk_40_method_47_code 37 = .ok (.dup, 1) := by decide +kernel
theorem d19_38 : decode jdk_40_method_47_code 38 = .ok (.aload_n 0, 1) := by decide +kernel
theorem d19_39 : decode jdk_40_method_47_code 39 = .ok (.iconst 0, 1) := by decide +kernel
theorem d19_40 : decode jdk_40_method_47_code 40 = .ok (.aaload, 1) := by decide +kernel
theorem d19_41 : decode jdk_40_method_47_code 41 = .ok (.invokespecial 98, 3) := by decide +kernel
theorem own_pd8 : parseMethodDescriptor "(Ljava/lang/Object;)V" = some ⟨[(.object "java/lang/Object")], none⟩ := by decide +kernel
theorem d19_44 : decode jdk_40_method_47_code 44 = .ok (.areturn, 1) := by decide +kernel
theorem own_pn9 : plainName "java/util/List" = true := by first | (simp [plainName, overriddenIn]; done) | decide +kernel
theorem own_ef_rm_of1 (m : MethodId) (x0 : Addr) : entryFrame m #[(.ref x0)] 2 = mkF m 0 #[.val (.ref x0), .unset] [] := by first | (simp [entryFrame, mkF, argsToLocals, Value.category]; done) | rfl
def Q_rm_of1 (Z : State) (el0 : Addr) (cb : Addr) (kc : ClassId) (em : Addr) (h0 : Heap) (n0 : Nat) (v : Option Value) (h : Heap) (L : List Loc) : Prop := ∃ u : Addr, v = some (.ref u) ∧ Fr n0 L ∧ Keep h0 h [] ∧ Exa Z h u "java/util/ImmutableCollections$List12" ∧ Fld Z h u "java/util/ImmutableCollections$List12" "e0" "Ljava/lang/Object;" (.ref el0) ∧ Fld Z h u "java/util/ImmutableCollections$List12" "e1" "Ljava/lang/Object;" (.ref em) ∧ n0 ≤ u ∧ h0.size ≤ u
set_option maxRecDepth 65536 in
set_option maxHeartbeats 40000000 in
theorem rm_of1 (l : Launch) (Z : State) (a0 : Array Value) (hw : ∀ d ∈ tables_1, d.before a0 Z = true) (ws : List Jvm.Cond) (el0 : Addr) (cb : Addr) (kc : ClassId) (em : Addr) (h0 : Heap) (n0 : Nat) (Z0 : n0 ≤ h0.size) (V_cb : Arv Z h0 cb kc (.object "java/lang/Object") (1 : Int32) [(.ref el0)] .null) (S_EMPTY : Sta Z h0 "java/util/ImmutableCollections" "EMPTY" "Ljava/lang/Object;" (.ref em)) :
    Met l Z mN19 jdk_40_method_47_code 2 (some (.object "java/util/List")) ({ frames := 5, cells := 1, slots := 2, locals := 62 } : Room) ws #[(.ref cb)] h0 (Q_rm_of1 Z el0 cb kc em h0 n0) := by
  refine own_met (plainFor_of_name own_pn9) ?_
  intro p e s m below meth c s₁ hret hx hby hlk hml hown hnm X0 e0 hZ hh
  have N0 := Fr.nil n0
  refine Gs (fun _ tk => castTop (own_ef_rm_of1 m cb) tk) ?_
  have KP : Keep h0 h0 [] := Keep.refl _ _
  show Goes _ _ _ _ _ (s₁.setTop (mkF m 0 #[.val (.ref cb), .unset] []))
  refine Gs (fun _ tk => XS.aloadN X0.here hx rfl (hb hby d19_0) rfl rfl tk) ?_
  obtain ⟨cl1, Ar1, -, S1, N1z, -, -⟩ := id V_cb
  refine Gs (fun _ tk => X0.arraylength hx (by rw [e0]; exact Ar1.1) (State.isArrayOf_alike hZ.alike Ar1.2.1) (g := (mkF m 1 #[.val (.ref cb), .unset] [(.ref cb)])) rfl rfl (hb hby d19_1) _ tk) ?_
  rw [len_of S1 N1z]
  show Goes _ _ _ _ _ (s₁.setTop (mkF m 2 #[.val (.ref cb), .unset] [(.int (1 : Int32))]))
  refine Gs (fun _ tk => XS.tswIn X0.here hx rfl (o := 32) (pc0 := 2) (pc' := 34) rfl (hb hby d19_2) rfl (by decide) (by decide) (by decide) (by decide) tk) ?_
  show Goes _ _ _ _ _ (s₁.setTop (mkF m 34 #[.val (.ref cb), .unset] []))
  obtain ⟨T2, h2, X2, e2, E2, A2, D2, -, st2⟩ := newO X0 hx hZ hown (gw hw 178 rfl) (gw hw 179 rfl) (gw hw 180 rfl) e0 (g := (mkF m 34 #[.val (.ref cb), .unset] [])) rfl (hb hby d19_34) (by decide) (by decide)
  obtain ⟨b2, gq2⟩ : ∃ z, z = h0.size := ⟨_, rfl⟩
  rw [← gq2] at A2 st2 D2
  have g_b2 : n0 ≤ b2 := by rw [gq2]; exact Z0
  have sz_b2 : h0.size ≤ b2 := by rw [gq2]; exact KP.1
  replace V_cb := V_cb.ext E2
  replace S_EMPTY := S_EMPTY.ext E2
  replace KP := KP.ext E2
  replace Z0 : n0 ≤ h2.size := Nat.le_trans Z0 E2.1
  have A_b2 : Exa Z h2 b2 "java/util/ImmutableCollections$List12" := A2
  have F_e0_b2 : Fld Z h2 b2 "java/util/ImmutableCollections$List12" "e0" "Ljava/lang/Object;" .null := D2 (Or.inr (gw hw 204 rfl)) (ty := (.object "java/lang/Object")) (by decide)
  have F_e1_b2 : Fld Z h2 b2 "java/util/ImmutableCollections$List12" "e1" "Ljava/lang/Object;" .null := D2 (Or.inr (gw hw 207 rfl)) (ty := (.object "java/lang/Object")) (by decide)
  refine Gs st2 ?_
  show Goes _ _ _ _ _ (T2.setTop (mkF m 37 #[.val (.ref cb), .unset] [(.ref b2)]))
  refine Gs (fun _ tk => XS.dup X2.here hx rfl (hb hby d19_37) rfl rfl tk) ?_
  refine Gs (fun _ tk => XS.aloadN X2.here hx rfl (hb hby d19_38) rfl rfl tk) ?_
  refine Gs (fun _ tk => XS.iconst X2.here hx rfl (hb hby d19_39) tk) ?_
  obtain ⟨cl3, Ar3, -, S3, N3z, H3, -⟩ := id V_cb
  have hin3 : ¬ ((0 : Int32) < 0 ∨ cl3.slots.size ≤ ((0 : Int32)).toNatClampNeg) := inb_of S3 ⟨by decide, by decide⟩
  have hat3 : cl3.slots[((0 : Int32)).toNatClampNeg]? = some (.ref el0) := Has.at H3 hin3 rfl
  refine Gs (fun _ tk => X2.aaload hx (j := (0 : Int32)) (v := (.ref el0)) (by rw [e2]; exact Ar3.1) (State.isArrayOf_alike hZ.alike Ar3.2.1) rfl Ar3.2.2 hin3 hat3 (g := (mkF m 40 #[.val (.ref cb), .unset] [(.int (0 : Int32)), (.ref cb), (.ref b2), (.ref b2)])) rfl rfl (hb hby d19_40) _ tk) ?_
  show Goes _ _ _ _ _ (T2.setTop (mkF m 41 #[.val (.ref cb), .unset] [(.ref el0), (.ref b2), (.ref b2)]))
  obtain ⟨_, _, ⟨T4, L4, k4, n4⟩, -, X4, ⟨Lc4, hQ4, l4, y4, z4⟩, st4⟩ := X2.specialBack hx (y := mN17) rfl hown (mvT hZ (gw hw 181 rfl)) (mvT hZ (gw hw 182 rfl)) (mvT hZ (gw hw 184 rfl)) (by decide) (backOf (W := 1) (rm_l12i1 l Z a0 hw [] b2 el0 em h2 n0 Z0 A_b2 F_e0_b2 F_e1_b2 g_b2 S_EMPTY) hZ (gw hw 184 rfl) (gw hw 180 rfl) (by decide) (by decide)) (g := (mkF m 41 #[.val (.ref cb), .unset] [(.ref el0), (.ref b2), (.ref b2)])) rfl (by rw [hml]; rfl) (Steps.refl _) (a := b2) (argsL := [(.ref el0)]) (rest := [(.ref b2)]) (lenOf own_pd8 rfl) rfl (w0 (Nat.le_of_eq rfl)) (hb hby d19_41) (fun _ _ => ⟨rfl, e2, (by decide : 1 + 0 ≤ _), (by decide : 2 + 0 ≤ _)⟩)
  dsimp only [Pt.U, Pt.locs, Pt.cells, Pt.slots] at X4 l4 y4 z4 st4 hQ4
  subst l4 y4 z4
  obtain ⟨rfl, N4q, K4, F_e0_b2_4', F_e1_b2_4'⟩ := hQ4
  have N4 := Fr.app N0 N4q
  replace A_b2 := A_b2.keep K4
  replace KP := KP.trans K4 (allS (Or.inr sz_b2) all0)
  replace Z0 := Nat.le_trans Z0 K4.1
  have F_e0_b2 := F_e0_b2_4'
  have F_e1_b2 := F_e1_b2_4'
  refine Gs (fun _ tk => st4.trans tk) ?_
  show Goes _ _ _ _ _ (T4.setTop (mkF m 44 #[.val (.ref cb), .unset] [(.ref b2)]))
  refine Goes.ret X4 (some (.ref b2)) (fun h => by rw [hret] at h; cases h) hlk (by decide) (by decide) ?_ (fun fs hr => ?_)
  · exact ⟨b2, rfl, N4, KP, A_b2, F_e0_b2, F_e1_b2, g_b2, sz_b2⟩
  · exact own_retA X4 hx hret rfl rfl (hb hby d19_44) hr
theorem d20_0 : decode jdk_56_method_3_code 0 = .ok (.aload_n 0, 1) := by decide +kernel
theorem d20_1 : decode jdk_56_method_3_code 1 = .ok (.instanceof 10, 3) := by decide +kernel
theorem d20_4 : decode jdk_56_method_3_code 4 = .ok (.ifCond .ne 22, 3) := by decide +kernel
theorem d20_7 : decode jdk_56_method_3_code 7 = .ok (.aload_n 0, 1) := by decide +kernel
theorem d20_8 : decode jdk_56_method_3_code 8 = .ok (.instanceof 12, 3) := by decide +kernel
theorem d20_11 : decode jdk_56_method_3_code 11 = .ok (.ifCond .eq 20, 3) := by decide +kernel
theorem d20_31 : decode jdk_56_method_3_code 31 = .ok (.aload_n 0, 1) := by decide +kernel
theorem d20_32 : decode jdk_56_method_3_code 32 = .ok (.invokeinterface 20 1, 5) := by decide +kernel
theorem own_pd9 : parseMethodDescriptor "()Z" = some ⟨[], some .boolean⟩ := by decide +kernel
theorem d20_37 : decode jdk_56_method_3_code 37 = .ok (.ifCond .eq 7, 3) := by decide +kernel
theorem d20_44 : decode jdk_56_method_3_code 44 = .ok (.aload_n 0, 1) := by decide +kernel
theorem d20_45 : decode jdk_56_method_3_code 45 = .ok (.invokeinterface 30 1, 5) := by decide +kernel
theorem d20_50 : decode jdk_56_method_3_code 50 = .ok (.invokestatic 34, 3) := by decide +kernel
theorem own_pd10 : parseMethodDescriptor "([Ljava/lang/Object;)Ljava/util/List;" = some ⟨[(.array (.object "java/lang/Object"))], some (.object "java/util/List")⟩ := by decide +kernel
theorem d20_53 : decode jdk_56_method_3_code 53 = .ok (.areturn, 1) := by decide +kernel
theorem own_pn10 : plainName "java/util/ImmutableCollections" = true := by first | (simp [plainName, overriddenIn]; done) | decide +kernel
theorem own_ef_rm_lcopy1 (m : MethodId) (x0 : Addr) : entryFrame m #[(.ref x0)] 2 = mkF m 0 #[.val (.ref x0), .unset] [] := by first | (simp [entryFrame, mkF, argsToLocals, Value.category]; done) | rfl
def Q_rm_lcopy1 (Z : State) (a : Addr) (el0 : Addr) (b : Addr) (kb : ClassId) (mr : Addr) (em : Addr) (h0 : Heap) (n0 : Nat) (v : Option Value) (h : Heap) (L : List Loc) : Prop := ∃ u : Addr, v = some (.ref u) ∧ Fr n0 L ∧ Keep h0 h [] ∧ Exa Z h u "java/util/ImmutableCollections$List12" ∧ Fld Z h u "java/util/ImmutableCollections$List12" "e0" "Ljava/lang/Object;" (.ref el0) ∧ Fld Z h u "java/util/ImmutableCollections$List12" "e1" "Ljava/lang/Object;" (.ref em) ∧ n0 ≤ u ∧ h0.size ≤ u
set_option maxRecDepth 65536 in
set_option maxHeartbeats 40000000 in
theorem rm_lcopy1 (l : Launch) (Z : State) (a0 : Array Value) (hw : ∀ d ∈ tables_1, d.before a0 Z = true) (ws : List Jvm.Cond) (a : Addr) (el0 : Addr) (b : Addr) (kb : ClassId) (mr : Addr) (em : Addr) (h0 : Heap) (n0 : Nat) (Z0 : n0 ≤ h0.size) (A_a : Exa Z h0 a "java/util/ArrayList") (F_elementData_a : Fld Z h0 a "java/util/ArrayList" "elementData" "[Ljava/lang/Object;" (.ref b)) (F_size_a : Fld Z h0 a "java/util/ArrayList" "size" "I" (.int (1 : Int32))) (V_b : Arv Z h0 b kb (.object "java/lang/Object") (10 : Int32) [(.ref el0), .null, .null, .null, .null, .null, .null, .null, .null, .null] .null) (A_b : Exa Z h0 b "[Ljava/lang/Object;") (I_el0_5 : Ins Z h0 el0 "java/lang/Object" true) (hmr : Mir Z "[Ljava/lang/Object;" mr) (S_EMPTY : Sta Z h0 "java/util/ImmutableCollections" "EMPTY" "Ljava/lang/Object;" (.ref em)) :
    Met l Z mN22 jdk_56_method_3_code 2 (some (.object "java/util/List")) ({ frames := 6, cells := 2, slots := 3, locals := 75 } : Room) ws #[(.ref a)] h0 (Q_rm_lcopy1 Z a el0 b kb mr em h0 n0) := by
  refine own_met (plainFor_of_name own_pn10) ?_
  intro p e s m below meth c s₁ hret hx hby hlk hml hown hnm X0 e0 hZ hh
  have N0 := Fr.nil n0
  refine Gs (fun _ tk => castTop (own_ef_rm_lcopy1 m a) tk) ?_
  have KP : Keep h0 h0 [] := Keep.refl _ _
  show Goes _ _ _ _ _ (s₁.setTop (mkF m 0 #[.val (.ref a), .unset] []))
  refine Gs (fun _ tk => XS.aloadN X0.here hx rfl (hb hby d20_0) rfl rfl tk) ?_
  obtain ⟨T1, X1, e1, st1⟩ := instNo X0 hx hZ hown (gw hw 59 rfl) e0 A_a (own_nsNo (gw hw 60 rfl) (own_nfI (gw hw 179 rfl)) (NS.step (gw hw 60 rfl) (NS.step (gw hw 61 rfl) (NS.step (gw hw 62 rfl) (own_nsRoot (gw hw 63 rfl) (own_nfI (gw hw 179 rfl)) (by decide)) (by decide)) (by decide)) (by decide)) (by decide)) (g := (mkF m 1 #[.val (.ref a), .unset] [(.ref a)])) rfl rfl (hb hby d20_1)
  refine Gs st1 ?_
  show Goes _ _ _ _ _ (T1.setTop (mkF m 4 #[.val (.ref a), .unset] [(.int (0 : Int32))]))
  refine Gs (fun _ tk => XS.ifNo X1.here hx rfl (hb hby d20_4) rfl ((if0 _ _).trans (teq (by decide : ((0 : Int32) = (0 : Int32)))).2) tk) ?_
  refine Gs (fun _ tk => XS.aloadN X1.here hx rfl (hb hby d20_7) rfl rfl tk) ?_
  obtain ⟨T2, X2, e2, st2⟩ := instNo X1 hx hZ hown (gw hw 64 rfl) e1 A_a (own_nsNo (gw hw 60 rfl) (own_nfS (gw hw 309 rfl)) (NS.step (gw hw 60 rfl) (NS.step (gw hw 61 rfl) (NS.step (gw hw 62 rfl) (own_nsRoot (gw hw 63 rfl) (own_nfS (gw hw 309 rfl)) (by decide)) (by decide)) (by decide)) (by decide)) (by decide)) (g := (mkF m 8 #[.val (.ref a), .unset] [(.ref a)])) rfl rfl (hb hby d20_8)
  refine Gs st2 ?_
  show Goes _ _ _ _ _ (T2.setTop (mkF m 11 #[.val (.ref a), .unset] [(.int (0 : Int32))]))
  refine Gs (fun _ tk => XS.ifYes X2.here hx rfl (pc0 := 11) (pc' := 31) rfl (hb hby d20_11) rfl ((if0 _ _).trans (teq (by decide : ((0 : Int32) = (0 : Int32)))).1) (by decide) (by decide) tk) ?_
  refine Gs (fun _ tk => XS.aloadN X2.here hx rfl (hb hby d20_31) rfl rfl tk) ?_
  obtain ⟨cq3, kq3, q3a, q3b, q3c⟩ := isOf hZ e2 A_a
  obtain ⟨_, _, ⟨T3, L3, k3, n3⟩, -, X3, ⟨Lc3, hQ3, l3, y3, z3⟩, st3⟩ := X2.interfaceBack hx (xi := mN20) (y := mN13) hown (mvT hZ (gw hw 65 rfl)) (mvT hZ (gw hw 66 rfl)) (mvT hZ (gw hw 67 rfl)) (mvT hZ (gw hw 68 rfl)) (mvT hZ (gw hw 69 rfl)) (mvT hZ (gw hw 70 rfl)) (mvT hZ (gw hw 71 rfl)) (mvT hZ (gw hw 72 rfl)) (by decide) (backOf (W := 0) (rm_emp1 l Z a0 hw [] a h0 n0 Z0 F_size_a) hZ (gw hw 73 rfl) (gw hw 22 rfl) (by decide) (by decide)) q3a q3b q3c (g := (mkF m 32 #[.val (.ref a), .unset] [(.ref a)])) rfl (by rw [hml]; rfl) (Steps.refl _) (argsL := []) (rest := []) (lenOf own_pd9 rfl) rfl (w0 (Nat.le_of_eq rfl)) (hb hby d20_32) (fun _ _ => ⟨rfl, e2, (by decide : 0 + 0 ≤ _), (by decide : 0 + 0 ≤ _)⟩)
  dsimp only [Pt.U, Pt.locs, Pt.cells, Pt.slots] at X3 l3 y3 z3 st3 hQ3
  subst l3 y3 z3
  obtain ⟨rfl, N3q, e3⟩ := hQ3
  have N3 := Fr.app N0 N3q
  refine Gs (fun _ tk => st3.trans tk) ?_
  show Goes _ _ _ _ _ (T3.setTop (mkF m 37 #[.val (.ref a), .unset] [(.int (0 : Int32))]))
  refine Gs (fun _ tk => XS.ifYes X3.here hx rfl (pc0 := 37) (pc' := 44) rfl (hb hby d20_37) rfl ((if0 _ _).trans (teq (by decide : ((0 : Int32) = (0 : Int32)))).1) (by decide) (by decide) tk) ?_
  refine Gs (fun _ tk => XS.aloadN X3.here hx rfl (hb hby d20_44) rfl rfl tk) ?_
  have ltc4_a : a < h0.size := A_a.lt
  have ltc4_b : b < h0.size := V_b.lt
  obtain ⟨cq4, kq4, q4a, q4b, q4c⟩ := isOf hZ e3 A_a
  obtain ⟨_, _, ⟨T4, L4, k4, n4⟩, -, X4, ⟨Lc4, hQ4, l4, y4, z4⟩, st4⟩ := X3.interfaceBack hx (xi := mN21) (y := mN16) hown (mvT hZ (gw hw 145 rfl)) (mvT hZ (gw hw 146 rfl)) (mvT hZ (gw hw 147 rfl)) (mvT hZ (gw hw 148 rfl)) (mvT hZ (gw hw 149 rfl)) (mvT hZ (gw hw 150 rfl)) (mvT hZ (gw hw 151 rfl)) (mvT hZ (gw hw 72 rfl)) (by decide) (backOf (W := 0) (rm_toarr1 l Z a0 hw [] a el0 b kb mr h0 n0 Z0 F_elementData_a F_size_a V_b A_b I_el0_5 (by first | assumption | decide)) hZ (gw hw 152 rfl) (gw hw 22 rfl) (by decide) (by decide)) q4a q4b q4c (g := (mkF m 45 #[.val (.ref a), .unset] [(.ref a)])) rfl (by rw [hml]; rfl) (Steps.refl _) (argsL := []) (rest := []) (lenOf own_pd3 rfl) rfl (w0 (Nat.le_of_eq rfl)) (hb hby d20_45) (fun _ _ => ⟨rfl, e3, (by decide : 0 + 1 ≤ _), (by decide : 0 + 1 ≤ _)⟩)
  dsimp only [Pt.U, Pt.locs, Pt.cells, Pt.slots] at X4 l4 y4 z4 st4 hQ4
  subst l4 y4 z4
  obtain ⟨cb4, kc4, rfl, N4q, K4, V_cb4_4', g_cb4_4', sz_cb4_4'⟩ := hQ4
  have N4 := Fr.app N3 N4q
  replace S_EMPTY := own_staK S_EMPTY K4 all0
  replace A_a := A_a.keep K4
  replace V_b := V_b.keep K4 nin0
  replace KP := KP.trans K4 all0
  replace Z0 := Nat.le_trans Z0 K4.1
  have V_cb4 := V_cb4_4'
  have g_cb4 := g_cb4_4'
  have szc_cb4 := sz_cb4_4'
  have ne_a_cb4 : a ≠ cb4 := Nat.ne_of_lt (Nat.lt_of_lt_of_le ltc4_a szc_cb4)
  have ne_b_cb4 : b ≠ cb4 := Nat.ne_of_lt (Nat.lt_of_lt_of_le ltc4_b szc_cb4)
  refine Gs (fun _ tk => st4.trans tk) ?_
  show Goes _ _ _ _ _ (T4.setTop (mkF m 50 #[.val (.ref a), .unset] [(.ref cb4)]))
  have ltc5_a : a < T4.heap.size := A_a.lt
  have ltc5_b : b < T4.heap.size := V_b.lt
  have ltc5_cb4 : cb4 < T4.heap.size := V_cb4.lt
  have szs5 : h0.size ≤ T4.heap.size := KP.1
  obtain ⟨_, _, ⟨T5, L5, k5, n5⟩, -, X5, ⟨Lc5, hQ5, l5, y5, z5⟩, st5⟩ := Jvm.LawKit.callS X4 hx (y := mN19) hown (mvT hZ (gw hw 175 rfl)) (mvT hZ (gw hw 176 rfl)) (mvT hZ (gw hw 53 rfl)) (mvT hZ (gw hw 177 rfl)) (by decide) (backOf (W := 0) (rm_of1 l Z a0 hw [] el0 cb4 kc4 em T4.heap n0 Z0 V_cb4 S_EMPTY) hZ (gw hw 177 rfl) (gw hw 53 rfl) (by decide) (by decide)) (g := (mkF m 50 #[.val (.ref a), .unset] [(.ref cb4)])) rfl (by rw [hml]; rfl) (argsL := [(.ref cb4)]) (rest := []) (lenOf own_pd10 rfl) rfl (w0 (Nat.le_of_eq rfl)) (hb hby d20_50) (fun _ _ => ⟨rfl, rfl, (by decide : 1 + 1 ≤ _), (by decide : 1 + 2 ≤ _)⟩)
  dsimp only [Pt.U, Pt.locs, Pt.cells, Pt.slots] at X5 l5 y5 z5 st5 hQ5
  subst l5 y5 z5
  obtain ⟨u5, rfl, N5q, K5, A_u5_5', F_e0_u5_5', F_e1_u5_5', g_u5_5', sz_u5_5'⟩ := hQ5
  have N5 := Fr.app N4 N5q
  replace KP := KP.trans K5 all0
  replace Z0 := Nat.le_trans Z0 K5.1
  have A_u5 := A_u5_5'
  have F_e0_u5 := F_e0_u5_5'
  have F_e1_u5 := F_e1_u5_5'
  have g_u5 := g_u5_5'
  have szc_u5 := sz_u5_5'
  have ne_a_u5 : a ≠ u5 := Nat.ne_of_lt (Nat.lt_of_lt_of_le ltc5_a szc_u5)
  have ne_b_u5 : b ≠ u5 := Nat.ne_of_lt (Nat.lt_of_lt_of_le ltc5_b szc_u5)
  have ne_cb4_u5 : cb4 ≠ u5 := Nat.ne_of_lt (Nat.lt_of_lt_of_le ltc5_cb4 szc_u5)
  have sz_u5 : h0.size ≤ u5 := Nat.le_trans szs5 szc_u5
  refine Gs st5 ?_
  show Goes _ _ _ _ _ (T5.setTop (mkF m 53 #[.val (.ref a), .unset] [(.ref u5)]))
  refine Goes.ret X5 (some (.ref u5)) (fun h => by rw [hret] at h; cases h) hlk (by decide) (by decide) ?_ (fun fs hr => ?_)
  · exact ⟨u5, rfl, N5, KP, A_u5, F_e0_u5, F_e1_u5, g_u5, sz_u5⟩
  · exact own_retA X5 hx hret rfl rfl (hb hby d20_53) hr
theorem d21_0 : decode jdk_40_method_48_code 0 = .ok (.aload_n 0, 1) := by decide +kernel
theorem d21_1 : decode jdk_40_method_48_code 1 = .ok (.invokestatic 112, 3) := by decide +kernel
theorem own_pd11 : parseMethodDescriptor "(Ljava/util/Collection;)Ljava/util/List;" = some ⟨[(.object "java/util/Collection")], some (.object "java/util/List")⟩ := by decide +kernel
theorem d21_4 : decode jdk_40_method_48_code 4 = .ok (.areturn, 1) := by decide +kernel
theorem own_ef_rm_cpl1 (m : MethodId) (x0 : Addr) : entryFrame m #[(.ref x0)] 1 = mkF m 0 #[.val (.ref x0)] [] := by first | (simp [entryFrame, mkF, argsToLocals, Value.category]; done) | rfl
def Q_rm_cpl1 (Z : State) (a : Addr) (el0 : Addr) (b : Addr) (kb : ClassId) (mr : Addr) (em : Addr) (h0 : Heap) (n0 : Nat) (v : Option Value) (h : Heap) (L : List Loc) : Prop := ∃ u : Addr, v = some (.ref u) ∧ Fr n0 L ∧ Keep h0 h [] ∧ Exa Z h u "java/util/ImmutableCollections$List12" ∧ Fld Z h u "java/util/ImmutableCollections$List12" "e0" "Ljava/lang/Object;" (.ref el0) ∧ Fld Z h u "java/util/ImmutableCollections$List12" "e1" "Ljava/lang/Object;" (.ref em) ∧ n0 ≤ u ∧ h0.size ≤ u
set_option maxRecDepth 65536 in
set_option maxHeartbeats 40000000 in
theorem rm_cpl1 (l : Launch) (Z : State) (a0 : Array Value) (hw : ∀ d ∈ tables_1, d.before a0 Z = true) (ws : List Jvm.Cond) (a : Addr) (el0 : Addr) (b : Addr) (kb : ClassId) (mr : Addr) (em : Addr) (h0 : Heap) (n0 : Nat) (Z0 : n0 ≤ h0.size) (A_a : Exa Z h0 a "java/util/ArrayList") (F_elementData_a : Fld Z h0 a "java/util/ArrayList" "elementData" "[Ljava/lang/Object;" (.ref b)) (F_size_a : Fld Z h0 a "java/util/ArrayList" "size" "I" (.int (1 : Int32))) (V_b : Arv Z h0 b kb (.object "java/lang/Object") (10 : Int32) [(.ref el0), .null, .null, .null, .null, .null, .null, .null, .null, .null] .null) (A_b : Exa Z h0 b "[Ljava/lang/Object;") (I_el0_5 : Ins Z h0 el0 "java/lang/Object" true) (hmr : Mir Z "[Ljava/lang/Object;" mr) (S_EMPTY : Sta Z h0 "java/util/ImmutableCollections" "EMPTY" "Ljava/lang/Object;" (.ref em)) :
    Met l Z mN23 jdk_40_method_48_code 1 (some (.object "java/util/List")) ({ frames := 7, cells := 2, slots := 3, locals := 88 } : Room) ws #[(.ref a)] h0 (Q_rm_cpl1 Z a el0 b kb mr em h0 n0) := by
  refine own_met (plainFor_of_name own_pn9) ?_
  intro p e s m below meth c s₁ hret hx hby hlk hml hown hnm X0 e0 hZ hh
  have N0 := Fr.nil n0
  refine Gs (fun _ tk => castTop (own_ef_rm_cpl1 m a) tk) ?_
  have KP : Keep h0 h0 [] := Keep.refl _ _
  show Goes _ _ _ _ _ (s₁.setTop (mkF m 0 #[.val (.ref a)] []))
  refine Gs (fun _ tk => XS.aloadN X0.here hx rfl (hb hby d21_0) rfl rfl tk) ?_
  have ltc1_a : a < h0.size := A_a.lt
  have ltc1_b : b < h0.size := V_b.lt
  have szs1 : h0.size ≤ h0.size := KP.1
  obtain ⟨_, _, ⟨T1, L1, k1, n1⟩, -, X1, ⟨Lc1, hQ1, l1, y1, z1⟩, st1⟩ := Jvm.LawKit.callS X0 hx (y := mN22) hown (mvT hZ (gw hw 55 rfl)) (mvT hZ (gw hw 56 rfl)) (mvT hZ (gw hw 57 rfl)) (mvT hZ (gw hw 58 rfl)) (by decide) (backOf (W := 0) (rm_lcopy1 l Z a0 hw [] a el0 b kb mr em h0 n0 Z0 A_a F_elementData_a F_size_a V_b A_b I_el0_5 (by first | assumption | decide) S_EMPTY) hZ (gw hw 58 rfl) (gw hw 57 rfl) (by decide) (by decide)) (g := (mkF m 1 #[.val (.ref a)] [(.ref a)])) rfl (by rw [hml]; rfl) (argsL := [(.ref a)]) (rest := []) (lenOf own_pd11 rfl) rfl (w0 (Nat.le_of_eq rfl)) (hb hby d21_1) (fun _ _ => ⟨rfl, e0, (by decide : 0 + 2 ≤ _), (by decide : 0 + 3 ≤ _)⟩)
  dsimp only [Pt.U, Pt.locs, Pt.cells, Pt.slots] at X1 l1 y1 z1 st1 hQ1
  subst l1 y1 z1
  obtain ⟨u1, rfl, N1q, K1, A_u1_1', F_e0_u1_1', F_e1_u1_1', g_u1_1', sz_u1_1'⟩ := hQ1
  have N1 := Fr.app N0 N1q
  replace KP := KP.trans K1 all0
  replace Z0 := Nat.le_trans Z0 K1.1
  have A_u1 := A_u1_1'
  have F_e0_u1 := F_e0_u1_1'
  have F_e1_u1 := F_e1_u1_1'
  have g_u1 := g_u1_1'
  have szc_u1 := sz_u1_1'
  have ne_a_u1 : a ≠ u1 := Nat.ne_of_lt (Nat.lt_of_lt_of_le ltc1_a szc_u1)
  have ne_b_u1 : b ≠ u1 := Nat.ne_of_lt (Nat.lt_of_lt_of_le ltc1_b szc_u1)
  have sz_u1 : h0.size ≤ u1 := Nat.le_trans szs1 szc_u1
  refine Gs st1 ?_
  show Goes _ _ _ _ _ (T1.setTop (mkF m 4 #[.val (.ref a)] [(.ref u1)]))
  refine Goes.ret X1 (some (.ref u1)) (fun h => by rw [hret] at h; cases h) hlk (by decide) (by decide) ?_ (fun fs hr => ?_)
  · exact ⟨u1, rfl, N1, KP, A_u1, F_e0_u1, F_e1_u1, g_u1, sz_u1⟩
  · exact own_retA X1 hx hret rfl rfl (hb hby d21_4) hr
theorem d19_45 : decode jdk_40_method_47_code 45 = .ok (.new 96, 3) := by decide +kernel
theorem d19_48 : decode jdk_40_method_47_code 48 = .ok (.dup, 1) := by decide +kernel
theorem d19_49 : decode jdk_40_method_47_code 49 = .ok (.aload_n 0, 1) := by decide +kernel
theorem d19_50 : decode jdk_40_method_47_code 50 = .ok (.iconst 0, 1) := by decide +kernel
theorem d19_51 : decode jdk_40_method_47_code 51 = .ok (.aaload, 1) := by decide +kernel
theorem d19_52 : decode jdk_40_method_47_code 52 = .ok (.aload_n 0, 1) := by decide +kernel
theorem d19_53 : decode jdk_40_method_47_code 53 = .ok (.iconst 1, 1) := by decide +kernel
theorem d19_54 : decode jdk_40_method_47_code 54 = .ok (.aaload, 1) := by decide +kernel
theorem d19_55 : decode jdk_40_method_47_code 55 = .ok (.invokespecial 100, 3) := by decide +kernel
theorem own_pd12 : parseMethodDescriptor "(Ljava/lang/Object;Ljava/lang/Object;)V" = some ⟨[(.object "java/lang/Object"), (.object "java/lang/Object")], none⟩ := by decide +kernel
theorem d19_58 : decode jdk_40_method_47_code 58 = .ok (.areturn, 1) := by decide +kernel
theorem own_ef_rm_of2 (m : MethodId) (x0 : Addr) : entryFrame m #[(.ref x0)] 2 = mkF m 0 #[.val (.ref x0), .unset] [] := by first | (simp [entryFrame, mkF, argsToLocals, Value.category]; done) | rfl
def Q_rm_of2 (Z : State) (el0 : Addr) (el1 : Addr) (cb : Addr) (kc : ClassId) (h0 : Heap) (n0 : Nat) (v : Option Value) (h : Heap) (L : List Loc) : Prop := ∃ u : Addr, v = some (.ref u) ∧ Fr n0 L ∧ Keep h0 h [] ∧ Exa Z h u "java/util/ImmutableCollections$List12" ∧ Fld Z h u "java/util/ImmutableCollections$List12" "e0" "Ljava/lang/Object;" (.ref el0) ∧ Fld Z h u "java/util/ImmutableCollections$List12" "e1" "Ljava/lang/Object;" (.ref el1) ∧ n0 ≤ u ∧ h0.size ≤ u
set_option maxRecDepth 65536 in
set_option maxHeartbeats 40000000 in
theorem rm_of2 (l : Launch) (Z : State) (a0 : Array Value) (hw : ∀ d ∈ tables_1, d.before a0 Z = true) (ws : List Jvm.Cond) (el0 : Addr) (el1 : Addr) (cb : Addr) (kc : ClassId) (h0 : Heap) (n0 : Nat) (Z0 : n0 ≤ h0.size) (V_cb : Arv Z h0 cb kc (.object "java/lang/Object") (2 : Int32) [(.ref el0), (.ref el1)] .null) :
    Met l Z mN19 jdk_40_method_47_code 2 (some (.object "java/util/List")) ({ frames := 5, cells := 1, slots := 2, locals := 63 } : Room) ws #[(.ref cb)] h0 (Q_rm_of2 Z el0 el1 cb kc h0 n0) := by
  refine own_met (plainFor_of_name own_pn9) ?_
  intro p e s m below meth c s₁ hret hx hby hlk hml hown hnm X0 e0 hZ hh
  have N0 := Fr.nil n0
  refine Gs (fun _ tk => castTop (own_ef_rm_of2 m cb) tk) ?_
  have KP : Keep h0 h0 [] := Keep.refl _ _
  show Goes _ _ _ _ _ (s₁.setTop (mkF m 0 #[.val (.ref cb), .unset] []))
  refine Gs (fun _ tk => XS.aloadN X0.here hx rfl (hb hby d19_0) rfl rfl tk) ?_
  obtain ⟨cl1, Ar1, -, S1, N1z, -, -⟩ := id V_cb
  refine Gs (fun _ tk => X0.arraylength hx (by rw [e0]; exact Ar1.1) (State.isArrayOf_alike hZ.alike Ar1.2.1) (g := (mkF m 1 #[.val (.ref cb), .unset] [(.ref cb)])) rfl rfl (hb hby d19_1) _ tk) ?_
  rw [len_of S1 N1z]
  show Goes _ _ _ _ _ (s₁.setTop (mkF m 2 #[.val (.ref cb), .unset] [(.int (2 : Int32))]))
  refine Gs (fun _ tk => XS.tswIn X0.here hx rfl (o := 43) (pc0 := 2) (pc' := 45) rfl (hb hby d19_2) rfl (by decide) (by decide) (by decide) (by decide) tk) ?_
  show Goes _ _ _ _ _ (s₁.setTop (mkF m 45 #[.val (.ref cb), .unset] []))
  obtain ⟨T2, h2, X2, e2, E2, A2, D2, -, st2⟩ := newO X0 hx hZ hown (gw hw 178 rfl) (gw hw 179 rfl) (gw hw 180 rfl) e0 (g := (mkF m 45 #[.val (.ref cb), .unset] [])) rfl (hb hby d19_45) (by decide) (by decide)
  obtain ⟨b2, gq2⟩ : ∃ z, z = h0.size := ⟨_, rfl⟩
  rw [← gq2] at A2 st2 D2
  have g_b2 : n0 ≤ b2 := by rw [gq2]; exact Z0
  have sz_b2 : h0.size ≤ b2 := by rw [gq2]; exact KP.1
  replace V_cb := V_cb.ext E2
  replace KP := KP.ext E2
  replace Z0 : n0 ≤ h2.size := Nat.le_trans Z0 E2.1
  have A_b2 : Exa Z h2 b2 "java/util/ImmutableCollections$List12" := A2
  have F_e0_b2 : Fld Z h2 b2 "java/util/ImmutableCollections$List12" "e0" "Ljava/lang/Object;" .null := D2 (Or.inr (gw hw 204 rfl)) (ty := (.object "java/lang/Object")) (by decide)
  have F_e1_b2 : Fld Z h2 b2 "java/util/ImmutableCollections$List12" "e1" "Ljava/lang/Object;" .null := D2 (Or.inr (gw hw 207 rfl)) (ty := (.object "java/lang/Object")) (by decide)
  refine Gs st2 ?_
  show Goes _ _ _ _ _ (T2.setTop (mkF m 48 #[.val (.ref cb), .unset] [(.ref b2)]))
  refine Gs (fun _ tk => XS.dup X2.here hx rfl (hb hby d19_48) rfl rfl tk) ?_
  refine Gs (fun _ tk => XS.aloadN X2.here hx rfl (hb hby d19_49) rfl rfl tk) ?_
  refine Gs (fun _ tk => XS.iconst X2.here hx rfl (hb hby d19_50) tk) ?_
  obtain ⟨cl3, Ar3, -, S3, N3z, H3, -⟩ := id V_cb
  have hin3 : ¬ ((0 : Int32) < 0 ∨ cl3.slots.size ≤ ((0 : Int32)).toNatClampNeg) := inb_of S3 ⟨by decide, by decide⟩
  have hat3 : cl3.slots[((0 : Int32)).toNatClampNeg]? = some (.ref el0) := Has.at H3 hin3 rfl
  refine Gs (fun _ tk => X2.aaload hx (j := (0 : Int32)) (v := (.ref el0)) (by rw [e2]; exact Ar3.1) (State.isArrayOf_alike hZ.alike Ar3.2.1) rfl Ar3.2.2 hin3 hat3 (g := (mkF m 51 #[.val (.ref cb), .unset] [(.int (0 : Int32)), (.ref cb), (.ref b2), (.ref b2)])) rfl rfl (hb hby d19_51) _ tk) ?_
  show Goes _ _ _ _ _ (T2.setTop (mkF m 52 #[.val (.ref cb), .unset] [(.ref el0), (.ref b2), (.ref b2)]))
  refine Gs (fun _ tk => XS.aloadN X2.here hx rfl (hb hby d19_52) rfl rfl tk) ?_
  refine Gs (fun _ tk => XS.iconst X2.here hx rfl (hb hby d19_53) tk) ?_
  obtain ⟨cl4, Ar4, -, S4, N4z, H4, -⟩ := id V_cb
  have hin4 : ¬ ((1 : Int32) < 0 ∨ cl4.slots.size ≤ ((1 : Int32)).toNatClampNeg) := inb_of S4 ⟨by decide, by decide⟩
  have hat4 : cl4.slots[((1 : Int32)).toNatClampNeg]? = some (.ref el1) := Has.at H4 hin4 rfl
  refine Gs (fun _ tk => X2.aaload hx (j := (1 : Int32)) (v := (.ref el1)) (by rw [e2]; exact Ar4.1) (State.isArrayOf_alike hZ.alike Ar4.2.1) rfl Ar4.2.2 hin4 hat4 (g := (mkF m 54 #[.val (.ref cb), .unset] [(.int (1 : Int32)), (.ref cb), (.ref el0), (.ref b2), (.ref b2)])) rfl rfl (hb hby d19_54) _ tk) ?_
  show Goes _ _ _ _ _ (T2.setTop (mkF m 55 #[.val (.ref cb), .unset] [(.ref el1), (.ref el0), (.ref b2), (.ref b2)]))
  obtain ⟨_, _, ⟨T5, L5, k5, n5⟩, -, X5, ⟨Lc5, hQ5, l5, y5, z5⟩, st5⟩ := X2.specialBack hx (y := mN18) rfl hown (mvT hZ (gw hw 210 rfl)) (mvT hZ (gw hw 211 rfl)) (mvT hZ (gw hw 212 rfl)) (by decide) (backOf (W := 1) (rm_l12i2 l Z a0 hw [] b2 el0 el1 h2 n0 Z0 A_b2 F_e0_b2 F_e1_b2 g_b2) hZ (gw hw 212 rfl) (gw hw 180 rfl) (by decide) (by decide)) (g := (mkF m 55 #[.val (.ref cb), .unset] [(.ref el1), (.ref el0), (.ref b2), (.ref b2)])) rfl (by rw [hml]; rfl) (Steps.refl _) (a := b2) (argsL := [(.ref el0), (.ref el1)]) (rest := [(.ref b2)]) (lenOf own_pd12 rfl) rfl (w0 (Nat.le_of_eq rfl)) (hb hby d19_55) (fun _ _ => ⟨rfl, e2, (by decide : 1 + 0 ≤ _), (by decide : 2 + 0 ≤ _)⟩)
  dsimp only [Pt.U, Pt.locs, Pt.cells, Pt.slots] at X5 l5 y5 z5 st5 hQ5
  subst l5 y5 z5
  obtain ⟨rfl, N5q, K5, F_e0_b2_5', F_e1_b2_5'⟩ := hQ5
  have N5 := Fr.app N0 N5q
  replace A_b2 := A_b2.keep K5
  replace KP := KP.trans K5 (allS (Or.inr sz_b2) all0)
  replace Z0 := Nat.le_trans Z0 K5.1
  have F_e0_b2 := F_e0_b2_5'
  have F_e1_b2 := F_e1_b2_5'
  refine Gs (fun _ tk => st5.trans tk) ?_
  show Goes _ _ _ _ _ (T5.setTop (mkF m 58 #[.val (.ref cb), .unset] [(.ref b2)]))
  refine Goes.ret X5 (some (.ref b2)) (fun h => by rw [hret] at h; cases h) hlk (by decide) (by decide) ?_ (fun fs hr => ?_)
  · exact ⟨b2, rfl, N5, KP, A_b2, F_e0_b2, F_e1_b2, g_b2, sz_b2⟩
  · exact own_retA X5 hx hret rfl rfl (hb hby d19_58) hr
theorem own_ef_rm_lcopy2 (m : MethodId) (x0 : Addr) : entryFrame m #[(.ref x0)] 2 = mkF m 0 #[.val (.ref x0), .unset] [] := by first | (simp [entryFrame, mkF, argsToLocals, Value.category]; done) | rfl
def Q_rm_lcopy2 (Z : State) (a : Addr) (el0 : Addr) (el1 : Addr) (b : Addr) (kb : ClassId) (mr : Addr) (h0 : Heap) (n0 : Nat) (v : Option Value) (h : Heap) (L : List Loc) : Prop := ∃ u : Addr, v = some (.ref u) ∧ Fr n0 L ∧ Keep h0 h [] ∧ Exa Z h u "java/util/ImmutableCollections$List12" ∧ Fld Z h u "java/util/ImmutableCollections$List12" "e0" "Ljava/lang/Object;" (.ref el0) ∧ Fld Z h u "java/util/ImmutableCollections$List12" "e1" "Ljava/lang/Object;" (.ref el1) ∧ n0 ≤ u ∧ h0.size ≤ u
set_option maxRecDepth 65536 in
set_option maxHeartbeats 40000000 in
theorem rm_lcopy2 (l : Launch) (Z : State) (a0 : Array Value) (hw : ∀ d ∈ tables_1, d.before a0 Z = true) (ws : List Jvm.Cond) (a : Addr) (el0 : Addr) (el1 : Addr) (b : Addr) (kb : ClassId) (mr : Addr) (h0 : Heap) (n0 : Nat) (Z0 : n0 ≤ h0.size) (A_a : Exa Z h0 a "java/util/ArrayList") (F_elementData_a : Fld Z h0 a "java/util/ArrayList" "elementData" "[Ljava/lang/Object;" (.ref b)) (F_size_a : Fld Z h0 a "java/util/ArrayList" "size" "I" (.int (2 : Int32))) (V_b : Arv Z h0 b kb (.object "java/lang/Object") (10 : Int32) [(.ref el0), (.ref el1), .null, .null, .null, .null, .null, .null, .null, .null] .null) (A_b : Exa Z h0 b "[Ljava/lang/Object;") (I_el0_5 : Ins Z h0 el0 "java/lang/Object" true) (I_el1_6 : Ins Z h0 el1 "java/lang/Object" true) (hmr : Mir Z "[Ljava/lang/Object;" mr) :
    Met l Z mN22 jdk_56_method_3_code 2 (some (.object "java/util/List")) ({ frames := 6, cells := 2, slots := 4, locals := 76 } : Room) ws #[(.ref a)] h0 (Q_rm_lcopy2 Z a el0 el1 b kb mr h0 n0) := by
  refine own_met (plainFor_of_name own_pn10) ?_
  intro p e s m below meth c s₁ hret hx hby hlk hml hown hnm X0 e0 hZ hh
  have N0 := Fr.nil n0
  refine Gs (fun _ tk => castTop (own_ef_rm_lcopy2 m a) tk) ?_
  have KP : Keep h0 h0 [] := Keep.refl _ _
  show Goes _ _ _ _ _ (s₁.setTop (mkF m 0 #[.val (.ref a), .unset] []))
  refine Gs (fun _ tk => XS.aloadN X0.here hx rfl (hb hby d20_0) rfl rfl tk) ?_
  obtain ⟨T1, X1, e1, st1⟩ := instNo X0 hx hZ hown (gw hw 59 rfl) e0 A_a (own_nsNo (gw hw 60 rfl) (own_nfI (gw hw 179 rfl)) (NS.step (gw hw 60 rfl) (NS.step (gw hw 61 rfl) (NS.step (gw hw 62 rfl) (own_nsRoot (gw hw 63 rfl) (own_nfI (gw hw 179 rfl)) (by decide)) (by decide)) (by decide)) (by decide)) (by decide)) (g := (mkF m 1 #[.val (.ref a), .unset] [(.ref a)])) rfl rfl (hb hby d20_1)
  refine Gs st1 ?_
  show Goes _ _ _ _ _ (T1.setTop (mkF m 4 #[.val (.ref a), .unset] [(.int (0 : Int32))]))
  refine Gs (fun _ tk => XS.ifNo X1.here hx rfl (hb hby d20_4) rfl ((if0 _ _).trans (teq (by decide : ((0 : Int32) = (0 : Int32)))).2) tk) ?_
  refine Gs (fun _ tk => XS.aloadN X1.here hx rfl (hb hby d20_7) rfl rfl tk) ?_
  obtain ⟨T2, X2, e2, st2⟩ := instNo X1 hx hZ hown (gw hw 64 rfl) e1 A_a (own_nsNo (gw hw 60 rfl) (own_nfS (gw hw 309 rfl)) (NS.step (gw hw 60 rfl) (NS.step (gw hw 61 rfl) (NS.step (gw hw 62 rfl) (own_nsRoot (gw hw 63 rfl) (own_nfS (gw hw 309 rfl)) (by decide)) (by decide)) (by decide)) (by decide)) (by decide)) (g := (mkF m 8 #[.val (.ref a), .unset] [(.ref a)])) rfl rfl (hb hby d20_8)
  refine Gs st2 ?_
  show Goes _ _ _ _ _ (T2.setTop (mkF m 11 #[.val (.ref a), .unset] [(.int (0 : Int32))]))
  refine Gs (fun _ tk => XS.ifYes X2.here hx rfl (pc0 := 11) (pc' := 31) rfl (hb hby d20_11) rfl ((if0 _ _).trans (teq (by decide : ((0 : Int32) = (0 : Int32)))).1) (by decide) (by decide) tk) ?_
  refine Gs (fun _ tk => XS.aloadN X2.here hx rfl (hb hby d20_31) rfl rfl tk) ?_
  obtain ⟨cq3, kq3, q3a, q3b, q3c⟩ := isOf hZ e2 A_a
  obtain ⟨_, _, ⟨T3, L3, k3, n3⟩, -, X3, ⟨Lc3, hQ3, l3, y3, z3⟩, st3⟩ := X2.interfaceBack hx (xi := mN20) (y := mN13) hown (mvT hZ (gw hw 65 rfl)) (mvT hZ (gw hw 66 rfl)) (mvT hZ (gw hw 67 rfl)) (mvT hZ (gw hw 68 rfl)) (mvT hZ (gw hw 69 rfl)) (mvT hZ (gw hw 70 rfl)) (mvT hZ (gw hw 71 rfl)) (mvT hZ (gw hw 72 rfl)) (by decide) (backOf (W := 0) (rm_emp2 l Z a0 hw [] a h0 n0 Z0 F_size_a) hZ (gw hw 73 rfl) (gw hw 22 rfl) (by decide) (by decide)) q3a q3b q3c (g := (mkF m 32 #[.val (.ref a), .unset] [(.ref a)])) rfl (by rw [hml]; rfl) (Steps.refl _) (argsL := []) (rest := []) (lenOf own_pd9 rfl) rfl (w0 (Nat.le_of_eq rfl)) (hb hby d20_32) (fun _ _ => ⟨rfl, e2, (by decide : 0 + 0 ≤ _), (by decide : 0 + 0 ≤ _)⟩)
  dsimp only [Pt.U, Pt.locs, Pt.cells, Pt.slots] at X3 l3 y3 z3 st3 hQ3
  subst l3 y3 z3
  obtain ⟨rfl, N3q, e3⟩ := hQ3
  have N3 := Fr.app N0 N3q
  refine Gs (fun _ tk => st3.trans tk) ?_
  show Goes _ _ _ _ _ (T3.setTop (mkF m 37 #[.val (.ref a), .unset] [(.int (0 : Int32))]))
  refine Gs (fun _ tk => XS.ifYes X3.here hx rfl (pc0 := 37) (pc' := 44) rfl (hb hby d20_37) rfl ((if0 _ _).trans (teq (by decide : ((0 : Int32) = (0 : Int32)))).1) (by decide) (by decide) tk) ?_
  refine Gs (fun _ tk => XS.aloadN X3.here hx rfl (hb hby d20_44) rfl rfl tk) ?_
  have ltc4_a : a < h0.size := A_a.lt
  have ltc4_b : b < h0.size := V_b.lt
  obtain ⟨cq4, kq4, q4a, q4b, q4c⟩ := isOf hZ e3 A_a
  obtain ⟨_, _, ⟨T4, L4, k4, n4⟩, -, X4, ⟨Lc4, hQ4, l4, y4, z4⟩, st4⟩ := X3.interfaceBack hx (xi := mN21) (y := mN16) hown (mvT hZ (gw hw 145 rfl)) (mvT hZ (gw hw 146 rfl)) (mvT hZ (gw hw 147 rfl)) (mvT hZ (gw hw 148 rfl)) (mvT hZ (gw hw 149 rfl)) (mvT hZ (gw hw 150 rfl)) (mvT hZ (gw hw 151 rfl)) (mvT hZ (gw hw 72 rfl)) (by decide) (backOf (W := 0) (rm_toarr2 l Z a0 hw [] a el0 el1 b kb mr h0 n0 Z0 F_elementData_a F_size_a V_b A_b I_el0_5 I_el1_6 (by first | assumption | decide)) hZ (gw hw 152 rfl) (gw hw 22 rfl) (by decide) (by decide)) q4a q4b q4c (g := (mkF m 45 #[.val (.ref a), .unset] [(.ref a)])) rfl (by rw [hml]; rfl) (Steps.refl _) (argsL := []) (rest := []) (lenOf own_pd3 rfl) rfl (w0 (Nat.le_of_eq rfl)) (hb hby d20_45) (fun _ _ => ⟨rfl, e3, (by decide : 0 + 1 ≤ _), (by decide : 0 + 2 ≤ _)⟩)
  dsimp only [Pt.U, Pt.locs, Pt.cells, Pt.slots] at X4 l4 y4 z4 st4 hQ4
  subst l4 y4 z4
  obtain ⟨cb4, kc4, rfl, N4q, K4, V_cb4_4', g_cb4_4', sz_cb4_4'⟩ := hQ4
  have N4 := Fr.app N3 N4q
  replace A_a := A_a.keep K4
  replace V_b := V_b.keep K4 nin0
  replace KP := KP.trans K4 all0
  replace Z0 := Nat.le_trans Z0 K4.1
  have V_cb4 := V_cb4_4'
  have g_cb4 := g_cb4_4'
  have szc_cb4 := sz_cb4_4'
  have ne_a_cb4 : a ≠ cb4 := Nat.ne_of_lt (Nat.lt_of_lt_of_le ltc4_a szc_cb4)
  have ne_b_cb4 : b ≠ cb4 := Nat.ne_of_lt (Nat.lt_of_lt_of_le ltc4_b szc_cb4)
  refine Gs (fun _ tk => st4.trans tk) ?_
  show Goes _ _ _ _ _ (T4.setTop (mkF m 50 #[.val (.ref a), .unset] [(.ref cb4)]))
  have ltc5_a : a < T4.heap.size := A_a.lt
  have ltc5_b : b < T4.heap.size := V_b.lt
  have ltc5_cb4 : cb4 < T4.heap.size := V_cb4.lt
  have szs5 : h0.size ≤ T4.heap.size := KP.1
  obtain ⟨_, _, ⟨T5, L5, k5, n5⟩, -, X5, ⟨Lc5, hQ5, l5, y5, z5⟩, st5⟩ := Jvm.LawKit.callS X4 hx (y := mN19) hown (mvT hZ (gw hw 175 rfl)) (mvT hZ (gw hw 176 rfl)) (mvT hZ (gw hw 53 rfl)) (mvT hZ (gw hw 177 rfl)) (by decide) (backOf (W := 0) (rm_of2 l Z a0 hw [] el0 el1 cb4 kc4 T4.heap n0 Z0 V_cb4) hZ (gw hw 177 rfl) (gw hw 53 rfl) (by decide) (by decide)) (g := (mkF m 50 #[.val (.ref a), .unset] [(.ref cb4)])) rfl (by rw [hml]; rfl) (argsL := [(.ref cb4)]) (rest := []) (lenOf own_pd10 rfl) rfl (w0 (Nat.le_of_eq rfl)) (hb hby d20_50) (fun _ _ => ⟨rfl, rfl, (by decide : 1 + 1 ≤ _), (by decide : 2 + 2 ≤ _)⟩)
  dsimp only [Pt.U, Pt.locs, Pt.cells, Pt.slots] at X5 l5 y5 z5 st5 hQ5
  subst l5 y5 z5
  obtain ⟨u5, rfl, N5q, K5, A_u5_5', F_e0_u5_5', F_e1_u5_5', g_u5_5', sz_u5_5'⟩ := hQ5
  have N5 := Fr.app N4 N5q
  replace KP := KP.trans K5 all0
  replace Z0 := Nat.le_trans Z0 K5.1
  have A_u5 := A_u5_5'
  have F_e0_u5 := F_e0_u5_5'
  have F_e1_u5 := F_e1_u5_5'
  have g_u5 := g_u5_5'
  have szc_u5 := sz_u5_5'
  have ne_a_u5 : a ≠ u5 := Nat.ne_of_lt (Nat.lt_of_lt_of_le ltc5_a szc_u5)
  have ne_b_u5 : b ≠ u5 := Nat.ne_of_lt (Nat.lt_of_lt_of_le ltc5_b szc_u5)
  have ne_cb4_u5 : cb4 ≠ u5 := Nat.ne_of_lt (Nat.lt_of_lt_of_le ltc5_cb4 szc_u5)
  have sz_u5 : h0.size ≤ u5 := Nat.le_trans szs5 szc_u5
  refine Gs st5 ?_
  show Goes _ _ _ _ _ (T5.setTop (mkF m 53 #[.val (.ref a), .unset] [(.ref u5)]))
  refine Goes.ret X5 (some (.ref u5)) (fun h => by rw [hret] at h; cases h) hlk (by decide) (by decide) ?_ (fun fs hr => ?_)
  · exact ⟨u5, rfl, N5, KP, A_u5, F_e0_u5, F_e1_u5, g_u5, sz_u5⟩
  · exact own_retA X5 hx hret rfl rfl (hb hby d20_53) hr
theorem own_ef_rm_cpl2 (m : MethodId) (x0 : Addr) : entryFrame m #[(.ref x0)] 1 = mkF m 0 #[.val (.ref x0)] [] := by first | (simp [entryFrame, mkF, argsToLocals, Value.category]; done) | rfl
def Q_rm_cpl2 (Z : State) (a : Addr) (el0 : Addr) (el1 : Addr) (b : Addr) (kb : ClassId) (mr : Addr) (h0 : Heap) (n0 : Nat) (v : Option Value) (h : Heap) (L : List Loc) : Prop := ∃ u : Addr, v = some (.ref u) ∧ Fr n0 L ∧ Keep h0 h [] ∧ Exa Z h u "java/util/ImmutableCollections$List12" ∧ Fld Z h u "java/util/ImmutableCollections$List12" "e0" "Ljava/lang/Object;" (.ref el0) ∧ Fld Z h u "java/util/ImmutableCollections$List12" "e1" "Ljava/lang/Object;" (.ref el1) ∧ n0 ≤ u ∧ h0.size ≤ u
set_option maxRecDepth 65536 in
set_option maxHeartbeats 40000000 in
theorem rm_cpl2 (l : Launch) (Z : State) (a0 : Array Value) (hw : ∀ d ∈ tables_1, d.before a0 Z = true) (ws : List Jvm.Cond) (a : Addr) (el0 : Addr) (el1 : Addr) (b : Addr) (kb : ClassId) (mr : Addr) (h0 : Heap) (n0 : Nat) (Z0 : n0 ≤ h0.size) (A_a : Exa Z h0 a "java/util/ArrayList") (F_elementData_a : Fld Z h0 a "java/util/ArrayList" "elementData" "[Ljava/lang/Object;" (.ref b)) (F_size_a : Fld Z h0 a "java/util/ArrayList" "size" "I" (.int (2 : Int32))) (V_b : Arv Z h0 b kb (.object "java/lang/Object") (10 : Int32) [(.ref el0), (.ref el1), .null, .null, .null, .null, .null, .null, .null, .null] .null) (A_b : Exa Z h0 b "[Ljava/lang/Object;") (I_el0_5 : Ins Z h0 el0 "java/lang/Object" true) (I_el1_6 : Ins Z h0 el1 "java/lang/Object" true) (hmr : Mir Z "[Ljava/lang/Object;" mr) :
    Met l Z mN23 jdk_40_method_48_code 1 (some (.object "java/util/List")) ({ frames := 7, cells := 2, slots := 4, locals := 89 } : Room) ws #[(.ref a)] h0 (Q_rm_cpl2 Z a el0 el1 b kb mr h0 n0) := by
  refine own_met (plainFor_of_name own_pn9) ?_
  intro p e s m below meth c s₁ hret hx hby hlk hml hown hnm X0 e0 hZ hh
  have N0 := Fr.nil n0
  refine Gs (fun _ tk => castTop (own_ef_rm_cpl2 m a) tk) ?_
  have KP : Keep h0 h0 [] := Keep.refl _ _
  show Goes _ _ _ _ _ (s₁.setTop (mkF m 0 #[.val (.ref a)] []))
  refine Gs (fun _ tk => XS.aloadN X0.here hx rfl (hb hby d21_0) rfl rfl tk) ?_
  have ltc1_a : a < h0.size := A_a.lt
  have ltc1_b : b < h0.size := V_b.lt
  have szs1 : h0.size ≤ h0.size := KP.1
  obtain ⟨_, _, ⟨T1, L1, k1, n1⟩, -, X1, ⟨Lc1, hQ1, l1, y1, z1⟩, st1⟩ := Jvm.LawKit.callS X0 hx (y := mN22) hown (mvT hZ (gw hw 55 rfl)) (mvT hZ (gw hw 56 rfl)) (mvT hZ (gw hw 57 rfl)) (mvT hZ (gw hw 58 rfl)) (by decide) (backOf (W := 0) (rm_lcopy2 l Z a0 hw [] a el0 el1 b kb mr h0 n0 Z0 A_a F_elementData_a F_size_a V_b A_b I_el0_5 I_el1_6 (by first | assumption | decide)) hZ (gw hw 58 rfl) (gw hw 57 rfl) (by decide) (by decide)) (g := (mkF m 1 #[.val (.ref a)] [(.ref a)])) rfl (by rw [hml]; rfl) (argsL := [(.ref a)]) (rest := []) (lenOf own_pd11 rfl) rfl (w0 (Nat.le_of_eq rfl)) (hb hby d21_1) (fun _ _ => ⟨rfl, e0, (by decide : 0 + 2 ≤ _), (by decide : 0 + 4 ≤ _)⟩)
  dsimp only [Pt.U, Pt.locs, Pt.cells, Pt.slots] at X1 l1 y1 z1 st1 hQ1
  subst l1 y1 z1
  obtain ⟨u1, rfl, N1q, K1, A_u1_1', F_e0_u1_1', F_e1_u1_1', g_u1_1', sz_u1_1'⟩ := hQ1
  have N1 := Fr.app N0 N1q
  replace KP := KP.trans K1 all0
  replace Z0 := Nat.le_trans Z0 K1.1
  have A_u1 := A_u1_1'
  have F_e0_u1 := F_e0_u1_1'
  have F_e1_u1 := F_e1_u1_1'
  have g_u1 := g_u1_1'
  have szc_u1 := sz_u1_1'
  have ne_a_u1 : a ≠ u1 := Nat.ne_of_lt (Nat.lt_of_lt_of_le ltc1_a szc_u1)
  have ne_b_u1 : b ≠ u1 := Nat.ne_of_lt (Nat.lt_of_lt_of_le ltc1_b szc_u1)
  have sz_u1 : h0.size ≤ u1 := Nat.le_trans szs1 szc_u1
  refine Gs st1 ?_
  show Goes _ _ _ _ _ (T1.setTop (mkF m 4 #[.val (.ref a)] [(.ref u1)]))
  refine Goes.ret X1 (some (.ref u1)) (fun h => by rw [hret] at h; cases h) hlk (by decide) (by decide) ?_ (fun fs hr => ?_)
  · exact ⟨u1, rfl, N1, KP, A_u1, F_e0_u1, F_e1_u1, g_u1, sz_u1⟩
  · exact own_retA X1 hx hret rfl rfl (hb hby d21_4) hr
theorem d22_0 : decode jdk_40_method_36_code 0 = .ok (.getstatic 90, 3) := by decide +kernel
theorem d22_3 : decode jdk_40_method_36_code 3 = .ok (.areturn, 1) := by decide +kernel
theorem own_ef_rm_of0 (m : MethodId)  : entryFrame m #[] 0 = mkF m 0 #[] [] := by first | (simp [entryFrame, mkF, argsToLocals, Value.category]; done) | rfl
def Q_rm_of0 (Z : State) (nl : Addr) (h0 : Heap) (n0 : Nat) (v : Option Value) (h : Heap) (L : List Loc) : Prop := v = some (.ref nl) ∧ Fr n0 L ∧ h = h0
set_option maxRecDepth 65536 in
set_option maxHeartbeats 40000000 in
theorem rm_of0 (l : Launch) (Z : State) (a0 : Array Value) (hw : ∀ d ∈ tables_1, d.before a0 Z = true) (ws : List Jvm.Cond) (nl : Addr) (h0 : Heap) (n0 : Nat) (Z0 : n0 ≤ h0.size) (S_EMPTY_LIST : Sta Z h0 "java/util/ImmutableCollections" "EMPTY_LIST" "Ljava/util/ImmutableCollections$ListN;" (.ref nl)) :
    Met l Z mN24 jdk_40_method_36_code 0 (some (.object "java/util/List")) ({ frames := 0, cells := 0, slots := 0, locals := 0 } : Room) ws #[] h0 (Q_rm_of0 Z nl h0 n0) := by
  refine own_met (plainFor_of_name own_pn9) ?_
  intro p e s m below meth c s₁ hret hx hby hlk hml hown hnm X0 e0 hZ hh
  have N0 := Fr.nil n0
  refine Gs (fun _ tk => castTop (own_ef_rm_of0 m ) tk) ?_
  show Goes _ _ _ _ _ (s₁.setTop (mkF m 0 #[] []))
  obtain ⟨T1, X1, e1, st1⟩ := getS2 X0 hx hZ hown (host := "") (Or.inl (gw hw 79 rfl)) Via.refl e0 S_EMPTY_LIST (g := (mkF m 0 #[] [])) rfl (hb hby d22_0)
  refine Gs st1 ?_
  show Goes _ _ _ _ _ (T1.setTop (mkF m 3 #[] [(.ref nl)]))
  refine Goes.ret X1 (some (.ref nl)) (fun h => by rw [hret] at h; cases h) hlk (by decide) (by decide) ?_ (fun fs hr => ?_)
  · exact ⟨rfl, N0, e1⟩
  · exact own_retA X1 hx hret rfl rfl (hb hby d22_3) hr
theorem d20_40 : decode jdk_56_method_3_code 40 = .ok (.invokestatic 26, 3) := by decide +kernel
theorem own_pd13 : parseMethodDescriptor "()Ljava/util/List;" = some ⟨[], some (.object "java/util/List")⟩ := by decide +kernel
theorem d20_43 : decode jdk_56_method_3_code 43 = .ok (.areturn, 1) := by decide +kernel
theorem own_ef_rm_lcopy0 (m : MethodId) (x0 : Addr) : entryFrame m #[(.ref x0)] 2 = mkF m 0 #[.val (.ref x0), .unset] [] := by first | (simp [entryFrame, mkF, argsToLocals, Value.category]; done) | rfl
def Q_rm_lcopy0 (Z : State) (a : Addr) (nl : Addr) (h0 : Heap) (n0 : Nat) (v : Option Value) (h : Heap) (L : List Loc) : Prop := v = some (.ref nl) ∧ Fr n0 L ∧ h = h0
set_option maxRecDepth 65536 in
set_option maxHeartbeats 40000000 in
theorem rm_lcopy0 (l : Launch) (Z : State) (a0 : Array Value) (hw : ∀ d ∈ tables_1, d.before a0 Z = true) (ws : List Jvm.Cond) (a : Addr) (nl : Addr) (h0 : Heap) (n0 : Nat) (Z0 : n0 ≤ h0.size) (A_a : Exa Z h0 a "java/util/ArrayList") (F_size_a : Fld Z h0 a "java/util/ArrayList" "size" "I" (.int (0 : Int32))) (S_EMPTY_LIST : Sta Z h0 "java/util/ImmutableCollections" "EMPTY_LIST" "Ljava/util/ImmutableCollections$ListN;" (.ref nl)) :
    Met l Z mN22 jdk_56_method_3_code 2 (some (.object "java/util/List")) ({ frames := 1, cells := 0, slots := 0, locals := 12 } : Room) ws #[(.ref a)] h0 (Q_rm_lcopy0 Z a nl h0 n0) := by
  refine own_met (plainFor_of_name own_pn10) ?_
  intro p e s m below meth c s₁ hret hx hby hlk hml hown hnm X0 e0 hZ hh
  have N0 := Fr.nil n0
  refine Gs (fun _ tk => castTop (own_ef_rm_lcopy0 m a) tk) ?_
  show Goes _ _ _ _ _ (s₁.setTop (mkF m 0 #[.val (.ref a), .unset] []))
  refine Gs (fun _ tk => XS.aloadN X0.here hx rfl (hb hby d20_0) rfl rfl tk) ?_
  obtain ⟨T1, X1, e1, st1⟩ := instNo X0 hx hZ hown (gw hw 59 rfl) e0 A_a (own_nsNo (gw hw 60 rfl) (own_nfI (gw hw 179 rfl)) (NS.step (gw hw 60 rfl) (NS.step (gw hw 61 rfl) (NS.step (gw hw 62 rfl) (own_nsRoot (gw hw 63 rfl) (own_nfI (gw hw 179 rfl)) (by decide)) (by decide)) (by decide)) (by decide)) (by decide)) (g := (mkF m 1 #[.val (.ref a), .unset] [(.ref a)])) rfl rfl (hb hby d20_1)
  refine Gs st1 ?_
  show Goes _ _ _ _ _ (T1.setTop (mkF m 4 #[.val (.ref a), .unset] [(.int (0 : Int32))]))
  refine Gs (fun _ tk => XS.ifNo X1.here hx rfl (hb hby d20_4) rfl ((if0 _ _).trans (teq (by decide : ((0 : Int32) = (0 : Int32)))).2) tk) ?_
  refine Gs (fun _ tk => XS.aloadN X1.here hx rfl (hb hby d20_7) rfl rfl tk) ?_
  obtain ⟨T2, X2, e2, st2⟩ := instNo X1 hx hZ hown (gw hw 64 rfl) e1 A_a (own_nsNo (gw hw 60 rfl) (own_nfS (gw hw 309 rfl)) (NS.step (gw hw 60 rfl) (NS.step (gw hw 61 rfl) (NS.step (gw hw 62 rfl) (own_nsRoot (gw hw 63 rfl) (own_nfS (gw hw 309 rfl)) (by decide)) (by decide)) (by decide)) (by decide)) (by decide)) (g := (mkF m 8 #[.val (.ref a), .unset] [(.ref a)])) rfl rfl (hb hby d20_8)
  refine Gs st2 ?_
  show Goes _ _ _ _ _ (T2.setTop (mkF m 11 #[.val (.ref a), .unset] [(.int (0 : Int32))]))
  refine Gs (fun _ tk => XS.ifYes X2.here hx rfl (pc0 := 11) (pc' := 31) rfl (hb hby d20_11) rfl ((if0 _ _).trans (teq (by decide : ((0 : Int32) = (0 : Int32)))).1) (by decide) (by decide) tk) ?_
  refine Gs (fun _ tk => XS.aloadN X2.here hx rfl (hb hby d20_31) rfl rfl tk) ?_
  obtain ⟨cq3, kq3, q3a, q3b, q3c⟩ := isOf hZ e2 A_a
  obtain ⟨_, _, ⟨T3, L3, k3, n3⟩, -, X3, ⟨Lc3, hQ3, l3, y3, z3⟩, st3⟩ := X2.interfaceBack hx (xi := mN20) (y := mN13) hown (mvT hZ (gw hw 65 rfl)) (mvT hZ (gw hw 66 rfl)) (mvT hZ (gw hw 67 rfl)) (mvT hZ (gw hw 68 rfl)) (mvT hZ (gw hw 69 rfl)) (mvT hZ (gw hw 70 rfl)) (mvT hZ (gw hw 71 rfl)) (mvT hZ (gw hw 72 rfl)) (by decide) (backOf (W := 0) (rm_emp0 l Z a0 hw [] a h0 n0 Z0 F_size_a) hZ (gw hw 73 rfl) (gw hw 22 rfl) (by decide) (by decide)) q3a q3b q3c (g := (mkF m 32 #[.val (.ref a), .unset] [(.ref a)])) rfl (by rw [hml]; rfl) (Steps.refl _) (argsL := []) (rest := []) (lenOf own_pd9 rfl) rfl (w0 (Nat.le_of_eq rfl)) (hb hby d20_32) (fun _ _ => ⟨rfl, e2, (by decide : 0 + 0 ≤ _), (by decide : 0 + 0 ≤ _)⟩)
  dsimp only [Pt.U, Pt.locs, Pt.cells, Pt.slots] at X3 l3 y3 z3 st3 hQ3
  subst l3 y3 z3
  obtain ⟨rfl, N3q, e3⟩ := hQ3
  have N3 := Fr.app N0 N3q
  refine Gs (fun _ tk => st3.trans tk) ?_
  show Goes _ _ _ _ _ (T3.setTop (mkF m 37 #[.val (.ref a), .unset] [(.int (1 : Int32))]))
  refine Gs (fun _ tk => XS.ifNo X3.here hx rfl (hb hby d20_37) rfl ((if0 _ _).trans (feq (by decide : ¬ ((1 : Int32) = (0 : Int32)))).1) tk) ?_
  obtain ⟨_, _, ⟨T4, L4, k4, n4⟩, -, X4, ⟨Lc4, hQ4, l4, y4, z4⟩, st4⟩ := Jvm.LawKit.callS X3 hx (y := mN24) hown (mvT hZ (gw hw 76 rfl)) (mvT hZ (gw hw 77 rfl)) (mvT hZ (gw hw 53 rfl)) (mvT hZ (gw hw 78 rfl)) (by decide) (backOf (W := 0) (rm_of0 l Z a0 hw [] nl h0 n0 Z0 S_EMPTY_LIST) hZ (gw hw 78 rfl) (gw hw 53 rfl) (by decide) (by decide)) (g := (mkF m 40 #[.val (.ref a), .unset] [])) rfl (by rw [hml]; rfl) (argsL := []) (rest := []) (lenOf own_pd13 rfl) rfl (w0 (Nat.le_of_eq rfl)) (hb hby d20_40) (fun _ _ => ⟨rfl, e3, (by decide : 0 + 0 ≤ _), (by decide : 0 + 0 ≤ _)⟩)
  dsimp only [Pt.U, Pt.locs, Pt.cells, Pt.slots] at X4 l4 y4 z4 st4 hQ4
  subst l4 y4 z4
  obtain ⟨rfl, N4q, e4⟩ := hQ4
  have N4 := Fr.app N3 N4q
  refine Gs st4 ?_
  show Goes _ _ _ _ _ (T4.setTop (mkF m 43 #[.val (.ref a), .unset] [(.ref nl)]))
  refine Goes.ret X4 (some (.ref nl)) (fun h => by rw [hret] at h; cases h) hlk (by decide) (by decide) ?_ (fun fs hr => ?_)
  · exact ⟨rfl, N4, e4⟩
  · exact own_retA X4 hx hret rfl rfl (hb hby d20_43) hr
theorem own_ef_rm_cpl0 (m : MethodId) (x0 : Addr) : entryFrame m #[(.ref x0)] 1 = mkF m 0 #[.val (.ref x0)] [] := by first | (simp [entryFrame, mkF, argsToLocals, Value.category]; done) | rfl
def Q_rm_cpl0 (Z : State) (a : Addr) (nl : Addr) (h0 : Heap) (n0 : Nat) (v : Option Value) (h : Heap) (L : List Loc) : Prop := v = some (.ref nl) ∧ Fr n0 L ∧ h = h0
set_option maxRecDepth 65536 in
set_option maxHeartbeats 40000000 in
theorem rm_cpl0 (l : Launch) (Z : State) (a0 : Array Value) (hw : ∀ d ∈ tables_1, d.before a0 Z = true) (ws : List Jvm.Cond) (a : Addr) (nl : Addr) (h0 : Heap) (n0 : Nat) (Z0 : n0 ≤ h0.size) (A_a : Exa Z h0 a "java/util/ArrayList") (F_size_a : Fld Z h0 a "java/util/ArrayList" "size" "I" (.int (0 : Int32))) (S_EMPTY_LIST : Sta Z h0 "java/util/ImmutableCollections" "EMPTY_LIST" "Ljava/util/ImmutableCollections$ListN;" (.ref nl)) :
    Met l Z mN23 jdk_40_method_48_code 1 (some (.object "java/util/List")) ({ frames := 2, cells := 0, slots := 0, locals := 25 } : Room) ws #[(.ref a)] h0 (Q_rm_cpl0 Z a nl h0 n0) := by
  refine own_met (plainFor_of_name own_pn9) ?_
  intro p e s m below meth c s₁ hret hx hby hlk hml hown hnm X0 e0 hZ hh
  have N0 := Fr.nil n0
  refine Gs (fun _ tk => castTop (own_ef_rm_cpl0 m a) tk) ?_
  show Goes _ _ _ _ _ (s₁.setTop (mkF m 0 #[.val (.ref a)] []))
  refine Gs (fun _ tk => XS.aloadN X0.here hx rfl (hb hby d21_0) rfl rfl tk) ?_
  obtain ⟨_, _, ⟨T1, L1, k1, n1⟩, -, X1, ⟨Lc1, hQ1, l1, y1, z1⟩, st1⟩ := Jvm.LawKit.callS X0 hx (y := mN22) hown (mvT hZ (gw hw 55 rfl)) (mvT hZ (gw hw 56 rfl)) (mvT hZ (gw hw 57 rfl)) (mvT hZ (gw hw 58 rfl)) (by decide) (backOf (W := 0) (rm_lcopy0 l Z a0 hw [] a nl h0 n0 Z0 A_a F_size_a S_EMPTY_LIST) hZ (gw hw 58 rfl) (gw hw 57 rfl) (by decide) (by decide)) (g := (mkF m 1 #[.val (.ref a)] [(.ref a)])) rfl (by rw [hml]; rfl) (argsL := [(.ref a)]) (rest := []) (lenOf own_pd11 rfl) rfl (w0 (Nat.le_of_eq rfl)) (hb hby d21_1) (fun _ _ => ⟨rfl, e0, (by decide : 0 + 0 ≤ _), (by decide : 0 + 0 ≤ _)⟩)
  dsimp only [Pt.U, Pt.locs, Pt.cells, Pt.slots] at X1 l1 y1 z1 st1 hQ1
  subst l1 y1 z1
  obtain ⟨rfl, N1q, e1⟩ := hQ1
  have N1 := Fr.app N0 N1q
  refine Gs st1 ?_
  show Goes _ _ _ _ _ (T1.setTop (mkF m 4 #[.val (.ref a)] [(.ref nl)]))
  refine Goes.ret X1 (some (.ref nl)) (fun h => by rw [hret] at h; cases h) hlk (by decide) (by decide) ?_ (fun fs hr => ?_)
  · exact ⟨rfl, N1, e1⟩
  · exact own_retA X1 hx hret rfl rfl (hb hby d21_4) hr
theorem d23_0 : decode prog_14_method_1_code 0 = .ok (.aload_n 0, 1) := by decide +kernel
theorem d23_1 : decode prog_14_method_1_code 1 = .ok (.invokespecial 1, 3) := by decide +kernel
theorem d23_4 : decode prog_14_method_1_code 4 = .ok (.aload_n 0, 1) := by decide +kernel
theorem d23_5 : decode prog_14_method_1_code 5 = .ok (.iload_n 1, 1) := by decide +kernel
theorem d23_6 : decode prog_14_method_1_code 6 = .ok (.putfield 7, 3) := by decide +kernel
theorem d23_9 : decode prog_14_method_1_code 9 = .ok (.aload_n 0, 1) := by decide +kernel
theorem d23_10 : decode prog_14_method_1_code 10 = .ok (.aload_n 2, 1) := by decide +kernel
theorem d23_11 : decode prog_14_method_1_code 11 = .ok (.putfield 13, 3) := by decide +kernel
theorem d23_14 : decode prog_14_method_1_code 14 = .ok (.aload_n 0, 1) := by decide +kernel
theorem d23_15 : decode prog_14_method_1_code 15 = .ok (.aload_n 3, 1) := by decide +kernel
theorem d23_16 : decode prog_14_method_1_code 16 = .ok (.putfield 17, 3) := by decide +kernel
theorem d23_19 : decode prog_14_method_1_code 19 = .ok (.return_, 1) := by decide +kernel
theorem own_pn11 : plainName "org/stripeward/scenario/Node" = true := by first | (simp [plainName, overriddenIn]; done) | decide +kernel
theorem own_ef_rm_node (m : MethodId) (x0 : Addr) (x1 : Int32) : entryFrame m #[(.ref x0), (.int x1), .null, .null] 4 = mkF m 0 #[.val (.ref x0), .val (.int x1), .val .null, .val .null] [] := by first | (simp [entryFrame, mkF, argsToLocals, Value.category]; done) | rfl
def Q_rm_node (Z : State) (a : Addr) (ix : Int32) (h0 : Heap) (n0 : Nat) (v : Option Value) (h : Heap) (L : List Loc) : Prop := v = none ∧ Fr n0 L ∧ Keep h0 h [a]
set_option maxRecDepth 65536 in
set_option maxHeartbeats 40000000 in
theorem rm_node (l : Launch) (Z : State) (a0 : Array Value) (hw : ∀ d ∈ tables_1, d.before a0 Z = true) (ws : List Jvm.Cond) (a : Addr) (ix : Int32) (h0 : Heap) (n0 : Nat) (Z0 : n0 ≤ h0.size) (A_a : Exa Z h0 a "org/stripeward/scenario/Node") (F_index_a : Fld Z h0 a "org/stripeward/scenario/Node" "index" "I" (.int (0 : Int32))) (F_name_a : Fld Z h0 a "org/stripeward/scenario/Node" "name" "Ljava/lang/String;" .null) (F_rack_a : Fld Z h0 a "org/stripeward/scenario/Node" "rack" "Lorg/stripeward/scenario/Rack;" .null) (g_a : n0 ≤ a) :
    Met l Z mN25 prog_14_method_1_code 4 none ({ frames := 2, cells := 0, slots := 0, locals := 24 } : Room) ws #[(.ref a), (.int ix), .null, .null] h0 (Q_rm_node Z a ix h0 n0) := by
  refine own_met (plainFor_of_name own_pn11) ?_
  intro p e s m below meth c s₁ hret hx hby hlk hml hown hnm X0 e0 hZ hh
  have N0 := Fr.nil n0
  refine Gs (fun _ tk => castTop (own_ef_rm_node m a ix) tk) ?_
  have KP : Keep h0 h0 [a] := Keep.refl _ _
  show Goes _ _ _ _ _ (s₁.setTop (mkF m 0 #[.val (.ref a), .val (.int ix), .val .null, .val .null] []))
  refine Gs (fun _ tk => XS.aloadN X0.here hx rfl (hb hby d23_0) rfl rfl tk) ?_
  obtain ⟨_, _, ⟨T1, L1, k1, n1⟩, -, X1, ⟨Lc1, hQ1, l1, y1, z1⟩, st1⟩ := X0.specialBack hx (y := mN0) rfl hown (mvT hZ (gw hw 6 rfl)) (mvT hZ (gw hw 7 rfl)) (mvT hZ (gw hw 10 rfl)) (by decide) (backOf (W := 0) (rm_rec l Z a0 hw [] a h0 n0 Z0) hZ (gw hw 10 rfl) (gw hw 9 rfl) (by decide) (by decide)) (g := (mkF m 1 #[.val (.ref a), .val (.int ix), .val .null, .val .null] [(.ref a)])) rfl (by rw [hml]; rfl) (Steps.refl _) (a := a) (argsL := []) (rest := []) (lenOf own_pd0 rfl) rfl (w0 (Nat.le_of_eq rfl)) (hb hby d23_1) (fun _ _ => ⟨rfl, e0, (by decide : 0 + 0 ≤ _), (by decide : 0 + 0 ≤ _)⟩)
  dsimp only [Pt.U, Pt.locs, Pt.cells, Pt.slots] at X1 l1 y1 z1 st1 hQ1
  subst l1 y1 z1
  obtain ⟨rfl, N1q, e1⟩ := hQ1
  have N1 := Fr.app N0 N1q
  refine Gs (fun _ tk => st1.trans tk) ?_
  show Goes _ _ _ _ _ (T1.setTop (mkF m 4 #[.val (.ref a), .val (.int ix), .val .null, .val .null] []))
  refine Gs (fun _ tk => XS.aloadN X1.here hx rfl (hb hby d23_4) rfl rfl tk) ?_
  refine Gs (fun _ tk => XS.iloadN X1.here hx rfl (hb hby d23_5) rfl tk) ?_
  obtain ⟨T2, h2, X2, e2, W2, st2⟩ := putF X1 hx hZ hown (host := "") (Or.inl (gw hw 14 rfl)) Via.refl e1 F_index_a A_a (Or.inr ⟨(gw hw 15 rfl), rfl, hnm⟩) (gw hw 1 rfl) (ty := .int) (by decide) rfl rfl (g := (mkF m 6 #[.val (.ref a), .val (.int ix), .val .null, .val .null] [(.int ix), (.ref a)])) rfl rfl (hb hby d23_6)
  have N2 := Fr.snoc X2 N1 g_a
  replace A_a := A_a.wr W2
  replace F_name_a := F_name_a.other W2 (Or.inr (slot_ne (Or.inr (gw hw 17 rfl)) (Or.inr (gw hw 15 rfl)) (by decide) (t := (.object "java/lang/String")) (t' := .int) (by decide) (by decide)))
  replace F_rack_a := F_rack_a.other W2 (Or.inr (slot_ne (Or.inr (gw hw 19 rfl)) (Or.inr (gw hw 15 rfl)) (by decide) (t := (.object "org/stripeward/scenario/Rack")) (t' := .int) (by decide) (by decide)))
  replace KP := KP.wr W2 (Or.inl (List.mem_of_getElem? (i := 0) rfl))
  replace Z0 : n0 ≤ h2.size := by rw [W2.size]; exact Z0
  refine Gs st2 ?_
  show Goes _ _ _ _ _ (T2.setTop (mkF m 9 #[.val (.ref a), .val (.int ix), .val .null, .val .null] []))
  refine Gs (fun _ tk => XS.aloadN X2.here hx rfl (hb hby d23_9) rfl rfl tk) ?_
  refine Gs (fun _ tk => XS.aloadN X2.here hx rfl (hb hby d23_10) rfl rfl tk) ?_
  obtain ⟨T3, h3, X3, e3, W3, st3⟩ := putF X2 hx hZ hown (host := "") (Or.inl (gw hw 16 rfl)) Via.refl e2 F_name_a A_a (Or.inr ⟨(gw hw 17 rfl), rfl, hnm⟩) (gw hw 1 rfl) (ty := (.object "java/lang/String")) (by decide) rfl rfl (g := (mkF m 11 #[.val (.ref a), .val (.int ix), .val .null, .val .null] [.null, (.ref a)])) rfl rfl (hb hby d23_11)
  have N3 := Fr.snoc X3 N2 g_a
  replace A_a := A_a.wr W3
  replace F_rack_a := F_rack_a.other W3 (Or.inr (slot_ne (Or.inr (gw hw 19 rfl)) (Or.inr (gw hw 17 rfl)) (by decide) (t := (.object "org/stripeward/scenario/Rack")) (t' := (.object "java/lang/String")) (by decide) (by decide)))
  replace KP := KP.wr W3 (Or.inl (List.mem_of_getElem? (i := 0) rfl))
  replace Z0 : n0 ≤ h3.size := by rw [W3.size]; exact Z0
  refine Gs st3 ?_
  show Goes _ _ _ _ _ (T3.setTop (mkF m 14 #[.val (.ref a), .val (.int ix), .val .null, .val .null] []))
  refine Gs (fun _ tk => XS.aloadN X3.here hx rfl (hb hby d23_14) rfl rfl tk) ?_
  refine Gs (fun _ tk => XS.aloadN X3.here hx rfl (hb hby d23_15) rfl rfl tk) ?_
  obtain ⟨T4, h4, X4, e4, W4, st4⟩ := putF X3 hx hZ hown (host := "") (Or.inl (gw hw 18 rfl)) Via.refl e3 F_rack_a A_a (Or.inr ⟨(gw hw 19 rfl), rfl, hnm⟩) (gw hw 1 rfl) (ty := (.object "org/stripeward/scenario/Rack")) (by decide) rfl rfl (g := (mkF m 16 #[.val (.ref a), .val (.int ix), .val .null, .val .null] [.null, (.ref a)])) rfl rfl (hb hby d23_16)
  have N4 := Fr.snoc X4 N3 g_a
  replace KP := KP.wr W4 (Or.inl (List.mem_of_getElem? (i := 0) rfl))
  replace Z0 : n0 ≤ h4.size := by rw [W4.size]; exact Z0
  refine Gs st4 ?_
  show Goes _ _ _ _ _ (T4.setTop (mkF m 19 #[.val (.ref a), .val (.int ix), .val .null, .val .null] []))
  refine Goes.ret X4 none (fun _ => rfl) hlk (by decide) (by decide) ?_ (fun fs hr => ?_)
  · rw [e4]; exact ⟨rfl, N4, KP⟩
  · exact X4.returnOut hx hret (hb hby d23_19) hr
theorem d24_0 : decode prog_2_method_1_code 0 = .ok (.aload_n 0, 1) := by decide +kernel
theorem d24_1 : decode prog_2_method_1_code 1 = .ok (.invokespecial 1, 3) := by decide +kernel
theorem d24_4 : decode prog_2_method_1_code 4 = .ok (.aload_n 3, 1) := by decide +kernel
theorem d24_5 : decode prog_2_method_1_code 5 = .ok (.invokestatic 7, 3) := by decide +kernel
theorem d24_8 : decode prog_2_method_1_code 8 = .ok (.astore_n 3, 1) := by decide +kernel
theorem d24_9 : decode prog_2_method_1_code 9 = .ok (.aload_n 0, 1) := by decide +kernel
theorem d24_10 : decode prog_2_method_1_code 10 = .ok (.iload_n 1, 1) := by decide +kernel
theorem d24_11 : decode prog_2_method_1_code 11 = .ok (.putfield 13, 3) := by decide +kernel
theorem d24_14 : decode prog_2_method_1_code 14 = .ok (.aload_n 0, 1) := by decide +kernel
theorem d24_15 : decode prog_2_method_1_code 15 = .ok (.aload_n 2, 1) := by decide +kernel
theorem d24_16 : decode prog_2_method_1_code 16 = .ok (.putfield 19, 3) := by decide +kernel
theorem d24_19 : decode prog_2_method_1_code 19 = .ok (.aload_n 0, 1) := by decide +kernel
theorem d24_20 : decode prog_2_method_1_code 20 = .ok (.aload_n 3, 1) := by decide +kernel
theorem d24_21 : decode prog_2_method_1_code 21 = .ok (.putfield 23, 3) := by decide +kernel
theorem d24_24 : decode prog_2_method_1_code 24 = .ok (.aload_n 0, 1) := by decide +kernel
theorem d24_25 : decode prog_2_method_1_code 25 = .ok (.aload 4, 2) := by decide +kernel
theorem d24_27 : decode prog_2_method_1_code 27 = .ok (.putfield 27, 3) := by decide +kernel
theorem d24_30 : decode prog_2_method_1_code 30 = .ok (.aload_n 0, 1) := by decide +kernel
theorem d24_31 : decode prog_2_method_1_code 31 = .ok (.iload 5, 2) := by decide +kernel
theorem d24_33 : decode prog_2_method_1_code 33 = .ok (.putfield 31, 3) := by decide +kernel
theorem d24_36 : decode prog_2_method_1_code 36 = .ok (.aload_n 0, 1) := by decide +kernel
theorem d24_37 : decode prog_2_method_1_code 37 = .ok (.dload 6, 2) := by decide +kernel
theorem d24_39 : decode prog_2_method_1_code 39 = .ok (.putfield 35, 3) := by decide +kernel
theorem d24_42 : decode prog_2_method_1_code 42 = .ok (.return_, 1) := by decide +kernel
theorem own_pn12 : plainName "org/stripeward/scenario/Block" = true := by first | (simp [plainName, overriddenIn]; done) | decide +kernel
theorem own_ef_rm_block0 (m : MethodId) (x0 : Addr) (x1 : Int32) (x3 : Addr) (x5 : Int32) (x6 : UInt64) : entryFrame m #[(.ref x0), (.int x1), .null, (.ref x3), .null, (.int x5), (.double x6)] 8 = mkF m 0 #[.val (.ref x0), .val (.int x1), .val .null, .val (.ref x3), .val .null, .val (.int x5), .val (.double x6), .second] [] := by first | (simp [entryFrame, mkF, argsToLocals, Value.category]; done) | rfl
def Q_rm_block0 (Z : State) (a : Addr) (ix : Int32) (q : Addr) (pz : Int32) (dz : UInt64) (nl : Addr) (h0 : Heap) (n0 : Nat) (v : Option Value) (h : Heap) (L : List Loc) : Prop := v = none ∧ Fr n0 L ∧ Keep h0 h [a] ∧ Fld Z h a "org/stripeward/scenario/Block" "index" "I" (.int ix) ∧ Fld Z h a "org/stripeward/scenario/Block" "holders" "Ljava/util/List;" (.ref nl)
set_option maxRecDepth 65536 in
set_option maxHeartbeats 40000000 in
theorem rm_block0 (l : Launch) (Z : State) (a0 : Array Value) (hw : ∀ d ∈ tables_1, d.before a0 Z = true) (ws : List Jvm.Cond) (a : Addr) (ix : Int32) (q : Addr) (pz : Int32) (dz : UInt64) (nl : Addr) (h0 : Heap) (n0 : Nat) (Z0 : n0 ≤ h0.size) (A_a : Exa Z h0 a "org/stripeward/scenario/Block") (F_index_a : Fld Z h0 a "org/stripeward/scenario/Block" "index" "I" (.int (0 : Int32))) (F_name_a : Fld Z h0 a "org/stripeward/scenario/Block" "name" "Ljava/lang/String;" .null) (F_holders_a : Fld Z h0 a "org/stripeward/scenario/Block" "holders" "Ljava/util/List;" .null) (F_stripe_a : Fld Z h0 a "org/stripeward/scenario/Block" "stripe" "Lorg/stripeward/scenario/Stripe;" .null) (F_parity_a : Fld Z h0 a "org/stripeward/scenario/Block" "parity" "Z" (.int (0 : Int32))) (F_sizeMiB_a : Fld Z h0 a "org/stripeward/scenario/Block" "sizeMiB" "D" (.double (0 : UInt64))) (g_a : n0 ≤ a) (A_q : Exa Z h0 q "java/util/ArrayList") (F_size_q : Fld Z h0 q "java/util/ArrayList" "size" "I" (.int (0 : Int32))) (S_EMPTY_LIST : Sta Z h0 "java/util/ImmutableCollections" "EMPTY_LIST" "Ljava/util/ImmutableCollections$ListN;" (.ref nl)) (ne_q_a : q ≠ a) :
    Met l Z mN26 prog_2_method_1_code 8 none ({ frames := 3, cells := 0, slots := 0, locals := 37 } : Room) ws #[(.ref a), (.int ix), .null, (.ref q), .null, (.int pz), (.double dz)] h0 (Q_rm_block0 Z a ix q pz dz nl h0 n0) := by
  refine own_met (plainFor_of_name own_pn12) ?_
  intro p e s m below meth c s₁ hret hx hby hlk hml hown hnm X0 e0 hZ hh
  have N0 := Fr.nil n0
  refine Gs (fun _ tk => castTop (own_ef_rm_block0 m a ix q pz dz) tk) ?_
  have KP : Keep h0 h0 [a] := Keep.refl _ _
  show Goes _ _ _ _ _ (s₁.setTop (mkF m 0 #[.val (.ref a), .val (.int ix), .val .null, .val (.ref q), .val .null, .val (.int pz), .val (.double dz), .second] []))
  refine Gs (fun _ tk => XS.aloadN X0.here hx rfl (hb hby d24_0) rfl rfl tk) ?_
  obtain ⟨_, _, ⟨T1, L1, k1, n1⟩, -, X1, ⟨Lc1, hQ1, l1, y1, z1⟩, st1⟩ := X0.specialBack hx (y := mN0) rfl hown (mvT hZ (gw hw 50 rfl)) (mvT hZ (gw hw 7 rfl)) (mvT hZ (gw hw 10 rfl)) (by decide) (backOf (W := 0) (rm_rec l Z a0 hw [] a h0 n0 Z0) hZ (gw hw 10 rfl) (gw hw 9 rfl) (by decide) (by decide)) (g := (mkF m 1 #[.val (.ref a), .val (.int ix), .val .null, .val (.ref q), .val .null, .val (.int pz), .val (.double dz), .second] [(.ref a)])) rfl (by rw [hml]; rfl) (Steps.refl _) (a := a) (argsL := []) (rest := []) (lenOf own_pd0 rfl) rfl (w0 (Nat.le_of_eq rfl)) (hb hby d24_1) (fun _ _ => ⟨rfl, e0, (by decide : 0 + 0 ≤ _), (by decide : 0 + 0 ≤ _)⟩)
  dsimp only [Pt.U, Pt.locs, Pt.cells, Pt.slots] at X1 l1 y1 z1 st1 hQ1
  subst l1 y1 z1
  obtain ⟨rfl, N1q, e1⟩ := hQ1
  have N1 := Fr.app N0 N1q
  refine Gs (fun _ tk => st1.trans tk) ?_
  show Goes _ _ _ _ _ (T1.setTop (mkF m 4 #[.val (.ref a), .val (.int ix), .val .null, .val (.ref q), .val .null, .val (.int pz), .val (.double dz), .second] []))
  refine Gs (fun _ tk => XS.aloadN X1.here hx rfl (hb hby d24_4) rfl rfl tk) ?_
  obtain ⟨_, _, ⟨T2, L2, k2, n2⟩, -, X2, ⟨Lc2, hQ2, l2, y2, z2⟩, st2⟩ := Jvm.LawKit.callS X1 hx (y := mN23) hown (mvT hZ (gw hw 51 rfl)) (mvT hZ (gw hw 52 rfl)) (mvT hZ (gw hw 53 rfl)) (mvT hZ (gw hw 54 rfl)) (by decide) (backOf (W := 0) (rm_cpl0 l Z a0 hw [] q nl h0 n0 Z0 A_q F_size_q S_EMPTY_LIST) hZ (gw hw 54 rfl) (gw hw 53 rfl) (by decide) (by decide)) (g := (mkF m 5 #[.val (.ref a), .val (.int ix), .val .null, .val (.ref q), .val .null, .val (.int pz), .val (.double dz), .second] [(.ref q)])) rfl (by rw [hml]; rfl) (argsL := [(.ref q)]) (rest := []) (lenOf own_pd11 rfl) rfl (w0 (Nat.le_of_eq rfl)) (hb hby d24_5) (fun _ _ => ⟨rfl, e1, (by decide : 0 + 0 ≤ _), (by decide : 0 + 0 ≤ _)⟩)
  dsimp only [Pt.U, Pt.locs, Pt.cells, Pt.slots] at X2 l2 y2 z2 st2 hQ2
  subst l2 y2 z2
  obtain ⟨rfl, N2q, e2⟩ := hQ2
  have N2 := Fr.app N1 N2q
  refine Gs st2 ?_
  show Goes _ _ _ _ _ (T2.setTop (mkF m 8 #[.val (.ref a), .val (.int ix), .val .null, .val (.ref q), .val .null, .val (.int pz), .val (.double dz), .second] [(.ref nl)]))
  refine Gs (fun _ tk => XS.astoreN X2.here hx rfl (hb hby d24_8) rfl rfl (l' := #[.val (.ref a), .val (.int ix), .val .null, .val (.ref nl), .val .null, .val (.int pz), .val (.double dz), .second]) rfl tk) ?_
  refine Gs (fun _ tk => XS.aloadN X2.here hx rfl (hb hby d24_9) rfl rfl tk) ?_
  refine Gs (fun _ tk => XS.iloadN X2.here hx rfl (hb hby d24_10) rfl tk) ?_
  obtain ⟨T3, h3, X3, e3, W3, st3⟩ := putF X2 hx hZ hown (host := "") (Or.inl (gw hw 80 rfl)) Via.refl e2 F_index_a A_a (Or.inr ⟨(gw hw 81 rfl), rfl, hnm⟩) (gw hw 45 rfl) (ty := .int) (by decide) rfl rfl (g := (mkF m 11 #[.val (.ref a), .val (.int ix), .val .null, .val (.ref nl), .val .null, .val (.int pz), .val (.double dz), .second] [(.int ix), (.ref a)])) rfl rfl (hb hby d24_11)
  have N3 := Fr.snoc X3 N2 g_a
  replace A_a := A_a.wr W3
  replace F_name_a := F_name_a.other W3 (Or.inr (slot_ne (Or.inr (gw hw 83 rfl)) (Or.inr (gw hw 81 rfl)) (by decide) (t := (.object "java/lang/String")) (t' := .int) (by decide) (by decide)))
  replace F_holders_a := F_holders_a.other W3 (Or.inr (slot_ne (Or.inr (gw hw 85 rfl)) (Or.inr (gw hw 81 rfl)) (by decide) (t := (.object "java/util/List")) (t' := .int) (by decide) (by decide)))
  replace F_stripe_a := F_stripe_a.other W3 (Or.inr (slot_ne (Or.inr (gw hw 87 rfl)) (Or.inr (gw hw 81 rfl)) (by decide) (t := (.object "org/stripeward/scenario/Stripe")) (t' := .int) (by decide) (by decide)))
  replace F_parity_a := F_parity_a.other W3 (Or.inr (slot_ne (Or.inr (gw hw 89 rfl)) (Or.inr (gw hw 81 rfl)) (by decide) (t := .boolean) (t' := .int) (by decide) (by decide)))
  replace F_sizeMiB_a := F_sizeMiB_a.other W3 (Or.inr (slot_ne (Or.inr (gw hw 91 rfl)) (Or.inr (gw hw 81 rfl)) (by decide) (t := .double) (t' := .int) (by decide) (by decide)))
  replace KP := KP.wr W3 (Or.inl (List.mem_of_getElem? (i := 0) rfl))
  replace F_index_a := F_index_a.same W3
  replace Z0 : n0 ≤ h3.size := by rw [W3.size]; exact Z0
  refine Gs st3 ?_
  show Goes _ _ _ _ _ (T3.setTop (mkF m 14 #[.val (.ref a), .val (.int ix), .val .null, .val (.ref nl), .val .null, .val (.int pz), .val (.double dz), .second] []))
  refine Gs (fun _ tk => XS.aloadN X3.here hx rfl (hb hby d24_14) rfl rfl tk) ?_
  refine Gs (fun _ tk => XS.aloadN X3.here hx rfl (hb hby d24_15) rfl rfl tk) ?_
  obtain ⟨T4, h4, X4, e4, W4, st4⟩ := putF X3 hx hZ hown (host := "") (Or.inl (gw hw 82 rfl)) Via.refl e3 F_name_a A_a (Or.inr ⟨(gw hw 83 rfl), rfl, hnm⟩) (gw hw 45 rfl) (ty := (.object "java/lang/String")) (by decide) rfl rfl (g := (mkF m 16 #[.val (.ref a), .val (.int ix), .val .null, .val (.ref nl), .val .null, .val (.int pz), .val (.double dz), .second] [.null, (.ref a)])) rfl rfl (hb hby d24_16)
  have N4 := Fr.snoc X4 N3 g_a
  replace A_a := A_a.wr W4
  replace F_index_a := F_index_a.other W4 (Or.inr (slot_ne (Or.inr (gw hw 81 rfl)) (Or.inr (gw hw 83 rfl)) (by decide) (t := .int) (t' := (.object "java/lang/String")) (by decide) (by decide)))
  replace F_holders_a := F_holders_a.other W4 (Or.inr (slot_ne (Or.inr (gw hw 85 rfl)) (Or.inr (gw hw 83 rfl)) (by decide) (t := (.object "java/util/List")) (t' := (.object "java/lang/String")) (by decide) (by decide)))
  replace F_stripe_a := F_stripe_a.other W4 (Or.inr (slot_ne (Or.inr (gw hw 87 rfl)) (Or.inr (gw hw 83 rfl)) (by decide) (t := (.object "org/stripeward/scenario/Stripe")) (t' := (.object "java/lang/String")) (by decide) (by decide)))
  replace F_parity_a := F_parity_a.other W4 (Or.inr (slot_ne (Or.inr (gw hw 89 rfl)) (Or.inr (gw hw 83 rfl)) (by decide) (t := .boolean) (t' := (.object "java/lang/String")) (by decide) (by decide)))
  replace F_sizeMiB_a := F_sizeMiB_a.other W4 (Or.inr (slot_ne (Or.inr (gw hw 91 rfl)) (Or.inr (gw hw 83 rfl)) (by decide) (t := .double) (t' := (.object "java/lang/String")) (by decide) (by decide)))
  replace KP := KP.wr W4 (Or.inl (List.mem_of_getElem? (i := 0) rfl))
  replace Z0 : n0 ≤ h4.size := by rw [W4.size]; exact Z0
  refine Gs st4 ?_
  show Goes _ _ _ _ _ (T4.setTop (mkF m 19 #[.val (.ref a), .val (.int ix), .val .null, .val (.ref nl), .val .null, .val (.int pz), .val (.double dz), .second] []))
  refine Gs (fun _ tk => XS.aloadN X4.here hx rfl (hb hby d24_19) rfl rfl tk) ?_
  refine Gs (fun _ tk => XS.aloadN X4.here hx rfl (hb hby d24_20) rfl rfl tk) ?_
  obtain ⟨T5, h5, X5, e5, W5, st5⟩ := putF X4 hx hZ hown (host := "") (Or.inl (gw hw 84 rfl)) Via.refl e4 F_holders_a A_a (Or.inr ⟨(gw hw 85 rfl), rfl, hnm⟩) (gw hw 45 rfl) (ty := (.object "java/util/List")) (by decide) rfl rfl (g := (mkF m 21 #[.val (.ref a), .val (.int ix), .val .null, .val (.ref nl), .val .null, .val (.int pz), .val (.double dz), .second] [(.ref nl), (.ref a)])) rfl rfl (hb hby d24_21)
  have N5 := Fr.snoc X5 N4 g_a
  replace A_a := A_a.wr W5
  replace F_index_a := F_index_a.other W5 (Or.inr (slot_ne (Or.inr (gw hw 81 rfl)) (Or.inr (gw hw 85 rfl)) (by decide) (t := .int) (t' := (.object "java/util/List")) (by decide) (by decide)))
  replace F_stripe_a := F_stripe_a.other W5 (Or.inr (slot_ne (Or.inr (gw hw 87 rfl)) (Or.inr (gw hw 85 rfl)) (by decide) (t := (.object "org/stripeward/scenario/Stripe")) (t' := (.object "java/util/List")) (by decide) (by decide)))
  replace F_parity_a := F_parity_a.other W5 (Or.inr (slot_ne (Or.inr (gw hw 89 rfl)) (Or.inr (gw hw 85 rfl)) (by decide) (t := .boolean) (t' := (.object "java/util/List")) (by decide) (by decide)))
  replace F_sizeMiB_a := F_sizeMiB_a.other W5 (Or.inr (slot_ne (Or.inr (gw hw 91 rfl)) (Or.inr (gw hw 85 rfl)) (by decide) (t := .double) (t' := (.object "java/util/List")) (by decide) (by decide)))
  replace KP := KP.wr W5 (Or.inl (List.mem_of_getElem? (i := 0) rfl))
  replace F_holders_a := F_holders_a.same W5
  replace Z0 : n0 ≤ h5.size := by rw [W5.size]; exact Z0
  refine Gs st5 ?_
  show Goes _ _ _ _ _ (T5.setTop (mkF m 24 #[.val (.ref a), .val (.int ix), .val .null, .val (.ref nl), .val .null, .val (.int pz), .val (.double dz), .second] []))
  refine Gs (fun _ tk => XS.aloadN X5.here hx rfl (hb hby d24_24) rfl rfl tk) ?_
  refine Gs (fun _ tk => XS.aload X5.here hx rfl (hb hby d24_25) rfl rfl tk) ?_
  obtain ⟨T6, h6, X6, e6, W6, st6⟩ := putF X5 hx hZ hown (host := "") (Or.inl (gw hw 86 rfl)) Via.refl e5 F_stripe_a A_a (Or.inr ⟨(gw hw 87 rfl), rfl, hnm⟩) (gw hw 45 rfl) (ty := (.object "org/stripeward/scenario/Stripe")) (by decide) rfl rfl (g := (mkF m 27 #[.val (.ref a), .val (.int ix), .val .null, .val (.ref nl), .val .null, .val (.int pz), .val (.double dz), .second] [.null, (.ref a)])) rfl rfl (hb hby d24_27)
  have N6 := Fr.snoc X6 N5 g_a
  replace A_a := A_a.wr W6
  replace F_index_a := F_index_a.other W6 (Or.inr (slot_ne (Or.inr (gw hw 81 rfl)) (Or.inr (gw hw 87 rfl)) (by decide) (t := .int) (t' := (.object "org/stripeward/scenario/Stripe")) (by decide) (by decide)))
  replace F_holders_a := F_holders_a.other W6 (Or.inr (slot_ne (Or.inr (gw hw 85 rfl)) (Or.inr (gw hw 87 rfl)) (by decide) (t := (.object "java/util/List")) (t' := (.object "org/stripeward/scenario/Stripe")) (by decide) (by decide)))
  replace F_parity_a := F_parity_a.other W6 (Or.inr (slot_ne (Or.inr (gw hw 89 rfl)) (Or.inr (gw hw 87 rfl)) (by decide) (t := .boolean) (t' := (.object "org/stripeward/scenario/Stripe")) (by decide) (by decide)))
  replace F_sizeMiB_a := F_sizeMiB_a.other W6 (Or.inr (slot_ne (Or.inr (gw hw 91 rfl)) (Or.inr (gw hw 87 rfl)) (by decide) (t := .double) (t' := (.object "org/stripeward/scenario/Stripe")) (by decide) (by decide)))
  replace KP := KP.wr W6 (Or.inl (List.mem_of_getElem? (i := 0) rfl))
  replace Z0 : n0 ≤ h6.size := by rw [W6.size]; exact Z0
  refine Gs st6 ?_
  show Goes _ _ _ _ _ (T6.setTop (mkF m 30 #[.val (.ref a), .val (.int ix), .val .null, .val (.ref nl), .val .null, .val (.int pz), .val (.double dz), .second] []))
  refine Gs (fun _ tk => XS.aloadN X6.here hx rfl (hb hby d24_30) rfl rfl tk) ?_
  refine Gs (fun _ tk => XS.iload X6.here hx rfl (hb hby d24_31) rfl tk) ?_
  obtain ⟨T7, h7, X7, e7, W7, st7⟩ := putFN X6 hx hZ hown (gw hw 88 rfl) Via.refl e6 F_parity_a A_a (Or.inr ⟨(gw hw 89 rfl), rfl, hnm⟩) (gw hw 45 rfl) (ty := .boolean) (v' := .int (nar .boolean pz)) (by decide) rfl (fits_nar_bool _) (g := (mkF m 33 #[.val (.ref a), .val (.int ix), .val .null, .val (.ref nl), .val .null, .val (.int pz), .val (.double dz), .second] [(.int pz), (.ref a)])) rfl rfl (hb hby d24_33)
  have N7 := Fr.snoc X7 N6 g_a
  replace A_a := A_a.wr W7
  replace F_index_a := F_index_a.other W7 (Or.inr (slot_ne (Or.inr (gw hw 81 rfl)) (Or.inr (gw hw 89 rfl)) (by decide) (t := .int) (t' := .boolean) (by decide) (by decide)))
  replace F_holders_a := F_holders_a.other W7 (Or.inr (slot_ne (Or.inr (gw hw 85 rfl)) (Or.inr (gw hw 89 rfl)) (by decide) (t := (.object "java/util/List")) (t' := .boolean) (by decide) (by decide)))
  replace F_sizeMiB_a := F_sizeMiB_a.other W7 (Or.inr (slot_ne (Or.inr (gw hw 91 rfl)) (Or.inr (gw hw 89 rfl)) (by decide) (t := .double) (t' := .boolean) (by decide) (by decide)))
  replace KP := KP.wr W7 (Or.inl (List.mem_of_getElem? (i := 0) rfl))
  replace Z0 : n0 ≤ h7.size := by rw [W7.size]; exact Z0
  refine Gs st7 ?_
  show Goes _ _ _ _ _ (T7.setTop (mkF m 36 #[.val (.ref a), .val (.int ix), .val .null, .val (.ref nl), .val .null, .val (.int pz), .val (.double dz), .second] []))
  refine Gs (fun _ tk => XS.aloadN X7.here hx rfl (hb hby d24_36) rfl rfl tk) ?_
  refine Gs (fun _ tk => XS.dload X7.here hx rfl (hb hby d24_37) rfl tk) ?_
  obtain ⟨T8, h8, X8, e8, W8, st8⟩ := putF X7 hx hZ hown (host := "") (Or.inl (gw hw 90 rfl)) Via.refl e7 F_sizeMiB_a A_a (Or.inr ⟨(gw hw 91 rfl), rfl, hnm⟩) (gw hw 45 rfl) (ty := .double) (by decide) rfl rfl (g := (mkF m 39 #[.val (.ref a), .val (.int ix), .val .null, .val (.ref nl), .val .null, .val (.int pz), .val (.double dz), .second] [(.double dz), (.ref a)])) rfl rfl (hb hby d24_39)
  have N8 := Fr.snoc X8 N7 g_a
  replace F_index_a := F_index_a.other W8 (Or.inr (slot_ne (Or.inr (gw hw 81 rfl)) (Or.inr (gw hw 91 rfl)) (by decide) (t := .int) (t' := .double) (by decide) (by decide)))
  replace F_holders_a := F_holders_a.other W8 (Or.inr (slot_ne (Or.inr (gw hw 85 rfl)) (Or.inr (gw hw 91 rfl)) (by decide) (t := (.object "java/util/List")) (t' := .double) (by decide) (by decide)))
  replace KP := KP.wr W8 (Or.inl (List.mem_of_getElem? (i := 0) rfl))
  replace Z0 : n0 ≤ h8.size := by rw [W8.size]; exact Z0
  refine Gs st8 ?_
  show Goes _ _ _ _ _ (T8.setTop (mkF m 42 #[.val (.ref a), .val (.int ix), .val .null, .val (.ref nl), .val .null, .val (.int pz), .val (.double dz), .second] []))
  refine Goes.ret X8 none (fun _ => rfl) hlk (by decide) (by decide) ?_ (fun fs hr => ?_)
  · rw [e8]; exact ⟨rfl, N8, KP, F_index_a, F_holders_a⟩
  · exact X8.returnOut hx hret (hb hby d24_42) hr
theorem own_ef_rm_block1 (m : MethodId) (x0 : Addr) (x1 : Int32) (x3 : Addr) (x5 : Int32) (x6 : UInt64) : entryFrame m #[(.ref x0), (.int x1), .null, (.ref x3), .null, (.int x5), (.double x6)] 8 = mkF m 0 #[.val (.ref x0), .val (.int x1), .val .null, .val (.ref x3), .val .null, .val (.int x5), .val (.double x6), .second] [] := by first | (simp [entryFrame, mkF, argsToLocals, Value.category]; done) | rfl
def Q_rm_block1 (Z : State) (a : Addr) (ix : Int32) (q : Addr) (pz : Int32) (dz : UInt64) (el0 : Addr) (b : Addr) (kb : ClassId) (mr : Addr) (em : Addr) (h0 : Heap) (n0 : Nat) (v : Option Value) (h : Heap) (L : List Loc) : Prop := ∃ u : Addr, v = none ∧ Fr n0 L ∧ Keep h0 h [a] ∧ Fld Z h a "org/stripeward/scenario/Block" "index" "I" (.int ix) ∧ Fld Z h a "org/stripeward/scenario/Block" "holders" "Ljava/util/List;" (.ref u) ∧ Exa Z h u "java/util/ImmutableCollections$List12" ∧ Fld Z h u "java/util/ImmutableCollections$List12" "e0" "Ljava/lang/Object;" (.ref el0) ∧ Fld Z h u "java/util/ImmutableCollections$List12" "e1" "Ljava/lang/Object;" (.ref em) ∧ n0 ≤ u ∧ h0.size ≤ u
set_option maxRecDepth 65536 in
set_option maxHeartbeats 40000000 in
theorem rm_block1 (l : Launch) (Z : State) (a0 : Array Value) (hw : ∀ d ∈ tables_1, d.before a0 Z = true) (ws : List Jvm.Cond) (a : Addr) (ix : Int32) (q : Addr) (pz : Int32) (dz : UInt64) (el0 : Addr) (b : Addr) (kb : ClassId) (mr : Addr) (em : Addr) (h0 : Heap) (n0 : Nat) (Z0 : n0 ≤ h0.size) (A_a : Exa Z h0 a "org/stripeward/scenario/Block") (F_index_a : Fld Z h0 a "org/stripeward/scenario/Block" "index" "I" (.int (0 : Int32))) (F_name_a : Fld Z h0 a "org/stripeward/scenario/Block" "name" "Ljava/lang/String;" .null) (F_holders_a : Fld Z h0 a "org/stripeward/scenario/Block" "holders" "Ljava/util/List;" .null) (F_stripe_a : Fld Z h0 a "org/stripeward/scenario/Block" "stripe" "Lorg/stripeward/scenario/Stripe;" .null) (F_parity_a : Fld Z h0 a "org/stripeward/scenario/Block" "parity" "Z" (.int (0 : Int32))) (F_sizeMiB_a : Fld Z h0 a "org/stripeward/scenario/Block" "sizeMiB" "D" (.double (0 : UInt64))) (g_a : n0 ≤ a) (A_q : Exa Z h0 q "java/util/ArrayList") (F_elementData_q : Fld Z h0 q "java/util/ArrayList" "elementData" "[Ljava/lang/Object;" (.ref b)) (F_size_q : Fld Z h0 q "java/util/ArrayList" "size" "I" (.int (1 : Int32))) (V_b : Arv Z h0 b kb (.object "java/lang/Object") (10 : Int32) [(.ref el0), .null, .null, .null, .null, .null, .null, .null, .null, .null] .null) (A_b : Exa Z h0 b "[Ljava/lang/Object;") (I_el0_13 : Ins Z h0 el0 "java/lang/Object" true) (hmr : Mir Z "[Ljava/lang/Object;" mr) (S_EMPTY : Sta Z h0 "java/util/ImmutableCollections" "EMPTY" "Ljava/lang/Object;" (.ref em)) (ne_q_a : q ≠ a) (ne_b_a : b ≠ a) :
    Met l Z mN26 prog_2_method_1_code 8 none ({ frames := 8, cells := 2, slots := 3, locals := 100 } : Room) ws #[(.ref a), (.int ix), .null, (.ref q), .null, (.int pz), (.double dz)] h0 (Q_rm_block1 Z a ix q pz dz el0 b kb mr em h0 n0) := by
  refine own_met (plainFor_of_name own_pn12) ?_
  intro p e s m below meth c s₁ hret hx hby hlk hml hown hnm X0 e0 hZ hh
  have N0 := Fr.nil n0
  refine Gs (fun _ tk => castTop (own_ef_rm_block1 m a ix q pz dz) tk) ?_
  have KP : Keep h0 h0 [a] := Keep.refl _ _
  show Goes _ _ _ _ _ (s₁.setTop (mkF m 0 #[.val (.ref a), .val (.int ix), .val .null, .val (.ref q), .val .null, .val (.int pz), .val (.double dz), .second] []))
  refine Gs (fun _ tk => XS.aloadN X0.here hx rfl (hb hby d24_0) rfl rfl tk) ?_
  obtain ⟨_, _, ⟨T1, L1, k1, n1⟩, -, X1, ⟨Lc1, hQ1, l1, y1, z1⟩, st1⟩ := X0.specialBack hx (y := mN0) rfl hown (mvT hZ (gw hw 50 rfl)) (mvT hZ (gw hw 7 rfl)) (mvT hZ (gw hw 10 rfl)) (by decide) (backOf (W := 0) (rm_rec l Z a0 hw [] a h0 n0 Z0) hZ (gw hw 10 rfl) (gw hw 9 rfl) (by decide) (by decide)) (g := (mkF m 1 #[.val (.ref a), .val (.int ix), .val .null, .val (.ref q), .val .null, .val (.int pz), .val (.double dz), .second] [(.ref a)])) rfl (by rw [hml]; rfl) (Steps.refl _) (a := a) (argsL := []) (rest := []) (lenOf own_pd0 rfl) rfl (w0 (Nat.le_of_eq rfl)) (hb hby d24_1) (fun _ _ => ⟨rfl, e0, (by decide : 0 + 0 ≤ _), (by decide : 0 + 0 ≤ _)⟩)
  dsimp only [Pt.U, Pt.locs, Pt.cells, Pt.slots] at X1 l1 y1 z1 st1 hQ1
  subst l1 y1 z1
  obtain ⟨rfl, N1q, e1⟩ := hQ1
  have N1 := Fr.app N0 N1q
  refine Gs (fun _ tk => st1.trans tk) ?_
  show Goes _ _ _ _ _ (T1.setTop (mkF m 4 #[.val (.ref a), .val (.int ix), .val .null, .val (.ref q), .val .null, .val (.int pz), .val (.double dz), .second] []))
  refine Gs (fun _ tk => XS.aloadN X1.here hx rfl (hb hby d24_4) rfl rfl tk) ?_
  have ltc2_a : a < h0.size := A_a.lt
  have ltc2_q : q < h0.size := A_q.lt
  have ltc2_b : b < h0.size := V_b.lt
  have szs2 : h0.size ≤ h0.size := KP.1
  obtain ⟨_, _, ⟨T2, L2, k2, n2⟩, -, X2, ⟨Lc2, hQ2, l2, y2, z2⟩, st2⟩ := Jvm.LawKit.callS X1 hx (y := mN23) hown (mvT hZ (gw hw 51 rfl)) (mvT hZ (gw hw 52 rfl)) (mvT hZ (gw hw 53 rfl)) (mvT hZ (gw hw 54 rfl)) (by decide) (backOf (W := 0) (rm_cpl1 l Z a0 hw [] q el0 b kb mr em h0 n0 Z0 A_q F_elementData_q F_size_q V_b A_b I_el0_13 (by first | assumption | decide) S_EMPTY) hZ (gw hw 54 rfl) (gw hw 53 rfl) (by decide) (by decide)) (g := (mkF m 5 #[.val (.ref a), .val (.int ix), .val .null, .val (.ref q), .val .null, .val (.int pz), .val (.double dz), .second] [(.ref q)])) rfl (by rw [hml]; rfl) (argsL := [(.ref q)]) (rest := []) (lenOf own_pd11 rfl) rfl (w0 (Nat.le_of_eq rfl)) (hb hby d24_5) (fun _ _ => ⟨rfl, e1, (by decide : 0 + 2 ≤ _), (by decide : 0 + 3 ≤ _)⟩)
  dsimp only [Pt.U, Pt.locs, Pt.cells, Pt.slots] at X2 l2 y2 z2 st2 hQ2
  subst l2 y2 z2
  obtain ⟨u2, rfl, N2q, K2, A_u2_2', F_e0_u2_2', F_e1_u2_2', g_u2_2', sz_u2_2'⟩ := hQ2
  have N2 := Fr.app N1 N2q
  replace A_a := A_a.keep K2
  replace F_index_a := F_index_a.keep K2 nin0
  replace F_name_a := F_name_a.keep K2 nin0
  replace F_holders_a := F_holders_a.keep K2 nin0
  replace F_stripe_a := F_stripe_a.keep K2 nin0
  replace F_parity_a := F_parity_a.keep K2 nin0
  replace F_sizeMiB_a := F_sizeMiB_a.keep K2 nin0
  replace KP := KP.trans K2 all0
  replace Z0 := Nat.le_trans Z0 K2.1
  have A_u2 := A_u2_2'
  have F_e0_u2 := F_e0_u2_2'
  have F_e1_u2 := F_e1_u2_2'
  have g_u2 := g_u2_2'
  have szc_u2 := sz_u2_2'
  have ne_a_u2 : a ≠ u2 := Nat.ne_of_lt (Nat.lt_of_lt_of_le ltc2_a szc_u2)
  have ne_q_u2 : q ≠ u2 := Nat.ne_of_lt (Nat.lt_of_lt_of_le ltc2_q szc_u2)
  have ne_b_u2 : b ≠ u2 := Nat.ne_of_lt (Nat.lt_of_lt_of_le ltc2_b szc_u2)
  have sz_u2 : h0.size ≤ u2 := Nat.le_trans szs2 szc_u2
  refine Gs st2 ?_
  show Goes _ _ _ _ _ (T2.setTop (mkF m 8 #[.val (.ref a), .val (.int ix), .val .null, .val (.ref q), .val .null, .val (.int pz), .val (.double dz), .second] [(.ref u2)]))
  refine Gs (fun _ tk => XS.astoreN X2.here hx rfl (hb hby d24_8) rfl rfl (l' := #[.val (.ref a), .val (.int ix), .val .null, .val (.ref u2), .val .null, .val (.int pz), .val (.double dz), .second]) rfl tk) ?_
  refine Gs (fun _ tk => XS.aloadN X2.here hx rfl (hb hby d24_9) rfl rfl tk) ?_
  refine Gs (fun _ tk => XS.iloadN X2.here hx rfl (hb hby d24_10) rfl tk) ?_
  obtain ⟨T3, h3, X3, e3, W3, st3⟩ := putF X2 hx hZ hown (host := "") (Or.inl (gw hw 80 rfl)) Via.refl rfl F_index_a A_a (Or.inr ⟨(gw hw 81 rfl), rfl, hnm⟩) (gw hw 45 rfl) (ty := .int) (by decide) rfl rfl (g := (mkF m 11 #[.val (.ref a), .val (.int ix), .val .null, .val (.ref u2), .val .null, .val (.int pz), .val (.double dz), .second] [(.int ix), (.ref a)])) rfl rfl (hb hby d24_11)
  have N3 := Fr.snoc X3 N2 g_a
  replace A_a := A_a.wr W3
  replace F_name_a := F_name_a.other W3 (Or.inr (slot_ne (Or.inr (gw hw 83 rfl)) (Or.inr (gw hw 81 rfl)) (by decide) (t := (.object "java/lang/String")) (t' := .int) (by decide) (by decide)))
  replace F_holders_a := F_holders_a.other W3 (Or.inr (slot_ne (Or.inr (gw hw 85 rfl)) (Or.inr (gw hw 81 rfl)) (by decide) (t := (.object "java/util/List")) (t' := .int) (by decide) (by decide)))
  replace F_stripe_a := F_stripe_a.other W3 (Or.inr (slot_ne (Or.inr (gw hw 87 rfl)) (Or.inr (gw hw 81 rfl)) (by decide) (t := (.object "org/stripeward/scenario/Stripe")) (t' := .int) (by decide) (by decide)))
  replace F_parity_a := F_parity_a.other W3 (Or.inr (slot_ne (Or.inr (gw hw 89 rfl)) (Or.inr (gw hw 81 rfl)) (by decide) (t := .boolean) (t' := .int) (by decide) (by decide)))
  replace F_sizeMiB_a := F_sizeMiB_a.other W3 (Or.inr (slot_ne (Or.inr (gw hw 91 rfl)) (Or.inr (gw hw 81 rfl)) (by decide) (t := .double) (t' := .int) (by decide) (by decide)))
  replace A_u2 := A_u2.wr W3
  replace F_e0_u2 := F_e0_u2.other W3 (Or.inl (Ne.symm ne_a_u2))
  replace F_e1_u2 := F_e1_u2.other W3 (Or.inl (Ne.symm ne_a_u2))
  replace KP := KP.wr W3 (Or.inl (List.mem_of_getElem? (i := 0) rfl))
  replace F_index_a := F_index_a.same W3
  replace Z0 : n0 ≤ h3.size := by rw [W3.size]; exact Z0
  refine Gs st3 ?_
  show Goes _ _ _ _ _ (T3.setTop (mkF m 14 #[.val (.ref a), .val (.int ix), .val .null, .val (.ref u2), .val .null, .val (.int pz), .val (.double dz), .second] []))
  refine Gs (fun _ tk => XS.aloadN X3.here hx rfl (hb hby d24_14) rfl rfl tk) ?_
  refine Gs (fun _ tk => XS.aloadN X3.here hx rfl (hb hby d24_15) rfl rfl tk) ?_
  obtain ⟨T4, h4, X4, e4, W4, st4⟩ := putF X3 hx hZ hown (host := "") (Or.inl (gw hw 82 rfl)) Via.refl e3 F_name_a A_a (Or.inr ⟨(gw hw 83 rfl), rfl, hnm⟩) (gw hw 45 rfl) (ty := (.object "java/lang/String")) (by decide) rfl rfl (g := (mkF m 16 #[.val (.ref a), .val (.int ix), .val .null, .val (.ref u2), .val .null, .val (.int pz), .val (.double dz), .second] [.null, (.ref a)])) rfl rfl (hb hby d24_16)
  have N4 := Fr.snoc X4 N3 g_a
  replace A_a := A_a.wr W4
  replace F_index_a := F_index_a.other W4 (Or.inr (slot_ne (Or.inr (gw hw 81 rfl)) (Or.inr (gw hw 83 rfl)) (by decide) (t := .int) (t' := (.object "java/lang/String")) (by decide) (by decide)))
  replace F_holders_a := F_holders_a.other W4 (Or.inr (slot_ne (Or.inr (gw hw 85 rfl)) (Or.inr (gw hw 83 rfl)) (by decide) (t := (.object "java/util/List")) (t' := (.object "java/lang/String")) (by decide) (by decide)))
  replace F_stripe_a := F_stripe_a.other W4 (Or.inr (slot_ne (Or.inr (gw hw 87 rfl)) (Or.inr (gw hw 83 rfl)) (by decide) (t := (.object "org/stripeward/scenario/Stripe")) (t' := (.object "java/lang/String")) (by decide) (by decide)))
  replace F_parity_a := F_parity_a.other W4 (Or.inr (slot_ne (Or.inr (gw hw 89 rfl)) (Or.inr (gw hw 83 rfl)) (by decide) (t := .boolean) (t' := (.object "java/lang/String")) (by decide) (by decide)))
  replace F_sizeMiB_a := F_sizeMiB_a.other W4 (Or.inr (slot_ne (Or.inr (gw hw 91 rfl)) (Or.inr (gw hw 83 rfl)) (by decide) (t := .double) (t' := (.object "java/lang/String")) (by decide) (by decide)))
  replace A_u2 := A_u2.wr W4
  replace F_e0_u2 := F_e0_u2.other W4 (Or.inl (Ne.symm ne_a_u2))
  replace F_e1_u2 := F_e1_u2.other W4 (Or.inl (Ne.symm ne_a_u2))
  replace KP := KP.wr W4 (Or.inl (List.mem_of_getElem? (i := 0) rfl))
  replace Z0 : n0 ≤ h4.size := by rw [W4.size]; exact Z0
  refine Gs st4 ?_
  show Goes _ _ _ _ _ (T4.setTop (mkF m 19 #[.val (.ref a), .val (.int ix), .val .null, .val (.ref u2), .val .null, .val (.int pz), .val (.double dz), .second] []))
  refine Gs (fun _ tk => XS.aloadN X4.here hx rfl (hb hby d24_19) rfl rfl tk) ?_
  refine Gs (fun _ tk => XS.aloadN X4.here hx rfl (hb hby d24_20) rfl rfl tk) ?_
  obtain ⟨T5, h5, X5, e5, W5, st5⟩ := putF X4 hx hZ hown (host := "") (Or.inl (gw hw 84 rfl)) Via.refl e4 F_holders_a A_a (Or.inr ⟨(gw hw 85 rfl), rfl, hnm⟩) (gw hw 45 rfl) (ty := (.object "java/util/List")) (by decide) rfl rfl (g := (mkF m 21 #[.val (.ref a), .val (.int ix), .val .null, .val (.ref u2), .val .null, .val (.int pz), .val (.double dz), .second] [(.ref u2), (.ref a)])) rfl rfl (hb hby d24_21)
  have N5 := Fr.snoc X5 N4 g_a
  replace A_a := A_a.wr W5
  replace F_index_a := F_index_a.other W5 (Or.inr (slot_ne (Or.inr (gw hw 81 rfl)) (Or.inr (gw hw 85 rfl)) (by decide) (t := .int) (t' := (.object "java/util/List")) (by decide) (by decide)))
  replace F_stripe_a := F_stripe_a.other W5 (Or.inr (slot_ne (Or.inr (gw hw 87 rfl)) (Or.inr (gw hw 85 rfl)) (by decide) (t := (.object "org/stripeward/scenario/Stripe")) (t' := (.object "java/util/List")) (by decide) (by decide)))
  replace F_parity_a := F_parity_a.other W5 (Or.inr (slot_ne (Or.inr (gw hw 89 rfl)) (Or.inr (gw hw 85 rfl)) (by decide) (t := .boolean) (t' := (.object "java/util/List")) (by decide) (by decide)))
  replace F_sizeMiB_a := F_sizeMiB_a.other W5 (Or.inr (slot_ne (Or.inr (gw hw 91 rfl)) (Or.inr (gw hw 85 rfl)) (by decide) (t := .double) (t' := (.object "java/util/List")) (by decide) (by decide)))
  replace A_u2 := A_u2.wr W5
  replace F_e0_u2 := F_e0_u2.other W5 (Or.inl (Ne.symm ne_a_u2))
  replace F_e1_u2 := F_e1_u2.other W5 (Or.inl (Ne.symm ne_a_u2))
  replace KP := KP.wr W5 (Or.inl (List.mem_of_getElem? (i := 0) rfl))
  replace F_holders_a := F_holders_a.same W5
  replace Z0 : n0 ≤ h5.size := by rw [W5.size]; exact Z0
  refine Gs st5 ?_
  show Goes _ _ _ _ _ (T5.setTop (mkF m 24 #[.val (.ref a), .val (.int ix), .val .null, .val (.ref u2), .val .null, .val (.int pz), .val (.double dz), .second] []))
  refine Gs (fun _ tk => XS.aloadN X5.here hx rfl (hb hby d24_24) rfl rfl tk) ?_
  refine Gs (fun _ tk => XS.aload X5.here hx rfl (hb hby d24_25) rfl rfl tk) ?_
  obtain ⟨T6, h6, X6, e6, W6, st6⟩ := putF X5 hx hZ hown (host := "") (Or.inl (gw hw 86 rfl)) Via.refl e5 F_stripe_a A_a (Or.inr ⟨(gw hw 87 rfl), rfl, hnm⟩) (gw hw 45 rfl) (ty := (.object "org/stripeward/scenario/Stripe")) (by decide) rfl rfl (g := (mkF m 27 #[.val (.ref a), .val (.int ix), .val .null, .val (.ref u2), .val .null, .val (.int pz), .val (.double dz), .second] [.null, (.ref a)])) rfl rfl (hb hby d24_27)
  have N6 := Fr.snoc X6 N5 g_a
  replace A_a := A_a.wr W6
  replace F_index_a := F_index_a.other W6 (Or.inr (slot_ne (Or.inr (gw hw 81 rfl)) (Or.inr (gw hw 87 rfl)) (by decide) (t := .int) (t' := (.object "org/stripeward/scenario/Stripe")) (by decide) (by decide)))
  replace F_holders_a := F_holders_a.other W6 (Or.inr (slot_ne (Or.inr (gw hw 85 rfl)) (Or.inr (gw hw 87 rfl)) (by decide) (t := (.object "java/util/List")) (t' := (.object "org/stripeward/scenario/Stripe")) (by decide) (by decide)))
  replace F_parity_a := F_parity_a.other W6 (Or.inr (slot_ne (Or.inr (gw hw 89 rfl)) (Or.inr (gw hw 87 rfl)) (by decide) (t := .boolean) (t' := (.object "org/stripeward/scenario/Stripe")) (by decide) (by decide)))
  replace F_sizeMiB_a := F_sizeMiB_a.other W6 (Or.inr (slot_ne (Or.inr (gw hw 91 rfl)) (Or.inr (gw hw 87 rfl)) (by decide) (t := .double) (t' := (.object "org/stripeward/scenario/Stripe")) (by decide) (by decide)))
  replace A_u2 := A_u2.wr W6
  replace F_e0_u2 := F_e0_u2.other W6 (Or.inl (Ne.symm ne_a_u2))
  replace F_e1_u2 := F_e1_u2.other W6 (Or.inl (Ne.symm ne_a_u2))
  replace KP := KP.wr W6 (Or.inl (List.mem_of_getElem? (i := 0) rfl))
  replace Z0 : n0 ≤ h6.size := by rw [W6.size]; exact Z0
  refine Gs st6 ?_
  show Goes _ _ _ _ _ (T6.setTop (mkF m 30 #[.val (.ref a), .val (.int ix), .val .null, .val (.ref u2), .val .null, .val (.int pz), .val (.double dz), .second] []))
  refine Gs (fun _ tk => XS.aloadN X6.here hx rfl (hb hby d24_30) rfl rfl tk) ?_
  refine Gs (fun _ tk => XS.iload X6.here hx rfl (hb hby d24_31) rfl tk) ?_
  obtain ⟨T7, h7, X7, e7, W7, st7⟩ := putFN X6 hx hZ hown (gw hw 88 rfl) Via.refl e6 F_parity_a A_a (Or.inr ⟨(gw hw 89 rfl), rfl, hnm⟩) (gw hw 45 rfl) (ty := .boolean) (v' := .int (nar .boolean pz)) (by decide) rfl (fits_nar_bool _) (g := (mkF m 33 #[.val (.ref a), .val (.int ix), .val .null, .val (.ref u2), .val .null, .val (.int pz), .val (.double dz), .second] [(.int pz), (.ref a)])) rfl rfl (hb hby d24_33)
  have N7 := Fr.snoc X7 N6 g_a
  replace A_a := A_a.wr W7
  replace F_index_a := F_index_a.other W7 (Or.inr (slot_ne (Or.inr (gw hw 81 rfl)) (Or.inr (gw hw 89 rfl)) (by decide) (t := .int) (t' := .boolean) (by decide) (by decide)))
  replace F_holders_a := F_holders_a.other W7 (Or.inr (slot_ne (Or.inr (gw hw 85 rfl)) (Or.inr (gw hw 89 rfl)) (by decide) (t := (.object "java/util/List")) (t' := .boolean) (by decide) (by decide)))
  replace F_sizeMiB_a := F_sizeMiB_a.other W7 (Or.inr (slot_ne (Or.inr (gw hw 91 rfl)) (Or.inr (gw hw 89 rfl)) (by decide) (t := .double) (t' := .boolean) (by decide) (by decide)))
  replace A_u2 := A_u2.wr W7
  replace F_e0_u2 := F_e0_u2.other W7 (Or.inl (Ne.symm ne_a_u2))
  replace F_e1_u2 := F_e1_u2.other W7 (Or.inl (Ne.symm ne_a_u2))
  replace KP := KP.wr W7 (Or.inl (List.mem_of_getElem? (i := 0) rfl))
  replace Z0 : n0 ≤ h7.size := by rw [W7.size]; exact Z0
  refine Gs st7 ?_
  show Goes _ _ _ _ _ (T7.setTop (mkF m 36 #[.val (.ref a), .val (.int ix), .val .null, .val (.ref u2), .val .null, .val (.int pz), .val (.double dz), .second] []))
  refine Gs (fun _ tk => XS.aloadN X7.here hx rfl (hb hby d24_36) rfl rfl tk) ?_
  refine Gs (fun _ tk => XS.dload X7.here hx rfl (hb hby d24_37) rfl tk) ?_
  obtain ⟨T8, h8, X8, e8, W8, st8⟩ := putF X7 hx hZ hown (host := "") (Or.inl (gw hw 90 rfl)) Via.refl e7 F_sizeMiB_a A_a (Or.inr ⟨(gw hw 91 rfl), rfl, hnm⟩) (gw hw 45 rfl) (ty := .double) (by decide) rfl rfl (g := (mkF m 39 #[.val (.ref a), .val (.int ix), .val .null, .val (.ref u2), .val .null, .val (.int pz), .val (.double dz), .second] [(.double dz), (.ref a)])) rfl rfl (hb hby d24_39)
  have N8 := Fr.snoc X8 N7 g_a
  replace F_index_a := F_index_a.other W8 (Or.inr (slot_ne (Or.inr (gw hw 81 rfl)) (Or.inr (gw hw 91 rfl)) (by decide) (t := .int) (t' := .double) (by decide) (by decide)))
  replace F_holders_a := F_holders_a.other W8 (Or.inr (slot_ne (Or.inr (gw hw 85 rfl)) (Or.inr (gw hw 91 rfl)) (by decide) (t := (.object "java/util/List")) (t' := .double) (by decide) (by decide)))
  replace A_u2 := A_u2.wr W8
  replace F_e0_u2 := F_e0_u2.other W8 (Or.inl (Ne.symm ne_a_u2))
  replace F_e1_u2 := F_e1_u2.other W8 (Or.inl (Ne.symm ne_a_u2))
  replace KP := KP.wr W8 (Or.inl (List.mem_of_getElem? (i := 0) rfl))
  replace Z0 : n0 ≤ h8.size := by rw [W8.size]; exact Z0
  refine Gs st8 ?_
  show Goes _ _ _ _ _ (T8.setTop (mkF m 42 #[.val (.ref a), .val (.int ix), .val .null, .val (.ref u2), .val .null, .val (.int pz), .val (.double dz), .second] []))
  refine Goes.ret X8 none (fun _ => rfl) hlk (by decide) (by decide) ?_ (fun fs hr => ?_)
  · rw [e8]; exact ⟨u2, rfl, N8, KP, F_index_a, F_holders_a, A_u2, F_e0_u2, F_e1_u2, g_u2, sz_u2⟩
  · exact X8.returnOut hx hret (hb hby d24_42) hr
theorem d25_0 : decode prog_2_method_6_code 0 = .ok (.aload_n 0, 1) := by decide +kernel
theorem d25_1 : decode prog_2_method_6_code 1 = .ok (.getfield 13, 3) := by decide +kernel
theorem d25_4 : decode prog_2_method_6_code 4 = .ok (.ireturn, 1) := by decide +kernel
theorem own_ef_rm_bkix (m : MethodId) (x0 : Addr) : entryFrame m #[(.ref x0)] 1 = mkF m 0 #[.val (.ref x0)] [] := by first | (simp [entryFrame, mkF, argsToLocals, Value.category]; done) | rfl
def Q_rm_bkix (Z : State) (a : Addr) (ix : Int32) (h0 : Heap) (n0 : Nat) (v : Option Value) (h : Heap) (L : List Loc) : Prop := v = some (.int ix) ∧ Fr n0 L ∧ h = h0
set_option maxRecDepth 65536 in
set_option maxHeartbeats 40000000 in
theorem rm_bkix (l : Launch) (Z : State) (a0 : Array Value) (hw : ∀ d ∈ tables_1, d.before a0 Z = true) (ws : List Jvm.Cond) (a : Addr) (ix : Int32) (h0 : Heap) (n0 : Nat) (Z0 : n0 ≤ h0.size) (F_index_a : Fld Z h0 a "org/stripeward/scenario/Block" "index" "I" (.int ix)) :
    Met l Z mN27 prog_2_method_6_code 1 (some .int) ({ frames := 0, cells := 0, slots := 0, locals := 0 } : Room) ws #[(.ref a)] h0 (Q_rm_bkix Z a ix h0 n0) := by
  refine own_met (plainFor_of_name own_pn12) ?_
  intro p e s m below meth c s₁ hret hx hby hlk hml hown hnm X0 e0 hZ hh
  have N0 := Fr.nil n0
  refine Gs (fun _ tk => castTop (own_ef_rm_bkix m a) tk) ?_
  show Goes _ _ _ _ _ (s₁.setTop (mkF m 0 #[.val (.ref a)] []))
  refine Gs (fun _ tk => XS.aloadN X0.here hx rfl (hb hby d25_0) rfl rfl tk) ?_
  obtain ⟨T1, X1, e1, st1⟩ := getF X0 hx hZ hown (host := "") (Or.inl (gw hw 80 rfl)) Via.refl e0 F_index_a (g := (mkF m 1 #[.val (.ref a)] [(.ref a)])) rfl rfl (hb hby d25_1)
  refine Gs st1 ?_
  show Goes _ _ _ _ _ (T1.setTop (mkF m 4 #[.val (.ref a)] [(.int ix)]))
  refine Goes.ret X1 (some (.int ix)) (fun h => by rw [hret] at h; cases h) hlk (by decide) (by decide) ?_ (fun fs hr => ?_)
  · exact ⟨rfl, N0, e1⟩
  · exact retI X1 hx hret (hb hby d25_4) hr
theorem d26_0 : decode prog_2_method_8_code 0 = .ok (.aload_n 0, 1) := by decide +kernel
theorem d26_1 : decode prog_2_method_8_code 1 = .ok (.getfield 23, 3) := by decide +kernel
theorem d26_4 : decode prog_2_method_8_code 4 = .ok (.areturn, 1) := by decide +kernel
theorem own_ef_rm_bkh (m : MethodId) (x0 : Addr) : entryFrame m #[(.ref x0)] 1 = mkF m 0 #[.val (.ref x0)] [] := by first | (simp [entryFrame, mkF, argsToLocals, Value.category]; done) | rfl
def Q_rm_bkh (Z : State) (a : Addr) (u : Addr) (h0 : Heap) (n0 : Nat) (v : Option Value) (h : Heap) (L : List Loc) : Prop := v = some (.ref u) ∧ Fr n0 L ∧ h = h0
set_option maxRecDepth 65536 in
set_option maxHeartbeats 40000000 in
theorem rm_bkh (l : Launch) (Z : State) (a0 : Array Value) (hw : ∀ d ∈ tables_1, d.before a0 Z = true) (ws : List Jvm.Cond) (a : Addr) (u : Addr) (h0 : Heap) (n0 : Nat) (Z0 : n0 ≤ h0.size) (F_holders_a : Fld Z h0 a "org/stripeward/scenario/Block" "holders" "Ljava/util/List;" (.ref u)) :
    Met l Z mN28 prog_2_method_8_code 1 (some (.object "java/util/List")) ({ frames := 0, cells := 0, slots := 0, locals := 0 } : Room) ws #[(.ref a)] h0 (Q_rm_bkh Z a u h0 n0) := by
  refine own_met (plainFor_of_name own_pn12) ?_
  intro p e s m below meth c s₁ hret hx hby hlk hml hown hnm X0 e0 hZ hh
  have N0 := Fr.nil n0
  refine Gs (fun _ tk => castTop (own_ef_rm_bkh m a) tk) ?_
  show Goes _ _ _ _ _ (s₁.setTop (mkF m 0 #[.val (.ref a)] []))
  refine Gs (fun _ tk => XS.aloadN X0.here hx rfl (hb hby d26_0) rfl rfl tk) ?_
  obtain ⟨T1, X1, e1, st1⟩ := getF X0 hx hZ hown (host := "") (Or.inl (gw hw 84 rfl)) Via.refl e0 F_holders_a (g := (mkF m 1 #[.val (.ref a)] [(.ref a)])) rfl rfl (hb hby d26_1)
  refine Gs st1 ?_
  show Goes _ _ _ _ _ (T1.setTop (mkF m 4 #[.val (.ref a)] [(.ref u)]))
  refine Goes.ret X1 (some (.ref u)) (fun h => by rw [hret] at h; cases h) hlk (by decide) (by decide) ?_ (fun fs hr => ?_)
  · exact ⟨rfl, N0, e1⟩
  · exact own_retA X1 hx hret rfl rfl (hb hby d26_4) hr
theorem d27_0 : decode jdk_44_method_3_code 0 = .ok (.aload_n 0, 1) := by decide +kernel
theorem d27_1 : decode jdk_44_method_3_code 1 = .ok (.getfield 24, 3) := by decide +kernel
theorem d27_4 : decode jdk_44_method_3_code 4 = .ok (.getstatic 19, 3) := by decide +kernel
theorem d27_7 : decode jdk_44_method_3_code 7 = .ok (.if_acmp .eq 7, 3) := by decide +kernel
theorem d27_14 : decode jdk_44_method_3_code 14 = .ok (.iconst 1, 1) := by decide +kernel
theorem d27_15 : decode jdk_44_method_3_code 15 = .ok (.ireturn, 1) := by decide +kernel
theorem own_ef_rm_lsz1 (m : MethodId) (x0 : Addr) : entryFrame m #[(.ref x0)] 1 = mkF m 0 #[.val (.ref x0)] [] := by first | (simp [entryFrame, mkF, argsToLocals, Value.category]; done) | rfl
def Q_rm_lsz1 (Z : State) (a : Addr) (em : Addr) (h0 : Heap) (n0 : Nat) (v : Option Value) (h : Heap) (L : List Loc) : Prop := v = some (.int (1 : Int32)) ∧ Fr n0 L ∧ h = h0
set_option maxRecDepth 65536 in
set_option maxHeartbeats 40000000 in
theorem rm_lsz1 (l : Launch) (Z : State) (a0 : Array Value) (hw : ∀ d ∈ tables_1, d.before a0 Z = true) (ws : List Jvm.Cond) (a : Addr) (em : Addr) (h0 : Heap) (n0 : Nat) (Z0 : n0 ≤ h0.size) (F_e1_a : Fld Z h0 a "java/util/ImmutableCollections$List12" "e1" "Ljava/lang/Object;" (.ref em)) (S_EMPTY : Sta Z h0 "java/util/ImmutableCollections" "EMPTY" "Ljava/lang/Object;" (.ref em)) :
    Met l Z mN29 jdk_44_method_3_code 1 (some .int) ({ frames := 0, cells := 0, slots := 0, locals := 0 } : Room) ws #[(.ref a)] h0 (Q_rm_lsz1 Z a em h0 n0) := by
  refine own_met (plainFor_of_name own_pn8) ?_
  intro p e s m below meth c s₁ hret hx hby hlk hml hown hnm X0 e0 hZ hh
  have N0 := Fr.nil n0
  refine Gs (fun _ tk => castTop (own_ef_rm_lsz1 m a) tk) ?_
  show Goes _ _ _ _ _ (s₁.setTop (mkF m 0 #[.val (.ref a)] []))
  refine Gs (fun _ tk => XS.aloadN X0.here hx rfl (hb hby d27_0) rfl rfl tk) ?_
  obtain ⟨T1, X1, e1, st1⟩ := getF X0 hx hZ hown (host := "") (Or.inl (gw hw 206 rfl)) Via.refl e0 F_e1_a (g := (mkF m 1 #[.val (.ref a)] [(.ref a)])) rfl rfl (hb hby d27_1)
  refine Gs st1 ?_
  show Goes _ _ _ _ _ (T1.setTop (mkF m 4 #[.val (.ref a)] [(.ref em)]))
  obtain ⟨T2, X2, e2, st2⟩ := getS2 X1 hx hZ hown (Or.inr (gw hw 205 rfl)) Via.refl e1 S_EMPTY (g := (mkF m 4 #[.val (.ref a)] [(.ref em)])) rfl (hb hby d27_4)
  refine Gs st2 ?_
  show Goes _ _ _ _ _ (T2.setTop (mkF m 7 #[.val (.ref a)] [(.ref em), (.ref em)]))
  refine Gs (fun _ tk => Jvm.RoadKit.acmp (g := (mkF m 7 #[.val (.ref a)] [(.ref em), (.ref em)])) X2 hx rfl rfl rfl (pc0 := 7) (pc' := 14) (same := true) rfl (hb hby d27_7) rfl (decide_eq_true (congrArg Value.ref rfl)) (by decide) (by decide) tk) ?_
  refine Gs (fun _ tk => XS.iconst X2.here hx rfl (hb hby d27_14) tk) ?_
  refine Goes.ret X2 (some (.int (1 : Int32))) (fun h => by rw [hret] at h; cases h) hlk (by decide) (by decide) ?_ (fun fs hr => ?_)
  · exact ⟨rfl, N0, e2⟩
  · exact retI X2 hx hret (hb hby d27_15) hr
theorem d27_10 : decode jdk_44_method_3_code 10 = .ok (.iconst 2, 1) := by decide +kernel
theorem d27_11 : decode jdk_44_method_3_code 11 = .ok (.goto 4, 3) := by decide +kernel
theorem own_ef_rm_lsz2 (m : MethodId) (x0 : Addr) : entryFrame m #[(.ref x0)] 1 = mkF m 0 #[.val (.ref x0)] [] := by first | (simp [entryFrame, mkF, argsToLocals, Value.category]; done) | rfl
def Q_rm_lsz2 (Z : State) (a : Addr) (em : Addr) (el1 : Addr) (h0 : Heap) (n0 : Nat) (v : Option Value) (h : Heap) (L : List Loc) : Prop := v = some (.int (2 : Int32)) ∧ Fr n0 L ∧ h = h0
set_option maxRecDepth 65536 in
set_option maxHeartbeats 40000000 in
theorem rm_lsz2 (l : Launch) (Z : State) (a0 : Array Value) (hw : ∀ d ∈ tables_1, d.before a0 Z = true) (ws : List Jvm.Cond) (a : Addr) (em : Addr) (el1 : Addr) (h0 : Heap) (n0 : Nat) (Z0 : n0 ≤ h0.size) (F_e1_a : Fld Z h0 a "java/util/ImmutableCollections$List12" "e1" "Ljava/lang/Object;" (.ref el1)) (S_EMPTY : Sta Z h0 "java/util/ImmutableCollections" "EMPTY" "Ljava/lang/Object;" (.ref em)) (ne_el1_em : el1 ≠ em) :
    Met l Z mN29 jdk_44_method_3_code 1 (some .int) ({ frames := 0, cells := 0, slots := 0, locals := 0 } : Room) ws #[(.ref a)] h0 (Q_rm_lsz2 Z a em el1 h0 n0) := by
  refine own_met (plainFor_of_name own_pn8) ?_
  intro p e s m below meth c s₁ hret hx hby hlk hml hown hnm X0 e0 hZ hh
  have N0 := Fr.nil n0
  refine Gs (fun _ tk => castTop (own_ef_rm_lsz2 m a) tk) ?_
  show Goes _ _ _ _ _ (s₁.setTop (mkF m 0 #[.val (.ref a)] []))
  refine Gs (fun _ tk => XS.aloadN X0.here hx rfl (hb hby d27_0) rfl rfl tk) ?_
  obtain ⟨T1, X1, e1, st1⟩ := getF X0 hx hZ hown (host := "") (Or.inl (gw hw 206 rfl)) Via.refl e0 F_e1_a (g := (mkF m 1 #[.val (.ref a)] [(.ref a)])) rfl rfl (hb hby d27_1)
  refine Gs st1 ?_
  show Goes _ _ _ _ _ (T1.setTop (mkF m 4 #[.val (.ref a)] [(.ref el1)]))
  obtain ⟨T2, X2, e2, st2⟩ := getS2 X1 hx hZ hown (Or.inr (gw hw 205 rfl)) Via.refl e1 S_EMPTY (g := (mkF m 4 #[.val (.ref a)] [(.ref el1)])) rfl (hb hby d27_4)
  refine Gs st2 ?_
  show Goes _ _ _ _ _ (T2.setTop (mkF m 7 #[.val (.ref a)] [(.ref em), (.ref el1)]))
  refine Gs (fun _ tk => Jvm.RoadKit.acmp (g := (mkF m 7 #[.val (.ref a)] [(.ref em), (.ref el1)])) X2 hx rfl rfl rfl (pc0 := 7) (pc' := 10) (same := false) rfl (hb hby d27_7) rfl (decide_eq_false fun q => ne_el1_em (Value.ref.inj q)) (by decide) (by decide) tk) ?_
  refine Gs (fun _ tk => XS.iconst X2.here hx rfl (hb hby d27_10) tk) ?_
  refine Gs (fun _ tk => XS.goto X2.here hx rfl (pc0 := 11) (pc' := 15) rfl (hb hby d27_11) (by decide) (by decide) tk) ?_
  refine Goes.ret X2 (some (.int (2 : Int32))) (fun h => by rw [hret] at h; cases h) hlk (by decide) (by decide) ?_ (fun fs hr => ?_)
  · exact ⟨rfl, N0, e2⟩
  · exact retI X2 hx hret (hb hby d27_15) hr
theorem d28_0 : decode jdk_44_method_5_code 0 = .ok (.iload_n 1, 1) := by decide +kernel
theorem d28_1 : decode jdk_44_method_5_code 1 = .ok (.ifCond .ne 8, 3) := by decide +kernel
theorem d28_4 : decode jdk_44_method_5_code 4 = .ok (.aload_n 0, 1) := by decide +kernel
theorem d28_5 : decode jdk_44_method_5_code 5 = .ok (.getfield 13, 3) := by decide +kernel
theorem d28_8 : decode jdk_44_method_5_code 8 = .ok (.areturn, 1) := by decide +kernel
theorem own_ef_rm_lget0 (m : MethodId) (x0 : Addr) (x1 : Int32) : entryFrame m #[(.ref x0), (.int x1)] 2 = mkF m 0 #[.val (.ref x0), .val (.int x1)] [] := by first | (simp [entryFrame, mkF, argsToLocals, Value.category]; done) | rfl
def Q_rm_lget0 (Z : State) (a : Addr) (el0 : Addr) (h0 : Heap) (n0 : Nat) (v : Option Value) (h : Heap) (L : List Loc) : Prop := v = some (.ref el0) ∧ Fr n0 L ∧ h = h0
set_option maxRecDepth 65536 in
set_option maxHeartbeats 40000000 in
theorem rm_lget0 (l : Launch) (Z : State) (a0 : Array Value) (hw : ∀ d ∈ tables_1, d.before a0 Z = true) (ws : List Jvm.Cond) (a : Addr) (el0 : Addr) (h0 : Heap) (n0 : Nat) (Z0 : n0 ≤ h0.size) (F_e0_a : Fld Z h0 a "java/util/ImmutableCollections$List12" "e0" "Ljava/lang/Object;" (.ref el0)) :
    Met l Z mN30 jdk_44_method_5_code 2 (some (.object "java/lang/Object")) ({ frames := 0, cells := 0, slots := 0, locals := 0 } : Room) ws #[(.ref a), (.int (0 : Int32))] h0 (Q_rm_lget0 Z a el0 h0 n0) := by
  refine own_met (plainFor_of_name own_pn8) ?_
  intro p e s m below meth c s₁ hret hx hby hlk hml hown hnm X0 e0 hZ hh
  have N0 := Fr.nil n0
  refine Gs (fun _ tk => castTop (own_ef_rm_lget0 m a (0 : Int32)) tk) ?_
  show Goes _ _ _ _ _ (s₁.setTop (mkF m 0 #[.val (.ref a), .val (.int (0 : Int32))] []))
  refine Gs (fun _ tk => XS.iloadN X0.here hx rfl (hb hby d28_0) rfl tk) ?_
  refine Gs (fun _ tk => XS.ifNo X0.here hx rfl (hb hby d28_1) rfl ((if0 _ _).trans (teq (by decide : ((0 : Int32) = (0 : Int32)))).2) tk) ?_
  refine Gs (fun _ tk => XS.aloadN X0.here hx rfl (hb hby d28_4) rfl rfl tk) ?_
  obtain ⟨T1, X1, e1, st1⟩ := getF X0 hx hZ hown (host := "") (Or.inl (gw hw 203 rfl)) Via.refl e0 F_e0_a (g := (mkF m 5 #[.val (.ref a), .val (.int (0 : Int32))] [(.ref a)])) rfl rfl (hb hby d28_5)
  refine Gs st1 ?_
  show Goes _ _ _ _ _ (T1.setTop (mkF m 8 #[.val (.ref a), .val (.int (0 : Int32))] [(.ref el0)]))
  refine Goes.ret X1 (some (.ref el0)) (fun h => by rw [hret] at h; cases h) hlk (by decide) (by decide) ?_ (fun fs hr => ?_)
  · exact ⟨rfl, N0, e1⟩
  · exact own_retA X1 hx hret rfl rfl (hb hby d28_8) hr
theorem d28_9 : decode jdk_44_method_5_code 9 = .ok (.iload_n 1, 1) := by decide +kernel
theorem d28_10 : decode jdk_44_method_5_code 10 = .ok (.iconst 1, 1) := by decide +kernel
theorem d28_11 : decode jdk_44_method_5_code 11 = .ok (.if_icmp .ne 18, 3) := by decide +kernel
theorem d28_14 : decode jdk_44_method_5_code 14 = .ok (.aload_n 0, 1) := by decide +kernel
theorem d28_15 : decode jdk_44_method_5_code 15 = .ok (.getfield 24, 3) := by decide +kernel
theorem d28_18 : decode jdk_44_method_5_code 18 = .ok (.getstatic 19, 3) := by decide +kernel
theorem d28_21 : decode jdk_44_method_5_code 21 = .ok (.if_acmp .eq 8, 3) := by decide +kernel
theorem d28_24 : decode jdk_44_method_5_code 24 = .ok (.aload_n 0, 1) := by decide +kernel
theorem d28_25 : decode jdk_44_method_5_code 25 = .ok (.getfield 24, 3) := by decide +kernel
theorem d28_28 : decode jdk_44_method_5_code 28 = .ok (.areturn, 1) := by decide +kernel
theorem own_ef_rm_lget1 (m : MethodId) (x0 : Addr) (x1 : Int32) : entryFrame m #[(.ref x0), (.int x1)] 2 = mkF m 0 #[.val (.ref x0), .val (.int x1)] [] := by first | (simp [entryFrame, mkF, argsToLocals, Value.category]; done) | rfl
def Q_rm_lget1 (Z : State) (a : Addr) (el1 : Addr) (em : Addr) (h0 : Heap) (n0 : Nat) (v : Option Value) (h : Heap) (L : List Loc) : Prop := v = some (.ref el1) ∧ Fr n0 L ∧ h = h0
set_option maxRecDepth 65536 in
set_option maxHeartbeats 40000000 in
theorem rm_lget1 (l : Launch) (Z : State) (a0 : Array Value) (hw : ∀ d ∈ tables_1, d.before a0 Z = true) (ws : List Jvm.Cond) (a : Addr) (el1 : Addr) (em : Addr) (h0 : Heap) (n0 : Nat) (Z0 : n0 ≤ h0.size) (F_e1_a : Fld Z h0 a "java/util/ImmutableCollections$List12" "e1" "Ljava/lang/Object;" (.ref el1)) (S_EMPTY : Sta Z h0 "java/util/ImmutableCollections" "EMPTY" "Ljava/lang/Object;" (.ref em)) (ne_el1_em : el1 ≠ em) :
    Met l Z mN30 jdk_44_method_5_code 2 (some (.object "java/lang/Object")) ({ frames := 0, cells := 0, slots := 0, locals := 0 } : Room) ws #[(.ref a), (.int (1 : Int32))] h0 (Q_rm_lget1 Z a el1 em h0 n0) := by
  refine own_met (plainFor_of_name own_pn8) ?_
  intro p e s m below meth c s₁ hret hx hby hlk hml hown hnm X0 e0 hZ hh
  have N0 := Fr.nil n0
  refine Gs (fun _ tk => castTop (own_ef_rm_lget1 m a (1 : Int32)) tk) ?_
  show Goes _ _ _ _ _ (s₁.setTop (mkF m 0 #[.val (.ref a), .val (.int (1 : Int32))] []))
  refine Gs (fun _ tk => XS.iloadN X0.here hx rfl (hb hby d28_0) rfl tk) ?_
  refine Gs (fun _ tk => XS.ifYes X0.here hx rfl (pc0 := 1) (pc' := 9) rfl (hb hby d28_1) rfl ((if0 _ _).trans (feq (by decide : ¬ ((1 : Int32) = (0 : Int32)))).2) (by decide) (by decide) tk) ?_
  refine Gs (fun _ tk => XS.iloadN X0.here hx rfl (hb hby d28_9) rfl tk) ?_
  refine Gs (fun _ tk => XS.iconst X0.here hx rfl (hb hby d28_10) tk) ?_
  refine Gs (fun _ tk => XS.icmpNo X0.here hx rfl (hb hby d28_11) rfl (teq (by decide : ((1 : Int32) = (1 : Int32)))).2 tk) ?_
  refine Gs (fun _ tk => XS.aloadN X0.here hx rfl (hb hby d28_14) rfl rfl tk) ?_
  show Goes _ _ _ _ _ (s₁.setTop (mkF m 15 #[.val (.ref a), .val (.int (1 : Int32))] [(.ref a)]))
  obtain ⟨T1, X1, e1, st1⟩ := getF X0 hx hZ hown (host := "") (Or.inl (gw hw 206 rfl)) Via.refl e0 F_e1_a (g := (mkF m 15 #[.val (.ref a), .val (.int (1 : Int32))] [(.ref a)])) rfl rfl (hb hby d28_15)
  refine Gs st1 ?_
  show Goes _ _ _ _ _ (T1.setTop (mkF m 18 #[.val (.ref a), .val (.int (1 : Int32))] [(.ref el1)]))
  obtain ⟨T2, X2, e2, st2⟩ := getS2 X1 hx hZ hown (Or.inr (gw hw 205 rfl)) Via.refl e1 S_EMPTY (g := (mkF m 18 #[.val (.ref a), .val (.int (1 : Int32))] [(.ref el1)])) rfl (hb hby d28_18)
  refine Gs st2 ?_
  show Goes _ _ _ _ _ (T2.setTop (mkF m 21 #[.val (.ref a), .val (.int (1 : Int32))] [(.ref em), (.ref el1)]))
  refine Gs (fun _ tk => Jvm.RoadKit.acmp (g := (mkF m 21 #[.val (.ref a), .val (.int (1 : Int32))] [(.ref em), (.ref el1)])) X2 hx rfl rfl rfl (pc0 := 21) (pc' := 24) (same := false) rfl (hb hby d28_21) rfl (decide_eq_false fun q => ne_el1_em (Value.ref.inj q)) (by decide) (by decide) tk) ?_
  refine Gs (fun _ tk => XS.aloadN X2.here hx rfl (hb hby d28_24) rfl rfl tk) ?_
  obtain ⟨T3, X3, e3, st3⟩ := getF X2 hx hZ hown (host := "") (Or.inl (gw hw 206 rfl)) Via.refl e2 F_e1_a (g := (mkF m 25 #[.val (.ref a), .val (.int (1 : Int32))] [(.ref a)])) rfl rfl (hb hby d28_25)
  refine Gs st3 ?_
  show Goes _ _ _ _ _ (T3.setTop (mkF m 28 #[.val (.ref a), .val (.int (1 : Int32))] [(.ref el1)]))
  refine Goes.ret X3 (some (.ref el1)) (fun h => by rw [hret] at h; cases h) hlk (by decide) (by decide) ?_ (fun fs hr => ?_)
  · exact ⟨rfl, N0, e3⟩
  · exact own_retA X3 hx hret rfl rfl (hb hby d28_28) hr
theorem d29_0 : decode jdk_45_method_3_code 0 = .ok (.aload_n 0, 1) := by decide +kernel
theorem d29_1 : decode jdk_45_method_3_code 1 = .ok (.getfield 7, 3) := by decide +kernel
theorem d29_4 : decode jdk_45_method_3_code 4 = .ok (.arraylength, 1) := by decide +kernel
theorem d29_5 : decode jdk_45_method_3_code 5 = .ok (.ireturn, 1) := by decide +kernel
theorem own_pn13 : plainName "java/util/ImmutableCollections$ListN" = true := by first | (simp [plainName, overriddenIn]; done) | decide +kernel
theorem own_ef_rm_lnsz (m : MethodId) (x0 : Addr) : entryFrame m #[(.ref x0)] 1 = mkF m 0 #[.val (.ref x0)] [] := by first | (simp [entryFrame, mkF, argsToLocals, Value.category]; done) | rfl
def Q_rm_lnsz (Z : State) (nl : Addr) (ea : Addr) (ke : ClassId) (h0 : Heap) (n0 : Nat) (v : Option Value) (h : Heap) (L : List Loc) : Prop := v = some (.int (0 : Int32)) ∧ Fr n0 L ∧ h = h0
set_option maxRecDepth 65536 in
set_option maxHeartbeats 40000000 in
theorem rm_lnsz (l : Launch) (Z : State) (a0 : Array Value) (hw : ∀ d ∈ tables_1, d.before a0 Z = true) (ws : List Jvm.Cond) (nl : Addr) (ea : Addr) (ke : ClassId) (h0 : Heap) (n0 : Nat) (Z0 : n0 ≤ h0.size) (F_elements_nl : Fld Z h0 nl "java/util/ImmutableCollections$ListN" "elements" "[Ljava/lang/Object;" (.ref ea)) (V_ea : Arv Z h0 ea ke (.object "java/lang/Object") (0 : Int32) [] .null) :
    Met l Z mN31 jdk_45_method_3_code 1 (some .int) ({ frames := 0, cells := 0, slots := 0, locals := 0 } : Room) ws #[(.ref nl)] h0 (Q_rm_lnsz Z nl ea ke h0 n0) := by
  refine own_met (plainFor_of_name own_pn13) ?_
  intro p e s m below meth c s₁ hret hx hby hlk hml hown hnm X0 e0 hZ hh
  have N0 := Fr.nil n0
  refine Gs (fun _ tk => castTop (own_ef_rm_lnsz m nl) tk) ?_
  show Goes _ _ _ _ _ (s₁.setTop (mkF m 0 #[.val (.ref nl)] []))
  refine Gs (fun _ tk => XS.aloadN X0.here hx rfl (hb hby d29_0) rfl rfl tk) ?_
  obtain ⟨T1, X1, e1, st1⟩ := getF X0 hx hZ hown (host := "") (Or.inl (gw hw 316 rfl)) Via.refl e0 F_elements_nl (g := (mkF m 1 #[.val (.ref nl)] [(.ref nl)])) rfl rfl (hb hby d29_1)
  refine Gs st1 ?_
  show Goes _ _ _ _ _ (T1.setTop (mkF m 4 #[.val (.ref nl)] [(.ref ea)]))
  obtain ⟨cl2, Ar2, -, S2, N2z, -, -⟩ := id V_ea
  refine Gs (fun _ tk => X1.arraylength hx (by rw [e1]; exact Ar2.1) (State.isArrayOf_alike hZ.alike Ar2.2.1) (g := (mkF m 4 #[.val (.ref nl)] [(.ref ea)])) rfl rfl (hb hby d29_4) _ tk) ?_
  rw [len_of S2 N2z]
  show Goes _ _ _ _ _ (T1.setTop (mkF m 5 #[.val (.ref nl)] [(.int (0 : Int32))]))
  refine Goes.ret X1 (some (.int (0 : Int32))) (fun h => by rw [hret] at h; cases h) hlk (by decide) (by decide) ?_ (fun fs hr => ?_)
  · exact ⟨rfl, N0, e1⟩
  · exact retI X1 hx hret (hb hby d29_5) hr
theorem d30_0 : decode prog_4_method_1_code 0 = .ok (.aload_n 0, 1) := by decide +kernel
theorem d30_1 : decode prog_4_method_1_code 1 = .ok (.invokespecial 1, 3) := by decide +kernel
theorem d30_4 : decode prog_4_method_1_code 4 = .ok (.aload_n 0, 1) := by decide +kernel
theorem d30_5 : decode prog_4_method_1_code 5 = .ok (.aload_n 1, 1) := by decide +kernel
theorem d30_6 : decode prog_4_method_1_code 6 = .ok (.putfield 7, 3) := by decide +kernel
theorem d30_9 : decode prog_4_method_1_code 9 = .ok (.return_, 1) := by decide +kernel
theorem own_pn14 : plainName "org/stripeward/scenario/Blocks$Records" = true := by first | (simp [plainName, overriddenIn]; done) | decide +kernel
theorem own_ef_rm_rci (m : MethodId) (x0 : Addr) (x1 : Addr) : entryFrame m #[(.ref x0), (.ref x1)] 2 = mkF m 0 #[.val (.ref x0), .val (.ref x1)] [] := by first | (simp [entryFrame, mkF, argsToLocals, Value.category]; done) | rfl
def Q_rm_rci (Z : State) (a : Addr) (u : Addr) (h0 : Heap) (n0 : Nat) (v : Option Value) (h : Heap) (L : List Loc) : Prop := v = none ∧ Fr n0 L ∧ Keep h0 h [a] ∧ Fld Z h a "org/stripeward/scenario/Blocks$Records" "records" "Ljava/util/List;" (.ref u)
set_option maxRecDepth 65536 in
set_option maxHeartbeats 40000000 in
theorem rm_rci (l : Launch) (Z : State) (a0 : Array Value) (hw : ∀ d ∈ tables_1, d.before a0 Z = true) (ws : List Jvm.Cond) (a : Addr) (u : Addr) (h0 : Heap) (n0 : Nat) (Z0 : n0 ≤ h0.size) (A_a : Exa Z h0 a "org/stripeward/scenario/Blocks$Records") (F_records_a : Fld Z h0 a "org/stripeward/scenario/Blocks$Records" "records" "Ljava/util/List;" .null) (g_a : n0 ≤ a) :
    Met l Z mN32 prog_4_method_1_code 2 none ({ frames := 1, cells := 0, slots := 0, locals := 12 } : Room) ws #[(.ref a), (.ref u)] h0 (Q_rm_rci Z a u h0 n0) := by
  refine own_met (plainFor_of_name own_pn14) ?_
  intro p e s m below meth c s₁ hret hx hby hlk hml hown hnm X0 e0 hZ hh
  have N0 := Fr.nil n0
  refine Gs (fun _ tk => castTop (own_ef_rm_rci m a u) tk) ?_
  have KP : Keep h0 h0 [a] := Keep.refl _ _
  show Goes _ _ _ _ _ (s₁.setTop (mkF m 0 #[.val (.ref a), .val (.ref u)] []))
  refine Gs (fun _ tk => XS.aloadN X0.here hx rfl (hb hby d30_0) rfl rfl tk) ?_
  obtain ⟨T1, X1, e1, st1⟩ := initO X0 hx hZ hown (gw hw 220 rfl) (gw hw 12 rfl) (gw hw 13 rfl) e0 (g := (mkF m 1 #[.val (.ref a), .val (.ref u)] [(.ref a)])) rfl (by rw [hml]; rfl) rfl (hb hby d30_1) (by decide) (W := 0) (w0 (Nat.le_of_eq rfl)) (by decide)
  refine Gs st1 ?_
  show Goes _ _ _ _ _ (T1.setTop (mkF m 4 #[.val (.ref a), .val (.ref u)] []))
  refine Gs (fun _ tk => XS.aloadN X1.here hx rfl (hb hby d30_4) rfl rfl tk) ?_
  refine Gs (fun _ tk => XS.aloadN X1.here hx rfl (hb hby d30_5) rfl rfl tk) ?_
  obtain ⟨T2, h2, X2, e2, W2, st2⟩ := putF X1 hx hZ hown (host := "") (Or.inl (gw hw 221 rfl)) Via.refl e1 F_records_a A_a (Or.inr ⟨(gw hw 222 rfl), rfl, hnm⟩) (gw hw 215 rfl) (ty := (.object "java/util/List")) (by decide) rfl rfl (g := (mkF m 6 #[.val (.ref a), .val (.ref u)] [(.ref u), (.ref a)])) rfl rfl (hb hby d30_6)
  have N2 := Fr.snoc X2 N0 g_a
  replace KP := KP.wr W2 (Or.inl (List.mem_of_getElem? (i := 0) rfl))
  replace F_records_a := F_records_a.same W2
  replace Z0 : n0 ≤ h2.size := by rw [W2.size]; exact Z0
  refine Gs st2 ?_
  show Goes _ _ _ _ _ (T2.setTop (mkF m 9 #[.val (.ref a), .val (.ref u)] []))
  refine Goes.ret X2 none (fun _ => rfl) hlk (by decide) (by decide) ?_ (fun fs hr => ?_)
  · rw [e2]; exact ⟨rfl, N2, KP, F_records_a⟩
  · exact X2.returnOut hx hret (hb hby d30_9) hr
theorem d31_0 : decode prog_3_method_1_code 0 = .ok (.aload_n 0, 1) := by decide +kernel
theorem d31_1 : decode prog_3_method_1_code 1 = .ok (.invokespecial 1, 3) := by decide +kernel
theorem d31_4 : decode prog_3_method_1_code 4 = .ok (.aload_n 0, 1) := by decide +kernel
theorem d31_5 : decode prog_3_method_1_code 5 = .ok (.aload_n 1, 1) := by decide +kernel
theorem d31_6 : decode prog_3_method_1_code 6 = .ok (.putfield 7, 3) := by decide +kernel
theorem d31_9 : decode prog_3_method_1_code 9 = .ok (.aload_n 0, 1) := by decide +kernel
theorem d31_10 : decode prog_3_method_1_code 10 = .ok (.aload_n 2, 1) := by decide +kernel
theorem d31_11 : decode prog_3_method_1_code 11 = .ok (.putfield 13, 3) := by decide +kernel
theorem d31_14 : decode prog_3_method_1_code 14 = .ok (.aload_n 0, 1) := by decide +kernel
theorem d31_15 : decode prog_3_method_1_code 15 = .ok (.iload_n 3, 1) := by decide +kernel
theorem d31_16 : decode prog_3_method_1_code 16 = .ok (.putfield 17, 3) := by decide +kernel
theorem d31_19 : decode prog_3_method_1_code 19 = .ok (.aload_n 0, 1) := by decide +kernel
theorem d31_20 : decode prog_3_method_1_code 20 = .ok (.iload 4, 2) := by decide +kernel
theorem d31_22 : decode prog_3_method_1_code 22 = .ok (.putfield 21, 3) := by decide +kernel
theorem d31_25 : decode prog_3_method_1_code 25 = .ok (.return_, 1) := by decide +kernel
theorem own_pn15 : plainName "org/stripeward/scenario/Blocks" = true := by first | (simp [plainName, overriddenIn]; done) | decide +kernel
theorem own_ef_rm_bsi (m : MethodId) (x0 : Addr) (x1 : Addr) (x3 : Int32) (x4 : Int32) : entryFrame m #[(.ref x0), (.ref x1), .null, (.int x3), (.int x4)] 5 = mkF m 0 #[.val (.ref x0), .val (.ref x1), .val .null, .val (.int x3), .val (.int x4)] [] := by first | (simp [entryFrame, mkF, argsToLocals, Value.category]; done) | rfl
def Q_rm_bsi (Z : State) (a : Addr) (ro : Addr) (z : Int32) (h0 : Heap) (n0 : Nat) (v : Option Value) (h : Heap) (L : List Loc) : Prop := v = none ∧ Fr n0 L ∧ Keep h0 h [a] ∧ Fld Z h a "org/stripeward/scenario/Blocks" "source" "Lorg/stripeward/scenario/Blocks$Source;" (.ref ro) ∧ Fld Z h a "org/stripeward/scenario/Blocks" "places" "[I" .null ∧ Fld Z h a "org/stripeward/scenario/Blocks" "first" "I" (.int (0 : Int32)) ∧ Fld Z h a "org/stripeward/scenario/Blocks" "size" "I" (.int z)
set_option maxRecDepth 65536 in
set_option maxHeartbeats 40000000 in
theorem rm_bsi (l : Launch) (Z : State) (a0 : Array Value) (hw : ∀ d ∈ tables_1, d.before a0 Z = true) (ws : List Jvm.Cond) (a : Addr) (ro : Addr) (z : Int32) (h0 : Heap) (n0 : Nat) (Z0 : n0 ≤ h0.size) (A_a : Exa Z h0 a "org/stripeward/scenario/Blocks") (F_modCount_a : Fld Z h0 a "java/util/AbstractList" "modCount" "I" (.int (0 : Int32))) (F_source_a : Fld Z h0 a "org/stripeward/scenario/Blocks" "source" "Lorg/stripeward/scenario/Blocks$Source;" .null) (F_places_a : Fld Z h0 a "org/stripeward/scenario/Blocks" "places" "[I" .null) (F_first_a : Fld Z h0 a "org/stripeward/scenario/Blocks" "first" "I" (.int (0 : Int32))) (F_size_a : Fld Z h0 a "org/stripeward/scenario/Blocks" "size" "I" (.int (0 : Int32))) (g_a : n0 ≤ a) :
    Met l Z mN33 prog_3_method_1_code 5 none ({ frames := 3, cells := 0, slots := 0, locals := 36 } : Room) ws #[(.ref a), (.ref ro), .null, (.int (0 : Int32)), (.int z)] h0 (Q_rm_bsi Z a ro z h0 n0) := by
  refine own_met (plainFor_of_name own_pn15) ?_
  intro p e s m below meth c s₁ hret hx hby hlk hml hown hnm X0 e0 hZ hh
  have N0 := Fr.nil n0
  refine Gs (fun _ tk => castTop (own_ef_rm_bsi m a ro (0 : Int32) z) tk) ?_
  have KP : Keep h0 h0 [a] := Keep.refl _ _
  show Goes _ _ _ _ _ (s₁.setTop (mkF m 0 #[.val (.ref a), .val (.ref ro), .val .null, .val (.int (0 : Int32)), .val (.int z)] []))
  refine Gs (fun _ tk => XS.aloadN X0.here hx rfl (hb hby d31_0) rfl rfl tk) ?_
  obtain ⟨_, _, ⟨T1, L1, k1, n1⟩, -, X1, ⟨Lc1, hQ1, l1, y1, z1⟩, st1⟩ := X0.specialBack hx (y := mN5) rfl hown (mvT hZ (gw hw 235 rfl)) (mvT hZ (gw hw 27 rfl)) (mvT hZ (gw hw 31 rfl)) (by decide) (backOf (W := 0) (rm_ablBS l Z a0 hw [] a h0 n0 Z0 A_a F_modCount_a g_a) hZ (gw hw 31 rfl) (gw hw 30 rfl) (by decide) (by decide)) (g := (mkF m 1 #[.val (.ref a), .val (.ref ro), .val .null, .val (.int (0 : Int32)), .val (.int z)] [(.ref a)])) rfl (by rw [hml]; rfl) (Steps.refl _) (a := a) (argsL := []) (rest := []) (lenOf own_pd0 rfl) rfl (w0 (Nat.le_of_eq rfl)) (hb hby d31_1) (fun _ _ => ⟨rfl, e0, (by decide : 0 + 0 ≤ _), (by decide : 0 + 0 ≤ _)⟩)
  dsimp only [Pt.U, Pt.locs, Pt.cells, Pt.slots] at X1 l1 y1 z1 st1 hQ1
  subst l1 y1 z1
  obtain ⟨rfl, N1q, W1⟩ := hQ1
  have N1 := Fr.app N0 N1q
  replace A_a := A_a.wr W1
  replace F_source_a := F_source_a.other W1 (Or.inr (slot_ne (Or.inr (gw hw 239 rfl)) (Or.inl (gw hw 237 rfl)) (by decide) (t := (.object "org/stripeward/scenario/Blocks$Source")) (t' := .int) (by decide) (by decide)))
  replace F_places_a := F_places_a.other W1 (Or.inr (slot_ne (Or.inr (gw hw 241 rfl)) (Or.inl (gw hw 237 rfl)) (by decide) (t := (.array .int)) (t' := .int) (by decide) (by decide)))
  replace F_first_a := F_first_a.other W1 (Or.inr (slot_ne (Or.inr (gw hw 243 rfl)) (Or.inl (gw hw 237 rfl)) (by decide) (t := .int) (t' := .int) (by decide) (by decide)))
  replace F_size_a := F_size_a.other W1 (Or.inr (slot_ne (Or.inr (gw hw 111 rfl)) (Or.inl (gw hw 237 rfl)) (by decide) (t := .int) (t' := .int) (by decide) (by decide)))
  replace KP := KP.wr W1 (Or.inl (List.mem_of_getElem? (i := 0) rfl))
  replace Z0 := Nat.le_trans Z0 (Nat.le_of_eq W1.size.symm)
  refine Gs (fun _ tk => st1.trans tk) ?_
  show Goes _ _ _ _ _ (T1.setTop (mkF m 4 #[.val (.ref a), .val (.ref ro), .val .null, .val (.int (0 : Int32)), .val (.int z)] []))
  refine Gs (fun _ tk => XS.aloadN X1.here hx rfl (hb hby d31_4) rfl rfl tk) ?_
  refine Gs (fun _ tk => XS.aloadN X1.here hx rfl (hb hby d31_5) rfl rfl tk) ?_
  obtain ⟨T2, h2, X2, e2, W2, st2⟩ := putF X1 hx hZ hown (host := "") (Or.inl (gw hw 238 rfl)) Via.refl rfl F_source_a A_a (Or.inr ⟨(gw hw 239 rfl), rfl, hnm⟩) (gw hw 213 rfl) (ty := (.object "org/stripeward/scenario/Blocks$Source")) (by decide) rfl rfl (g := (mkF m 6 #[.val (.ref a), .val (.ref ro), .val .null, .val (.int (0 : Int32)), .val (.int z)] [(.ref ro), (.ref a)])) rfl rfl (hb hby d31_6)
  have N2 := Fr.snoc X2 N1 g_a
  replace A_a := A_a.wr W2
  replace F_places_a := F_places_a.other W2 (Or.inr (slot_ne (Or.inr (gw hw 241 rfl)) (Or.inr (gw hw 239 rfl)) (by decide) (t := (.array .int)) (t' := (.object "org/stripeward/scenario/Blocks$Source")) (by decide) (by decide)))
  replace F_first_a := F_first_a.other W2 (Or.inr (slot_ne (Or.inr (gw hw 243 rfl)) (Or.inr (gw hw 239 rfl)) (by decide) (t := .int) (t' := (.object "org/stripeward/scenario/Blocks$Source")) (by decide) (by decide)))
  replace F_size_a := F_size_a.other W2 (Or.inr (slot_ne (Or.inr (gw hw 111 rfl)) (Or.inr (gw hw 239 rfl)) (by decide) (t := .int) (t' := (.object "org/stripeward/scenario/Blocks$Source")) (by decide) (by decide)))
  replace KP := KP.wr W2 (Or.inl (List.mem_of_getElem? (i := 0) rfl))
  replace F_source_a := F_source_a.same W2
  replace Z0 : n0 ≤ h2.size := by rw [W2.size]; exact Z0
  refine Gs st2 ?_
  show Goes _ _ _ _ _ (T2.setTop (mkF m 9 #[.val (.ref a), .val (.ref ro), .val .null, .val (.int (0 : Int32)), .val (.int z)] []))
  refine Gs (fun _ tk => XS.aloadN X2.here hx rfl (hb hby d31_9) rfl rfl tk) ?_
  refine Gs (fun _ tk => XS.aloadN X2.here hx rfl (hb hby d31_10) rfl rfl tk) ?_
  obtain ⟨T3, h3, X3, e3, W3, st3⟩ := putF X2 hx hZ hown (host := "") (Or.inl (gw hw 240 rfl)) Via.refl e2 F_places_a A_a (Or.inr ⟨(gw hw 241 rfl), rfl, hnm⟩) (gw hw 213 rfl) (ty := (.array .int)) (by decide) rfl rfl (g := (mkF m 11 #[.val (.ref a), .val (.ref ro), .val .null, .val (.int (0 : Int32)), .val (.int z)] [.null, (.ref a)])) rfl rfl (hb hby d31_11)
  have N3 := Fr.snoc X3 N2 g_a
  replace A_a := A_a.wr W3
  replace F_source_a := F_source_a.other W3 (Or.inr (slot_ne (Or.inr (gw hw 239 rfl)) (Or.inr (gw hw 241 rfl)) (by decide) (t := (.object "org/stripeward/scenario/Blocks$Source")) (t' := (.array .int)) (by decide) (by decide)))
  replace F_first_a := F_first_a.other W3 (Or.inr (slot_ne (Or.inr (gw hw 243 rfl)) (Or.inr (gw hw 241 rfl)) (by decide) (t := .int) (t' := (.array .int)) (by decide) (by decide)))
  replace F_size_a := F_size_a.other W3 (Or.inr (slot_ne (Or.inr (gw hw 111 rfl)) (Or.inr (gw hw 241 rfl)) (by decide) (t := .int) (t' := (.array .int)) (by decide) (by decide)))
  replace KP := KP.wr W3 (Or.inl (List.mem_of_getElem? (i := 0) rfl))
  replace F_places_a := F_places_a.same W3
  replace Z0 : n0 ≤ h3.size := by rw [W3.size]; exact Z0
  refine Gs st3 ?_
  show Goes _ _ _ _ _ (T3.setTop (mkF m 14 #[.val (.ref a), .val (.ref ro), .val .null, .val (.int (0 : Int32)), .val (.int z)] []))
  refine Gs (fun _ tk => XS.aloadN X3.here hx rfl (hb hby d31_14) rfl rfl tk) ?_
  refine Gs (fun _ tk => XS.iloadN X3.here hx rfl (hb hby d31_15) rfl tk) ?_
  obtain ⟨T4, h4, X4, e4, W4, st4⟩ := putF X3 hx hZ hown (host := "") (Or.inl (gw hw 242 rfl)) Via.refl e3 F_first_a A_a (Or.inr ⟨(gw hw 243 rfl), rfl, hnm⟩) (gw hw 213 rfl) (ty := .int) (by decide) rfl rfl (g := (mkF m 16 #[.val (.ref a), .val (.ref ro), .val .null, .val (.int (0 : Int32)), .val (.int z)] [(.int (0 : Int32)), (.ref a)])) rfl rfl (hb hby d31_16)
  have N4 := Fr.snoc X4 N3 g_a
  replace A_a := A_a.wr W4
  replace F_source_a := F_source_a.other W4 (Or.inr (slot_ne (Or.inr (gw hw 239 rfl)) (Or.inr (gw hw 243 rfl)) (by decide) (t := (.object "org/stripeward/scenario/Blocks$Source")) (t' := .int) (by decide) (by decide)))
  replace F_places_a := F_places_a.other W4 (Or.inr (slot_ne (Or.inr (gw hw 241 rfl)) (Or.inr (gw hw 243 rfl)) (by decide) (t := (.array .int)) (t' := .int) (by decide) (by decide)))
  replace F_size_a := F_size_a.other W4 (Or.inr (slot_ne (Or.inr (gw hw 111 rfl)) (Or.inr (gw hw 243 rfl)) (by decide) (t := .int) (t' := .int) (by decide) (by decide)))
  replace KP := KP.wr W4 (Or.inl (List.mem_of_getElem? (i := 0) rfl))
  replace F_first_a := F_first_a.same W4
  replace Z0 : n0 ≤ h4.size := by rw [W4.size]; exact Z0
  refine Gs st4 ?_
  show Goes _ _ _ _ _ (T4.setTop (mkF m 19 #[.val (.ref a), .val (.ref ro), .val .null, .val (.int (0 : Int32)), .val (.int z)] []))
  refine Gs (fun _ tk => XS.aloadN X4.here hx rfl (hb hby d31_19) rfl rfl tk) ?_
  refine Gs (fun _ tk => XS.iload X4.here hx rfl (hb hby d31_20) rfl tk) ?_
  obtain ⟨T5, h5, X5, e5, W5, st5⟩ := putF X4 hx hZ hown (host := "") (Or.inl (gw hw 110 rfl)) Via.refl e4 F_size_a A_a (Or.inr ⟨(gw hw 111 rfl), rfl, hnm⟩) (gw hw 213 rfl) (ty := .int) (by decide) rfl rfl (g := (mkF m 22 #[.val (.ref a), .val (.ref ro), .val .null, .val (.int (0 : Int32)), .val (.int z)] [(.int z), (.ref a)])) rfl rfl (hb hby d31_22)
  have N5 := Fr.snoc X5 N4 g_a
  replace F_source_a := F_source_a.other W5 (Or.inr (slot_ne (Or.inr (gw hw 239 rfl)) (Or.inr (gw hw 111 rfl)) (by decide) (t := (.object "org/stripeward/scenario/Blocks$Source")) (t' := .int) (by decide) (by decide)))
  replace F_places_a := F_places_a.other W5 (Or.inr (slot_ne (Or.inr (gw hw 241 rfl)) (Or.inr (gw hw 111 rfl)) (by decide) (t := (.array .int)) (t' := .int) (by decide) (by decide)))
  replace F_first_a := F_first_a.other W5 (Or.inr (slot_ne (Or.inr (gw hw 243 rfl)) (Or.inr (gw hw 111 rfl)) (by decide) (t := .int) (t' := .int) (by decide) (by decide)))
  replace KP := KP.wr W5 (Or.inl (List.mem_of_getElem? (i := 0) rfl))
  replace F_size_a := F_size_a.same W5
  replace Z0 : n0 ≤ h5.size := by rw [W5.size]; exact Z0
  refine Gs st5 ?_
  show Goes _ _ _ _ _ (T5.setTop (mkF m 25 #[.val (.ref a), .val (.ref ro), .val .null, .val (.int (0 : Int32)), .val (.int z)] []))
  refine Goes.ret X5 none (fun _ => rfl) hlk (by decide) (by decide) ?_ (fun fs hr => ?_)
  · rw [e5]; exact ⟨rfl, N5, KP, F_source_a, F_places_a, F_first_a, F_size_a⟩
  · exact X5.returnOut hx hret (hb hby d31_25) hr
theorem d32_0 : decode prog_3_method_2_code 0 = .ok (.aload_n 0, 1) := by decide +kernel
theorem d32_1 : decode prog_3_method_2_code 1 = .ok (.instanceof 8, 3) := by decide +kernel
theorem d32_4 : decode prog_3_method_2_code 4 = .ok (.ifCond .eq 10, 3) := by decide +kernel
theorem d32_14 : decode prog_3_method_2_code 14 = .ok (.aload_n 0, 1) := by decide +kernel
theorem d32_15 : decode prog_3_method_2_code 15 = .ok (.invokeinterface 24 1, 5) := by decide +kernel
theorem d32_20 : decode prog_3_method_2_code 20 = .ok (.ifCond .eq 7, 3) := by decide +kernel
theorem d32_23 : decode prog_3_method_2_code 23 = .ok (.getstatic 30, 3) := by decide +kernel
theorem d32_26 : decode prog_3_method_2_code 26 = .ok (.areturn, 1) := by decide +kernel
theorem own_ef_rm_bsof0 (m : MethodId) (x0 : Addr) : entryFrame m #[(.ref x0)] 2 = mkF m 0 #[.val (.ref x0), .unset] [] := by first | (simp [entryFrame, mkF, argsToLocals, Value.category]; done) | rfl
def Q_rm_bsof0 (Z : State) (a : Addr) (no : Addr) (h0 : Heap) (n0 : Nat) (v : Option Value) (h : Heap) (L : List Loc) : Prop := v = some (.ref no) ∧ Fr n0 L ∧ h = h0
set_option maxRecDepth 65536 in
set_option maxHeartbeats 40000000 in
theorem rm_bsof0 (l : Launch) (Z : State) (a0 : Array Value) (hw : ∀ d ∈ tables_1, d.before a0 Z = true) (ws : List Jvm.Cond) (a : Addr) (no : Addr) (h0 : Heap) (n0 : Nat) (Z0 : n0 ≤ h0.size) (A_a : Exa Z h0 a "java/util/ArrayList") (F_size_a : Fld Z h0 a "java/util/ArrayList" "size" "I" (.int (0 : Int32))) (S_NONE : Sta Z h0 "org/stripeward/scenario/Blocks" "NONE" "Lorg/stripeward/scenario/Blocks;" (.ref no)) :
    Met l Z mN35 prog_3_method_2_code 2 (some (.object "org/stripeward/scenario/Blocks")) ({ frames := 1, cells := 0, slots := 0, locals := 12 } : Room) ws #[(.ref a)] h0 (Q_rm_bsof0 Z a no h0 n0) := by
  refine own_met (plainFor_of_name own_pn15) ?_
  intro p e s m below meth c s₁ hret hx hby hlk hml hown hnm X0 e0 hZ hh
  have N0 := Fr.nil n0
  refine Gs (fun _ tk => castTop (own_ef_rm_bsof0 m a) tk) ?_
  show Goes _ _ _ _ _ (s₁.setTop (mkF m 0 #[.val (.ref a), .unset] []))
  refine Gs (fun _ tk => XS.aloadN X0.here hx rfl (hb hby d32_0) rfl rfl tk) ?_
  obtain ⟨T1, X1, e1, st1⟩ := instNo X0 hx hZ hown (gw hw 97 rfl) e0 A_a (own_nsNo (gw hw 60 rfl) (own_nfI (gw hw 213 rfl)) (NS.step (gw hw 60 rfl) (NS.step (gw hw 61 rfl) (NS.step (gw hw 62 rfl) (own_nsRoot (gw hw 63 rfl) (own_nfI (gw hw 213 rfl)) (by decide)) (by decide)) (by decide)) (by decide)) (by decide)) (g := (mkF m 1 #[.val (.ref a), .unset] [(.ref a)])) rfl rfl (hb hby d32_1)
  refine Gs st1 ?_
  show Goes _ _ _ _ _ (T1.setTop (mkF m 4 #[.val (.ref a), .unset] [(.int (0 : Int32))]))
  refine Gs (fun _ tk => XS.ifYes X1.here hx rfl (pc0 := 4) (pc' := 14) rfl (hb hby d32_4) rfl ((if0 _ _).trans (teq (by decide : ((0 : Int32) = (0 : Int32)))).1) (by decide) (by decide) tk) ?_
  refine Gs (fun _ tk => XS.aloadN X1.here hx rfl (hb hby d32_14) rfl rfl tk) ?_
  obtain ⟨cq2, kq2, q2a, q2b, q2c⟩ := isOf hZ e1 A_a
  obtain ⟨_, _, ⟨T2, L2, k2, n2⟩, -, X2, ⟨Lc2, hQ2, l2, y2, z2⟩, st2⟩ := X1.interfaceBack hx (xi := mN34) (y := mN13) hown (mvT hZ (gw hw 98 rfl)) (mvT hZ (gw hw 99 rfl)) (mvT hZ (gw hw 100 rfl)) (mvT hZ (gw hw 101 rfl)) (mvT hZ (gw hw 69 rfl)) (mvT hZ (gw hw 70 rfl)) (mvT hZ (gw hw 71 rfl)) (mvT hZ (gw hw 102 rfl)) (by decide) (backOf (W := 0) (rm_emp0 l Z a0 hw [] a h0 n0 Z0 F_size_a) hZ (gw hw 73 rfl) (gw hw 22 rfl) (by decide) (by decide)) q2a q2b q2c (g := (mkF m 15 #[.val (.ref a), .unset] [(.ref a)])) rfl (by rw [hml]; rfl) (Steps.refl _) (argsL := []) (rest := []) (lenOf own_pd9 rfl) rfl (w0 (Nat.le_of_eq rfl)) (hb hby d32_15) (fun _ _ => ⟨rfl, e1, (by decide : 0 + 0 ≤ _), (by decide : 0 + 0 ≤ _)⟩)
  dsimp only [Pt.U, Pt.locs, Pt.cells, Pt.slots] at X2 l2 y2 z2 st2 hQ2
  subst l2 y2 z2
  obtain ⟨rfl, N2q, e2⟩ := hQ2
  have N2 := Fr.app N0 N2q
  refine Gs (fun _ tk => st2.trans tk) ?_
  show Goes _ _ _ _ _ (T2.setTop (mkF m 20 #[.val (.ref a), .unset] [(.int (1 : Int32))]))
  refine Gs (fun _ tk => XS.ifNo X2.here hx rfl (hb hby d32_20) rfl ((if0 _ _).trans (feq (by decide : ¬ ((1 : Int32) = (0 : Int32)))).1) tk) ?_
  obtain ⟨T3, X3, e3, st3⟩ := getS2 X2 hx hZ hown (host := "") (Or.inl (gw hw 103 rfl)) Via.refl e2 S_NONE (g := (mkF m 23 #[.val (.ref a), .unset] [])) rfl (hb hby d32_23)
  refine Gs st3 ?_
  show Goes _ _ _ _ _ (T3.setTop (mkF m 26 #[.val (.ref a), .unset] [(.ref no)]))
  refine Goes.ret X3 (some (.ref no)) (fun h => by rw [hret] at h; cases h) hlk (by decide) (by decide) ?_ (fun fs hr => ?_)
  · exact ⟨rfl, N2, e3⟩
  · exact own_retA X3 hx hret rfl rfl (hb hby d32_26) hr
theorem d32_7 : decode prog_3_method_2_code 7 = .ok (.aload_n 0, 1) := by decide +kernel
theorem d32_8 : decode prog_3_method_2_code 8 = .ok (.checkcast 8, 3) := by decide +kernel
theorem d32_11 : decode prog_3_method_2_code 11 = .ok (.astore_n 1, 1) := by decide +kernel
theorem d32_12 : decode prog_3_method_2_code 12 = .ok (.aload_n 1, 1) := by decide +kernel
theorem d32_13 : decode prog_3_method_2_code 13 = .ok (.areturn, 1) := by decide +kernel
theorem own_ef_rm_bsofS (m : MethodId) (x0 : Addr) : entryFrame m #[(.ref x0)] 2 = mkF m 0 #[.val (.ref x0), .unset] [] := by first | (simp [entryFrame, mkF, argsToLocals, Value.category]; done) | rfl
def Q_rm_bsofS (Z : State) (a : Addr) (h0 : Heap) (n0 : Nat) (v : Option Value) (h : Heap) (L : List Loc) : Prop := v = some (.ref a) ∧ Fr n0 L ∧ h = h0
set_option maxRecDepth 65536 in
set_option maxHeartbeats 40000000 in
theorem rm_bsofS (l : Launch) (Z : State) (a0 : Array Value) (hw : ∀ d ∈ tables_1, d.before a0 Z = true) (ws : List Jvm.Cond) (a : Addr) (h0 : Heap) (n0 : Nat) (Z0 : n0 ≤ h0.size) (A_a : Exa Z h0 a "org/stripeward/scenario/Blocks") :
    Met l Z mN35 prog_3_method_2_code 2 (some (.object "org/stripeward/scenario/Blocks")) ({ frames := 0, cells := 0, slots := 0, locals := 0 } : Room) ws #[(.ref a)] h0 (Q_rm_bsofS Z a h0 n0) := by
  refine own_met (plainFor_of_name own_pn15) ?_
  intro p e s m below meth c s₁ hret hx hby hlk hml hown hnm X0 e0 hZ hh
  have N0 := Fr.nil n0
  refine Gs (fun _ tk => castTop (own_ef_rm_bsofS m a) tk) ?_
  show Goes _ _ _ _ _ (s₁.setTop (mkF m 0 #[.val (.ref a), .unset] []))
  refine Gs (fun _ tk => XS.aloadN X0.here hx rfl (hb hby d32_0) rfl rfl tk) ?_
  obtain ⟨T1, X1, e1, st1⟩ := instY X0 hx hZ hown (gw hw 97 rfl) e0 (Ins.self A_a) (g := (mkF m 1 #[.val (.ref a), .unset] [(.ref a)])) rfl rfl (hb hby d32_1)
  refine Gs st1 ?_
  show Goes _ _ _ _ _ (T1.setTop (mkF m 4 #[.val (.ref a), .unset] [(.int (1 : Int32))]))
  refine Gs (fun _ tk => XS.ifNo X1.here hx rfl (hb hby d32_4) rfl ((if0 _ _).trans (feq (by decide : ¬ ((1 : Int32) = (0 : Int32)))).1) tk) ?_
  refine Gs (fun _ tk => XS.aloadN X1.here hx rfl (hb hby d32_7) rfl rfl tk) ?_
  obtain ⟨T2, X2, e2, st2⟩ := castY X1 hx hZ hown (gw hw 97 rfl) e1 (Ins.self A_a) (g := (mkF m 8 #[.val (.ref a), .unset] [(.ref a)])) rfl rfl (hb hby d32_8)
  refine Gs st2 ?_
  show Goes _ _ _ _ _ (T2.setTop (mkF m 11 #[.val (.ref a), .unset] [(.ref a)]))
  refine Gs (fun _ tk => XS.astoreN X2.here hx rfl (hb hby d32_11) rfl rfl (l' := #[.val (.ref a), .val (.ref a)]) rfl tk) ?_
  refine Gs (fun _ tk => XS.aloadN X2.here hx rfl (hb hby d32_12) rfl rfl tk) ?_
  refine Goes.ret X2 (some (.ref a)) (fun h => by rw [hret] at h; cases h) hlk (by decide) (by decide) ?_ (fun fs hr => ?_)
  · exact ⟨rfl, N0, e2⟩
  · exact own_retA X2 hx hret rfl rfl (hb hby d32_13) hr
theorem d32_27 : decode prog_3_method_2_code 27 = .ok (.aload_n 0, 1) := by decide +kernel
theorem d32_28 : decode prog_3_method_2_code 28 = .ok (.invokestatic 34, 3) := by decide +kernel
theorem d32_31 : decode prog_3_method_2_code 31 = .ok (.astore_n 1, 1) := by decide +kernel
theorem d32_32 : decode prog_3_method_2_code 32 = .ok (.new 8, 3) := by decide +kernel
theorem d32_35 : decode prog_3_method_2_code 35 = .ok (.dup, 1) := by decide +kernel
theorem d32_36 : decode prog_3_method_2_code 36 = .ok (.new 38, 3) := by decide +kernel
theorem d32_39 : decode prog_3_method_2_code 39 = .ok (.dup, 1) := by decide +kernel
theorem d32_40 : decode prog_3_method_2_code 40 = .ok (.aload_n 1, 1) := by decide +kernel
theorem d32_41 : decode prog_3_method_2_code 41 = .ok (.invokespecial 40, 3) := by decide +kernel
theorem own_pd14 : parseMethodDescriptor "(Ljava/util/List;)V" = some ⟨[(.object "java/util/List")], none⟩ := by decide +kernel
theorem d32_44 : decode prog_3_method_2_code 44 = .ok (.aconst_null, 1) := by decide +kernel
theorem d32_45 : decode prog_3_method_2_code 45 = .ok (.iconst 0, 1) := by decide +kernel
theorem d32_46 : decode prog_3_method_2_code 46 = .ok (.aload_n 1, 1) := by decide +kernel
theorem d32_47 : decode prog_3_method_2_code 47 = .ok (.invokeinterface 43 1, 5) := by decide +kernel
theorem own_pd15 : parseMethodDescriptor "()I" = some ⟨[], some .int⟩ := by decide +kernel
theorem d32_52 : decode prog_3_method_2_code 52 = .ok (.invokespecial 46, 3) := by decide +kernel
theorem own_pd16 : parseMethodDescriptor "(Lorg/stripeward/scenario/Blocks$Source;[III)V" = some ⟨[(.object "org/stripeward/scenario/Blocks$Source"), (.array .int), .int, .int], none⟩ := by decide +kernel
theorem d32_55 : decode prog_3_method_2_code 55 = .ok (.areturn, 1) := by decide +kernel
theorem own_ef_rm_bsof1 (m : MethodId) (x0 : Addr) : entryFrame m #[(.ref x0)] 2 = mkF m 0 #[.val (.ref x0), .unset] [] := by first | (simp [entryFrame, mkF, argsToLocals, Value.category]; done) | rfl
def Q_rm_bsof1 (Z : State) (a : Addr) (el0 : Addr) (b : Addr) (kb : ClassId) (mr : Addr) (em : Addr) (h0 : Heap) (n0 : Nat) (v : Option Value) (h : Heap) (L : List Loc) : Prop := ∃ bo : Addr, ∃ ro : Addr, ∃ u : Addr, v = some (.ref bo) ∧ Fr n0 L ∧ Keep h0 h [] ∧ Exa Z h bo "org/stripeward/scenario/Blocks" ∧ Fld Z h bo "org/stripeward/scenario/Blocks" "source" "Lorg/stripeward/scenario/Blocks$Source;" (.ref ro) ∧ Fld Z h bo "org/stripeward/scenario/Blocks" "places" "[I" .null ∧ Fld Z h bo "org/stripeward/scenario/Blocks" "first" "I" (.int (0 : Int32)) ∧ Fld Z h bo "org/stripeward/scenario/Blocks" "size" "I" (.int (1 : Int32)) ∧ Exa Z h ro "org/stripeward/scenario/Blocks$Records" ∧ Fld Z h ro "org/stripeward/scenario/Blocks$Records" "records" "Ljava/util/List;" (.ref u) ∧ Exa Z h u "java/util/ImmutableCollections$List12" ∧ Fld Z h u "java/util/ImmutableCollections$List12" "e0" "Ljava/lang/Object;" (.ref el0) ∧ Fld Z h u "java/util/ImmutableCollections$List12" "e1" "Ljava/lang/Object;" (.ref em) ∧ n0 ≤ bo ∧ h0.size ≤ bo ∧ h0.size ≤ ro ∧ h0.size ≤ u
set_option maxRecDepth 65536 in
set_option maxHeartbeats 40000000 in
theorem rm_bsof1 (l : Launch) (Z : State) (a0 : Array Value) (hw : ∀ d ∈ tables_1, d.before a0 Z = true) (ws : List Jvm.Cond) (a : Addr) (el0 : Addr) (b : Addr) (kb : ClassId) (mr : Addr) (em : Addr) (h0 : Heap) (n0 : Nat) (Z0 : n0 ≤ h0.size) (A_a : Exa Z h0 a "java/util/ArrayList") (F_elementData_a : Fld Z h0 a "java/util/ArrayList" "elementData" "[Ljava/lang/Object;" (.ref b)) (F_size_a : Fld Z h0 a "java/util/ArrayList" "size" "I" (.int (1 : Int32))) (V_b : Arv Z h0 b kb (.object "java/lang/Object") (10 : Int32) [(.ref el0), .null, .null, .null, .null, .null, .null, .null, .null, .null] .null) (A_b : Exa Z h0 b "[Ljava/lang/Object;") (I_el0_5 : Ins Z h0 el0 "java/lang/Object" true) (hmr : Mir Z "[Ljava/lang/Object;" mr) (S_EMPTY : Sta Z h0 "java/util/ImmutableCollections" "EMPTY" "Ljava/lang/Object;" (.ref em)) :
    Met l Z mN35 prog_3_method_2_code 2 (some (.object "org/stripeward/scenario/Blocks")) ({ frames := 8, cells := 4, slots := 9, locals := 100 } : Room) ws #[(.ref a)] h0 (Q_rm_bsof1 Z a el0 b kb mr em h0 n0) := by
  refine own_met (plainFor_of_name own_pn15) ?_
  intro p e s m below meth c s₁ hret hx hby hlk hml hown hnm X0 e0 hZ hh
  have N0 := Fr.nil n0
  refine Gs (fun _ tk => castTop (own_ef_rm_bsof1 m a) tk) ?_
  have KP : Keep h0 h0 [] := Keep.refl _ _
  show Goes _ _ _ _ _ (s₁.setTop (mkF m 0 #[.val (.ref a), .unset] []))
  refine Gs (fun _ tk => XS.aloadN X0.here hx rfl (hb hby d32_0) rfl rfl tk) ?_
  obtain ⟨T1, X1, e1, st1⟩ := instNo X0 hx hZ hown (gw hw 97 rfl) e0 A_a (own_nsNo (gw hw 60 rfl) (own_nfI (gw hw 213 rfl)) (NS.step (gw hw 60 rfl) (NS.step (gw hw 61 rfl) (NS.step (gw hw 62 rfl) (own_nsRoot (gw hw 63 rfl) (own_nfI (gw hw 213 rfl)) (by decide)) (by decide)) (by decide)) (by decide)) (by decide)) (g := (mkF m 1 #[.val (.ref a), .unset] [(.ref a)])) rfl rfl (hb hby d32_1)
  refine Gs st1 ?_
  show Goes _ _ _ _ _ (T1.setTop (mkF m 4 #[.val (.ref a), .unset] [(.int (0 : Int32))]))
  refine Gs (fun _ tk => XS.ifYes X1.here hx rfl (pc0 := 4) (pc' := 14) rfl (hb hby d32_4) rfl ((if0 _ _).trans (teq (by decide : ((0 : Int32) = (0 : Int32)))).1) (by decide) (by decide) tk) ?_
  refine Gs (fun _ tk => XS.aloadN X1.here hx rfl (hb hby d32_14) rfl rfl tk) ?_
  obtain ⟨cq2, kq2, q2a, q2b, q2c⟩ := isOf hZ e1 A_a
  obtain ⟨_, _, ⟨T2, L2, k2, n2⟩, -, X2, ⟨Lc2, hQ2, l2, y2, z2⟩, st2⟩ := X1.interfaceBack hx (xi := mN34) (y := mN13) hown (mvT hZ (gw hw 98 rfl)) (mvT hZ (gw hw 99 rfl)) (mvT hZ (gw hw 100 rfl)) (mvT hZ (gw hw 101 rfl)) (mvT hZ (gw hw 69 rfl)) (mvT hZ (gw hw 70 rfl)) (mvT hZ (gw hw 71 rfl)) (mvT hZ (gw hw 102 rfl)) (by decide) (backOf (W := 0) (rm_emp1 l Z a0 hw [] a h0 n0 Z0 F_size_a) hZ (gw hw 73 rfl) (gw hw 22 rfl) (by decide) (by decide)) q2a q2b q2c (g := (mkF m 15 #[.val (.ref a), .unset] [(.ref a)])) rfl (by rw [hml]; rfl) (Steps.refl _) (argsL := []) (rest := []) (lenOf own_pd9 rfl) rfl (w0 (Nat.le_of_eq rfl)) (hb hby d32_15) (fun _ _ => ⟨rfl, e1, (by decide : 0 + 0 ≤ _), (by decide : 0 + 0 ≤ _)⟩)
  dsimp only [Pt.U, Pt.locs, Pt.cells, Pt.slots] at X2 l2 y2 z2 st2 hQ2
  subst l2 y2 z2
  obtain ⟨rfl, N2q, e2⟩ := hQ2
  have N2 := Fr.app N0 N2q
  refine Gs (fun _ tk => st2.trans tk) ?_
  show Goes _ _ _ _ _ (T2.setTop (mkF m 20 #[.val (.ref a), .unset] [(.int (0 : Int32))]))
  refine Gs (fun _ tk => XS.ifYes X2.here hx rfl (pc0 := 20) (pc' := 27) rfl (hb hby d32_20) rfl ((if0 _ _).trans (teq (by decide : ((0 : Int32) = (0 : Int32)))).1) (by decide) (by decide) tk) ?_
  refine Gs (fun _ tk => XS.aloadN X2.here hx rfl (hb hby d32_27) rfl rfl tk) ?_
  have ltc3_a : a < h0.size := A_a.lt
  have ltc3_b : b < h0.size := V_b.lt
  have szs3 : h0.size ≤ h0.size := KP.1
  obtain ⟨_, _, ⟨T3, L3, k3, n3⟩, -, X3, ⟨Lc3, hQ3, l3, y3, z3⟩, st3⟩ := Jvm.LawKit.callS X2 hx (y := mN23) hown (mvT hZ (gw hw 209 rfl)) (mvT hZ (gw hw 52 rfl)) (mvT hZ (gw hw 53 rfl)) (mvT hZ (gw hw 54 rfl)) (by decide) (backOf (W := 0) (rm_cpl1 l Z a0 hw [] a el0 b kb mr em h0 n0 Z0 A_a F_elementData_a F_size_a V_b A_b I_el0_5 (by first | assumption | decide) S_EMPTY) hZ (gw hw 54 rfl) (gw hw 53 rfl) (by decide) (by decide)) (g := (mkF m 28 #[.val (.ref a), .unset] [(.ref a)])) rfl (by rw [hml]; rfl) (argsL := [(.ref a)]) (rest := []) (lenOf own_pd11 rfl) rfl (w0 (Nat.le_of_eq rfl)) (hb hby d32_28) (fun _ _ => ⟨rfl, e2, (by decide : 0 + 2 ≤ _), (by decide : 0 + 3 ≤ _)⟩)
  dsimp only [Pt.U, Pt.locs, Pt.cells, Pt.slots] at X3 l3 y3 z3 st3 hQ3
  subst l3 y3 z3
  obtain ⟨u3, rfl, N3q, K3, A_u3_3', F_e0_u3_3', F_e1_u3_3', g_u3_3', sz_u3_3'⟩ := hQ3
  have N3 := Fr.app N2 N3q
  replace S_EMPTY := own_staK S_EMPTY K3 all0
  replace A_a := A_a.keep K3
  replace V_b := V_b.keep K3 nin0
  replace KP := KP.trans K3 all0
  replace Z0 := Nat.le_trans Z0 K3.1
  have A_u3 := A_u3_3'
  have F_e0_u3 := F_e0_u3_3'
  have F_e1_u3 := F_e1_u3_3'
  have g_u3 := g_u3_3'
  have szc_u3 := sz_u3_3'
  have ne_a_u3 : a ≠ u3 := Nat.ne_of_lt (Nat.lt_of_lt_of_le ltc3_a szc_u3)
  have ne_b_u3 : b ≠ u3 := Nat.ne_of_lt (Nat.lt_of_lt_of_le ltc3_b szc_u3)
  have sz_u3 : h0.size ≤ u3 := Nat.le_trans szs3 szc_u3
  refine Gs st3 ?_
  show Goes _ _ _ _ _ (T3.setTop (mkF m 31 #[.val (.ref a), .unset] [(.ref u3)]))
  refine Gs (fun _ tk => XS.astoreN X3.here hx rfl (hb hby d32_31) rfl rfl (l' := #[.val (.ref a), .val (.ref u3)]) rfl tk) ?_
  obtain ⟨T4, h4, X4, e4, E4, A4, D4, -, st4⟩ := newO X3 hx hZ hown (gw hw 97 rfl) (gw hw 213 rfl) (gw hw 95 rfl) rfl (g := (mkF m 32 #[.val (.ref a), .val (.ref u3)] [])) rfl (hb hby d32_32) (by decide) (by decide)
  obtain ⟨b4, gq4⟩ : ∃ z, z = T3.heap.size := ⟨_, rfl⟩
  rw [← gq4] at A4 st4 D4
  have g_b4 : n0 ≤ b4 := by rw [gq4]; exact Z0
  have sz_b4 : h0.size ≤ b4 := by rw [gq4]; exact KP.1
  have ne_a_b4 : a ≠ b4 := by rw [gq4]; exact Nat.ne_of_lt A_a.lt
  have ne_b_b4 : b ≠ b4 := by rw [gq4]; exact Nat.ne_of_lt V_b.lt
  have ne_u3_b4 : u3 ≠ b4 := by rw [gq4]; exact Nat.ne_of_lt A_u3.lt
  replace A_a := A_a.ext E4
  replace V_b := V_b.ext E4
  replace S_EMPTY := S_EMPTY.ext E4
  replace A_u3 := A_u3.ext E4
  replace F_e0_u3 := F_e0_u3.ext E4
  replace F_e1_u3 := F_e1_u3.ext E4
  replace KP := KP.ext E4
  replace Z0 : n0 ≤ h4.size := Nat.le_trans Z0 E4.1
  have A_b4 : Exa Z h4 b4 "org/stripeward/scenario/Blocks" := A4
  have F_size_b4 : Fld Z h4 b4 "org/stripeward/scenario/Blocks" "size" "I" (.int (0 : Int32)) := D4 (Or.inr (gw hw 111 rfl)) (ty := .int) (by decide)
  have F_modCount_b4 : Fld Z h4 b4 "java/util/AbstractList" "modCount" "I" (.int (0 : Int32)) := D4 (Or.inl (gw hw 237 rfl)) (ty := .int) (by decide)
  have F_source_b4 : Fld Z h4 b4 "org/stripeward/scenario/Blocks" "source" "Lorg/stripeward/scenario/Blocks$Source;" .null := D4 (Or.inr (gw hw 239 rfl)) (ty := (.object "org/stripeward/scenario/Blocks$Source")) (by decide)
  have F_places_b4 : Fld Z h4 b4 "org/stripeward/scenario/Blocks" "places" "[I" .null := D4 (Or.inr (gw hw 241 rfl)) (ty := (.array .int)) (by decide)
  have F_first_b4 : Fld Z h4 b4 "org/stripeward/scenario/Blocks" "first" "I" (.int (0 : Int32)) := D4 (Or.inr (gw hw 243 rfl)) (ty := .int) (by decide)
  refine Gs st4 ?_
  show Goes _ _ _ _ _ (T4.setTop (mkF m 35 #[.val (.ref a), .val (.ref u3)] [(.ref b4)]))
  refine Gs (fun _ tk => XS.dup X4.here hx rfl (hb hby d32_35) rfl rfl tk) ?_
  obtain ⟨T5, h5, X5, e5, E5, A5, D5, -, st5⟩ := newO X4 hx hZ hown (gw hw 214 rfl) (gw hw 215 rfl) (gw hw 216 rfl) e4 (g := (mkF m 36 #[.val (.ref a), .val (.ref u3)] [(.ref b4), (.ref b4)])) rfl (hb hby d32_36) (by decide) (by decide)
  obtain ⟨b5, gq5⟩ : ∃ z, z = h4.size := ⟨_, rfl⟩
  rw [← gq5] at A5 st5 D5
  have g_b5 : n0 ≤ b5 := by rw [gq5]; exact Z0
  have sz_b5 : h0.size ≤ b5 := by rw [gq5]; exact KP.1
  have ne_a_b5 : a ≠ b5 := by rw [gq5]; exact Nat.ne_of_lt A_a.lt
  have ne_b_b5 : b ≠ b5 := by rw [gq5]; exact Nat.ne_of_lt V_b.lt
  have ne_u3_b5 : u3 ≠ b5 := by rw [gq5]; exact Nat.ne_of_lt A_u3.lt
  have ne_b4_b5 : b4 ≠ b5 := by rw [gq5]; exact Nat.ne_of_lt A_b4.lt
  replace S_EMPTY := S_EMPTY.ext E5
  replace A_u3 := A_u3.ext E5
  replace F_e0_u3 := F_e0_u3.ext E5
  replace F_e1_u3 := F_e1_u3.ext E5
  replace A_b4 := A_b4.ext E5
  replace F_size_b4 := F_size_b4.ext E5
  replace F_modCount_b4 := F_modCount_b4.ext E5
  replace F_source_b4 := F_source_b4.ext E5
  replace F_places_b4 := F_places_b4.ext E5
  replace F_first_b4 := F_first_b4.ext E5
  replace KP := KP.ext E5
  replace Z0 : n0 ≤ h5.size := Nat.le_trans Z0 E5.1
  have A_b5 : Exa Z h5 b5 "org/stripeward/scenario/Blocks$Records" := A5
  have F_records_b5 : Fld Z h5 b5 "org/stripeward/scenario/Blocks$Records" "records" "Ljava/util/List;" .null := D5 (Or.inr (gw hw 222 rfl)) (ty := (.object "java/util/List")) (by decide)
  refine Gs st5 ?_
  show Goes _ _ _ _ _ (T5.setTop (mkF m 39 #[.val (.ref a), .val (.ref u3)] [(.ref b5), (.ref b4), (.ref b4)]))
  refine Gs (fun _ tk => XS.dup X5.here hx rfl (hb hby d32_39) rfl rfl tk) ?_
  refine Gs (fun _ tk => XS.aloadN X5.here hx rfl (hb hby d32_40) rfl rfl tk) ?_
  obtain ⟨_, _, ⟨T6, L6, k6, n6⟩, -, X6, ⟨Lc6, hQ6, l6, y6, z6⟩, st6⟩ := X5.specialBack hx (y := mN32) rfl hown (mvT hZ (gw hw 217 rfl)) (mvT hZ (gw hw 218 rfl)) (mvT hZ (gw hw 219 rfl)) (by decide) (backOf (W := 3) (rm_rci l Z a0 hw [] b5 u3 h5 n0 Z0 A_b5 F_records_b5 g_b5) hZ (gw hw 219 rfl) (gw hw 216 rfl) (by decide) (by decide)) (g := (mkF m 41 #[.val (.ref a), .val (.ref u3)] [(.ref u3), (.ref b5), (.ref b5), (.ref b4), (.ref b4)])) rfl (by rw [hml]; rfl) (Steps.refl _) (a := b5) (argsL := [(.ref u3)]) (rest := [(.ref b5), (.ref b4), (.ref b4)]) (lenOf own_pd14 rfl) rfl (w0 (Nat.le_of_eq rfl)) (hb hby d32_41) (fun _ _ => ⟨rfl, e5, (by decide : 4 + 0 ≤ _), (by decide : 9 + 0 ≤ _)⟩)
  dsimp only [Pt.U, Pt.locs, Pt.cells, Pt.slots] at X6 l6 y6 z6 st6 hQ6
  subst l6 y6 z6
  obtain ⟨rfl, N6q, K6, F_records_b5_6'⟩ := hQ6
  have N6 := Fr.app N3 N6q
  replace S_EMPTY := own_staK S_EMPTY K6 (allS (own_obE A_b5) all0)
  replace A_u3 := A_u3.keep K6
  replace F_e0_u3 := F_e0_u3.keep K6 (ninS ne_u3_b5 nin0)
  replace F_e1_u3 := F_e1_u3.keep K6 (ninS ne_u3_b5 nin0)
  replace A_b4 := A_b4.keep K6
  replace F_size_b4 := F_size_b4.keep K6 (ninS ne_b4_b5 nin0)
  replace F_modCount_b4 := F_modCount_b4.keep K6 (ninS ne_b4_b5 nin0)
  replace F_source_b4 := F_source_b4.keep K6 (ninS ne_b4_b5 nin0)
  replace F_places_b4 := F_places_b4.keep K6 (ninS ne_b4_b5 nin0)
  replace F_first_b4 := F_first_b4.keep K6 (ninS ne_b4_b5 nin0)
  replace A_b5 := A_b5.keep K6
  replace KP := KP.trans K6 (allS (Or.inr sz_b5) all0)
  replace Z0 := Nat.le_trans Z0 K6.1
  have F_records_b5 := F_records_b5_6'
  refine Gs (fun _ tk => st6.trans tk) ?_
  show Goes _ _ _ _ _ (T6.setTop (mkF m 44 #[.val (.ref a), .val (.ref u3)] [(.ref b5), (.ref b4), (.ref b4)]))
  refine Gs (fun _ tk => XS.aconstNull X6.here hx rfl (hb hby d32_44) tk) ?_
  refine Gs (fun _ tk => XS.iconst X6.here hx rfl (hb hby d32_45) tk) ?_
  refine Gs (fun _ tk => XS.aloadN X6.here hx rfl (hb hby d32_46) rfl rfl tk) ?_
  obtain ⟨cq7, kq7, q7a, q7b, q7c⟩ := isOf hZ rfl A_u3
  obtain ⟨_, _, ⟨T7, L7, k7, n7⟩, -, X7, ⟨Lc7, hQ7, l7, y7, z7⟩, st7⟩ := X6.interfaceBack hx (xi := mN36) (y := mN29) hown (mvT hZ (gw hw 223 rfl)) (mvT hZ (gw hw 224 rfl)) (mvT hZ (gw hw 225 rfl)) (mvT hZ (gw hw 226 rfl)) (mvT hZ (gw hw 227 rfl)) (mvT hZ (gw hw 228 rfl)) (mvT hZ (gw hw 229 rfl)) (mvT hZ (gw hw 230 rfl)) (by decide) (backOf (W := 5) (rm_lsz1 l Z a0 hw [] u3 em T6.heap n0 Z0 F_e1_u3 S_EMPTY) hZ (gw hw 231 rfl) (gw hw 180 rfl) (by decide) (by decide)) q7a q7b q7c (g := (mkF m 47 #[.val (.ref a), .val (.ref u3)] [(.ref u3), (.int (0 : Int32)), .null, (.ref b5), (.ref b4), (.ref b4)])) rfl (by rw [hml]; rfl) (Steps.refl _) (argsL := []) (rest := [(.int (0 : Int32)), .null, (.ref b5), (.ref b4), (.ref b4)]) (lenOf own_pd15 rfl) rfl (w0 (Nat.le_of_eq rfl)) (hb hby d32_47) (fun _ _ => ⟨rfl, rfl, (by decide : 4 + 0 ≤ _), (by decide : 9 + 0 ≤ _)⟩)
  dsimp only [Pt.U, Pt.locs, Pt.cells, Pt.slots] at X7 l7 y7 z7 st7 hQ7
  subst l7 y7 z7
  obtain ⟨rfl, N7q, e7⟩ := hQ7
  have N7 := Fr.app N6 N7q
  refine Gs (fun _ tk => st7.trans tk) ?_
  show Goes _ _ _ _ _ (T7.setTop (mkF m 52 #[.val (.ref a), .val (.ref u3)] [(.int (1 : Int32)), (.int (0 : Int32)), .null, (.ref b5), (.ref b4), (.ref b4)]))
  obtain ⟨_, _, ⟨T8, L8, k8, n8⟩, -, X8, ⟨Lc8, hQ8, l8, y8, z8⟩, st8⟩ := X7.specialBack hx (y := mN33) rfl hown (mvT hZ (gw hw 232 rfl)) (mvT hZ (gw hw 233 rfl)) (mvT hZ (gw hw 234 rfl)) (by decide) (backOf (W := 1) (rm_bsi l Z a0 hw [] b4 b5 (1 : Int32) T6.heap n0 Z0 A_b4 F_modCount_b4 F_source_b4 F_places_b4 F_first_b4 F_size_b4 g_b4) hZ (gw hw 234 rfl) (gw hw 95 rfl) (by decide) (by decide)) (g := (mkF m 52 #[.val (.ref a), .val (.ref u3)] [(.int (1 : Int32)), (.int (0 : Int32)), .null, (.ref b5), (.ref b4), (.ref b4)])) rfl (by rw [hml]; rfl) (Steps.refl _) (a := b4) (argsL := [(.ref b5), .null, (.int (0 : Int32)), (.int (1 : Int32))]) (rest := [(.ref b4)]) (lenOf own_pd16 rfl) rfl (w0 (Nat.le_of_eq rfl)) (hb hby d32_52) (fun _ _ => ⟨rfl, e7, (by decide : 4 + 0 ≤ _), (by decide : 9 + 0 ≤ _)⟩)
  dsimp only [Pt.U, Pt.locs, Pt.cells, Pt.slots] at X8 l8 y8 z8 st8 hQ8
  subst l8 y8 z8
  obtain ⟨rfl, N8q, K8, F_source_b4_8', F_places_b4_8', F_first_b4_8', F_size_b4_8'⟩ := hQ8
  have N8 := Fr.app N7 N8q
  replace A_u3 := A_u3.keep K8
  replace F_e0_u3 := F_e0_u3.keep K8 (ninS ne_u3_b4 nin0)
  replace F_e1_u3 := F_e1_u3.keep K8 (ninS ne_u3_b4 nin0)
  replace A_b4 := A_b4.keep K8
  replace A_b5 := A_b5.keep K8
  replace F_records_b5 := F_records_b5.keep K8 (ninS (Ne.symm ne_b4_b5) nin0)
  replace KP := KP.trans K8 (allS (Or.inr sz_b4) all0)
  replace Z0 := Nat.le_trans Z0 K8.1
  have F_source_b4 := F_source_b4_8'
  have F_places_b4 := F_places_b4_8'
  have F_first_b4 := F_first_b4_8'
  have F_size_b4 := F_size_b4_8'
  refine Gs (fun _ tk => st8.trans tk) ?_
  show Goes _ _ _ _ _ (T8.setTop (mkF m 55 #[.val (.ref a), .val (.ref u3)] [(.ref b4)]))
  refine Goes.ret X8 (some (.ref b4)) (fun h => by rw [hret] at h; cases h) hlk (by decide) (by decide) ?_ (fun fs hr => ?_)
  · exact ⟨b4, b5, u3, rfl, N8, KP, A_b4, F_source_b4, F_places_b4, F_first_b4, F_size_b4, A_b5, F_records_b5, A_u3, F_e0_u3, F_e1_u3, g_b4, sz_b4, sz_b5, sz_u3⟩
  · exact own_retA X8 hx hret rfl rfl (hb hby d32_55) hr
theorem own_ef_rm_bsof2 (m : MethodId) (x0 : Addr) : entryFrame m #[(.ref x0)] 2 = mkF m 0 #[.val (.ref x0), .unset] [] := by first | (simp [entryFrame, mkF, argsToLocals, Value.category]; done) | rfl
def Q_rm_bsof2 (Z : State) (a : Addr) (el0 : Addr) (el1 : Addr) (b : Addr) (kb : ClassId) (mr : Addr) (em : Addr) (h0 : Heap) (n0 : Nat) (v : Option Value) (h : Heap) (L : List Loc) : Prop := ∃ bo : Addr, ∃ ro : Addr, ∃ u : Addr, v = some (.ref bo) ∧ Fr n0 L ∧ Keep h0 h [] ∧ Exa Z h bo "org/stripeward/scenario/Blocks" ∧ Fld Z h bo "org/stripeward/scenario/Blocks" "source" "Lorg/stripeward/scenario/Blocks$Source;" (.ref ro) ∧ Fld Z h bo "org/stripeward/scenario/Blocks" "places" "[I" .null ∧ Fld Z h bo "org/stripeward/scenario/Blocks" "first" "I" (.int (0 : Int32)) ∧ Fld Z h bo "org/stripeward/scenario/Blocks" "size" "I" (.int (2 : Int32)) ∧ Exa Z h ro "org/stripeward/scenario/Blocks$Records" ∧ Fld Z h ro "org/stripeward/scenario/Blocks$Records" "records" "Ljava/util/List;" (.ref u) ∧ Exa Z h u "java/util/ImmutableCollections$List12" ∧ Fld Z h u "java/util/ImmutableCollections$List12" "e0" "Ljava/lang/Object;" (.ref el0) ∧ Fld Z h u "java/util/ImmutableCollections$List12" "e1" "Ljava/lang/Object;" (.ref el1) ∧ n0 ≤ bo ∧ h0.size ≤ bo ∧ h0.size ≤ ro ∧ h0.size ≤ u
set_option maxRecDepth 65536 in
set_option maxHeartbeats 40000000 in
theorem rm_bsof2 (l : Launch) (Z : State) (a0 : Array Value) (hw : ∀ d ∈ tables_1, d.before a0 Z = true) (ws : List Jvm.Cond) (a : Addr) (el0 : Addr) (el1 : Addr) (b : Addr) (kb : ClassId) (mr : Addr) (em : Addr) (h0 : Heap) (n0 : Nat) (Z0 : n0 ≤ h0.size) (A_a : Exa Z h0 a "java/util/ArrayList") (F_elementData_a : Fld Z h0 a "java/util/ArrayList" "elementData" "[Ljava/lang/Object;" (.ref b)) (F_size_a : Fld Z h0 a "java/util/ArrayList" "size" "I" (.int (2 : Int32))) (V_b : Arv Z h0 b kb (.object "java/lang/Object") (10 : Int32) [(.ref el0), (.ref el1), .null, .null, .null, .null, .null, .null, .null, .null] .null) (A_b : Exa Z h0 b "[Ljava/lang/Object;") (I_el0_5 : Ins Z h0 el0 "java/lang/Object" true) (I_el1_6 : Ins Z h0 el1 "java/lang/Object" true) (hmr : Mir Z "[Ljava/lang/Object;" mr) (S_EMPTY : Sta Z h0 "java/util/ImmutableCollections" "EMPTY" "Ljava/lang/Object;" (.ref em)) (ne_el1_em : el1 ≠ em) :
    Met l Z mN35 prog_3_method_2_code 2 (some (.object "org/stripeward/scenario/Blocks")) ({ frames := 8, cells := 4, slots := 10, locals := 101 } : Room) ws #[(.ref a)] h0 (Q_rm_bsof2 Z a el0 el1 b kb mr em h0 n0) := by
  refine own_met (plainFor_of_name own_pn15) ?_
  intro p e s m below meth c s₁ hret hx hby hlk hml hown hnm X0 e0 hZ hh
  have N0 := Fr.nil n0
  refine Gs (fun _ tk => castTop (own_ef_rm_bsof2 m a) tk) ?_
  have KP : Keep h0 h0 [] := Keep.refl _ _
  show Goes _ _ _ _ _ (s₁.setTop (mkF m 0 #[.val (.ref a), .unset] []))
  refine Gs (fun _ tk => XS.aloadN X0.here hx rfl (hb hby d32_0) rfl rfl tk) ?_
  obtain ⟨T1, X1, e1, st1⟩ := instNo X0 hx hZ hown (gw hw 97 rfl) e0 A_a (own_nsNo (gw hw 60 rfl) (own_nfI (gw hw 213 rfl)) (NS.step (gw hw 60 rfl) (NS.step (gw hw 61 rfl) (NS.step (gw hw 62 rfl) (own_nsRoot (gw hw 63 rfl) (own_nfI (gw hw 213 rfl)) (by decide)) (by decide)) (by decide)) (by decide)) (by decide)) (g := (mkF m 1 #[.val (.ref a), .unset] [(.ref a)])) rfl rfl (hb hby d32_1)
  refine Gs st1 ?_
  show Goes _ _ _ _ _ (T1.setTop (mkF m 4 #[.val (.ref a), .unset] [(.int (0 : Int32))]))
  refine Gs (fun _ tk => XS.ifYes X1.here hx rfl (pc0 := 4) (pc' := 14) rfl (hb hby d32_4) rfl ((if0 _ _).trans (teq (by decide : ((0 : Int32) = (0 : Int32)))).1) (by decide) (by decide) tk) ?_
  refine Gs (fun _ tk => XS.aloadN X1.here hx rfl (hb hby d32_14) rfl rfl tk) ?_
  obtain ⟨cq2, kq2, q2a, q2b, q2c⟩ := isOf hZ e1 A_a
  obtain ⟨_, _, ⟨T2, L2, k2, n2⟩, -, X2, ⟨Lc2, hQ2, l2, y2, z2⟩, st2⟩ := X1.interfaceBack hx (xi := mN34) (y := mN13) hown (mvT hZ (gw hw 98 rfl)) (mvT hZ (gw hw 99 rfl)) (mvT hZ (gw hw 100 rfl)) (mvT hZ (gw hw 101 rfl)) (mvT hZ (gw hw 69 rfl)) (mvT hZ (gw hw 70 rfl)) (mvT hZ (gw hw 71 rfl)) (mvT hZ (gw hw 102 rfl)) (by decide) (backOf (W := 0) (rm_emp2 l Z a0 hw [] a h0 n0 Z0 F_size_a) hZ (gw hw 73 rfl) (gw hw 22 rfl) (by decide) (by decide)) q2a q2b q2c (g := (mkF m 15 #[.val (.ref a), .unset] [(.ref a)])) rfl (by rw [hml]; rfl) (Steps.refl _) (argsL := []) (rest := []) (lenOf own_pd9 rfl) rfl (w0 (Nat.le_of_eq rfl)) (hb hby d32_15) (fun _ _ => ⟨rfl, e1, (by decide : 0 + 0 ≤ _), (by decide : 0 + 0 ≤ _)⟩)
  dsimp only [Pt.U, Pt.locs, Pt.cells, Pt.slots] at X2 l2 y2 z2 st2 hQ2
  subst l2 y2 z2
  obtain ⟨rfl, N2q, e2⟩ := hQ2
  have N2 := Fr.app N0 N2q
  refine Gs (fun _ tk => st2.trans tk) ?_
  show Goes _ _ _ _ _ (T2.setTop (mkF m 20 #[.val (.ref a), .unset] [(.int (0 : Int32))]))
  refine Gs (fun _ tk => XS.ifYes X2.here hx rfl (pc0 := 20) (pc' := 27) rfl (hb hby d32_20) rfl ((if0 _ _).trans (teq (by decide : ((0 : Int32) = (0 : Int32)))).1) (by decide) (by decide) tk) ?_
  refine Gs (fun _ tk => XS.aloadN X2.here hx rfl (hb hby d32_27) rfl rfl tk) ?_
  have ltc3_a : a < h0.size := A_a.lt
  have ltc3_b : b < h0.size := V_b.lt
  have szs3 : h0.size ≤ h0.size := KP.1
  obtain ⟨_, _, ⟨T3, L3, k3, n3⟩, -, X3, ⟨Lc3, hQ3, l3, y3, z3⟩, st3⟩ := Jvm.LawKit.callS X2 hx (y := mN23) hown (mvT hZ (gw hw 209 rfl)) (mvT hZ (gw hw 52 rfl)) (mvT hZ (gw hw 53 rfl)) (mvT hZ (gw hw 54 rfl)) (by decide) (backOf (W := 0) (rm_cpl2 l Z a0 hw [] a el0 el1 b kb mr h0 n0 Z0 A_a F_elementData_a F_size_a V_b A_b I_el0_5 I_el1_6 (by first | assumption | decide)) hZ (gw hw 54 rfl) (gw hw 53 rfl) (by decide) (by decide)) (g := (mkF m 28 #[.val (.ref a), .unset] [(.ref a)])) rfl (by rw [hml]; rfl) (argsL := [(.ref a)]) (rest := []) (lenOf own_pd11 rfl) rfl (w0 (Nat.le_of_eq rfl)) (hb hby d32_28) (fun _ _ => ⟨rfl, e2, (by decide : 0 + 2 ≤ _), (by decide : 0 + 4 ≤ _)⟩)
  dsimp only [Pt.U, Pt.locs, Pt.cells, Pt.slots] at X3 l3 y3 z3 st3 hQ3
  subst l3 y3 z3
  obtain ⟨u3, rfl, N3q, K3, A_u3_3', F_e0_u3_3', F_e1_u3_3', g_u3_3', sz_u3_3'⟩ := hQ3
  have N3 := Fr.app N2 N3q
  replace S_EMPTY := own_staK S_EMPTY K3 all0
  replace A_a := A_a.keep K3
  replace V_b := V_b.keep K3 nin0
  replace KP := KP.trans K3 all0
  replace Z0 := Nat.le_trans Z0 K3.1
  have A_u3 := A_u3_3'
  have F_e0_u3 := F_e0_u3_3'
  have F_e1_u3 := F_e1_u3_3'
  have g_u3 := g_u3_3'
  have szc_u3 := sz_u3_3'
  have ne_a_u3 : a ≠ u3 := Nat.ne_of_lt (Nat.lt_of_lt_of_le ltc3_a szc_u3)
  have ne_b_u3 : b ≠ u3 := Nat.ne_of_lt (Nat.lt_of_lt_of_le ltc3_b szc_u3)
  have sz_u3 : h0.size ≤ u3 := Nat.le_trans szs3 szc_u3
  refine Gs st3 ?_
  show Goes _ _ _ _ _ (T3.setTop (mkF m 31 #[.val (.ref a), .unset] [(.ref u3)]))
  refine Gs (fun _ tk => XS.astoreN X3.here hx rfl (hb hby d32_31) rfl rfl (l' := #[.val (.ref a), .val (.ref u3)]) rfl tk) ?_
  obtain ⟨T4, h4, X4, e4, E4, A4, D4, -, st4⟩ := newO X3 hx hZ hown (gw hw 97 rfl) (gw hw 213 rfl) (gw hw 95 rfl) rfl (g := (mkF m 32 #[.val (.ref a), .val (.ref u3)] [])) rfl (hb hby d32_32) (by decide) (by decide)
  obtain ⟨b4, gq4⟩ : ∃ z, z = T3.heap.size := ⟨_, rfl⟩
  rw [← gq4] at A4 st4 D4
  have g_b4 : n0 ≤ b4 := by rw [gq4]; exact Z0
  have sz_b4 : h0.size ≤ b4 := by rw [gq4]; exact KP.1
  have ne_a_b4 : a ≠ b4 := by rw [gq4]; exact Nat.ne_of_lt A_a.lt
  have ne_b_b4 : b ≠ b4 := by rw [gq4]; exact Nat.ne_of_lt V_b.lt
  have ne_u3_b4 : u3 ≠ b4 := by rw [gq4]; exact Nat.ne_of_lt A_u3.lt
  replace A_a := A_a.ext E4
  replace V_b := V_b.ext E4
  replace S_EMPTY := S_EMPTY.ext E4
  replace A_u3 := A_u3.ext E4
  replace F_e0_u3 := F_e0_u3.ext E4
  replace F_e1_u3 := F_e1_u3.ext E4
  replace KP := KP.ext E4
  replace Z0 : n0 ≤ h4.size := Nat.le_trans Z0 E4.1
  have A_b4 : Exa Z h4 b4 "org/stripeward/scenario/Blocks" := A4
  have F_size_b4 : Fld Z h4 b4 "org/stripeward/scenario/Blocks" "size" "I" (.int (0 : Int32)) := D4 (Or.inr (gw hw 111 rfl)) (ty := .int) (by decide)
  have F_modCount_b4 : Fld Z h4 b4 "java/util/AbstractList" "modCount" "I" (.int (0 : Int32)) := D4 (Or.inl (gw hw 237 rfl)) (ty := .int) (by decide)
  have F_source_b4 : Fld Z h4 b4 "org/stripeward/scenario/Blocks" "source" "Lorg/stripeward/scenario/Blocks$Source;" .null := D4 (Or.inr (gw hw 239 rfl)) (ty := (.object "org/stripeward/scenario/Blocks$Source")) (by decide)
  have F_places_b4 : Fld Z h4 b4 "org/stripeward/scenario/Blocks" "places" "[I" .null := D4 (Or.inr (gw hw 241 rfl)) (ty := (.array .int)) (by decide)
  have F_first_b4 : Fld Z h4 b4 "org/stripeward/scenario/Blocks" "first" "I" (.int (0 : Int32)) := D4 (Or.inr (gw hw 243 rfl)) (ty := .int) (by decide)
  refine Gs st4 ?_
  show Goes _ _ _ _ _ (T4.setTop (mkF m 35 #[.val (.ref a), .val (.ref u3)] [(.ref b4)]))
  refine Gs (fun _ tk => XS.dup X4.here hx rfl (hb hby d32_35) rfl rfl tk) ?_
  obtain ⟨T5, h5, X5, e5, E5, A5, D5, -, st5⟩ := newO X4 hx hZ hown (gw hw 214 rfl) (gw hw 215 rfl) (gw hw 216 rfl) e4 (g := (mkF m 36 #[.val (.ref a), .val (.ref u3)] [(.ref b4), (.ref b4)])) rfl (hb hby d32_36) (by decide) (by decide)
  obtain ⟨b5, gq5⟩ : ∃ z, z = h4.size := ⟨_, rfl⟩
  rw [← gq5] at A5 st5 D5
  have g_b5 : n0 ≤ b5 := by rw [gq5]; exact Z0
  have sz_b5 : h0.size ≤ b5 := by rw [gq5]; exact KP.1
  have ne_a_b5 : a ≠ b5 := by rw [gq5]; exact Nat.ne_of_lt A_a.lt
  have ne_b_b5 : b ≠ b5 := by rw [gq5]; exact Nat.ne_of_lt V_b.lt
  have ne_u3_b5 : u3 ≠ b5 := by rw [gq5]; exact Nat.ne_of_lt A_u3.lt
  have ne_b4_b5 : b4 ≠ b5 := by rw [gq5]; exact Nat.ne_of_lt A_b4.lt
  replace S_EMPTY := S_EMPTY.ext E5
  replace A_u3 := A_u3.ext E5
  replace F_e0_u3 := F_e0_u3.ext E5
  replace F_e1_u3 := F_e1_u3.ext E5
  replace A_b4 := A_b4.ext E5
  replace F_size_b4 := F_size_b4.ext E5
  replace F_modCount_b4 := F_modCount_b4.ext E5
  replace F_source_b4 := F_source_b4.ext E5
  replace F_places_b4 := F_places_b4.ext E5
  replace F_first_b4 := F_first_b4.ext E5
  replace KP := KP.ext E5
  replace Z0 : n0 ≤ h5.size := Nat.le_trans Z0 E5.1
  have A_b5 : Exa Z h5 b5 "org/stripeward/scenario/Blocks$Records" := A5
  have F_records_b5 : Fld Z h5 b5 "org/stripeward/scenario/Blocks$Records" "records" "Ljava/util/List;" .null := D5 (Or.inr (gw hw 222 rfl)) (ty := (.object "java/util/List")) (by decide)
  refine Gs st5 ?_
  show Goes _ _ _ _ _ (T5.setTop (mkF m 39 #[.val (.ref a), .val (.ref u3)] [(.ref b5), (.ref b4), (.ref b4)]))
  refine Gs (fun _ tk => XS.dup X5.here hx rfl (hb hby d32_39) rfl rfl tk) ?_
  refine Gs (fun _ tk => XS.aloadN X5.here hx rfl (hb hby d32_40) rfl rfl tk) ?_
  obtain ⟨_, _, ⟨T6, L6, k6, n6⟩, -, X6, ⟨Lc6, hQ6, l6, y6, z6⟩, st6⟩ := X5.specialBack hx (y := mN32) rfl hown (mvT hZ (gw hw 217 rfl)) (mvT hZ (gw hw 218 rfl)) (mvT hZ (gw hw 219 rfl)) (by decide) (backOf (W := 3) (rm_rci l Z a0 hw [] b5 u3 h5 n0 Z0 A_b5 F_records_b5 g_b5) hZ (gw hw 219 rfl) (gw hw 216 rfl) (by decide) (by decide)) (g := (mkF m 41 #[.val (.ref a), .val (.ref u3)] [(.ref u3), (.ref b5), (.ref b5), (.ref b4), (.ref b4)])) rfl (by rw [hml]; rfl) (Steps.refl _) (a := b5) (argsL := [(.ref u3)]) (rest := [(.ref b5), (.ref b4), (.ref b4)]) (lenOf own_pd14 rfl) rfl (w0 (Nat.le_of_eq rfl)) (hb hby d32_41) (fun _ _ => ⟨rfl, e5, (by decide : 4 + 0 ≤ _), (by decide : 10 + 0 ≤ _)⟩)
  dsimp only [Pt.U, Pt.locs, Pt.cells, Pt.slots] at X6 l6 y6 z6 st6 hQ6
  subst l6 y6 z6
  obtain ⟨rfl, N6q, K6, F_records_b5_6'⟩ := hQ6
  have N6 := Fr.app N3 N6q
  replace S_EMPTY := own_staK S_EMPTY K6 (allS (own_obE A_b5) all0)
  replace A_u3 := A_u3.keep K6
  replace F_e0_u3 := F_e0_u3.keep K6 (ninS ne_u3_b5 nin0)
  replace F_e1_u3 := F_e1_u3.keep K6 (ninS ne_u3_b5 nin0)
  replace A_b4 := A_b4.keep K6
  replace F_size_b4 := F_size_b4.keep K6 (ninS ne_b4_b5 nin0)
  replace F_modCount_b4 := F_modCount_b4.keep K6 (ninS ne_b4_b5 nin0)
  replace F_source_b4 := F_source_b4.keep K6 (ninS ne_b4_b5 nin0)
  replace F_places_b4 := F_places_b4.keep K6 (ninS ne_b4_b5 nin0)
  replace F_first_b4 := F_first_b4.keep K6 (ninS ne_b4_b5 nin0)
  replace A_b5 := A_b5.keep K6
  replace KP := KP.trans K6 (allS (Or.inr sz_b5) all0)
  replace Z0 := Nat.le_trans Z0 K6.1
  have F_records_b5 := F_records_b5_6'
  refine Gs (fun _ tk => st6.trans tk) ?_
  show Goes _ _ _ _ _ (T6.setTop (mkF m 44 #[.val (.ref a), .val (.ref u3)] [(.ref b5), (.ref b4), (.ref b4)]))
  refine Gs (fun _ tk => XS.aconstNull X6.here hx rfl (hb hby d32_44) tk) ?_
  refine Gs (fun _ tk => XS.iconst X6.here hx rfl (hb hby d32_45) tk) ?_
  refine Gs (fun _ tk => XS.aloadN X6.here hx rfl (hb hby d32_46) rfl rfl tk) ?_
  obtain ⟨cq7, kq7, q7a, q7b, q7c⟩ := isOf hZ rfl A_u3
  obtain ⟨_, _, ⟨T7, L7, k7, n7⟩, -, X7, ⟨Lc7, hQ7, l7, y7, z7⟩, st7⟩ := X6.interfaceBack hx (xi := mN36) (y := mN29) hown (mvT hZ (gw hw 223 rfl)) (mvT hZ (gw hw 224 rfl)) (mvT hZ (gw hw 225 rfl)) (mvT hZ (gw hw 226 rfl)) (mvT hZ (gw hw 227 rfl)) (mvT hZ (gw hw 228 rfl)) (mvT hZ (gw hw 229 rfl)) (mvT hZ (gw hw 230 rfl)) (by decide) (backOf (W := 5) (rm_lsz2 l Z a0 hw [] u3 em el1 T6.heap n0 Z0 F_e1_u3 S_EMPTY ne_el1_em) hZ (gw hw 231 rfl) (gw hw 180 rfl) (by decide) (by decide)) q7a q7b q7c (g := (mkF m 47 #[.val (.ref a), .val (.ref u3)] [(.ref u3), (.int (0 : Int32)), .null, (.ref b5), (.ref b4), (.ref b4)])) rfl (by rw [hml]; rfl) (Steps.refl _) (argsL := []) (rest := [(.int (0 : Int32)), .null, (.ref b5), (.ref b4), (.ref b4)]) (lenOf own_pd15 rfl) rfl (w0 (Nat.le_of_eq rfl)) (hb hby d32_47) (fun _ _ => ⟨rfl, rfl, (by decide : 4 + 0 ≤ _), (by decide : 10 + 0 ≤ _)⟩)
  dsimp only [Pt.U, Pt.locs, Pt.cells, Pt.slots] at X7 l7 y7 z7 st7 hQ7
  subst l7 y7 z7
  obtain ⟨rfl, N7q, e7⟩ := hQ7
  have N7 := Fr.app N6 N7q
  refine Gs (fun _ tk => st7.trans tk) ?_
  show Goes _ _ _ _ _ (T7.setTop (mkF m 52 #[.val (.ref a), .val (.ref u3)] [(.int (2 : Int32)), (.int (0 : Int32)), .null, (.ref b5), (.ref b4), (.ref b4)]))
  obtain ⟨_, _, ⟨T8, L8, k8, n8⟩, -, X8, ⟨Lc8, hQ8, l8, y8, z8⟩, st8⟩ := X7.specialBack hx (y := mN33) rfl hown (mvT hZ (gw hw 232 rfl)) (mvT hZ (gw hw 233 rfl)) (mvT hZ (gw hw 234 rfl)) (by decide) (backOf (W := 1) (rm_bsi l Z a0 hw [] b4 b5 (2 : Int32) T6.heap n0 Z0 A_b4 F_modCount_b4 F_source_b4 F_places_b4 F_first_b4 F_size_b4 g_b4) hZ (gw hw 234 rfl) (gw hw 95 rfl) (by decide) (by decide)) (g := (mkF m 52 #[.val (.ref a), .val (.ref u3)] [(.int (2 : Int32)), (.int (0 : Int32)), .null, (.ref b5), (.ref b4), (.ref b4)])) rfl (by rw [hml]; rfl) (Steps.refl _) (a := b4) (argsL := [(.ref b5), .null, (.int (0 : Int32)), (.int (2 : Int32))]) (rest := [(.ref b4)]) (lenOf own_pd16 rfl) rfl (w0 (Nat.le_of_eq rfl)) (hb hby d32_52) (fun _ _ => ⟨rfl, e7, (by decide : 4 + 0 ≤ _), (by decide : 10 + 0 ≤ _)⟩)
  dsimp only [Pt.U, Pt.locs, Pt.cells, Pt.slots] at X8 l8 y8 z8 st8 hQ8
  subst l8 y8 z8
  obtain ⟨rfl, N8q, K8, F_source_b4_8', F_places_b4_8', F_first_b4_8', F_size_b4_8'⟩ := hQ8
  have N8 := Fr.app N7 N8q
  replace A_u3 := A_u3.keep K8
  replace F_e0_u3 := F_e0_u3.keep K8 (ninS ne_u3_b4 nin0)
  replace F_e1_u3 := F_e1_u3.keep K8 (ninS ne_u3_b4 nin0)
  replace A_b4 := A_b4.keep K8
  replace A_b5 := A_b5.keep K8
  replace F_records_b5 := F_records_b5.keep K8 (ninS (Ne.symm ne_b4_b5) nin0)
  replace KP := KP.trans K8 (allS (Or.inr sz_b4) all0)
  replace Z0 := Nat.le_trans Z0 K8.1
  have F_source_b4 := F_source_b4_8'
  have F_places_b4 := F_places_b4_8'
  have F_first_b4 := F_first_b4_8'
  have F_size_b4 := F_size_b4_8'
  refine Gs (fun _ tk => st8.trans tk) ?_
  show Goes _ _ _ _ _ (T8.setTop (mkF m 55 #[.val (.ref a), .val (.ref u3)] [(.ref b4)]))
  refine Goes.ret X8 (some (.ref b4)) (fun h => by rw [hret] at h; cases h) hlk (by decide) (by decide) ?_ (fun fs hr => ?_)
  · exact ⟨b4, b5, u3, rfl, N8, KP, A_b4, F_source_b4, F_places_b4, F_first_b4, F_size_b4, A_b5, F_records_b5, A_u3, F_e0_u3, F_e1_u3, g_b4, sz_b4, sz_b5, sz_u3⟩
  · exact own_retA X8 hx hret rfl rfl (hb hby d32_55) hr
theorem d33_0 : decode prog_3_method_7_code 0 = .ok (.aload_n 0, 1) := by decide +kernel
theorem d33_1 : decode prog_3_method_7_code 1 = .ok (.getfield 21, 3) := by decide +kernel
theorem d33_4 : decode prog_3_method_7_code 4 = .ok (.ireturn, 1) := by decide +kernel
theorem own_ef_rm_bssz (m : MethodId) (x0 : Addr) : entryFrame m #[(.ref x0)] 1 = mkF m 0 #[.val (.ref x0)] [] := by first | (simp [entryFrame, mkF, argsToLocals, Value.category]; done) | rfl
def Q_rm_bssz (Z : State) (a : Addr) (z : Int32) (h0 : Heap) (n0 : Nat) (v : Option Value) (h : Heap) (L : List Loc) : Prop := v = some (.int z) ∧ Fr n0 L ∧ h = h0
set_option maxRecDepth 65536 in
set_option maxHeartbeats 40000000 in
theorem rm_bssz (l : Launch) (Z : State) (a0 : Array Value) (hw : ∀ d ∈ tables_1, d.before a0 Z = true) (ws : List Jvm.Cond) (a : Addr) (z : Int32) (h0 : Heap) (n0 : Nat) (Z0 : n0 ≤ h0.size) (F_size_a : Fld Z h0 a "org/stripeward/scenario/Blocks" "size" "I" (.int z)) :
    Met l Z mN37 prog_3_method_7_code 1 (some .int) ({ frames := 0, cells := 0, slots := 0, locals := 0 } : Room) ws #[(.ref a)] h0 (Q_rm_bssz Z a z h0 n0) := by
  refine own_met (plainFor_of_name own_pn15) ?_
  intro p e s m below meth c s₁ hret hx hby hlk hml hown hnm X0 e0 hZ hh
  have N0 := Fr.nil n0
  refine Gs (fun _ tk => castTop (own_ef_rm_bssz m a) tk) ?_
  show Goes _ _ _ _ _ (s₁.setTop (mkF m 0 #[.val (.ref a)] []))
  refine Gs (fun _ tk => XS.aloadN X0.here hx rfl (hb hby d33_0) rfl rfl tk) ?_
  obtain ⟨T1, X1, e1, st1⟩ := getF X0 hx hZ hown (host := "") (Or.inl (gw hw 110 rfl)) Via.refl e0 F_size_a (g := (mkF m 1 #[.val (.ref a)] [(.ref a)])) rfl rfl (hb hby d33_1)
  refine Gs st1 ?_
  show Goes _ _ _ _ _ (T1.setTop (mkF m 4 #[.val (.ref a)] [(.int z)]))
  refine Goes.ret X1 (some (.int z)) (fun h => by rw [hret] at h; cases h) hlk (by decide) (by decide) ?_ (fun fs hr => ?_)
  · exact ⟨rfl, N0, e1⟩
  · exact retI X1 hx hret (hb hby d33_4) hr
theorem d34_0 : decode prog_3_method_13_code 0 = .ok (.iload_n 1, 1) := by decide +kernel
theorem d34_1 : decode prog_3_method_13_code 1 = .ok (.ifCond .lt 11, 3) := by decide +kernel
theorem d34_4 : decode prog_3_method_13_code 4 = .ok (.iload_n 1, 1) := by decide +kernel
theorem d34_5 : decode prog_3_method_13_code 5 = .ok (.aload_n 0, 1) := by decide +kernel
theorem d34_6 : decode prog_3_method_13_code 6 = .ok (.getfield 21, 3) := by decide +kernel
theorem d34_9 : decode prog_3_method_13_code 9 = .ok (.if_icmp .lt 12, 3) := by decide +kernel
theorem d34_21 : decode prog_3_method_13_code 21 = .ok (.aload_n 0, 1) := by decide +kernel
theorem d34_22 : decode prog_3_method_13_code 22 = .ok (.getfield 13, 3) := by decide +kernel
theorem d34_25 : decode prog_3_method_13_code 25 = .ok (.ifnonnull 12, 3) := by decide +kernel
theorem d34_28 : decode prog_3_method_13_code 28 = .ok (.aload_n 0, 1) := by decide +kernel
theorem d34_29 : decode prog_3_method_13_code 29 = .ok (.getfield 17, 3) := by decide +kernel
theorem d34_32 : decode prog_3_method_13_code 32 = .ok (.iload_n 1, 1) := by decide +kernel
theorem d34_33 : decode prog_3_method_13_code 33 = .ok (.iadd, 1) := by decide +kernel
theorem d34_34 : decode prog_3_method_13_code 34 = .ok (.goto 9, 3) := by decide +kernel
theorem d34_43 : decode prog_3_method_13_code 43 = .ok (.ireturn, 1) := by decide +kernel
theorem own_ef_rm_place01 (m : MethodId) (x0 : Addr) (x1 : Int32) : entryFrame m #[(.ref x0), (.int x1)] 2 = mkF m 0 #[.val (.ref x0), .val (.int x1)] [] := by first | (simp [entryFrame, mkF, argsToLocals, Value.category]; done) | rfl
def Q_rm_place01 (Z : State) (a : Addr) (ro : Addr) (h0 : Heap) (n0 : Nat) (v : Option Value) (h : Heap) (L : List Loc) : Prop := v = some (.int (0 : Int32)) ∧ Fr n0 L ∧ h = h0
set_option maxRecDepth 65536 in
set_option maxHeartbeats 40000000 in
theorem rm_place01 (l : Launch) (Z : State) (a0 : Array Value) (hw : ∀ d ∈ tables_1, d.before a0 Z = true) (ws : List Jvm.Cond) (a : Addr) (ro : Addr) (h0 : Heap) (n0 : Nat) (Z0 : n0 ≤ h0.size) (F_source_a : Fld Z h0 a "org/stripeward/scenario/Blocks" "source" "Lorg/stripeward/scenario/Blocks$Source;" (.ref ro)) (F_places_a : Fld Z h0 a "org/stripeward/scenario/Blocks" "places" "[I" .null) (F_first_a : Fld Z h0 a "org/stripeward/scenario/Blocks" "first" "I" (.int (0 : Int32))) (F_size_a : Fld Z h0 a "org/stripeward/scenario/Blocks" "size" "I" (.int (1 : Int32))) :
    Met l Z mN38 prog_3_method_13_code 2 (some .int) ({ frames := 0, cells := 0, slots := 0, locals := 0 } : Room) ws #[(.ref a), (.int (0 : Int32))] h0 (Q_rm_place01 Z a ro h0 n0) := by
  refine own_met (plainFor_of_name own_pn15) ?_
  intro p e s m below meth c s₁ hret hx hby hlk hml hown hnm X0 e0 hZ hh
  have N0 := Fr.nil n0
  refine Gs (fun _ tk => castTop (own_ef_rm_place01 m a (0 : Int32)) tk) ?_
  show Goes _ _ _ _ _ (s₁.setTop (mkF m 0 #[.val (.ref a), .val (.int (0 : Int32))] []))
  refine Gs (fun _ tk => XS.iloadN X0.here hx rfl (hb hby d34_0) rfl tk) ?_
  refine Gs (fun _ tk => XS.ifNo X0.here hx rfl (hb hby d34_1) rfl ((if0 _ _).trans (flt (by decide : ¬ ((0 : Int32) < (0 : Int32)))).1) tk) ?_
  refine Gs (fun _ tk => XS.iloadN X0.here hx rfl (hb hby d34_4) rfl tk) ?_
  refine Gs (fun _ tk => XS.aloadN X0.here hx rfl (hb hby d34_5) rfl rfl tk) ?_
  obtain ⟨T1, X1, e1, st1⟩ := getF X0 hx hZ hown (host := "") (Or.inl (gw hw 110 rfl)) Via.refl e0 F_size_a (g := (mkF m 6 #[.val (.ref a), .val (.int (0 : Int32))] [(.ref a), (.int (0 : Int32))])) rfl rfl (hb hby d34_6)
  refine Gs st1 ?_
  show Goes _ _ _ _ _ (T1.setTop (mkF m 9 #[.val (.ref a), .val (.int (0 : Int32))] [(.int (1 : Int32)), (.int (0 : Int32))]))
  refine Gs (fun _ tk => XS.icmpYes X1.here hx rfl (pc0 := 9) (pc' := 21) rfl (hb hby d34_9) rfl (tlt (by decide : ((0 : Int32) < (1 : Int32)))).1 (by decide) (by decide) tk) ?_
  refine Gs (fun _ tk => XS.aloadN X1.here hx rfl (hb hby d34_21) rfl rfl tk) ?_
  obtain ⟨T2, X2, e2, st2⟩ := getF X1 hx hZ hown (host := "") (Or.inl (gw hw 240 rfl)) Via.refl e1 F_places_a (g := (mkF m 22 #[.val (.ref a), .val (.int (0 : Int32))] [(.ref a)])) rfl rfl (hb hby d34_22)
  refine Gs st2 ?_
  show Goes _ _ _ _ _ (T2.setTop (mkF m 25 #[.val (.ref a), .val (.int (0 : Int32))] [.null]))
  refine Gs (fun _ tk => XS.ifnonnullNo X2.here hx rfl (hb hby d34_25) rfl tk) ?_
  refine Gs (fun _ tk => XS.aloadN X2.here hx rfl (hb hby d34_28) rfl rfl tk) ?_
  obtain ⟨T3, X3, e3, st3⟩ := getF X2 hx hZ hown (host := "") (Or.inl (gw hw 242 rfl)) Via.refl e2 F_first_a (g := (mkF m 29 #[.val (.ref a), .val (.int (0 : Int32))] [(.ref a)])) rfl rfl (hb hby d34_29)
  refine Gs st3 ?_
  show Goes _ _ _ _ _ (T3.setTop (mkF m 32 #[.val (.ref a), .val (.int (0 : Int32))] [(.int (0 : Int32))]))
  refine Gs (fun _ tk => XS.iloadN X3.here hx rfl (hb hby d34_32) rfl tk) ?_
  show Goes _ _ _ _ _ (T3.setTop (mkF m 33 #[.val (.ref a), .val (.int (0 : Int32))] [(.int (0 : Int32)), (.int (0 : Int32))]))
  refine Gs (fun _ tk => XS.iadd X3.here hx rfl (hb hby d34_33) rfl tk) ?_
  rw [show ((0 : Int32) + (0 : Int32)) = (0 : Int32) from by decide]
  show Goes _ _ _ _ _ (T3.setTop (mkF m 34 #[.val (.ref a), .val (.int (0 : Int32))] [(.int (0 : Int32))]))
  refine Gs (fun _ tk => XS.goto X3.here hx rfl (pc0 := 34) (pc' := 43) rfl (hb hby d34_34) (by decide) (by decide) tk) ?_
  refine Goes.ret X3 (some (.int (0 : Int32))) (fun h => by rw [hret] at h; cases h) hlk (by decide) (by decide) ?_ (fun fs hr => ?_)
  · exact ⟨rfl, N0, e3⟩
  · exact retI X3 hx hret (hb hby d34_43) hr
theorem own_ef_rm_place02 (m : MethodId) (x0 : Addr) (x1 : Int32) : entryFrame m #[(.ref x0), (.int x1)] 2 = mkF m 0 #[.val (.ref x0), .val (.int x1)] [] := by first | (simp [entryFrame, mkF, argsToLocals, Value.category]; done) | rfl
def Q_rm_place02 (Z : State) (a : Addr) (ro : Addr) (h0 : Heap) (n0 : Nat) (v : Option Value) (h : Heap) (L : List Loc) : Prop := v = some (.int (0 : Int32)) ∧ Fr n0 L ∧ h = h0
set_option maxRecDepth 65536 in
set_option maxHeartbeats 40000000 in
theorem rm_place02 (l : Launch) (Z : State) (a0 : Array Value) (hw : ∀ d ∈ tables_1, d.before a0 Z = true) (ws : List Jvm.Cond) (a : Addr) (ro : Addr) (h0 : Heap) (n0 : Nat) (Z0 : n0 ≤ h0.size) (F_source_a : Fld Z h0 a "org/stripeward/scenario/Blocks" "source" "Lorg/stripeward/scenario/Blocks$Source;" (.ref ro)) (F_places_a : Fld Z h0 a "org/stripeward/scenario/Blocks" "places" "[I" .null) (F_first_a : Fld Z h0 a "org/stripeward/scenario/Blocks" "first" "I" (.int (0 : Int32))) (F_size_a : Fld Z h0 a "org/stripeward/scenario/Blocks" "size" "I" (.int (2 : Int32))) :
    Met l Z mN38 prog_3_method_13_code 2 (some .int) ({ frames := 0, cells := 0, slots := 0, locals := 0 } : Room) ws #[(.ref a), (.int (0 : Int32))] h0 (Q_rm_place02 Z a ro h0 n0) := by
  refine own_met (plainFor_of_name own_pn15) ?_
  intro p e s m below meth c s₁ hret hx hby hlk hml hown hnm X0 e0 hZ hh
  have N0 := Fr.nil n0
  refine Gs (fun _ tk => castTop (own_ef_rm_place02 m a (0 : Int32)) tk) ?_
  show Goes _ _ _ _ _ (s₁.setTop (mkF m 0 #[.val (.ref a), .val (.int (0 : Int32))] []))
  refine Gs (fun _ tk => XS.iloadN X0.here hx rfl (hb hby d34_0) rfl tk) ?_
  refine Gs (fun _ tk => XS.ifNo X0.here hx rfl (hb hby d34_1) rfl ((if0 _ _).trans (flt (by decide : ¬ ((0 : Int32) < (0 : Int32)))).1) tk) ?_
  refine Gs (fun _ tk => XS.iloadN X0.here hx rfl (hb hby d34_4) rfl tk) ?_
  refine Gs (fun _ tk => XS.aloadN X0.here hx rfl (hb hby d34_5) rfl rfl tk) ?_
  obtain ⟨T1, X1, e1, st1⟩ := getF X0 hx hZ hown (host := "") (Or.inl (gw hw 110 rfl)) Via.refl e0 F_size_a (g := (mkF m 6 #[.val (.ref a), .val (.int (0 : Int32))] [(.ref a), (.int (0 : Int32))])) rfl rfl (hb hby d34_6)
  refine Gs st1 ?_
  show Goes _ _ _ _ _ (T1.setTop (mkF m 9 #[.val (.ref a), .val (.int (0 : Int32))] [(.int (2 : Int32)), (.int (0 : Int32))]))
  refine Gs (fun _ tk => XS.icmpYes X1.here hx rfl (pc0 := 9) (pc' := 21) rfl (hb hby d34_9) rfl (tlt (by decide : ((0 : Int32) < (2 : Int32)))).1 (by decide) (by decide) tk) ?_
  refine Gs (fun _ tk => XS.aloadN X1.here hx rfl (hb hby d34_21) rfl rfl tk) ?_
  obtain ⟨T2, X2, e2, st2⟩ := getF X1 hx hZ hown (host := "") (Or.inl (gw hw 240 rfl)) Via.refl e1 F_places_a (g := (mkF m 22 #[.val (.ref a), .val (.int (0 : Int32))] [(.ref a)])) rfl rfl (hb hby d34_22)
  refine Gs st2 ?_
  show Goes _ _ _ _ _ (T2.setTop (mkF m 25 #[.val (.ref a), .val (.int (0 : Int32))] [.null]))
  refine Gs (fun _ tk => XS.ifnonnullNo X2.here hx rfl (hb hby d34_25) rfl tk) ?_
  refine Gs (fun _ tk => XS.aloadN X2.here hx rfl (hb hby d34_28) rfl rfl tk) ?_
  obtain ⟨T3, X3, e3, st3⟩ := getF X2 hx hZ hown (host := "") (Or.inl (gw hw 242 rfl)) Via.refl e2 F_first_a (g := (mkF m 29 #[.val (.ref a), .val (.int (0 : Int32))] [(.ref a)])) rfl rfl (hb hby d34_29)
  refine Gs st3 ?_
  show Goes _ _ _ _ _ (T3.setTop (mkF m 32 #[.val (.ref a), .val (.int (0 : Int32))] [(.int (0 : Int32))]))
  refine Gs (fun _ tk => XS.iloadN X3.here hx rfl (hb hby d34_32) rfl tk) ?_
  show Goes _ _ _ _ _ (T3.setTop (mkF m 33 #[.val (.ref a), .val (.int (0 : Int32))] [(.int (0 : Int32)), (.int (0 : Int32))]))
  refine Gs (fun _ tk => XS.iadd X3.here hx rfl (hb hby d34_33) rfl tk) ?_
  rw [show ((0 : Int32) + (0 : Int32)) = (0 : Int32) from by decide]
  show Goes _ _ _ _ _ (T3.setTop (mkF m 34 #[.val (.ref a), .val (.int (0 : Int32))] [(.int (0 : Int32))]))
  refine Gs (fun _ tk => XS.goto X3.here hx rfl (pc0 := 34) (pc' := 43) rfl (hb hby d34_34) (by decide) (by decide) tk) ?_
  refine Goes.ret X3 (some (.int (0 : Int32))) (fun h => by rw [hret] at h; cases h) hlk (by decide) (by decide) ?_ (fun fs hr => ?_)
  · exact ⟨rfl, N0, e3⟩
  · exact retI X3 hx hret (hb hby d34_43) hr
theorem own_ef_rm_place12 (m : MethodId) (x0 : Addr) (x1 : Int32) : entryFrame m #[(.ref x0), (.int x1)] 2 = mkF m 0 #[.val (.ref x0), .val (.int x1)] [] := by first | (simp [entryFrame, mkF, argsToLocals, Value.category]; done) | rfl
def Q_rm_place12 (Z : State) (a : Addr) (ro : Addr) (h0 : Heap) (n0 : Nat) (v : Option Value) (h : Heap) (L : List Loc) : Prop := v = some (.int (1 : Int32)) ∧ Fr n0 L ∧ h = h0
set_option maxRecDepth 65536 in
set_option maxHeartbeats 40000000 in
theorem rm_place12 (l : Launch) (Z : State) (a0 : Array Value) (hw : ∀ d ∈ tables_1, d.before a0 Z = true) (ws : List Jvm.Cond) (a : Addr) (ro : Addr) (h0 : Heap) (n0 : Nat) (Z0 : n0 ≤ h0.size) (F_source_a : Fld Z h0 a "org/stripeward/scenario/Blocks" "source" "Lorg/stripeward/scenario/Blocks$Source;" (.ref ro)) (F_places_a : Fld Z h0 a "org/stripeward/scenario/Blocks" "places" "[I" .null) (F_first_a : Fld Z h0 a "org/stripeward/scenario/Blocks" "first" "I" (.int (0 : Int32))) (F_size_a : Fld Z h0 a "org/stripeward/scenario/Blocks" "size" "I" (.int (2 : Int32))) :
    Met l Z mN38 prog_3_method_13_code 2 (some .int) ({ frames := 0, cells := 0, slots := 0, locals := 0 } : Room) ws #[(.ref a), (.int (1 : Int32))] h0 (Q_rm_place12 Z a ro h0 n0) := by
  refine own_met (plainFor_of_name own_pn15) ?_
  intro p e s m below meth c s₁ hret hx hby hlk hml hown hnm X0 e0 hZ hh
  have N0 := Fr.nil n0
  refine Gs (fun _ tk => castTop (own_ef_rm_place12 m a (1 : Int32)) tk) ?_
  show Goes _ _ _ _ _ (s₁.setTop (mkF m 0 #[.val (.ref a), .val (.int (1 : Int32))] []))
  refine Gs (fun _ tk => XS.iloadN X0.here hx rfl (hb hby d34_0) rfl tk) ?_
  refine Gs (fun _ tk => XS.ifNo X0.here hx rfl (hb hby d34_1) rfl ((if0 _ _).trans (flt (by decide : ¬ ((1 : Int32) < (0 : Int32)))).1) tk) ?_
  refine Gs (fun _ tk => XS.iloadN X0.here hx rfl (hb hby d34_4) rfl tk) ?_
  refine Gs (fun _ tk => XS.aloadN X0.here hx rfl (hb hby d34_5) rfl rfl tk) ?_
  obtain ⟨T1, X1, e1, st1⟩ := getF X0 hx hZ hown (host := "") (Or.inl (gw hw 110 rfl)) Via.refl e0 F_size_a (g := (mkF m 6 #[.val (.ref a), .val (.int (1 : Int32))] [(.ref a), (.int (1 : Int32))])) rfl rfl (hb hby d34_6)
  refine Gs st1 ?_
  show Goes _ _ _ _ _ (T1.setTop (mkF m 9 #[.val (.ref a), .val (.int (1 : Int32))] [(.int (2 : Int32)), (.int (1 : Int32))]))
  refine Gs (fun _ tk => XS.icmpYes X1.here hx rfl (pc0 := 9) (pc' := 21) rfl (hb hby d34_9) rfl (tlt (by decide : ((1 : Int32) < (2 : Int32)))).1 (by decide) (by decide) tk) ?_
  refine Gs (fun _ tk => XS.aloadN X1.here hx rfl (hb hby d34_21) rfl rfl tk) ?_
  obtain ⟨T2, X2, e2, st2⟩ := getF X1 hx hZ hown (host := "") (Or.inl (gw hw 240 rfl)) Via.refl e1 F_places_a (g := (mkF m 22 #[.val (.ref a), .val (.int (1 : Int32))] [(.ref a)])) rfl rfl (hb hby d34_22)
  refine Gs st2 ?_
  show Goes _ _ _ _ _ (T2.setTop (mkF m 25 #[.val (.ref a), .val (.int (1 : Int32))] [.null]))
  refine Gs (fun _ tk => XS.ifnonnullNo X2.here hx rfl (hb hby d34_25) rfl tk) ?_
  refine Gs (fun _ tk => XS.aloadN X2.here hx rfl (hb hby d34_28) rfl rfl tk) ?_
  obtain ⟨T3, X3, e3, st3⟩ := getF X2 hx hZ hown (host := "") (Or.inl (gw hw 242 rfl)) Via.refl e2 F_first_a (g := (mkF m 29 #[.val (.ref a), .val (.int (1 : Int32))] [(.ref a)])) rfl rfl (hb hby d34_29)
  refine Gs st3 ?_
  show Goes _ _ _ _ _ (T3.setTop (mkF m 32 #[.val (.ref a), .val (.int (1 : Int32))] [(.int (0 : Int32))]))
  refine Gs (fun _ tk => XS.iloadN X3.here hx rfl (hb hby d34_32) rfl tk) ?_
  show Goes _ _ _ _ _ (T3.setTop (mkF m 33 #[.val (.ref a), .val (.int (1 : Int32))] [(.int (1 : Int32)), (.int (0 : Int32))]))
  refine Gs (fun _ tk => XS.iadd X3.here hx rfl (hb hby d34_33) rfl tk) ?_
  rw [show ((0 : Int32) + (1 : Int32)) = (1 : Int32) from by decide]
  show Goes _ _ _ _ _ (T3.setTop (mkF m 34 #[.val (.ref a), .val (.int (1 : Int32))] [(.int (1 : Int32))]))
  refine Gs (fun _ tk => XS.goto X3.here hx rfl (pc0 := 34) (pc' := 43) rfl (hb hby d34_34) (by decide) (by decide) tk) ?_
  refine Goes.ret X3 (some (.int (1 : Int32))) (fun h => by rw [hret] at h; cases h) hlk (by decide) (by decide) ?_ (fun fs hr => ?_)
  · exact ⟨rfl, N0, e3⟩
  · exact retI X3 hx hret (hb hby d34_43) hr
theorem d35_0 : decode prog_4_method_4_code 0 = .ok (.aload_n 0, 1) := by decide +kernel
theorem d35_1 : decode prog_4_method_4_code 1 = .ok (.getfield 7, 3) := by decide +kernel
theorem d35_4 : decode prog_4_method_4_code 4 = .ok (.iload_n 1, 1) := by decide +kernel
theorem d35_5 : decode prog_4_method_4_code 5 = .ok (.invokeinterface 19 2, 5) := by decide +kernel
theorem own_pd17 : parseMethodDescriptor "(I)Ljava/lang/Object;" = some ⟨[.int], some (.object "java/lang/Object")⟩ := by decide +kernel
theorem d35_10 : decode prog_4_method_4_code 10 = .ok (.checkcast 23, 3) := by decide +kernel
theorem d35_13 : decode prog_4_method_4_code 13 = .ok (.areturn, 1) := by decide +kernel
theorem own_ef_rm_rblk0 (m : MethodId) (x0 : Addr) (x1 : Int32) : entryFrame m #[(.ref x0), (.int x1)] 2 = mkF m 0 #[.val (.ref x0), .val (.int x1)] [] := by first | (simp [entryFrame, mkF, argsToLocals, Value.category]; done) | rfl
def Q_rm_rblk0 (Z : State) (a : Addr) (u : Addr) (el0 : Addr) (h0 : Heap) (n0 : Nat) (v : Option Value) (h : Heap) (L : List Loc) : Prop := v = some (.ref el0) ∧ Fr n0 L ∧ h = h0
set_option maxRecDepth 65536 in
set_option maxHeartbeats 40000000 in
theorem rm_rblk0 (l : Launch) (Z : State) (a0 : Array Value) (hw : ∀ d ∈ tables_1, d.before a0 Z = true) (ws : List Jvm.Cond) (a : Addr) (u : Addr) (el0 : Addr) (h0 : Heap) (n0 : Nat) (Z0 : n0 ≤ h0.size) (F_records_a : Fld Z h0 a "org/stripeward/scenario/Blocks$Records" "records" "Ljava/util/List;" (.ref u)) (A_u : Exa Z h0 u "java/util/ImmutableCollections$List12") (F_e0_u : Fld Z h0 u "java/util/ImmutableCollections$List12" "e0" "Ljava/lang/Object;" (.ref el0)) (A_el0 : Exa Z h0 el0 "org/stripeward/scenario/Block") :
    Met l Z mN40 prog_4_method_4_code 2 (some (.object "org/stripeward/scenario/Block")) ({ frames := 1, cells := 0, slots := 0, locals := 13 } : Room) ws #[(.ref a), (.int (0 : Int32))] h0 (Q_rm_rblk0 Z a u el0 h0 n0) := by
  refine own_met (plainFor_of_name own_pn14) ?_
  intro p e s m below meth c s₁ hret hx hby hlk hml hown hnm X0 e0 hZ hh
  have N0 := Fr.nil n0
  refine Gs (fun _ tk => castTop (own_ef_rm_rblk0 m a (0 : Int32)) tk) ?_
  show Goes _ _ _ _ _ (s₁.setTop (mkF m 0 #[.val (.ref a), .val (.int (0 : Int32))] []))
  refine Gs (fun _ tk => XS.aloadN X0.here hx rfl (hb hby d35_0) rfl rfl tk) ?_
  obtain ⟨T1, X1, e1, st1⟩ := getF X0 hx hZ hown (host := "") (Or.inl (gw hw 221 rfl)) Via.refl e0 F_records_a (g := (mkF m 1 #[.val (.ref a), .val (.int (0 : Int32))] [(.ref a)])) rfl rfl (hb hby d35_1)
  refine Gs st1 ?_
  show Goes _ _ _ _ _ (T1.setTop (mkF m 4 #[.val (.ref a), .val (.int (0 : Int32))] [(.ref u)]))
  refine Gs (fun _ tk => XS.iloadN X1.here hx rfl (hb hby d35_4) rfl tk) ?_
  obtain ⟨cq2, kq2, q2a, q2b, q2c⟩ := isOf hZ e1 A_u
  obtain ⟨_, _, ⟨T2, L2, k2, n2⟩, -, X2, ⟨Lc2, hQ2, l2, y2, z2⟩, st2⟩ := X1.interfaceBack hx (xi := mN39) (y := mN30) hown (mvT hZ (gw hw 262 rfl)) (mvT hZ (gw hw 263 rfl)) (mvT hZ (gw hw 264 rfl)) (mvT hZ (gw hw 265 rfl)) (mvT hZ (gw hw 266 rfl)) (mvT hZ (gw hw 267 rfl)) (mvT hZ (gw hw 268 rfl)) (mvT hZ (gw hw 230 rfl)) (by decide) (backOf (W := 0) (rm_lget0 l Z a0 hw [] u el0 h0 n0 Z0 F_e0_u) hZ (gw hw 269 rfl) (gw hw 180 rfl) (by decide) (by decide)) q2a q2b q2c (g := (mkF m 5 #[.val (.ref a), .val (.int (0 : Int32))] [(.int (0 : Int32)), (.ref u)])) rfl (by rw [hml]; rfl) (Steps.refl _) (argsL := [(.int (0 : Int32))]) (rest := []) (lenOf own_pd17 rfl) rfl (w0 (Nat.le_of_eq rfl)) (hb hby d35_5) (fun _ _ => ⟨rfl, e1, (by decide : 0 + 0 ≤ _), (by decide : 0 + 0 ≤ _)⟩)
  dsimp only [Pt.U, Pt.locs, Pt.cells, Pt.slots] at X2 l2 y2 z2 st2 hQ2
  subst l2 y2 z2
  obtain ⟨rfl, N2q, e2⟩ := hQ2
  have N2 := Fr.app N0 N2q
  refine Gs (fun _ tk => st2.trans tk) ?_
  show Goes _ _ _ _ _ (T2.setTop (mkF m 10 #[.val (.ref a), .val (.int (0 : Int32))] [(.ref el0)]))
  obtain ⟨T3, X3, e3, st3⟩ := castY X2 hx hZ hown (gw hw 270 rfl) e2 (Ins.self A_el0) (g := (mkF m 10 #[.val (.ref a), .val (.int (0 : Int32))] [(.ref el0)])) rfl rfl (hb hby d35_10)
  refine Gs st3 ?_
  show Goes _ _ _ _ _ (T3.setTop (mkF m 13 #[.val (.ref a), .val (.int (0 : Int32))] [(.ref el0)]))
  refine Goes.ret X3 (some (.ref el0)) (fun h => by rw [hret] at h; cases h) hlk (by decide) (by decide) ?_ (fun fs hr => ?_)
  · exact ⟨rfl, N2, e3⟩
  · exact own_retA X3 hx hret rfl rfl (hb hby d35_13) hr
theorem d36_0 : decode prog_4_method_3_code 0 = .ok (.aload_n 0, 1) := by decide +kernel
theorem d36_1 : decode prog_4_method_3_code 1 = .ok (.getfield 7, 3) := by decide +kernel
theorem d36_4 : decode prog_4_method_3_code 4 = .ok (.iload_n 1, 1) := by decide +kernel
theorem d36_5 : decode prog_4_method_3_code 5 = .ok (.invokeinterface 19 2, 5) := by decide +kernel
theorem d36_10 : decode prog_4_method_3_code 10 = .ok (.checkcast 23, 3) := by decide +kernel
theorem d36_13 : decode prog_4_method_3_code 13 = .ok (.invokevirtual 25, 3) := by decide +kernel
theorem d36_16 : decode prog_4_method_3_code 16 = .ok (.ireturn, 1) := by decide +kernel
theorem own_ef_rm_rix0 (m : MethodId) (x0 : Addr) (x1 : Int32) : entryFrame m #[(.ref x0), (.int x1)] 2 = mkF m 0 #[.val (.ref x0), .val (.int x1)] [] := by first | (simp [entryFrame, mkF, argsToLocals, Value.category]; done) | rfl
def Q_rm_rix0 (Z : State) (a : Addr) (u : Addr) (el0 : Addr) (ix : Int32) (h0 : Heap) (n0 : Nat) (v : Option Value) (h : Heap) (L : List Loc) : Prop := v = some (.int ix) ∧ Fr n0 L ∧ h = h0
set_option maxRecDepth 65536 in
set_option maxHeartbeats 40000000 in
theorem rm_rix0 (l : Launch) (Z : State) (a0 : Array Value) (hw : ∀ d ∈ tables_1, d.before a0 Z = true) (ws : List Jvm.Cond) (a : Addr) (u : Addr) (el0 : Addr) (ix : Int32) (h0 : Heap) (n0 : Nat) (Z0 : n0 ≤ h0.size) (F_records_a : Fld Z h0 a "org/stripeward/scenario/Blocks$Records" "records" "Ljava/util/List;" (.ref u)) (A_u : Exa Z h0 u "java/util/ImmutableCollections$List12") (F_e0_u : Fld Z h0 u "java/util/ImmutableCollections$List12" "e0" "Ljava/lang/Object;" (.ref el0)) (A_el0 : Exa Z h0 el0 "org/stripeward/scenario/Block") (F_index_el0 : Fld Z h0 el0 "org/stripeward/scenario/Block" "index" "I" (.int ix)) :
    Met l Z mN41 prog_4_method_3_code 2 (some .int) ({ frames := 1, cells := 0, slots := 0, locals := 13 } : Room) ws #[(.ref a), (.int (0 : Int32))] h0 (Q_rm_rix0 Z a u el0 ix h0 n0) := by
  refine own_met (plainFor_of_name own_pn14) ?_
  intro p e s m below meth c s₁ hret hx hby hlk hml hown hnm X0 e0 hZ hh
  have N0 := Fr.nil n0
  refine Gs (fun _ tk => castTop (own_ef_rm_rix0 m a (0 : Int32)) tk) ?_
  show Goes _ _ _ _ _ (s₁.setTop (mkF m 0 #[.val (.ref a), .val (.int (0 : Int32))] []))
  refine Gs (fun _ tk => XS.aloadN X0.here hx rfl (hb hby d36_0) rfl rfl tk) ?_
  obtain ⟨T1, X1, e1, st1⟩ := getF X0 hx hZ hown (host := "") (Or.inl (gw hw 221 rfl)) Via.refl e0 F_records_a (g := (mkF m 1 #[.val (.ref a), .val (.int (0 : Int32))] [(.ref a)])) rfl rfl (hb hby d36_1)
  refine Gs st1 ?_
  show Goes _ _ _ _ _ (T1.setTop (mkF m 4 #[.val (.ref a), .val (.int (0 : Int32))] [(.ref u)]))
  refine Gs (fun _ tk => XS.iloadN X1.here hx rfl (hb hby d36_4) rfl tk) ?_
  obtain ⟨cq2, kq2, q2a, q2b, q2c⟩ := isOf hZ e1 A_u
  obtain ⟨_, _, ⟨T2, L2, k2, n2⟩, -, X2, ⟨Lc2, hQ2, l2, y2, z2⟩, st2⟩ := X1.interfaceBack hx (xi := mN39) (y := mN30) hown (mvT hZ (gw hw 262 rfl)) (mvT hZ (gw hw 263 rfl)) (mvT hZ (gw hw 264 rfl)) (mvT hZ (gw hw 265 rfl)) (mvT hZ (gw hw 266 rfl)) (mvT hZ (gw hw 267 rfl)) (mvT hZ (gw hw 268 rfl)) (mvT hZ (gw hw 230 rfl)) (by decide) (backOf (W := 0) (rm_lget0 l Z a0 hw [] u el0 h0 n0 Z0 F_e0_u) hZ (gw hw 269 rfl) (gw hw 180 rfl) (by decide) (by decide)) q2a q2b q2c (g := (mkF m 5 #[.val (.ref a), .val (.int (0 : Int32))] [(.int (0 : Int32)), (.ref u)])) rfl (by rw [hml]; rfl) (Steps.refl _) (argsL := [(.int (0 : Int32))]) (rest := []) (lenOf own_pd17 rfl) rfl (w0 (Nat.le_of_eq rfl)) (hb hby d36_5) (fun _ _ => ⟨rfl, e1, (by decide : 0 + 0 ≤ _), (by decide : 0 + 0 ≤ _)⟩)
  dsimp only [Pt.U, Pt.locs, Pt.cells, Pt.slots] at X2 l2 y2 z2 st2 hQ2
  subst l2 y2 z2
  obtain ⟨rfl, N2q, e2⟩ := hQ2
  have N2 := Fr.app N0 N2q
  refine Gs (fun _ tk => st2.trans tk) ?_
  show Goes _ _ _ _ _ (T2.setTop (mkF m 10 #[.val (.ref a), .val (.int (0 : Int32))] [(.ref el0)]))
  obtain ⟨T3, X3, e3, st3⟩ := castY X2 hx hZ hown (gw hw 270 rfl) e2 (Ins.self A_el0) (g := (mkF m 10 #[.val (.ref a), .val (.int (0 : Int32))] [(.ref el0)])) rfl rfl (hb hby d36_10)
  refine Gs st3 ?_
  show Goes _ _ _ _ _ (T3.setTop (mkF m 13 #[.val (.ref a), .val (.int (0 : Int32))] [(.ref el0)]))
  obtain ⟨cq4, kq4, q4a, q4b, q4c⟩ := isOf hZ e3 A_el0
  obtain ⟨_, _, ⟨T4, L4, k4, n4⟩, -, X4, ⟨Lc4, hQ4, l4, y4, z4⟩, st4⟩ := X3.virtualBack hx (y := mN27) (z := mN27) hown (mvT hZ (gw hw 285 rfl)) (mvT hZ (gw hw 286 rfl)) (notFace_of_selects (args := #[]) (mvT hZ (gw hw 288 rfl))) (mvT hZ (gw hw 288 rfl)) (mvT hZ (gw hw 287 rfl)) (by decide) (backOf (W := 0) (rm_bkix l Z a0 hw [] el0 ix h0 n0 Z0 F_index_el0) hZ (gw hw 289 rfl) (gw hw 46 rfl) (by decide) (by decide)) q4a q4c (g := (mkF m 13 #[.val (.ref a), .val (.int (0 : Int32))] [(.ref el0)])) rfl (by rw [hml]; rfl) (Steps.refl _) (argsL := []) (rest := []) (lenOf own_pd15 rfl) rfl (w0 (Nat.le_of_eq rfl)) (hb hby d36_13) (fun _ _ => ⟨rfl, e3, (by decide : 0 + 0 ≤ _), (by decide : 0 + 0 ≤ _)⟩)
  dsimp only [Pt.U, Pt.locs, Pt.cells, Pt.slots] at X4 l4 y4 z4 st4 hQ4
  subst l4 y4 z4
  obtain ⟨rfl, N4q, e4⟩ := hQ4
  have N4 := Fr.app N2 N4q
  refine Gs (fun _ tk => st4.trans tk) ?_
  show Goes _ _ _ _ _ (T4.setTop (mkF m 16 #[.val (.ref a), .val (.int (0 : Int32))] [(.int ix)]))
  refine Goes.ret X4 (some (.int ix)) (fun h => by rw [hret] at h; cases h) hlk (by decide) (by decide) ?_ (fun fs hr => ?_)
  · exact ⟨rfl, N4, e4⟩
  · exact retI X4 hx hret (hb hby d36_16) hr
theorem own_ef_rm_rblk1 (m : MethodId) (x0 : Addr) (x1 : Int32) : entryFrame m #[(.ref x0), (.int x1)] 2 = mkF m 0 #[.val (.ref x0), .val (.int x1)] [] := by first | (simp [entryFrame, mkF, argsToLocals, Value.category]; done) | rfl
def Q_rm_rblk1 (Z : State) (a : Addr) (u : Addr) (el1 : Addr) (em : Addr) (h0 : Heap) (n0 : Nat) (v : Option Value) (h : Heap) (L : List Loc) : Prop := v = some (.ref el1) ∧ Fr n0 L ∧ h = h0
set_option maxRecDepth 65536 in
set_option maxHeartbeats 40000000 in
theorem rm_rblk1 (l : Launch) (Z : State) (a0 : Array Value) (hw : ∀ d ∈ tables_1, d.before a0 Z = true) (ws : List Jvm.Cond) (a : Addr) (u : Addr) (el1 : Addr) (em : Addr) (h0 : Heap) (n0 : Nat) (Z0 : n0 ≤ h0.size) (F_records_a : Fld Z h0 a "org/stripeward/scenario/Blocks$Records" "records" "Ljava/util/List;" (.ref u)) (A_u : Exa Z h0 u "java/util/ImmutableCollections$List12") (F_e1_u : Fld Z h0 u "java/util/ImmutableCollections$List12" "e1" "Ljava/lang/Object;" (.ref el1)) (A_el1 : Exa Z h0 el1 "org/stripeward/scenario/Block") (S_EMPTY : Sta Z h0 "java/util/ImmutableCollections" "EMPTY" "Ljava/lang/Object;" (.ref em)) (ne_el1_em : el1 ≠ em) :
    Met l Z mN40 prog_4_method_4_code 2 (some (.object "org/stripeward/scenario/Block")) ({ frames := 1, cells := 0, slots := 0, locals := 13 } : Room) ws #[(.ref a), (.int (1 : Int32))] h0 (Q_rm_rblk1 Z a u el1 em h0 n0) := by
  refine own_met (plainFor_of_name own_pn14) ?_
  intro p e s m below meth c s₁ hret hx hby hlk hml hown hnm X0 e0 hZ hh
  have N0 := Fr.nil n0
  refine Gs (fun _ tk => castTop (own_ef_rm_rblk1 m a (1 : Int32)) tk) ?_
  show Goes _ _ _ _ _ (s₁.setTop (mkF m 0 #[.val (.ref a), .val (.int (1 : Int32))] []))
  refine Gs (fun _ tk => XS.aloadN X0.here hx rfl (hb hby d35_0) rfl rfl tk) ?_
  obtain ⟨T1, X1, e1, st1⟩ := getF X0 hx hZ hown (host := "") (Or.inl (gw hw 221 rfl)) Via.refl e0 F_records_a (g := (mkF m 1 #[.val (.ref a), .val (.int (1 : Int32))] [(.ref a)])) rfl rfl (hb hby d35_1)
  refine Gs st1 ?_
  show Goes _ _ _ _ _ (T1.setTop (mkF m 4 #[.val (.ref a), .val (.int (1 : Int32))] [(.ref u)]))
  refine Gs (fun _ tk => XS.iloadN X1.here hx rfl (hb hby d35_4) rfl tk) ?_
  obtain ⟨cq2, kq2, q2a, q2b, q2c⟩ := isOf hZ e1 A_u
  obtain ⟨_, _, ⟨T2, L2, k2, n2⟩, -, X2, ⟨Lc2, hQ2, l2, y2, z2⟩, st2⟩ := X1.interfaceBack hx (xi := mN39) (y := mN30) hown (mvT hZ (gw hw 262 rfl)) (mvT hZ (gw hw 263 rfl)) (mvT hZ (gw hw 264 rfl)) (mvT hZ (gw hw 265 rfl)) (mvT hZ (gw hw 266 rfl)) (mvT hZ (gw hw 267 rfl)) (mvT hZ (gw hw 268 rfl)) (mvT hZ (gw hw 230 rfl)) (by decide) (backOf (W := 0) (rm_lget1 l Z a0 hw [] u el1 em h0 n0 Z0 F_e1_u S_EMPTY ne_el1_em) hZ (gw hw 269 rfl) (gw hw 180 rfl) (by decide) (by decide)) q2a q2b q2c (g := (mkF m 5 #[.val (.ref a), .val (.int (1 : Int32))] [(.int (1 : Int32)), (.ref u)])) rfl (by rw [hml]; rfl) (Steps.refl _) (argsL := [(.int (1 : Int32))]) (rest := []) (lenOf own_pd17 rfl) rfl (w0 (Nat.le_of_eq rfl)) (hb hby d35_5) (fun _ _ => ⟨rfl, e1, (by decide : 0 + 0 ≤ _), (by decide : 0 + 0 ≤ _)⟩)
  dsimp only [Pt.U, Pt.locs, Pt.cells, Pt.slots] at X2 l2 y2 z2 st2 hQ2
  subst l2 y2 z2
  obtain ⟨rfl, N2q, e2⟩ := hQ2
  have N2 := Fr.app N0 N2q
  refine Gs (fun _ tk => st2.trans tk) ?_
  show Goes _ _ _ _ _ (T2.setTop (mkF m 10 #[.val (.ref a), .val (.int (1 : Int32))] [(.ref el1)]))
  obtain ⟨T3, X3, e3, st3⟩ := castY X2 hx hZ hown (gw hw 270 rfl) e2 (Ins.self A_el1) (g := (mkF m 10 #[.val (.ref a), .val (.int (1 : Int32))] [(.ref el1)])) rfl rfl (hb hby d35_10)
  refine Gs st3 ?_
  show Goes _ _ _ _ _ (T3.setTop (mkF m 13 #[.val (.ref a), .val (.int (1 : Int32))] [(.ref el1)]))
  refine Goes.ret X3 (some (.ref el1)) (fun h => by rw [hret] at h; cases h) hlk (by decide) (by decide) ?_ (fun fs hr => ?_)
  · exact ⟨rfl, N2, e3⟩
  · exact own_retA X3 hx hret rfl rfl (hb hby d35_13) hr
theorem own_ef_rm_rix1 (m : MethodId) (x0 : Addr) (x1 : Int32) : entryFrame m #[(.ref x0), (.int x1)] 2 = mkF m 0 #[.val (.ref x0), .val (.int x1)] [] := by first | (simp [entryFrame, mkF, argsToLocals, Value.category]; done) | rfl
def Q_rm_rix1 (Z : State) (a : Addr) (u : Addr) (el1 : Addr) (em : Addr) (ix : Int32) (h0 : Heap) (n0 : Nat) (v : Option Value) (h : Heap) (L : List Loc) : Prop := v = some (.int ix) ∧ Fr n0 L ∧ h = h0
set_option maxRecDepth 65536 in
set_option maxHeartbeats 40000000 in
theorem rm_rix1 (l : Launch) (Z : State) (a0 : Array Value) (hw : ∀ d ∈ tables_1, d.before a0 Z = true) (ws : List Jvm.Cond) (a : Addr) (u : Addr) (el1 : Addr) (em : Addr) (ix : Int32) (h0 : Heap) (n0 : Nat) (Z0 : n0 ≤ h0.size) (F_records_a : Fld Z h0 a "org/stripeward/scenario/Blocks$Records" "records" "Ljava/util/List;" (.ref u)) (A_u : Exa Z h0 u "java/util/ImmutableCollections$List12") (F_e1_u : Fld Z h0 u "java/util/ImmutableCollections$List12" "e1" "Ljava/lang/Object;" (.ref el1)) (A_el1 : Exa Z h0 el1 "org/stripeward/scenario/Block") (S_EMPTY : Sta Z h0 "java/util/ImmutableCollections" "EMPTY" "Ljava/lang/Object;" (.ref em)) (ne_el1_em : el1 ≠ em) (F_index_el1 : Fld Z h0 el1 "org/stripeward/scenario/Block" "index" "I" (.int ix)) :
    Met l Z mN41 prog_4_method_3_code 2 (some .int) ({ frames := 1, cells := 0, slots := 0, locals := 13 } : Room) ws #[(.ref a), (.int (1 : Int32))] h0 (Q_rm_rix1 Z a u el1 em ix h0 n0) := by
  refine own_met (plainFor_of_name own_pn14) ?_
  intro p e s m below meth c s₁ hret hx hby hlk hml hown hnm X0 e0 hZ hh
  have N0 := Fr.nil n0
  refine Gs (fun _ tk => castTop (own_ef_rm_rix1 m a (1 : Int32)) tk) ?_
  show Goes _ _ _ _ _ (s₁.setTop (mkF m 0 #[.val (.ref a), .val (.int (1 : Int32))] []))
  refine Gs (fun _ tk => XS.aloadN X0.here hx rfl (hb hby d36_0) rfl rfl tk) ?_
  obtain ⟨T1, X1, e1, st1⟩ := getF X0 hx hZ hown (host := "") (Or.inl (gw hw 221 rfl)) Via.refl e0 F_records_a (g := (mkF m 1 #[.val (.ref a), .val (.int (1 : Int32))] [(.ref a)])) rfl rfl (hb hby d36_1)
  refine Gs st1 ?_
  show Goes _ _ _ _ _ (T1.setTop (mkF m 4 #[.val (.ref a), .val (.int (1 : Int32))] [(.ref u)]))
  refine Gs (fun _ tk => XS.iloadN X1.here hx rfl (hb hby d36_4) rfl tk) ?_
  obtain ⟨cq2, kq2, q2a, q2b, q2c⟩ := isOf hZ e1 A_u
  obtain ⟨_, _, ⟨T2, L2, k2, n2⟩, -, X2, ⟨Lc2, hQ2, l2, y2, z2⟩, st2⟩ := X1.interfaceBack hx (xi := mN39) (y := mN30) hown (mvT hZ (gw hw 262 rfl)) (mvT hZ (gw hw 263 rfl)) (mvT hZ (gw hw 264 rfl)) (mvT hZ (gw hw 265 rfl)) (mvT hZ (gw hw 266 rfl)) (mvT hZ (gw hw 267 rfl)) (mvT hZ (gw hw 268 rfl)) (mvT hZ (gw hw 230 rfl)) (by decide) (backOf (W := 0) (rm_lget1 l Z a0 hw [] u el1 em h0 n0 Z0 F_e1_u S_EMPTY ne_el1_em) hZ (gw hw 269 rfl) (gw hw 180 rfl) (by decide) (by decide)) q2a q2b q2c (g := (mkF m 5 #[.val (.ref a), .val (.int (1 : Int32))] [(.int (1 : Int32)), (.ref u)])) rfl (by rw [hml]; rfl) (Steps.refl _) (argsL := [(.int (1 : Int32))]) (rest := []) (lenOf own_pd17 rfl) rfl (w0 (Nat.le_of_eq rfl)) (hb hby d36_5) (fun _ _ => ⟨rfl, e1, (by decide : 0 + 0 ≤ _), (by decide : 0 + 0 ≤ _)⟩)
  dsimp only [Pt.U, Pt.locs, Pt.cells, Pt.slots] at X2 l2 y2 z2 st2 hQ2
  subst l2 y2 z2
  obtain ⟨rfl, N2q, e2⟩ := hQ2
  have N2 := Fr.app N0 N2q
  refine Gs (fun _ tk => st2.trans tk) ?_
  show Goes _ _ _ _ _ (T2.setTop (mkF m 10 #[.val (.ref a), .val (.int (1 : Int32))] [(.ref el1)]))
  obtain ⟨T3, X3, e3, st3⟩ := castY X2 hx hZ hown (gw hw 270 rfl) e2 (Ins.self A_el1) (g := (mkF m 10 #[.val (.ref a), .val (.int (1 : Int32))] [(.ref el1)])) rfl rfl (hb hby d36_10)
  refine Gs st3 ?_
  show Goes _ _ _ _ _ (T3.setTop (mkF m 13 #[.val (.ref a), .val (.int (1 : Int32))] [(.ref el1)]))
  obtain ⟨cq4, kq4, q4a, q4b, q4c⟩ := isOf hZ e3 A_el1
  obtain ⟨_, _, ⟨T4, L4, k4, n4⟩, -, X4, ⟨Lc4, hQ4, l4, y4, z4⟩, st4⟩ := X3.virtualBack hx (y := mN27) (z := mN27) hown (mvT hZ (gw hw 285 rfl)) (mvT hZ (gw hw 286 rfl)) (notFace_of_selects (args := #[]) (mvT hZ (gw hw 288 rfl))) (mvT hZ (gw hw 288 rfl)) (mvT hZ (gw hw 287 rfl)) (by decide) (backOf (W := 0) (rm_bkix l Z a0 hw [] el1 ix h0 n0 Z0 F_index_el1) hZ (gw hw 289 rfl) (gw hw 46 rfl) (by decide) (by decide)) q4a q4c (g := (mkF m 13 #[.val (.ref a), .val (.int (1 : Int32))] [(.ref el1)])) rfl (by rw [hml]; rfl) (Steps.refl _) (argsL := []) (rest := []) (lenOf own_pd15 rfl) rfl (w0 (Nat.le_of_eq rfl)) (hb hby d36_13) (fun _ _ => ⟨rfl, e3, (by decide : 0 + 0 ≤ _), (by decide : 0 + 0 ≤ _)⟩)
  dsimp only [Pt.U, Pt.locs, Pt.cells, Pt.slots] at X4 l4 y4 z4 st4 hQ4
  subst l4 y4 z4
  obtain ⟨rfl, N4q, e4⟩ := hQ4
  have N4 := Fr.app N2 N4q
  refine Gs (fun _ tk => st4.trans tk) ?_
  show Goes _ _ _ _ _ (T4.setTop (mkF m 16 #[.val (.ref a), .val (.int (1 : Int32))] [(.int ix)]))
  refine Goes.ret X4 (some (.int ix)) (fun h => by rw [hret] at h; cases h) hlk (by decide) (by decide) ?_ (fun fs hr => ?_)
  · exact ⟨rfl, N4, e4⟩
  · exact retI X4 hx hret (hb hby d36_16) hr
theorem d37_0 : decode prog_4_method_5_code 0 = .ok (.aload_n 0, 1) := by decide +kernel
theorem d37_1 : decode prog_4_method_5_code 1 = .ok (.getfield 7, 3) := by decide +kernel
theorem d37_4 : decode prog_4_method_5_code 4 = .ok (.iload_n 1, 1) := by decide +kernel
theorem d37_5 : decode prog_4_method_5_code 5 = .ok (.invokeinterface 19 2, 5) := by decide +kernel
theorem d37_10 : decode prog_4_method_5_code 10 = .ok (.checkcast 23, 3) := by decide +kernel
theorem d37_13 : decode prog_4_method_5_code 13 = .ok (.invokevirtual 28, 3) := by decide +kernel
theorem d37_16 : decode prog_4_method_5_code 16 = .ok (.invokeinterface 13 1, 5) := by decide +kernel
theorem d37_21 : decode prog_4_method_5_code 21 = .ok (.ireturn, 1) := by decide +kernel
theorem own_ef_rm_rhc0 (m : MethodId) (x0 : Addr) (x1 : Int32) : entryFrame m #[(.ref x0), (.int x1)] 2 = mkF m 0 #[.val (.ref x0), .val (.int x1)] [] := by first | (simp [entryFrame, mkF, argsToLocals, Value.category]; done) | rfl
def Q_rm_rhc0 (Z : State) (a : Addr) (u : Addr) (el0 : Addr) (nl : Addr) (ea : Addr) (ke : ClassId) (h0 : Heap) (n0 : Nat) (v : Option Value) (h : Heap) (L : List Loc) : Prop := v = some (.int (0 : Int32)) ∧ Fr n0 L ∧ h = h0
set_option maxRecDepth 65536 in
set_option maxHeartbeats 40000000 in
theorem rm_rhc0 (l : Launch) (Z : State) (a0 : Array Value) (hw : ∀ d ∈ tables_1, d.before a0 Z = true) (ws : List Jvm.Cond) (a : Addr) (u : Addr) (el0 : Addr) (nl : Addr) (ea : Addr) (ke : ClassId) (h0 : Heap) (n0 : Nat) (Z0 : n0 ≤ h0.size) (F_records_a : Fld Z h0 a "org/stripeward/scenario/Blocks$Records" "records" "Ljava/util/List;" (.ref u)) (A_u : Exa Z h0 u "java/util/ImmutableCollections$List12") (F_e0_u : Fld Z h0 u "java/util/ImmutableCollections$List12" "e0" "Ljava/lang/Object;" (.ref el0)) (A_el0 : Exa Z h0 el0 "org/stripeward/scenario/Block") (F_holders_el0 : Fld Z h0 el0 "org/stripeward/scenario/Block" "holders" "Ljava/util/List;" (.ref nl)) (A_nl : Exa Z h0 nl "java/util/ImmutableCollections$ListN") (F_elements_nl : Fld Z h0 nl "java/util/ImmutableCollections$ListN" "elements" "[Ljava/lang/Object;" (.ref ea)) (V_ea : Arv Z h0 ea ke (.object "java/lang/Object") (0 : Int32) [] .null) :
    Met l Z mN42 prog_4_method_5_code 2 (some .int) ({ frames := 1, cells := 0, slots := 0, locals := 13 } : Room) ws #[(.ref a), (.int (0 : Int32))] h0 (Q_rm_rhc0 Z a u el0 nl ea ke h0 n0) := by
  refine own_met (plainFor_of_name own_pn14) ?_
  intro p e s m below meth c s₁ hret hx hby hlk hml hown hnm X0 e0 hZ hh
  have N0 := Fr.nil n0
  refine Gs (fun _ tk => castTop (own_ef_rm_rhc0 m a (0 : Int32)) tk) ?_
  show Goes _ _ _ _ _ (s₁.setTop (mkF m 0 #[.val (.ref a), .val (.int (0 : Int32))] []))
  refine Gs (fun _ tk => XS.aloadN X0.here hx rfl (hb hby d37_0) rfl rfl tk) ?_
  obtain ⟨T1, X1, e1, st1⟩ := getF X0 hx hZ hown (host := "") (Or.inl (gw hw 221 rfl)) Via.refl e0 F_records_a (g := (mkF m 1 #[.val (.ref a), .val (.int (0 : Int32))] [(.ref a)])) rfl rfl (hb hby d37_1)
  refine Gs st1 ?_
  show Goes _ _ _ _ _ (T1.setTop (mkF m 4 #[.val (.ref a), .val (.int (0 : Int32))] [(.ref u)]))
  refine Gs (fun _ tk => XS.iloadN X1.here hx rfl (hb hby d37_4) rfl tk) ?_
  obtain ⟨cq2, kq2, q2a, q2b, q2c⟩ := isOf hZ e1 A_u
  obtain ⟨_, _, ⟨T2, L2, k2, n2⟩, -, X2, ⟨Lc2, hQ2, l2, y2, z2⟩, st2⟩ := X1.interfaceBack hx (xi := mN39) (y := mN30) hown (mvT hZ (gw hw 262 rfl)) (mvT hZ (gw hw 263 rfl)) (mvT hZ (gw hw 264 rfl)) (mvT hZ (gw hw 265 rfl)) (mvT hZ (gw hw 266 rfl)) (mvT hZ (gw hw 267 rfl)) (mvT hZ (gw hw 268 rfl)) (mvT hZ (gw hw 230 rfl)) (by decide) (backOf (W := 0) (rm_lget0 l Z a0 hw [] u el0 h0 n0 Z0 F_e0_u) hZ (gw hw 269 rfl) (gw hw 180 rfl) (by decide) (by decide)) q2a q2b q2c (g := (mkF m 5 #[.val (.ref a), .val (.int (0 : Int32))] [(.int (0 : Int32)), (.ref u)])) rfl (by rw [hml]; rfl) (Steps.refl _) (argsL := [(.int (0 : Int32))]) (rest := []) (lenOf own_pd17 rfl) rfl (w0 (Nat.le_of_eq rfl)) (hb hby d37_5) (fun _ _ => ⟨rfl, e1, (by decide : 0 + 0 ≤ _), (by decide : 0 + 0 ≤ _)⟩)
  dsimp only [Pt.U, Pt.locs, Pt.cells, Pt.slots] at X2 l2 y2 z2 st2 hQ2
  subst l2 y2 z2
  obtain ⟨rfl, N2q, e2⟩ := hQ2
  have N2 := Fr.app N0 N2q
  refine Gs (fun _ tk => st2.trans tk) ?_
  show Goes _ _ _ _ _ (T2.setTop (mkF m 10 #[.val (.ref a), .val (.int (0 : Int32))] [(.ref el0)]))
  obtain ⟨T3, X3, e3, st3⟩ := castY X2 hx hZ hown (gw hw 270 rfl) e2 (Ins.self A_el0) (g := (mkF m 10 #[.val (.ref a), .val (.int (0 : Int32))] [(.ref el0)])) rfl rfl (hb hby d37_10)
  refine Gs st3 ?_
  show Goes _ _ _ _ _ (T3.setTop (mkF m 13 #[.val (.ref a), .val (.int (0 : Int32))] [(.ref el0)]))
  obtain ⟨cq4, kq4, q4a, q4b, q4c⟩ := isOf hZ e3 A_el0
  obtain ⟨_, _, ⟨T4, L4, k4, n4⟩, -, X4, ⟨Lc4, hQ4, l4, y4, z4⟩, st4⟩ := X3.virtualBack hx (y := mN28) (z := mN28) hown (mvT hZ (gw hw 303 rfl)) (mvT hZ (gw hw 304 rfl)) (notFace_of_selects (args := #[]) (mvT hZ (gw hw 306 rfl))) (mvT hZ (gw hw 306 rfl)) (mvT hZ (gw hw 305 rfl)) (by decide) (backOf (W := 0) (rm_bkh l Z a0 hw [] el0 nl h0 n0 Z0 F_holders_el0) hZ (gw hw 307 rfl) (gw hw 46 rfl) (by decide) (by decide)) q4a q4c (g := (mkF m 13 #[.val (.ref a), .val (.int (0 : Int32))] [(.ref el0)])) rfl (by rw [hml]; rfl) (Steps.refl _) (argsL := []) (rest := []) (lenOf own_pd13 rfl) rfl (w0 (Nat.le_of_eq rfl)) (hb hby d37_13) (fun _ _ => ⟨rfl, e3, (by decide : 0 + 0 ≤ _), (by decide : 0 + 0 ≤ _)⟩)
  dsimp only [Pt.U, Pt.locs, Pt.cells, Pt.slots] at X4 l4 y4 z4 st4 hQ4
  subst l4 y4 z4
  obtain ⟨rfl, N4q, e4⟩ := hQ4
  have N4 := Fr.app N2 N4q
  refine Gs (fun _ tk => st4.trans tk) ?_
  show Goes _ _ _ _ _ (T4.setTop (mkF m 16 #[.val (.ref a), .val (.int (0 : Int32))] [(.ref nl)]))
  obtain ⟨cq5, kq5, q5a, q5b, q5c⟩ := isOf hZ e4 A_nl
  obtain ⟨_, _, ⟨T5, L5, k5, n5⟩, -, X5, ⟨Lc5, hQ5, l5, y5, z5⟩, st5⟩ := X4.interfaceBack hx (xi := mN36) (y := mN31) hown (mvT hZ (gw hw 308 rfl)) (mvT hZ (gw hw 224 rfl)) (mvT hZ (gw hw 225 rfl)) (mvT hZ (gw hw 309 rfl)) (mvT hZ (gw hw 310 rfl)) (mvT hZ (gw hw 311 rfl)) (mvT hZ (gw hw 312 rfl)) (mvT hZ (gw hw 313 rfl)) (by decide) (backOf (W := 0) (rm_lnsz l Z a0 hw [] nl ea ke h0 n0 Z0 F_elements_nl V_ea) hZ (gw hw 315 rfl) (gw hw 314 rfl) (by decide) (by decide)) q5a q5b q5c (g := (mkF m 16 #[.val (.ref a), .val (.int (0 : Int32))] [(.ref nl)])) rfl (by rw [hml]; rfl) (Steps.refl _) (argsL := []) (rest := []) (lenOf own_pd15 rfl) rfl (w0 (Nat.le_of_eq rfl)) (hb hby d37_16) (fun _ _ => ⟨rfl, e4, (by decide : 0 + 0 ≤ _), (by decide : 0 + 0 ≤ _)⟩)
  dsimp only [Pt.U, Pt.locs, Pt.cells, Pt.slots] at X5 l5 y5 z5 st5 hQ5
  subst l5 y5 z5
  obtain ⟨rfl, N5q, e5⟩ := hQ5
  have N5 := Fr.app N4 N5q
  refine Gs (fun _ tk => st5.trans tk) ?_
  show Goes _ _ _ _ _ (T5.setTop (mkF m 21 #[.val (.ref a), .val (.int (0 : Int32))] [(.int (0 : Int32))]))
  refine Goes.ret X5 (some (.int (0 : Int32))) (fun h => by rw [hret] at h; cases h) hlk (by decide) (by decide) ?_ (fun fs hr => ?_)
  · exact ⟨rfl, N5, e5⟩
  · exact retI X5 hx hret (hb hby d37_21) hr
theorem own_ef_rm_rhc1 (m : MethodId) (x0 : Addr) (x1 : Int32) : entryFrame m #[(.ref x0), (.int x1)] 2 = mkF m 0 #[.val (.ref x0), .val (.int x1)] [] := by first | (simp [entryFrame, mkF, argsToLocals, Value.category]; done) | rfl
def Q_rm_rhc1 (Z : State) (a : Addr) (u : Addr) (el0 : Addr) (hu : Addr) (em : Addr) (h0 : Heap) (n0 : Nat) (v : Option Value) (h : Heap) (L : List Loc) : Prop := v = some (.int (1 : Int32)) ∧ Fr n0 L ∧ h = h0
set_option maxRecDepth 65536 in
set_option maxHeartbeats 40000000 in
theorem rm_rhc1 (l : Launch) (Z : State) (a0 : Array Value) (hw : ∀ d ∈ tables_1, d.before a0 Z = true) (ws : List Jvm.Cond) (a : Addr) (u : Addr) (el0 : Addr) (hu : Addr) (em : Addr) (h0 : Heap) (n0 : Nat) (Z0 : n0 ≤ h0.size) (F_records_a : Fld Z h0 a "org/stripeward/scenario/Blocks$Records" "records" "Ljava/util/List;" (.ref u)) (A_u : Exa Z h0 u "java/util/ImmutableCollections$List12") (F_e0_u : Fld Z h0 u "java/util/ImmutableCollections$List12" "e0" "Ljava/lang/Object;" (.ref el0)) (A_el0 : Exa Z h0 el0 "org/stripeward/scenario/Block") (F_holders_el0 : Fld Z h0 el0 "org/stripeward/scenario/Block" "holders" "Ljava/util/List;" (.ref hu)) (A_hu : Exa Z h0 hu "java/util/ImmutableCollections$List12") (F_e1_hu : Fld Z h0 hu "java/util/ImmutableCollections$List12" "e1" "Ljava/lang/Object;" (.ref em)) (S_EMPTY : Sta Z h0 "java/util/ImmutableCollections" "EMPTY" "Ljava/lang/Object;" (.ref em)) :
    Met l Z mN42 prog_4_method_5_code 2 (some .int) ({ frames := 1, cells := 0, slots := 0, locals := 13 } : Room) ws #[(.ref a), (.int (0 : Int32))] h0 (Q_rm_rhc1 Z a u el0 hu em h0 n0) := by
  refine own_met (plainFor_of_name own_pn14) ?_
  intro p e s m below meth c s₁ hret hx hby hlk hml hown hnm X0 e0 hZ hh
  have N0 := Fr.nil n0
  refine Gs (fun _ tk => castTop (own_ef_rm_rhc1 m a (0 : Int32)) tk) ?_
  show Goes _ _ _ _ _ (s₁.setTop (mkF m 0 #[.val (.ref a), .val (.int (0 : Int32))] []))
  refine Gs (fun _ tk => XS.aloadN X0.here hx rfl (hb hby d37_0) rfl rfl tk) ?_
  obtain ⟨T1, X1, e1, st1⟩ := getF X0 hx hZ hown (host := "") (Or.inl (gw hw 221 rfl)) Via.refl e0 F_records_a (g := (mkF m 1 #[.val (.ref a), .val (.int (0 : Int32))] [(.ref a)])) rfl rfl (hb hby d37_1)
  refine Gs st1 ?_
  show Goes _ _ _ _ _ (T1.setTop (mkF m 4 #[.val (.ref a), .val (.int (0 : Int32))] [(.ref u)]))
  refine Gs (fun _ tk => XS.iloadN X1.here hx rfl (hb hby d37_4) rfl tk) ?_
  obtain ⟨cq2, kq2, q2a, q2b, q2c⟩ := isOf hZ e1 A_u
  obtain ⟨_, _, ⟨T2, L2, k2, n2⟩, -, X2, ⟨Lc2, hQ2, l2, y2, z2⟩, st2⟩ := X1.interfaceBack hx (xi := mN39) (y := mN30) hown (mvT hZ (gw hw 262 rfl)) (mvT hZ (gw hw 263 rfl)) (mvT hZ (gw hw 264 rfl)) (mvT hZ (gw hw 265 rfl)) (mvT hZ (gw hw 266 rfl)) (mvT hZ (gw hw 267 rfl)) (mvT hZ (gw hw 268 rfl)) (mvT hZ (gw hw 230 rfl)) (by decide) (backOf (W := 0) (rm_lget0 l Z a0 hw [] u el0 h0 n0 Z0 F_e0_u) hZ (gw hw 269 rfl) (gw hw 180 rfl) (by decide) (by decide)) q2a q2b q2c (g := (mkF m 5 #[.val (.ref a), .val (.int (0 : Int32))] [(.int (0 : Int32)), (.ref u)])) rfl (by rw [hml]; rfl) (Steps.refl _) (argsL := [(.int (0 : Int32))]) (rest := []) (lenOf own_pd17 rfl) rfl (w0 (Nat.le_of_eq rfl)) (hb hby d37_5) (fun _ _ => ⟨rfl, e1, (by decide : 0 + 0 ≤ _), (by decide : 0 + 0 ≤ _)⟩)
  dsimp only [Pt.U, Pt.locs, Pt.cells, Pt.slots] at X2 l2 y2 z2 st2 hQ2
  subst l2 y2 z2
  obtain ⟨rfl, N2q, e2⟩ := hQ2
  have N2 := Fr.app N0 N2q
  refine Gs (fun _ tk => st2.trans tk) ?_
  show Goes _ _ _ _ _ (T2.setTop (mkF m 10 #[.val (.ref a), .val (.int (0 : Int32))] [(.ref el0)]))
  obtain ⟨T3, X3, e3, st3⟩ := castY X2 hx hZ hown (gw hw 270 rfl) e2 (Ins.self A_el0) (g := (mkF m 10 #[.val (.ref a), .val (.int (0 : Int32))] [(.ref el0)])) rfl rfl (hb hby d37_10)
  refine Gs st3 ?_
  show Goes _ _ _ _ _ (T3.setTop (mkF m 13 #[.val (.ref a), .val (.int (0 : Int32))] [(.ref el0)]))
  obtain ⟨cq4, kq4, q4a, q4b, q4c⟩ := isOf hZ e3 A_el0
  obtain ⟨_, _, ⟨T4, L4, k4, n4⟩, -, X4, ⟨Lc4, hQ4, l4, y4, z4⟩, st4⟩ := X3.virtualBack hx (y := mN28) (z := mN28) hown (mvT hZ (gw hw 303 rfl)) (mvT hZ (gw hw 304 rfl)) (notFace_of_selects (args := #[]) (mvT hZ (gw hw 306 rfl))) (mvT hZ (gw hw 306 rfl)) (mvT hZ (gw hw 305 rfl)) (by decide) (backOf (W := 0) (rm_bkh l Z a0 hw [] el0 hu h0 n0 Z0 F_holders_el0) hZ (gw hw 307 rfl) (gw hw 46 rfl) (by decide) (by decide)) q4a q4c (g := (mkF m 13 #[.val (.ref a), .val (.int (0 : Int32))] [(.ref el0)])) rfl (by rw [hml]; rfl) (Steps.refl _) (argsL := []) (rest := []) (lenOf own_pd13 rfl) rfl (w0 (Nat.le_of_eq rfl)) (hb hby d37_13) (fun _ _ => ⟨rfl, e3, (by decide : 0 + 0 ≤ _), (by decide : 0 + 0 ≤ _)⟩)
  dsimp only [Pt.U, Pt.locs, Pt.cells, Pt.slots] at X4 l4 y4 z4 st4 hQ4
  subst l4 y4 z4
  obtain ⟨rfl, N4q, e4⟩ := hQ4
  have N4 := Fr.app N2 N4q
  refine Gs (fun _ tk => st4.trans tk) ?_
  show Goes _ _ _ _ _ (T4.setTop (mkF m 16 #[.val (.ref a), .val (.int (0 : Int32))] [(.ref hu)]))
  obtain ⟨cq5, kq5, q5a, q5b, q5c⟩ := isOf hZ e4 A_hu
  obtain ⟨_, _, ⟨T5, L5, k5, n5⟩, -, X5, ⟨Lc5, hQ5, l5, y5, z5⟩, st5⟩ := X4.interfaceBack hx (xi := mN36) (y := mN29) hown (mvT hZ (gw hw 308 rfl)) (mvT hZ (gw hw 224 rfl)) (mvT hZ (gw hw 225 rfl)) (mvT hZ (gw hw 226 rfl)) (mvT hZ (gw hw 227 rfl)) (mvT hZ (gw hw 228 rfl)) (mvT hZ (gw hw 229 rfl)) (mvT hZ (gw hw 230 rfl)) (by decide) (backOf (W := 0) (rm_lsz1 l Z a0 hw [] hu em h0 n0 Z0 F_e1_hu S_EMPTY) hZ (gw hw 231 rfl) (gw hw 180 rfl) (by decide) (by decide)) q5a q5b q5c (g := (mkF m 16 #[.val (.ref a), .val (.int (0 : Int32))] [(.ref hu)])) rfl (by rw [hml]; rfl) (Steps.refl _) (argsL := []) (rest := []) (lenOf own_pd15 rfl) rfl (w0 (Nat.le_of_eq rfl)) (hb hby d37_16) (fun _ _ => ⟨rfl, e4, (by decide : 0 + 0 ≤ _), (by decide : 0 + 0 ≤ _)⟩)
  dsimp only [Pt.U, Pt.locs, Pt.cells, Pt.slots] at X5 l5 y5 z5 st5 hQ5
  subst l5 y5 z5
  obtain ⟨rfl, N5q, e5⟩ := hQ5
  have N5 := Fr.app N4 N5q
  refine Gs (fun _ tk => st5.trans tk) ?_
  show Goes _ _ _ _ _ (T5.setTop (mkF m 21 #[.val (.ref a), .val (.int (0 : Int32))] [(.int (1 : Int32))]))
  refine Goes.ret X5 (some (.int (1 : Int32))) (fun h => by rw [hret] at h; cases h) hlk (by decide) (by decide) ?_ (fun fs hr => ?_)
  · exact ⟨rfl, N5, e5⟩
  · exact retI X5 hx hret (hb hby d37_21) hr
theorem d38_0 : decode prog_3_method_6_code 0 = .ok (.aload_n 0, 1) := by decide +kernel
theorem d38_1 : decode prog_3_method_6_code 1 = .ok (.getfield 7, 3) := by decide +kernel
theorem d38_4 : decode prog_3_method_6_code 4 = .ok (.aload_n 0, 1) := by decide +kernel
theorem d38_5 : decode prog_3_method_6_code 5 = .ok (.iload_n 1, 1) := by decide +kernel
theorem d38_6 : decode prog_3_method_6_code 6 = .ok (.invokevirtual 67, 3) := by decide +kernel
theorem own_pd18 : parseMethodDescriptor "(I)I" = some ⟨[.int], some .int⟩ := by decide +kernel
theorem d38_9 : decode prog_3_method_6_code 9 = .ok (.invokeinterface 71 2, 5) := by decide +kernel
theorem own_pd19 : parseMethodDescriptor "(I)Lorg/stripeward/scenario/Block;" = some ⟨[.int], some (.object "org/stripeward/scenario/Block")⟩ := by decide +kernel
theorem d38_14 : decode prog_3_method_6_code 14 = .ok (.areturn, 1) := by decide +kernel
theorem own_ef_rm_bget01 (m : MethodId) (x0 : Addr) (x1 : Int32) : entryFrame m #[(.ref x0), (.int x1)] 2 = mkF m 0 #[.val (.ref x0), .val (.int x1)] [] := by first | (simp [entryFrame, mkF, argsToLocals, Value.category]; done) | rfl
def Q_rm_bget01 (Z : State) (a : Addr) (ro : Addr) (u : Addr) (el0 : Addr) (h0 : Heap) (n0 : Nat) (v : Option Value) (h : Heap) (L : List Loc) : Prop := v = some (.ref el0) ∧ Fr n0 L ∧ h = h0
set_option maxRecDepth 65536 in
set_option maxHeartbeats 40000000 in
theorem rm_bget01 (l : Launch) (Z : State) (a0 : Array Value) (hw : ∀ d ∈ tables_1, d.before a0 Z = true) (ws : List Jvm.Cond) (a : Addr) (ro : Addr) (u : Addr) (el0 : Addr) (h0 : Heap) (n0 : Nat) (Z0 : n0 ≤ h0.size) (F_source_a : Fld Z h0 a "org/stripeward/scenario/Blocks" "source" "Lorg/stripeward/scenario/Blocks$Source;" (.ref ro)) (F_places_a : Fld Z h0 a "org/stripeward/scenario/Blocks" "places" "[I" .null) (F_first_a : Fld Z h0 a "org/stripeward/scenario/Blocks" "first" "I" (.int (0 : Int32))) (F_size_a : Fld Z h0 a "org/stripeward/scenario/Blocks" "size" "I" (.int (1 : Int32))) (A_a : Exa Z h0 a "org/stripeward/scenario/Blocks") (A_ro : Exa Z h0 ro "org/stripeward/scenario/Blocks$Records") (F_records_ro : Fld Z h0 ro "org/stripeward/scenario/Blocks$Records" "records" "Ljava/util/List;" (.ref u)) (A_u : Exa Z h0 u "java/util/ImmutableCollections$List12") (F_e0_u : Fld Z h0 u "java/util/ImmutableCollections$List12" "e0" "Ljava/lang/Object;" (.ref el0)) (A_el0 : Exa Z h0 el0 "org/stripeward/scenario/Block") :
    Met l Z mN44 prog_3_method_6_code 2 (some (.object "org/stripeward/scenario/Block")) ({ frames := 2, cells := 0, slots := 0, locals := 26 } : Room) ws #[(.ref a), (.int (0 : Int32))] h0 (Q_rm_bget01 Z a ro u el0 h0 n0) := by
  refine own_met (plainFor_of_name own_pn15) ?_
  intro p e s m below meth c s₁ hret hx hby hlk hml hown hnm X0 e0 hZ hh
  have N0 := Fr.nil n0
  refine Gs (fun _ tk => castTop (own_ef_rm_bget01 m a (0 : Int32)) tk) ?_
  show Goes _ _ _ _ _ (s₁.setTop (mkF m 0 #[.val (.ref a), .val (.int (0 : Int32))] []))
  refine Gs (fun _ tk => XS.aloadN X0.here hx rfl (hb hby d38_0) rfl rfl tk) ?_
  obtain ⟨T1, X1, e1, st1⟩ := getF X0 hx hZ hown (host := "") (Or.inl (gw hw 238 rfl)) Via.refl e0 F_source_a (g := (mkF m 1 #[.val (.ref a), .val (.int (0 : Int32))] [(.ref a)])) rfl rfl (hb hby d38_1)
  refine Gs st1 ?_
  show Goes _ _ _ _ _ (T1.setTop (mkF m 4 #[.val (.ref a), .val (.int (0 : Int32))] [(.ref ro)]))
  refine Gs (fun _ tk => XS.aloadN X1.here hx rfl (hb hby d38_4) rfl rfl tk) ?_
  refine Gs (fun _ tk => XS.iloadN X1.here hx rfl (hb hby d38_5) rfl tk) ?_
  obtain ⟨cq2, q2, q2'⟩ := A_a.cell
  obtain ⟨_, _, ⟨T2, L2, k2, n2⟩, -, X2, ⟨Lc2, hQ2, l2, y2, z2⟩, st2⟩ := X1.privateBack hx (y := mN38) hown (mvT hZ (gw hw 249 rfl)) (mvT hZ (gw hw 250 rfl)) (own_selP hZ (gw hw 213 rfl) (gw hw 251 rfl) (gw hw 250 rfl) (by decide)) (Cond.privateMethod_at (mvP hZ (gw hw 251 rfl) (args := #[]))) (mvT hZ (gw hw 252 rfl)) (by decide) (backOf (W := 1) (rm_place01 l Z a0 hw [] a ro h0 n0 Z0 F_source_a F_places_a F_first_a F_size_a) hZ (gw hw 252 rfl) (gw hw 95 rfl) (by decide) (by decide)) (g := (mkF m 6 #[.val (.ref a), .val (.int (0 : Int32))] [(.int (0 : Int32)), (.ref a), (.ref ro)])) rfl (by rw [hml]; rfl) (Steps.refl _) (a := a) (by rw [e1]; exact q2) q2' (argsL := [(.int (0 : Int32))]) (rest := [(.ref ro)]) (lenOf own_pd18 rfl) rfl (w0 (Nat.le_of_eq rfl)) (hb hby d38_6) (fun _ _ => ⟨rfl, e1, (by decide : 0 + 0 ≤ _), (by decide : 0 + 0 ≤ _)⟩)
  dsimp only [Pt.U, Pt.locs, Pt.cells, Pt.slots] at X2 l2 y2 z2 st2 hQ2
  subst l2 y2 z2
  obtain ⟨rfl, N2q, e2⟩ := hQ2
  have N2 := Fr.app N0 N2q
  refine Gs (fun _ tk => st2.trans tk) ?_
  show Goes _ _ _ _ _ (T2.setTop (mkF m 9 #[.val (.ref a), .val (.int (0 : Int32))] [(.int (0 : Int32)), (.ref ro)]))
  obtain ⟨cq3, kq3, q3a, q3b, q3c⟩ := isOf hZ e2 A_ro
  obtain ⟨_, _, ⟨T3, L3, k3, n3⟩, -, X3, ⟨Lc3, hQ3, l3, y3, z3⟩, st3⟩ := X2.interfaceBack hx (xi := mN43) (y := mN40) hown (mvT hZ (gw hw 253 rfl)) (mvT hZ (gw hw 254 rfl)) (mvT hZ (gw hw 255 rfl)) (mvT hZ (gw hw 256 rfl)) (mvT hZ (gw hw 257 rfl)) (mvT hZ (gw hw 258 rfl)) (mvT hZ (gw hw 259 rfl)) (mvT hZ (gw hw 260 rfl)) (by decide) (backOf (W := 0) (rm_rblk0 l Z a0 hw [] ro u el0 h0 n0 Z0 F_records_ro A_u F_e0_u A_el0) hZ (gw hw 261 rfl) (gw hw 216 rfl) (by decide) (by decide)) q3a q3b q3c (g := (mkF m 9 #[.val (.ref a), .val (.int (0 : Int32))] [(.int (0 : Int32)), (.ref ro)])) rfl (by rw [hml]; rfl) (Steps.refl _) (argsL := [(.int (0 : Int32))]) (rest := []) (lenOf own_pd19 rfl) rfl (w0 (Nat.le_of_eq rfl)) (hb hby d38_9) (fun _ _ => ⟨rfl, e2, (by decide : 0 + 0 ≤ _), (by decide : 0 + 0 ≤ _)⟩)
  dsimp only [Pt.U, Pt.locs, Pt.cells, Pt.slots] at X3 l3 y3 z3 st3 hQ3
  subst l3 y3 z3
  obtain ⟨rfl, N3q, e3⟩ := hQ3
  have N3 := Fr.app N2 N3q
  refine Gs (fun _ tk => st3.trans tk) ?_
  show Goes _ _ _ _ _ (T3.setTop (mkF m 14 #[.val (.ref a), .val (.int (0 : Int32))] [(.ref el0)]))
  refine Goes.ret X3 (some (.ref el0)) (fun h => by rw [hret] at h; cases h) hlk (by decide) (by decide) ?_ (fun fs hr => ?_)
  · exact ⟨rfl, N3, e3⟩
  · exact own_retA X3 hx hret rfl rfl (hb hby d38_14) hr
theorem d39_0 : decode prog_3_method_8_code 0 = .ok (.aload_n 0, 1) := by decide +kernel
theorem d39_1 : decode prog_3_method_8_code 1 = .ok (.getfield 7, 3) := by decide +kernel
theorem d39_4 : decode prog_3_method_8_code 4 = .ok (.aload_n 0, 1) := by decide +kernel
theorem d39_5 : decode prog_3_method_8_code 5 = .ok (.iload_n 1, 1) := by decide +kernel
theorem d39_6 : decode prog_3_method_8_code 6 = .ok (.invokevirtual 67, 3) := by decide +kernel
theorem d39_9 : decode prog_3_method_8_code 9 = .ok (.invokeinterface 75 2, 5) := by decide +kernel
theorem d39_14 : decode prog_3_method_8_code 14 = .ok (.ireturn, 1) := by decide +kernel
theorem own_ef_rm_bix01 (m : MethodId) (x0 : Addr) (x1 : Int32) : entryFrame m #[(.ref x0), (.int x1)] 2 = mkF m 0 #[.val (.ref x0), .val (.int x1)] [] := by first | (simp [entryFrame, mkF, argsToLocals, Value.category]; done) | rfl
def Q_rm_bix01 (Z : State) (a : Addr) (ro : Addr) (u : Addr) (el0 : Addr) (ix : Int32) (h0 : Heap) (n0 : Nat) (v : Option Value) (h : Heap) (L : List Loc) : Prop := v = some (.int ix) ∧ Fr n0 L ∧ h = h0
set_option maxRecDepth 65536 in
set_option maxHeartbeats 40000000 in
theorem rm_bix01 (l : Launch) (Z : State) (a0 : Array Value) (hw : ∀ d ∈ tables_1, d.before a0 Z = true) (ws : List Jvm.Cond) (a : Addr) (ro : Addr) (u : Addr) (el0 : Addr) (ix : Int32) (h0 : Heap) (n0 : Nat) (Z0 : n0 ≤ h0.size) (F_source_a : Fld Z h0 a "org/stripeward/scenario/Blocks" "source" "Lorg/stripeward/scenario/Blocks$Source;" (.ref ro)) (F_places_a : Fld Z h0 a "org/stripeward/scenario/Blocks" "places" "[I" .null) (F_first_a : Fld Z h0 a "org/stripeward/scenario/Blocks" "first" "I" (.int (0 : Int32))) (F_size_a : Fld Z h0 a "org/stripeward/scenario/Blocks" "size" "I" (.int (1 : Int32))) (A_a : Exa Z h0 a "org/stripeward/scenario/Blocks") (A_ro : Exa Z h0 ro "org/stripeward/scenario/Blocks$Records") (F_records_ro : Fld Z h0 ro "org/stripeward/scenario/Blocks$Records" "records" "Ljava/util/List;" (.ref u)) (A_u : Exa Z h0 u "java/util/ImmutableCollections$List12") (F_e0_u : Fld Z h0 u "java/util/ImmutableCollections$List12" "e0" "Ljava/lang/Object;" (.ref el0)) (A_el0 : Exa Z h0 el0 "org/stripeward/scenario/Block") (F_index_el0 : Fld Z h0 el0 "org/stripeward/scenario/Block" "index" "I" (.int ix)) :
    Met l Z mN46 prog_3_method_8_code 2 (some .int) ({ frames := 2, cells := 0, slots := 0, locals := 26 } : Room) ws #[(.ref a), (.int (0 : Int32))] h0 (Q_rm_bix01 Z a ro u el0 ix h0 n0) := by
  refine own_met (plainFor_of_name own_pn15) ?_
  intro p e s m below meth c s₁ hret hx hby hlk hml hown hnm X0 e0 hZ hh
  have N0 := Fr.nil n0
  refine Gs (fun _ tk => castTop (own_ef_rm_bix01 m a (0 : Int32)) tk) ?_
  show Goes _ _ _ _ _ (s₁.setTop (mkF m 0 #[.val (.ref a), .val (.int (0 : Int32))] []))
  refine Gs (fun _ tk => XS.aloadN X0.here hx rfl (hb hby d39_0) rfl rfl tk) ?_
  obtain ⟨T1, X1, e1, st1⟩ := getF X0 hx hZ hown (host := "") (Or.inl (gw hw 238 rfl)) Via.refl e0 F_source_a (g := (mkF m 1 #[.val (.ref a), .val (.int (0 : Int32))] [(.ref a)])) rfl rfl (hb hby d39_1)
  refine Gs st1 ?_
  show Goes _ _ _ _ _ (T1.setTop (mkF m 4 #[.val (.ref a), .val (.int (0 : Int32))] [(.ref ro)]))
  refine Gs (fun _ tk => XS.aloadN X1.here hx rfl (hb hby d39_4) rfl rfl tk) ?_
  refine Gs (fun _ tk => XS.iloadN X1.here hx rfl (hb hby d39_5) rfl tk) ?_
  obtain ⟨cq2, q2, q2'⟩ := A_a.cell
  obtain ⟨_, _, ⟨T2, L2, k2, n2⟩, -, X2, ⟨Lc2, hQ2, l2, y2, z2⟩, st2⟩ := X1.privateBack hx (y := mN38) hown (mvT hZ (gw hw 249 rfl)) (mvT hZ (gw hw 250 rfl)) (own_selP hZ (gw hw 213 rfl) (gw hw 251 rfl) (gw hw 250 rfl) (by decide)) (Cond.privateMethod_at (mvP hZ (gw hw 251 rfl) (args := #[]))) (mvT hZ (gw hw 252 rfl)) (by decide) (backOf (W := 1) (rm_place01 l Z a0 hw [] a ro h0 n0 Z0 F_source_a F_places_a F_first_a F_size_a) hZ (gw hw 252 rfl) (gw hw 95 rfl) (by decide) (by decide)) (g := (mkF m 6 #[.val (.ref a), .val (.int (0 : Int32))] [(.int (0 : Int32)), (.ref a), (.ref ro)])) rfl (by rw [hml]; rfl) (Steps.refl _) (a := a) (by rw [e1]; exact q2) q2' (argsL := [(.int (0 : Int32))]) (rest := [(.ref ro)]) (lenOf own_pd18 rfl) rfl (w0 (Nat.le_of_eq rfl)) (hb hby d39_6) (fun _ _ => ⟨rfl, e1, (by decide : 0 + 0 ≤ _), (by decide : 0 + 0 ≤ _)⟩)
  dsimp only [Pt.U, Pt.locs, Pt.cells, Pt.slots] at X2 l2 y2 z2 st2 hQ2
  subst l2 y2 z2
  obtain ⟨rfl, N2q, e2⟩ := hQ2
  have N2 := Fr.app N0 N2q
  refine Gs (fun _ tk => st2.trans tk) ?_
  show Goes _ _ _ _ _ (T2.setTop (mkF m 9 #[.val (.ref a), .val (.int (0 : Int32))] [(.int (0 : Int32)), (.ref ro)]))
  obtain ⟨cq3, kq3, q3a, q3b, q3c⟩ := isOf hZ e2 A_ro
  obtain ⟨_, _, ⟨T3, L3, k3, n3⟩, -, X3, ⟨Lc3, hQ3, l3, y3, z3⟩, st3⟩ := X2.interfaceBack hx (xi := mN45) (y := mN41) hown (mvT hZ (gw hw 277 rfl)) (mvT hZ (gw hw 278 rfl)) (mvT hZ (gw hw 279 rfl)) (mvT hZ (gw hw 280 rfl)) (mvT hZ (gw hw 281 rfl)) (mvT hZ (gw hw 282 rfl)) (mvT hZ (gw hw 283 rfl)) (mvT hZ (gw hw 260 rfl)) (by decide) (backOf (W := 0) (rm_rix0 l Z a0 hw [] ro u el0 ix h0 n0 Z0 F_records_ro A_u F_e0_u A_el0 F_index_el0) hZ (gw hw 284 rfl) (gw hw 216 rfl) (by decide) (by decide)) q3a q3b q3c (g := (mkF m 9 #[.val (.ref a), .val (.int (0 : Int32))] [(.int (0 : Int32)), (.ref ro)])) rfl (by rw [hml]; rfl) (Steps.refl _) (argsL := [(.int (0 : Int32))]) (rest := []) (lenOf own_pd18 rfl) rfl (w0 (Nat.le_of_eq rfl)) (hb hby d39_9) (fun _ _ => ⟨rfl, e2, (by decide : 0 + 0 ≤ _), (by decide : 0 + 0 ≤ _)⟩)
  dsimp only [Pt.U, Pt.locs, Pt.cells, Pt.slots] at X3 l3 y3 z3 st3 hQ3
  subst l3 y3 z3
  obtain ⟨rfl, N3q, e3⟩ := hQ3
  have N3 := Fr.app N2 N3q
  refine Gs (fun _ tk => st3.trans tk) ?_
  show Goes _ _ _ _ _ (T3.setTop (mkF m 14 #[.val (.ref a), .val (.int (0 : Int32))] [(.int ix)]))
  refine Goes.ret X3 (some (.int ix)) (fun h => by rw [hret] at h; cases h) hlk (by decide) (by decide) ?_ (fun fs hr => ?_)
  · exact ⟨rfl, N3, e3⟩
  · exact retI X3 hx hret (hb hby d39_14) hr
theorem d40_0 : decode prog_3_method_9_code 0 = .ok (.aload_n 0, 1) := by decide +kernel
theorem d40_1 : decode prog_3_method_9_code 1 = .ok (.getfield 7, 3) := by decide +kernel
theorem d40_4 : decode prog_3_method_9_code 4 = .ok (.aload_n 0, 1) := by decide +kernel
theorem d40_5 : decode prog_3_method_9_code 5 = .ok (.iload_n 1, 1) := by decide +kernel
theorem d40_6 : decode prog_3_method_9_code 6 = .ok (.invokevirtual 67, 3) := by decide +kernel
theorem d40_9 : decode prog_3_method_9_code 9 = .ok (.invokeinterface 78 2, 5) := by decide +kernel
theorem d40_14 : decode prog_3_method_9_code 14 = .ok (.ireturn, 1) := by decide +kernel
theorem own_ef_rm_bhc10 (m : MethodId) (x0 : Addr) (x1 : Int32) : entryFrame m #[(.ref x0), (.int x1)] 2 = mkF m 0 #[.val (.ref x0), .val (.int x1)] [] := by first | (simp [entryFrame, mkF, argsToLocals, Value.category]; done) | rfl
def Q_rm_bhc10 (Z : State) (a : Addr) (ro : Addr) (u : Addr) (el0 : Addr) (nl : Addr) (ea : Addr) (ke : ClassId) (h0 : Heap) (n0 : Nat) (v : Option Value) (h : Heap) (L : List Loc) : Prop := v = some (.int (0 : Int32)) ∧ Fr n0 L ∧ h = h0
set_option maxRecDepth 65536 in
set_option maxHeartbeats 40000000 in
theorem rm_bhc10 (l : Launch) (Z : State) (a0 : Array Value) (hw : ∀ d ∈ tables_1, d.before a0 Z = true) (ws : List Jvm.Cond) (a : Addr) (ro : Addr) (u : Addr) (el0 : Addr) (nl : Addr) (ea : Addr) (ke : ClassId) (h0 : Heap) (n0 : Nat) (Z0 : n0 ≤ h0.size) (F_source_a : Fld Z h0 a "org/stripeward/scenario/Blocks" "source" "Lorg/stripeward/scenario/Blocks$Source;" (.ref ro)) (F_places_a : Fld Z h0 a "org/stripeward/scenario/Blocks" "places" "[I" .null) (F_first_a : Fld Z h0 a "org/stripeward/scenario/Blocks" "first" "I" (.int (0 : Int32))) (F_size_a : Fld Z h0 a "org/stripeward/scenario/Blocks" "size" "I" (.int (1 : Int32))) (A_a : Exa Z h0 a "org/stripeward/scenario/Blocks") (A_ro : Exa Z h0 ro "org/stripeward/scenario/Blocks$Records") (F_records_ro : Fld Z h0 ro "org/stripeward/scenario/Blocks$Records" "records" "Ljava/util/List;" (.ref u)) (A_u : Exa Z h0 u "java/util/ImmutableCollections$List12") (F_e0_u : Fld Z h0 u "java/util/ImmutableCollections$List12" "e0" "Ljava/lang/Object;" (.ref el0)) (A_el0 : Exa Z h0 el0 "org/stripeward/scenario/Block") (F_holders_el0 : Fld Z h0 el0 "org/stripeward/scenario/Block" "holders" "Ljava/util/List;" (.ref nl)) (A_nl : Exa Z h0 nl "java/util/ImmutableCollections$ListN") (F_elements_nl : Fld Z h0 nl "java/util/ImmutableCollections$ListN" "elements" "[Ljava/lang/Object;" (.ref ea)) (V_ea : Arv Z h0 ea ke (.object "java/lang/Object") (0 : Int32) [] .null) :
    Met l Z mN48 prog_3_method_9_code 2 (some .int) ({ frames := 2, cells := 0, slots := 0, locals := 26 } : Room) ws #[(.ref a), (.int (0 : Int32))] h0 (Q_rm_bhc10 Z a ro u el0 nl ea ke h0 n0) := by
  refine own_met (plainFor_of_name own_pn15) ?_
  intro p e s m below meth c s₁ hret hx hby hlk hml hown hnm X0 e0 hZ hh
  have N0 := Fr.nil n0
  refine Gs (fun _ tk => castTop (own_ef_rm_bhc10 m a (0 : Int32)) tk) ?_
  show Goes _ _ _ _ _ (s₁.setTop (mkF m 0 #[.val (.ref a), .val (.int (0 : Int32))] []))
  refine Gs (fun _ tk => XS.aloadN X0.here hx rfl (hb hby d40_0) rfl rfl tk) ?_
  obtain ⟨T1, X1, e1, st1⟩ := getF X0 hx hZ hown (host := "") (Or.inl (gw hw 238 rfl)) Via.refl e0 F_source_a (g := (mkF m 1 #[.val (.ref a), .val (.int (0 : Int32))] [(.ref a)])) rfl rfl (hb hby d40_1)
  refine Gs st1 ?_
  show Goes _ _ _ _ _ (T1.setTop (mkF m 4 #[.val (.ref a), .val (.int (0 : Int32))] [(.ref ro)]))
  refine Gs (fun _ tk => XS.aloadN X1.here hx rfl (hb hby d40_4) rfl rfl tk) ?_
  refine Gs (fun _ tk => XS.iloadN X1.here hx rfl (hb hby d40_5) rfl tk) ?_
  obtain ⟨cq2, q2, q2'⟩ := A_a.cell
  obtain ⟨_, _, ⟨T2, L2, k2, n2⟩, -, X2, ⟨Lc2, hQ2, l2, y2, z2⟩, st2⟩ := X1.privateBack hx (y := mN38) hown (mvT hZ (gw hw 249 rfl)) (mvT hZ (gw hw 250 rfl)) (own_selP hZ (gw hw 213 rfl) (gw hw 251 rfl) (gw hw 250 rfl) (by decide)) (Cond.privateMethod_at (mvP hZ (gw hw 251 rfl) (args := #[]))) (mvT hZ (gw hw 252 rfl)) (by decide) (backOf (W := 1) (rm_place01 l Z a0 hw [] a ro h0 n0 Z0 F_source_a F_places_a F_first_a F_size_a) hZ (gw hw 252 rfl) (gw hw 95 rfl) (by decide) (by decide)) (g := (mkF m 6 #[.val (.ref a), .val (.int (0 : Int32))] [(.int (0 : Int32)), (.ref a), (.ref ro)])) rfl (by rw [hml]; rfl) (Steps.refl _) (a := a) (by rw [e1]; exact q2) q2' (argsL := [(.int (0 : Int32))]) (rest := [(.ref ro)]) (lenOf own_pd18 rfl) rfl (w0 (Nat.le_of_eq rfl)) (hb hby d40_6) (fun _ _ => ⟨rfl, e1, (by decide : 0 + 0 ≤ _), (by decide : 0 + 0 ≤ _)⟩)
  dsimp only [Pt.U, Pt.locs, Pt.cells, Pt.slots] at X2 l2 y2 z2 st2 hQ2
  subst l2 y2 z2
  obtain ⟨rfl, N2q, e2⟩ := hQ2
  have N2 := Fr.app N0 N2q
  refine Gs (fun _ tk => st2.trans tk) ?_
  show Goes _ _ _ _ _ (T2.setTop (mkF m 9 #[.val (.ref a), .val (.int (0 : Int32))] [(.int (0 : Int32)), (.ref ro)]))
  obtain ⟨cq3, kq3, q3a, q3b, q3c⟩ := isOf hZ e2 A_ro
  obtain ⟨_, _, ⟨T3, L3, k3, n3⟩, -, X3, ⟨Lc3, hQ3, l3, y3, z3⟩, st3⟩ := X2.interfaceBack hx (xi := mN47) (y := mN42) hown (mvT hZ (gw hw 295 rfl)) (mvT hZ (gw hw 296 rfl)) (mvT hZ (gw hw 297 rfl)) (mvT hZ (gw hw 298 rfl)) (mvT hZ (gw hw 299 rfl)) (mvT hZ (gw hw 300 rfl)) (mvT hZ (gw hw 301 rfl)) (mvT hZ (gw hw 260 rfl)) (by decide) (backOf (W := 0) (rm_rhc0 l Z a0 hw [] ro u el0 nl ea ke h0 n0 Z0 F_records_ro A_u F_e0_u A_el0 F_holders_el0 A_nl F_elements_nl V_ea) hZ (gw hw 302 rfl) (gw hw 216 rfl) (by decide) (by decide)) q3a q3b q3c (g := (mkF m 9 #[.val (.ref a), .val (.int (0 : Int32))] [(.int (0 : Int32)), (.ref ro)])) rfl (by rw [hml]; rfl) (Steps.refl _) (argsL := [(.int (0 : Int32))]) (rest := []) (lenOf own_pd18 rfl) rfl (w0 (Nat.le_of_eq rfl)) (hb hby d40_9) (fun _ _ => ⟨rfl, e2, (by decide : 0 + 0 ≤ _), (by decide : 0 + 0 ≤ _)⟩)
  dsimp only [Pt.U, Pt.locs, Pt.cells, Pt.slots] at X3 l3 y3 z3 st3 hQ3
  subst l3 y3 z3
  obtain ⟨rfl, N3q, e3⟩ := hQ3
  have N3 := Fr.app N2 N3q
  refine Gs (fun _ tk => st3.trans tk) ?_
  show Goes _ _ _ _ _ (T3.setTop (mkF m 14 #[.val (.ref a), .val (.int (0 : Int32))] [(.int (0 : Int32))]))
  refine Goes.ret X3 (some (.int (0 : Int32))) (fun h => by rw [hret] at h; cases h) hlk (by decide) (by decide) ?_ (fun fs hr => ?_)
  · exact ⟨rfl, N3, e3⟩
  · exact retI X3 hx hret (hb hby d40_14) hr
theorem own_ef_rm_bhc11 (m : MethodId) (x0 : Addr) (x1 : Int32) : entryFrame m #[(.ref x0), (.int x1)] 2 = mkF m 0 #[.val (.ref x0), .val (.int x1)] [] := by first | (simp [entryFrame, mkF, argsToLocals, Value.category]; done) | rfl
def Q_rm_bhc11 (Z : State) (a : Addr) (ro : Addr) (u : Addr) (el0 : Addr) (hu : Addr) (em : Addr) (h0 : Heap) (n0 : Nat) (v : Option Value) (h : Heap) (L : List Loc) : Prop := v = some (.int (1 : Int32)) ∧ Fr n0 L ∧ h = h0
set_option maxRecDepth 65536 in
set_option maxHeartbeats 40000000 in
theorem rm_bhc11 (l : Launch) (Z : State) (a0 : Array Value) (hw : ∀ d ∈ tables_1, d.before a0 Z = true) (ws : List Jvm.Cond) (a : Addr) (ro : Addr) (u : Addr) (el0 : Addr) (hu : Addr) (em : Addr) (h0 : Heap) (n0 : Nat) (Z0 : n0 ≤ h0.size) (F_source_a : Fld Z h0 a "org/stripeward/scenario/Blocks" "source" "Lorg/stripeward/scenario/Blocks$Source;" (.ref ro)) (F_places_a : Fld Z h0 a "org/stripeward/scenario/Blocks" "places" "[I" .null) (F_first_a : Fld Z h0 a "org/stripeward/scenario/Blocks" "first" "I" (.int (0 : Int32))) (F_size_a : Fld Z h0 a "org/stripeward/scenario/Blocks" "size" "I" (.int (1 : Int32))) (A_a : Exa Z h0 a "org/stripeward/scenario/Blocks") (A_ro : Exa Z h0 ro "org/stripeward/scenario/Blocks$Records") (F_records_ro : Fld Z h0 ro "org/stripeward/scenario/Blocks$Records" "records" "Ljava/util/List;" (.ref u)) (A_u : Exa Z h0 u "java/util/ImmutableCollections$List12") (F_e0_u : Fld Z h0 u "java/util/ImmutableCollections$List12" "e0" "Ljava/lang/Object;" (.ref el0)) (A_el0 : Exa Z h0 el0 "org/stripeward/scenario/Block") (F_holders_el0 : Fld Z h0 el0 "org/stripeward/scenario/Block" "holders" "Ljava/util/List;" (.ref hu)) (A_hu : Exa Z h0 hu "java/util/ImmutableCollections$List12") (F_e1_hu : Fld Z h0 hu "java/util/ImmutableCollections$List12" "e1" "Ljava/lang/Object;" (.ref em)) (S_EMPTY : Sta Z h0 "java/util/ImmutableCollections" "EMPTY" "Ljava/lang/Object;" (.ref em)) :
    Met l Z mN48 prog_3_method_9_code 2 (some .int) ({ frames := 2, cells := 0, slots := 0, locals := 26 } : Room) ws #[(.ref a), (.int (0 : Int32))] h0 (Q_rm_bhc11 Z a ro u el0 hu em h0 n0) := by
  refine own_met (plainFor_of_name own_pn15) ?_
  intro p e s m below meth c s₁ hret hx hby hlk hml hown hnm X0 e0 hZ hh
  have N0 := Fr.nil n0
  refine Gs (fun _ tk => castTop (own_ef_rm_bhc11 m a (0 : Int32)) tk) ?_
  show Goes _ _ _ _ _ (s₁.setTop (mkF m 0 #[.val (.ref a), .val (.int (0 : Int32))] []))
  refine Gs (fun _ tk => XS.aloadN X0.here hx rfl (hb hby d40_0) rfl rfl tk) ?_
  obtain ⟨T1, X1, e1, st1⟩ := getF X0 hx hZ hown (host := "") (Or.inl (gw hw 238 rfl)) Via.refl e0 F_source_a (g := (mkF m 1 #[.val (.ref a), .val (.int (0 : Int32))] [(.ref a)])) rfl rfl (hb hby d40_1)
  refine Gs st1 ?_
  show Goes _ _ _ _ _ (T1.setTop (mkF m 4 #[.val (.ref a), .val (.int (0 : Int32))] [(.ref ro)]))
  refine Gs (fun _ tk => XS.aloadN X1.here hx rfl (hb hby d40_4) rfl rfl tk) ?_
  refine Gs (fun _ tk => XS.iloadN X1.here hx rfl (hb hby d40_5) rfl tk) ?_
  obtain ⟨cq2, q2, q2'⟩ := A_a.cell
  obtain ⟨_, _, ⟨T2, L2, k2, n2⟩, -, X2, ⟨Lc2, hQ2, l2, y2, z2⟩, st2⟩ := X1.privateBack hx (y := mN38) hown (mvT hZ (gw hw 249 rfl)) (mvT hZ (gw hw 250 rfl)) (own_selP hZ (gw hw 213 rfl) (gw hw 251 rfl) (gw hw 250 rfl) (by decide)) (Cond.privateMethod_at (mvP hZ (gw hw 251 rfl) (args := #[]))) (mvT hZ (gw hw 252 rfl)) (by decide) (backOf (W := 1) (rm_place01 l Z a0 hw [] a ro h0 n0 Z0 F_source_a F_places_a F_first_a F_size_a) hZ (gw hw 252 rfl) (gw hw 95 rfl) (by decide) (by decide)) (g := (mkF m 6 #[.val (.ref a), .val (.int (0 : Int32))] [(.int (0 : Int32)), (.ref a), (.ref ro)])) rfl (by rw [hml]; rfl) (Steps.refl _) (a := a) (by rw [e1]; exact q2) q2' (argsL := [(.int (0 : Int32))]) (rest := [(.ref ro)]) (lenOf own_pd18 rfl) rfl (w0 (Nat.le_of_eq rfl)) (hb hby d40_6) (fun _ _ => ⟨rfl, e1, (by decide : 0 + 0 ≤ _), (by decide : 0 + 0 ≤ _)⟩)
  dsimp only [Pt.U, Pt.locs, Pt.cells, Pt.slots] at X2 l2 y2 z2 st2 hQ2
  subst l2 y2 z2
  obtain ⟨rfl, N2q, e2⟩ := hQ2
  have N2 := Fr.app N0 N2q
  refine Gs (fun _ tk => st2.trans tk) ?_
  show Goes _ _ _ _ _ (T2.setTop (mkF m 9 #[.val (.ref a), .val (.int (0 : Int32))] [(.int (0 : Int32)), (.ref ro)]))
  obtain ⟨cq3, kq3, q3a, q3b, q3c⟩ := isOf hZ e2 A_ro
  obtain ⟨_, _, ⟨T3, L3, k3, n3⟩, -, X3, ⟨Lc3, hQ3, l3, y3, z3⟩, st3⟩ := X2.interfaceBack hx (xi := mN47) (y := mN42) hown (mvT hZ (gw hw 295 rfl)) (mvT hZ (gw hw 296 rfl)) (mvT hZ (gw hw 297 rfl)) (mvT hZ (gw hw 298 rfl)) (mvT hZ (gw hw 299 rfl)) (mvT hZ (gw hw 300 rfl)) (mvT hZ (gw hw 301 rfl)) (mvT hZ (gw hw 260 rfl)) (by decide) (backOf (W := 0) (rm_rhc1 l Z a0 hw [] ro u el0 hu em h0 n0 Z0 F_records_ro A_u F_e0_u A_el0 F_holders_el0 A_hu F_e1_hu S_EMPTY) hZ (gw hw 302 rfl) (gw hw 216 rfl) (by decide) (by decide)) q3a q3b q3c (g := (mkF m 9 #[.val (.ref a), .val (.int (0 : Int32))] [(.int (0 : Int32)), (.ref ro)])) rfl (by rw [hml]; rfl) (Steps.refl _) (argsL := [(.int (0 : Int32))]) (rest := []) (lenOf own_pd18 rfl) rfl (w0 (Nat.le_of_eq rfl)) (hb hby d40_9) (fun _ _ => ⟨rfl, e2, (by decide : 0 + 0 ≤ _), (by decide : 0 + 0 ≤ _)⟩)
  dsimp only [Pt.U, Pt.locs, Pt.cells, Pt.slots] at X3 l3 y3 z3 st3 hQ3
  subst l3 y3 z3
  obtain ⟨rfl, N3q, e3⟩ := hQ3
  have N3 := Fr.app N2 N3q
  refine Gs (fun _ tk => st3.trans tk) ?_
  show Goes _ _ _ _ _ (T3.setTop (mkF m 14 #[.val (.ref a), .val (.int (0 : Int32))] [(.int (1 : Int32))]))
  refine Goes.ret X3 (some (.int (1 : Int32))) (fun h => by rw [hret] at h; cases h) hlk (by decide) (by decide) ?_ (fun fs hr => ?_)
  · exact ⟨rfl, N3, e3⟩
  · exact retI X3 hx hret (hb hby d40_14) hr
theorem own_ef_rm_bget02 (m : MethodId) (x0 : Addr) (x1 : Int32) : entryFrame m #[(.ref x0), (.int x1)] 2 = mkF m 0 #[.val (.ref x0), .val (.int x1)] [] := by first | (simp [entryFrame, mkF, argsToLocals, Value.category]; done) | rfl
def Q_rm_bget02 (Z : State) (a : Addr) (ro : Addr) (u : Addr) (el0 : Addr) (h0 : Heap) (n0 : Nat) (v : Option Value) (h : Heap) (L : List Loc) : Prop := v = some (.ref el0) ∧ Fr n0 L ∧ h = h0
set_option maxRecDepth 65536 in
set_option maxHeartbeats 40000000 in
theorem rm_bget02 (l : Launch) (Z : State) (a0 : Array Value) (hw : ∀ d ∈ tables_1, d.before a0 Z = true) (ws : List Jvm.Cond) (a : Addr) (ro : Addr) (u : Addr) (el0 : Addr) (h0 : Heap) (n0 : Nat) (Z0 : n0 ≤ h0.size) (F_source_a : Fld Z h0 a "org/stripeward/scenario/Blocks" "source" "Lorg/stripeward/scenario/Blocks$Source;" (.ref ro)) (F_places_a : Fld Z h0 a "org/stripeward/scenario/Blocks" "places" "[I" .null) (F_first_a : Fld Z h0 a "org/stripeward/scenario/Blocks" "first" "I" (.int (0 : Int32))) (F_size_a : Fld Z h0 a "org/stripeward/scenario/Blocks" "size" "I" (.int (2 : Int32))) (A_a : Exa Z h0 a "org/stripeward/scenario/Blocks") (A_ro : Exa Z h0 ro "org/stripeward/scenario/Blocks$Records") (F_records_ro : Fld Z h0 ro "org/stripeward/scenario/Blocks$Records" "records" "Ljava/util/List;" (.ref u)) (A_u : Exa Z h0 u "java/util/ImmutableCollections$List12") (F_e0_u : Fld Z h0 u "java/util/ImmutableCollections$List12" "e0" "Ljava/lang/Object;" (.ref el0)) (A_el0 : Exa Z h0 el0 "org/stripeward/scenario/Block") :
    Met l Z mN44 prog_3_method_6_code 2 (some (.object "org/stripeward/scenario/Block")) ({ frames := 2, cells := 0, slots := 0, locals := 26 } : Room) ws #[(.ref a), (.int (0 : Int32))] h0 (Q_rm_bget02 Z a ro u el0 h0 n0) := by
  refine own_met (plainFor_of_name own_pn15) ?_
  intro p e s m below meth c s₁ hret hx hby hlk hml hown hnm X0 e0 hZ hh
  have N0 := Fr.nil n0
  refine Gs (fun _ tk => castTop (own_ef_rm_bget02 m a (0 : Int32)) tk) ?_
  show Goes _ _ _ _ _ (s₁.setTop (mkF m 0 #[.val (.ref a), .val (.int (0 : Int32))] []))
  refine Gs (fun _ tk => XS.aloadN X0.here hx rfl (hb hby d38_0) rfl rfl tk) ?_
  obtain ⟨T1, X1, e1, st1⟩ := getF X0 hx hZ hown (host := "") (Or.inl (gw hw 238 rfl)) Via.refl e0 F_source_a (g := (mkF m 1 #[.val (.ref a), .val (.int (0 : Int32))] [(.ref a)])) rfl rfl (hb hby d38_1)
  refine Gs st1 ?_
  show Goes _ _ _ _ _ (T1.setTop (mkF m 4 #[.val (.ref a), .val (.int (0 : Int32))] [(.ref ro)]))
  refine Gs (fun _ tk => XS.aloadN X1.here hx rfl (hb hby d38_4) rfl rfl tk) ?_
  refine Gs (fun _ tk => XS.iloadN X1.here hx rfl (hb hby d38_5) rfl tk) ?_
  obtain ⟨cq2, q2, q2'⟩ := A_a.cell
  obtain ⟨_, _, ⟨T2, L2, k2, n2⟩, -, X2, ⟨Lc2, hQ2, l2, y2, z2⟩, st2⟩ := X1.privateBack hx (y := mN38) hown (mvT hZ (gw hw 249 rfl)) (mvT hZ (gw hw 250 rfl)) (own_selP hZ (gw hw 213 rfl) (gw hw 251 rfl) (gw hw 250 rfl) (by decide)) (Cond.privateMethod_at (mvP hZ (gw hw 251 rfl) (args := #[]))) (mvT hZ (gw hw 252 rfl)) (by decide) (backOf (W := 1) (rm_place02 l Z a0 hw [] a ro h0 n0 Z0 F_source_a F_places_a F_first_a F_size_a) hZ (gw hw 252 rfl) (gw hw 95 rfl) (by decide) (by decide)) (g := (mkF m 6 #[.val (.ref a), .val (.int (0 : Int32))] [(.int (0 : Int32)), (.ref a), (.ref ro)])) rfl (by rw [hml]; rfl) (Steps.refl _) (a := a) (by rw [e1]; exact q2) q2' (argsL := [(.int (0 : Int32))]) (rest := [(.ref ro)]) (lenOf own_pd18 rfl) rfl (w0 (Nat.le_of_eq rfl)) (hb hby d38_6) (fun _ _ => ⟨rfl, e1, (by decide : 0 + 0 ≤ _), (by decide : 0 + 0 ≤ _)⟩)
  dsimp only [Pt.U, Pt.locs, Pt.cells, Pt.slots] at X2 l2 y2 z2 st2 hQ2
  subst l2 y2 z2
  obtain ⟨rfl, N2q, e2⟩ := hQ2
  have N2 := Fr.app N0 N2q
  refine Gs (fun _ tk => st2.trans tk) ?_
  show Goes _ _ _ _ _ (T2.setTop (mkF m 9 #[.val (.ref a), .val (.int (0 : Int32))] [(.int (0 : Int32)), (.ref ro)]))
  obtain ⟨cq3, kq3, q3a, q3b, q3c⟩ := isOf hZ e2 A_ro
  obtain ⟨_, _, ⟨T3, L3, k3, n3⟩, -, X3, ⟨Lc3, hQ3, l3, y3, z3⟩, st3⟩ := X2.interfaceBack hx (xi := mN43) (y := mN40) hown (mvT hZ (gw hw 253 rfl)) (mvT hZ (gw hw 254 rfl)) (mvT hZ (gw hw 255 rfl)) (mvT hZ (gw hw 256 rfl)) (mvT hZ (gw hw 257 rfl)) (mvT hZ (gw hw 258 rfl)) (mvT hZ (gw hw 259 rfl)) (mvT hZ (gw hw 260 rfl)) (by decide) (backOf (W := 0) (rm_rblk0 l Z a0 hw [] ro u el0 h0 n0 Z0 F_records_ro A_u F_e0_u A_el0) hZ (gw hw 261 rfl) (gw hw 216 rfl) (by decide) (by decide)) q3a q3b q3c (g := (mkF m 9 #[.val (.ref a), .val (.int (0 : Int32))] [(.int (0 : Int32)), (.ref ro)])) rfl (by rw [hml]; rfl) (Steps.refl _) (argsL := [(.int (0 : Int32))]) (rest := []) (lenOf own_pd19 rfl) rfl (w0 (Nat.le_of_eq rfl)) (hb hby d38_9) (fun _ _ => ⟨rfl, e2, (by decide : 0 + 0 ≤ _), (by decide : 0 + 0 ≤ _)⟩)
  dsimp only [Pt.U, Pt.locs, Pt.cells, Pt.slots] at X3 l3 y3 z3 st3 hQ3
  subst l3 y3 z3
  obtain ⟨rfl, N3q, e3⟩ := hQ3
  have N3 := Fr.app N2 N3q
  refine Gs (fun _ tk => st3.trans tk) ?_
  show Goes _ _ _ _ _ (T3.setTop (mkF m 14 #[.val (.ref a), .val (.int (0 : Int32))] [(.ref el0)]))
  refine Goes.ret X3 (some (.ref el0)) (fun h => by rw [hret] at h; cases h) hlk (by decide) (by decide) ?_ (fun fs hr => ?_)
  · exact ⟨rfl, N3, e3⟩
  · exact own_retA X3 hx hret rfl rfl (hb hby d38_14) hr
theorem own_ef_rm_bix02 (m : MethodId) (x0 : Addr) (x1 : Int32) : entryFrame m #[(.ref x0), (.int x1)] 2 = mkF m 0 #[.val (.ref x0), .val (.int x1)] [] := by first | (simp [entryFrame, mkF, argsToLocals, Value.category]; done) | rfl
def Q_rm_bix02 (Z : State) (a : Addr) (ro : Addr) (u : Addr) (el0 : Addr) (ix : Int32) (h0 : Heap) (n0 : Nat) (v : Option Value) (h : Heap) (L : List Loc) : Prop := v = some (.int ix) ∧ Fr n0 L ∧ h = h0
set_option maxRecDepth 65536 in
set_option maxHeartbeats 40000000 in
theorem rm_bix02 (l : Launch) (Z : State) (a0 : Array Value) (hw : ∀ d ∈ tables_1, d.before a0 Z = true) (ws : List Jvm.Cond) (a : Addr) (ro : Addr) (u : Addr) (el0 : Addr) (ix : Int32) (h0 : Heap) (n0 : Nat) (Z0 : n0 ≤ h0.size) (F_source_a : Fld Z h0 a "org/stripeward/scenario/Blocks" "source" "Lorg/stripeward/scenario/Blocks$Source;" (.ref ro)) (F_places_a : Fld Z h0 a "org/stripeward/scenario/Blocks" "places" "[I" .null) (F_first_a : Fld Z h0 a "org/stripeward/scenario/Blocks" "first" "I" (.int (0 : Int32))) (F_size_a : Fld Z h0 a "org/stripeward/scenario/Blocks" "size" "I" (.int (2 : Int32))) (A_a : Exa Z h0 a "org/stripeward/scenario/Blocks") (A_ro : Exa Z h0 ro "org/stripeward/scenario/Blocks$Records") (F_records_ro : Fld Z h0 ro "org/stripeward/scenario/Blocks$Records" "records" "Ljava/util/List;" (.ref u)) (A_u : Exa Z h0 u "java/util/ImmutableCollections$List12") (F_e0_u : Fld Z h0 u "java/util/ImmutableCollections$List12" "e0" "Ljava/lang/Object;" (.ref el0)) (A_el0 : Exa Z h0 el0 "org/stripeward/scenario/Block") (F_index_el0 : Fld Z h0 el0 "org/stripeward/scenario/Block" "index" "I" (.int ix)) :
    Met l Z mN46 prog_3_method_8_code 2 (some .int) ({ frames := 2, cells := 0, slots := 0, locals := 26 } : Room) ws #[(.ref a), (.int (0 : Int32))] h0 (Q_rm_bix02 Z a ro u el0 ix h0 n0) := by
  refine own_met (plainFor_of_name own_pn15) ?_
  intro p e s m below meth c s₁ hret hx hby hlk hml hown hnm X0 e0 hZ hh
  have N0 := Fr.nil n0
  refine Gs (fun _ tk => castTop (own_ef_rm_bix02 m a (0 : Int32)) tk) ?_
  show Goes _ _ _ _ _ (s₁.setTop (mkF m 0 #[.val (.ref a), .val (.int (0 : Int32))] []))
  refine Gs (fun _ tk => XS.aloadN X0.here hx rfl (hb hby d39_0) rfl rfl tk) ?_
  obtain ⟨T1, X1, e1, st1⟩ := getF X0 hx hZ hown (host := "") (Or.inl (gw hw 238 rfl)) Via.refl e0 F_source_a (g := (mkF m 1 #[.val (.ref a), .val (.int (0 : Int32))] [(.ref a)])) rfl rfl (hb hby d39_1)
  refine Gs st1 ?_
  show Goes _ _ _ _ _ (T1.setTop (mkF m 4 #[.val (.ref a), .val (.int (0 : Int32))] [(.ref ro)]))
  refine Gs (fun _ tk => XS.aloadN X1.here hx rfl (hb hby d39_4) rfl rfl tk) ?_
  refine Gs (fun _ tk => XS.iloadN X1.here hx rfl (hb hby d39_5) rfl tk) ?_
  obtain ⟨cq2, q2, q2'⟩ := A_a.cell
  obtain ⟨_, _, ⟨T2, L2, k2, n2⟩, -, X2, ⟨Lc2, hQ2, l2, y2, z2⟩, st2⟩ := X1.privateBack hx (y := mN38) hown (mvT hZ (gw hw 249 rfl)) (mvT hZ (gw hw 250 rfl)) (own_selP hZ (gw hw 213 rfl) (gw hw 251 rfl) (gw hw 250 rfl) (by decide)) (Cond.privateMethod_at (mvP hZ (gw hw 251 rfl) (args := #[]))) (mvT hZ (gw hw 252 rfl)) (by decide) (backOf (W := 1) (rm_place02 l Z a0 hw [] a ro h0 n0 Z0 F_source_a F_places_a F_first_a F_size_a) hZ (gw hw 252 rfl) (gw hw 95 rfl) (by decide) (by decide)) (g := (mkF m 6 #[.val (.ref a), .val (.int (0 : Int32))] [(.int (0 : Int32)), (.ref a), (.ref ro)])) rfl (by rw [hml]; rfl) (Steps.refl _) (a := a) (by rw [e1]; exact q2) q2' (argsL := [(.int (0 : Int32))]) (rest := [(.ref ro)]) (lenOf own_pd18 rfl) rfl (w0 (Nat.le_of_eq rfl)) (hb hby d39_6) (fun _ _ => ⟨rfl, e1, (by decide : 0 + 0 ≤ _), (by decide : 0 + 0 ≤ _)⟩)
  dsimp only [Pt.U, Pt.locs, Pt.cells, Pt.slots] at X2 l2 y2 z2 st2 hQ2
  subst l2 y2 z2
  obtain ⟨rfl, N2q, e2⟩ := hQ2
  have N2 := Fr.app N0 N2q
  refine Gs (fun _ tk => st2.trans tk) ?_
  show Goes _ _ _ _ _ (T2.setTop (mkF m 9 #[.val (.ref a), .val (.int (0 : Int32))] [(.int (0 : Int32)), (.ref ro)]))
  obtain ⟨cq3, kq3, q3a, q3b, q3c⟩ := isOf hZ e2 A_ro
  obtain ⟨_, _, ⟨T3, L3, k3, n3⟩, -, X3, ⟨Lc3, hQ3, l3, y3, z3⟩, st3⟩ := X2.interfaceBack hx (xi := mN45) (y := mN41) hown (mvT hZ (gw hw 277 rfl)) (mvT hZ (gw hw 278 rfl)) (mvT hZ (gw hw 279 rfl)) (mvT hZ (gw hw 280 rfl)) (mvT hZ (gw hw 281 rfl)) (mvT hZ (gw hw 282 rfl)) (mvT hZ (gw hw 283 rfl)) (mvT hZ (gw hw 260 rfl)) (by decide) (backOf (W := 0) (rm_rix0 l Z a0 hw [] ro u el0 ix h0 n0 Z0 F_records_ro A_u F_e0_u A_el0 F_index_el0) hZ (gw hw 284 rfl) (gw hw 216 rfl) (by decide) (by decide)) q3a q3b q3c (g := (mkF m 9 #[.val (.ref a), .val (.int (0 : Int32))] [(.int (0 : Int32)), (.ref ro)])) rfl (by rw [hml]; rfl) (Steps.refl _) (argsL := [(.int (0 : Int32))]) (rest := []) (lenOf own_pd18 rfl) rfl (w0 (Nat.le_of_eq rfl)) (hb hby d39_9) (fun _ _ => ⟨rfl, e2, (by decide : 0 + 0 ≤ _), (by decide : 0 + 0 ≤ _)⟩)
  dsimp only [Pt.U, Pt.locs, Pt.cells, Pt.slots] at X3 l3 y3 z3 st3 hQ3
  subst l3 y3 z3
  obtain ⟨rfl, N3q, e3⟩ := hQ3
  have N3 := Fr.app N2 N3q
  refine Gs (fun _ tk => st3.trans tk) ?_
  show Goes _ _ _ _ _ (T3.setTop (mkF m 14 #[.val (.ref a), .val (.int (0 : Int32))] [(.int ix)]))
  refine Goes.ret X3 (some (.int ix)) (fun h => by rw [hret] at h; cases h) hlk (by decide) (by decide) ?_ (fun fs hr => ?_)
  · exact ⟨rfl, N3, e3⟩
  · exact retI X3 hx hret (hb hby d39_14) hr
theorem own_ef_rm_bhc20 (m : MethodId) (x0 : Addr) (x1 : Int32) : entryFrame m #[(.ref x0), (.int x1)] 2 = mkF m 0 #[.val (.ref x0), .val (.int x1)] [] := by first | (simp [entryFrame, mkF, argsToLocals, Value.category]; done) | rfl
def Q_rm_bhc20 (Z : State) (a : Addr) (ro : Addr) (u : Addr) (el0 : Addr) (nl : Addr) (ea : Addr) (ke : ClassId) (h0 : Heap) (n0 : Nat) (v : Option Value) (h : Heap) (L : List Loc) : Prop := v = some (.int (0 : Int32)) ∧ Fr n0 L ∧ h = h0
set_option maxRecDepth 65536 in
set_option maxHeartbeats 40000000 in
theorem rm_bhc20 (l : Launch) (Z : State) (a0 : Array Value) (hw : ∀ d ∈ tables_1, d.before a0 Z = true) (ws : List Jvm.Cond) (a : Addr) (ro : Addr) (u : Addr) (el0 : Addr) (nl : Addr) (ea : Addr) (ke : ClassId) (h0 : Heap) (n0 : Nat) (Z0 : n0 ≤ h0.size) (F_source_a : Fld Z h0 a "org/stripeward/scenario/Blocks" "source" "Lorg/stripeward/scenario/Blocks$Source;" (.ref ro)) (F_places_a : Fld Z h0 a "org/stripeward/scenario/Blocks" "places" "[I" .null) (F_first_a : Fld Z h0 a "org/stripeward/scenario/Blocks" "first" "I" (.int (0 : Int32))) (F_size_a : Fld Z h0 a "org/stripeward/scenario/Blocks" "size" "I" (.int (2 : Int32))) (A_a : Exa Z h0 a "org/stripeward/scenario/Blocks") (A_ro : Exa Z h0 ro "org/stripeward/scenario/Blocks$Records") (F_records_ro : Fld Z h0 ro "org/stripeward/scenario/Blocks$Records" "records" "Ljava/util/List;" (.ref u)) (A_u : Exa Z h0 u "java/util/ImmutableCollections$List12") (F_e0_u : Fld Z h0 u "java/util/ImmutableCollections$List12" "e0" "Ljava/lang/Object;" (.ref el0)) (A_el0 : Exa Z h0 el0 "org/stripeward/scenario/Block") (F_holders_el0 : Fld Z h0 el0 "org/stripeward/scenario/Block" "holders" "Ljava/util/List;" (.ref nl)) (A_nl : Exa Z h0 nl "java/util/ImmutableCollections$ListN") (F_elements_nl : Fld Z h0 nl "java/util/ImmutableCollections$ListN" "elements" "[Ljava/lang/Object;" (.ref ea)) (V_ea : Arv Z h0 ea ke (.object "java/lang/Object") (0 : Int32) [] .null) :
    Met l Z mN48 prog_3_method_9_code 2 (some .int) ({ frames := 2, cells := 0, slots := 0, locals := 26 } : Room) ws #[(.ref a), (.int (0 : Int32))] h0 (Q_rm_bhc20 Z a ro u el0 nl ea ke h0 n0) := by
  refine own_met (plainFor_of_name own_pn15) ?_
  intro p e s m below meth c s₁ hret hx hby hlk hml hown hnm X0 e0 hZ hh
  have N0 := Fr.nil n0
  refine Gs (fun _ tk => castTop (own_ef_rm_bhc20 m a (0 : Int32)) tk) ?_
  show Goes _ _ _ _ _ (s₁.setTop (mkF m 0 #[.val (.ref a), .val (.int (0 : Int32))] []))
  refine Gs (fun _ tk => XS.aloadN X0.here hx rfl (hb hby d40_0) rfl rfl tk) ?_
  obtain ⟨T1, X1, e1, st1⟩ := getF X0 hx hZ hown (host := "") (Or.inl (gw hw 238 rfl)) Via.refl e0 F_source_a (g := (mkF m 1 #[.val (.ref a), .val (.int (0 : Int32))] [(.ref a)])) rfl rfl (hb hby d40_1)
  refine Gs st1 ?_
  show Goes _ _ _ _ _ (T1.setTop (mkF m 4 #[.val (.ref a), .val (.int (0 : Int32))] [(.ref ro)]))
  refine Gs (fun _ tk => XS.aloadN X1.here hx rfl (hb hby d40_4) rfl rfl tk) ?_
  refine Gs (fun _ tk => XS.iloadN X1.here hx rfl (hb hby d40_5) rfl tk) ?_
  obtain ⟨cq2, q2, q2'⟩ := A_a.cell
  obtain ⟨_, _, ⟨T2, L2, k2, n2⟩, -, X2, ⟨Lc2, hQ2, l2, y2, z2⟩, st2⟩ := X1.privateBack hx (y := mN38) hown (mvT hZ (gw hw 249 rfl)) (mvT hZ (gw hw 250 rfl)) (own_selP hZ (gw hw 213 rfl) (gw hw 251 rfl) (gw hw 250 rfl) (by decide)) (Cond.privateMethod_at (mvP hZ (gw hw 251 rfl) (args := #[]))) (mvT hZ (gw hw 252 rfl)) (by decide) (backOf (W := 1) (rm_place02 l Z a0 hw [] a ro h0 n0 Z0 F_source_a F_places_a F_first_a F_size_a) hZ (gw hw 252 rfl) (gw hw 95 rfl) (by decide) (by decide)) (g := (mkF m 6 #[.val (.ref a), .val (.int (0 : Int32))] [(.int (0 : Int32)), (.ref a), (.ref ro)])) rfl (by rw [hml]; rfl) (Steps.refl _) (a := a) (by rw [e1]; exact q2) q2' (argsL := [(.int (0 : Int32))]) (rest := [(.ref ro)]) (lenOf own_pd18 rfl) rfl (w0 (Nat.le_of_eq rfl)) (hb hby d40_6) (fun _ _ => ⟨rfl, e1, (by decide : 0 + 0 ≤ _), (by decide : 0 + 0 ≤ _)⟩)
  dsimp only [Pt.U, Pt.locs, Pt.cells, Pt.slots] at X2 l2 y2 z2 st2 hQ2
  subst l2 y2 z2
  obtain ⟨rfl, N2q, e2⟩ := hQ2
  have N2 := Fr.app N0 N2q
  refine Gs (fun _ tk => st2.trans tk) ?_
  show Goes _ _ _ _ _ (T2.setTop (mkF m 9 #[.val (.ref a), .val (.int (0 : Int32))] [(.int (0 : Int32)), (.ref ro)]))
  obtain ⟨cq3, kq3, q3a, q3b, q3c⟩ := isOf hZ e2 A_ro
  obtain ⟨_, _, ⟨T3, L3, k3, n3⟩, -, X3, ⟨Lc3, hQ3, l3, y3, z3⟩, st3⟩ := X2.interfaceBack hx (xi := mN47) (y := mN42) hown (mvT hZ (gw hw 295 rfl)) (mvT hZ (gw hw 296 rfl)) (mvT hZ (gw hw 297 rfl)) (mvT hZ (gw hw 298 rfl)) (mvT hZ (gw hw 299 rfl)) (mvT hZ (gw hw 300 rfl)) (mvT hZ (gw hw 301 rfl)) (mvT hZ (gw hw 260 rfl)) (by decide) (backOf (W := 0) (rm_rhc0 l Z a0 hw [] ro u el0 nl ea ke h0 n0 Z0 F_records_ro A_u F_e0_u A_el0 F_holders_el0 A_nl F_elements_nl V_ea) hZ (gw hw 302 rfl) (gw hw 216 rfl) (by decide) (by decide)) q3a q3b q3c (g := (mkF m 9 #[.val (.ref a), .val (.int (0 : Int32))] [(.int (0 : Int32)), (.ref ro)])) rfl (by rw [hml]; rfl) (Steps.refl _) (argsL := [(.int (0 : Int32))]) (rest := []) (lenOf own_pd18 rfl) rfl (w0 (Nat.le_of_eq rfl)) (hb hby d40_9) (fun _ _ => ⟨rfl, e2, (by decide : 0 + 0 ≤ _), (by decide : 0 + 0 ≤ _)⟩)
  dsimp only [Pt.U, Pt.locs, Pt.cells, Pt.slots] at X3 l3 y3 z3 st3 hQ3
  subst l3 y3 z3
  obtain ⟨rfl, N3q, e3⟩ := hQ3
  have N3 := Fr.app N2 N3q
  refine Gs (fun _ tk => st3.trans tk) ?_
  show Goes _ _ _ _ _ (T3.setTop (mkF m 14 #[.val (.ref a), .val (.int (0 : Int32))] [(.int (0 : Int32))]))
  refine Goes.ret X3 (some (.int (0 : Int32))) (fun h => by rw [hret] at h; cases h) hlk (by decide) (by decide) ?_ (fun fs hr => ?_)
  · exact ⟨rfl, N3, e3⟩
  · exact retI X3 hx hret (hb hby d40_14) hr
theorem own_ef_rm_bhc21 (m : MethodId) (x0 : Addr) (x1 : Int32) : entryFrame m #[(.ref x0), (.int x1)] 2 = mkF m 0 #[.val (.ref x0), .val (.int x1)] [] := by first | (simp [entryFrame, mkF, argsToLocals, Value.category]; done) | rfl
def Q_rm_bhc21 (Z : State) (a : Addr) (ro : Addr) (u : Addr) (el0 : Addr) (hu : Addr) (em : Addr) (h0 : Heap) (n0 : Nat) (v : Option Value) (h : Heap) (L : List Loc) : Prop := v = some (.int (1 : Int32)) ∧ Fr n0 L ∧ h = h0
set_option maxRecDepth 65536 in
set_option maxHeartbeats 40000000 in
theorem rm_bhc21 (l : Launch) (Z : State) (a0 : Array Value) (hw : ∀ d ∈ tables_1, d.before a0 Z = true) (ws : List Jvm.Cond) (a : Addr) (ro : Addr) (u : Addr) (el0 : Addr) (hu : Addr) (em : Addr) (h0 : Heap) (n0 : Nat) (Z0 : n0 ≤ h0.size) (F_source_a : Fld Z h0 a "org/stripeward/scenario/Blocks" "source" "Lorg/stripeward/scenario/Blocks$Source;" (.ref ro)) (F_places_a : Fld Z h0 a "org/stripeward/scenario/Blocks" "places" "[I" .null) (F_first_a : Fld Z h0 a "org/stripeward/scenario/Blocks" "first" "I" (.int (0 : Int32))) (F_size_a : Fld Z h0 a "org/stripeward/scenario/Blocks" "size" "I" (.int (2 : Int32))) (A_a : Exa Z h0 a "org/stripeward/scenario/Blocks") (A_ro : Exa Z h0 ro "org/stripeward/scenario/Blocks$Records") (F_records_ro : Fld Z h0 ro "org/stripeward/scenario/Blocks$Records" "records" "Ljava/util/List;" (.ref u)) (A_u : Exa Z h0 u "java/util/ImmutableCollections$List12") (F_e0_u : Fld Z h0 u "java/util/ImmutableCollections$List12" "e0" "Ljava/lang/Object;" (.ref el0)) (A_el0 : Exa Z h0 el0 "org/stripeward/scenario/Block") (F_holders_el0 : Fld Z h0 el0 "org/stripeward/scenario/Block" "holders" "Ljava/util/List;" (.ref hu)) (A_hu : Exa Z h0 hu "java/util/ImmutableCollections$List12") (F_e1_hu : Fld Z h0 hu "java/util/ImmutableCollections$List12" "e1" "Ljava/lang/Object;" (.ref em)) (S_EMPTY : Sta Z h0 "java/util/ImmutableCollections" "EMPTY" "Ljava/lang/Object;" (.ref em)) :
    Met l Z mN48 prog_3_method_9_code 2 (some .int) ({ frames := 2, cells := 0, slots := 0, locals := 26 } : Room) ws #[(.ref a), (.int (0 : Int32))] h0 (Q_rm_bhc21 Z a ro u el0 hu em h0 n0) := by
  refine own_met (plainFor_of_name own_pn15) ?_
  intro p e s m below meth c s₁ hret hx hby hlk hml hown hnm X0 e0 hZ hh
  have N0 := Fr.nil n0
  refine Gs (fun _ tk => castTop (own_ef_rm_bhc21 m a (0 : Int32)) tk) ?_
  show Goes _ _ _ _ _ (s₁.setTop (mkF m 0 #[.val (.ref a), .val (.int (0 : Int32))] []))
  refine Gs (fun _ tk => XS.aloadN X0.here hx rfl (hb hby d40_0) rfl rfl tk) ?_
  obtain ⟨T1, X1, e1, st1⟩ := getF X0 hx hZ hown (host := "") (Or.inl (gw hw 238 rfl)) Via.refl e0 F_source_a (g := (mkF m 1 #[.val (.ref a), .val (.int (0 : Int32))] [(.ref a)])) rfl rfl (hb hby d40_1)
  refine Gs st1 ?_
  show Goes _ _ _ _ _ (T1.setTop (mkF m 4 #[.val (.ref a), .val (.int (0 : Int32))] [(.ref ro)]))
  refine Gs (fun _ tk => XS.aloadN X1.here hx rfl (hb hby d40_4) rfl rfl tk) ?_
  refine Gs (fun _ tk => XS.iloadN X1.here hx rfl (hb hby d40_5) rfl tk) ?_
  obtain ⟨cq2, q2, q2'⟩ := A_a.cell
  obtain ⟨_, _, ⟨T2, L2, k2, n2⟩, -, X2, ⟨Lc2, hQ2, l2, y2, z2⟩, st2⟩ := X1.privateBack hx (y := mN38) hown (mvT hZ (gw hw 249 rfl)) (mvT hZ (gw hw 250 rfl)) (own_selP hZ (gw hw 213 rfl) (gw hw 251 rfl) (gw hw 250 rfl) (by decide)) (Cond.privateMethod_at (mvP hZ (gw hw 251 rfl) (args := #[]))) (mvT hZ (gw hw 252 rfl)) (by decide) (backOf (W := 1) (rm_place02 l Z a0 hw [] a ro h0 n0 Z0 F_source_a F_places_a F_first_a F_size_a) hZ (gw hw 252 rfl) (gw hw 95 rfl) (by decide) (by decide)) (g := (mkF m 6 #[.val (.ref a), .val (.int (0 : Int32))] [(.int (0 : Int32)), (.ref a), (.ref ro)])) rfl (by rw [hml]; rfl) (Steps.refl _) (a := a) (by rw [e1]; exact q2) q2' (argsL := [(.int (0 : Int32))]) (rest := [(.ref ro)]) (lenOf own_pd18 rfl) rfl (w0 (Nat.le_of_eq rfl)) (hb hby d40_6) (fun _ _ => ⟨rfl, e1, (by decide : 0 + 0 ≤ _), (by decide : 0 + 0 ≤ _)⟩)
  dsimp only [Pt.U, Pt.locs, Pt.cells, Pt.slots] at X2 l2 y2 z2 st2 hQ2
  subst l2 y2 z2
  obtain ⟨rfl, N2q, e2⟩ := hQ2
  have N2 := Fr.app N0 N2q
  refine Gs (fun _ tk => st2.trans tk) ?_
  show Goes _ _ _ _ _ (T2.setTop (mkF m 9 #[.val (.ref a), .val (.int (0 : Int32))] [(.int (0 : Int32)), (.ref ro)]))
  obtain ⟨cq3, kq3, q3a, q3b, q3c⟩ := isOf hZ e2 A_ro
  obtain ⟨_, _, ⟨T3, L3, k3, n3⟩, -, X3, ⟨Lc3, hQ3, l3, y3, z3⟩, st3⟩ := X2.interfaceBack hx (xi := mN47) (y := mN42) hown (mvT hZ (gw hw 295 rfl)) (mvT hZ (gw hw 296 rfl)) (mvT hZ (gw hw 297 rfl)) (mvT hZ (gw hw 298 rfl)) (mvT hZ (gw hw 299 rfl)) (mvT hZ (gw hw 300 rfl)) (mvT hZ (gw hw 301 rfl)) (mvT hZ (gw hw 260 rfl)) (by decide) (backOf (W := 0) (rm_rhc1 l Z a0 hw [] ro u el0 hu em h0 n0 Z0 F_records_ro A_u F_e0_u A_el0 F_holders_el0 A_hu F_e1_hu S_EMPTY) hZ (gw hw 302 rfl) (gw hw 216 rfl) (by decide) (by decide)) q3a q3b q3c (g := (mkF m 9 #[.val (.ref a), .val (.int (0 : Int32))] [(.int (0 : Int32)), (.ref ro)])) rfl (by rw [hml]; rfl) (Steps.refl _) (argsL := [(.int (0 : Int32))]) (rest := []) (lenOf own_pd18 rfl) rfl (w0 (Nat.le_of_eq rfl)) (hb hby d40_9) (fun _ _ => ⟨rfl, e2, (by decide : 0 + 0 ≤ _), (by decide : 0 + 0 ≤ _)⟩)
  dsimp only [Pt.U, Pt.locs, Pt.cells, Pt.slots] at X3 l3 y3 z3 st3 hQ3
  subst l3 y3 z3
  obtain ⟨rfl, N3q, e3⟩ := hQ3
  have N3 := Fr.app N2 N3q
  refine Gs (fun _ tk => st3.trans tk) ?_
  show Goes _ _ _ _ _ (T3.setTop (mkF m 14 #[.val (.ref a), .val (.int (0 : Int32))] [(.int (1 : Int32))]))
  refine Goes.ret X3 (some (.int (1 : Int32))) (fun h => by rw [hret] at h; cases h) hlk (by decide) (by decide) ?_ (fun fs hr => ?_)
  · exact ⟨rfl, N3, e3⟩
  · exact retI X3 hx hret (hb hby d40_14) hr
theorem own_ef_rm_bget12 (m : MethodId) (x0 : Addr) (x1 : Int32) : entryFrame m #[(.ref x0), (.int x1)] 2 = mkF m 0 #[.val (.ref x0), .val (.int x1)] [] := by first | (simp [entryFrame, mkF, argsToLocals, Value.category]; done) | rfl
def Q_rm_bget12 (Z : State) (a : Addr) (ro : Addr) (u : Addr) (el1 : Addr) (em : Addr) (h0 : Heap) (n0 : Nat) (v : Option Value) (h : Heap) (L : List Loc) : Prop := v = some (.ref el1) ∧ Fr n0 L ∧ h = h0
set_option maxRecDepth 65536 in
set_option maxHeartbeats 40000000 in
theorem rm_bget12 (l : Launch) (Z : State) (a0 : Array Value) (hw : ∀ d ∈ tables_1, d.before a0 Z = true) (ws : List Jvm.Cond) (a : Addr) (ro : Addr) (u : Addr) (el1 : Addr) (em : Addr) (h0 : Heap) (n0 : Nat) (Z0 : n0 ≤ h0.size) (F_source_a : Fld Z h0 a "org/stripeward/scenario/Blocks" "source" "Lorg/stripeward/scenario/Blocks$Source;" (.ref ro)) (F_places_a : Fld Z h0 a "org/stripeward/scenario/Blocks" "places" "[I" .null) (F_first_a : Fld Z h0 a "org/stripeward/scenario/Blocks" "first" "I" (.int (0 : Int32))) (F_size_a : Fld Z h0 a "org/stripeward/scenario/Blocks" "size" "I" (.int (2 : Int32))) (A_a : Exa Z h0 a "org/stripeward/scenario/Blocks") (A_ro : Exa Z h0 ro "org/stripeward/scenario/Blocks$Records") (F_records_ro : Fld Z h0 ro "org/stripeward/scenario/Blocks$Records" "records" "Ljava/util/List;" (.ref u)) (A_u : Exa Z h0 u "java/util/ImmutableCollections$List12") (F_e1_u : Fld Z h0 u "java/util/ImmutableCollections$List12" "e1" "Ljava/lang/Object;" (.ref el1)) (A_el1 : Exa Z h0 el1 "org/stripeward/scenario/Block") (S_EMPTY : Sta Z h0 "java/util/ImmutableCollections" "EMPTY" "Ljava/lang/Object;" (.ref em)) (ne_el1_em : el1 ≠ em) :
    Met l Z mN44 prog_3_method_6_code 2 (some (.object "org/stripeward/scenario/Block")) ({ frames := 2, cells := 0, slots := 0, locals := 26 } : Room) ws #[(.ref a), (.int (1 : Int32))] h0 (Q_rm_bget12 Z a ro u el1 em h0 n0) := by
  refine own_met (plainFor_of_name own_pn15) ?_
  intro p e s m below meth c s₁ hret hx hby hlk hml hown hnm X0 e0 hZ hh
  have N0 := Fr.nil n0
  refine Gs (fun _ tk => castTop (own_ef_rm_bget12 m a (1 : Int32)) tk) ?_
  show Goes _ _ _ _ _ (s₁.setTop (mkF m 0 #[.val (.ref a), .val (.int (1 : Int32))] []))
  refine Gs (fun _ tk => XS.aloadN X0.here hx rfl (hb hby d38_0) rfl rfl tk) ?_
  obtain ⟨T1, X1, e1, st1⟩ := getF X0 hx hZ hown (host := "") (Or.inl (gw hw 238 rfl)) Via.refl e0 F_source_a (g := (mkF m 1 #[.val (.ref a), .val (.int (1 : Int32))] [(.ref a)])) rfl rfl (hb hby d38_1)
  refine Gs st1 ?_
  show Goes _ _ _ _ _ (T1.setTop (mkF m 4 #[.val (.ref a), .val (.int (1 : Int32))] [(.ref ro)]))
  refine Gs (fun _ tk => XS.aloadN X1.here hx rfl (hb hby d38_4) rfl rfl tk) ?_
  refine Gs (fun _ tk => XS.iloadN X1.here hx rfl (hb hby d38_5) rfl tk) ?_
  obtain ⟨cq2, q2, q2'⟩ := A_a.cell
  obtain ⟨_, _, ⟨T2, L2, k2, n2⟩, -, X2, ⟨Lc2, hQ2, l2, y2, z2⟩, st2⟩ := X1.privateBack hx (y := mN38) hown (mvT hZ (gw hw 249 rfl)) (mvT hZ (gw hw 250 rfl)) (own_selP hZ (gw hw 213 rfl) (gw hw 251 rfl) (gw hw 250 rfl) (by decide)) (Cond.privateMethod_at (mvP hZ (gw hw 251 rfl) (args := #[]))) (mvT hZ (gw hw 252 rfl)) (by decide) (backOf (W := 1) (rm_place12 l Z a0 hw [] a ro h0 n0 Z0 F_source_a F_places_a F_first_a F_size_a) hZ (gw hw 252 rfl) (gw hw 95 rfl) (by decide) (by decide)) (g := (mkF m 6 #[.val (.ref a), .val (.int (1 : Int32))] [(.int (1 : Int32)), (.ref a), (.ref ro)])) rfl (by rw [hml]; rfl) (Steps.refl _) (a := a) (by rw [e1]; exact q2) q2' (argsL := [(.int (1 : Int32))]) (rest := [(.ref ro)]) (lenOf own_pd18 rfl) rfl (w0 (Nat.le_of_eq rfl)) (hb hby d38_6) (fun _ _ => ⟨rfl, e1, (by decide : 0 + 0 ≤ _), (by decide : 0 + 0 ≤ _)⟩)
  dsimp only [Pt.U, Pt.locs, Pt.cells, Pt.slots] at X2 l2 y2 z2 st2 hQ2
  subst l2 y2 z2
  obtain ⟨rfl, N2q, e2⟩ := hQ2
  have N2 := Fr.app N0 N2q
  refine Gs (fun _ tk => st2.trans tk) ?_
  show Goes _ _ _ _ _ (T2.setTop (mkF m 9 #[.val (.ref a), .val (.int (1 : Int32))] [(.int (1 : Int32)), (.ref ro)]))
  obtain ⟨cq3, kq3, q3a, q3b, q3c⟩ := isOf hZ e2 A_ro
  obtain ⟨_, _, ⟨T3, L3, k3, n3⟩, -, X3, ⟨Lc3, hQ3, l3, y3, z3⟩, st3⟩ := X2.interfaceBack hx (xi := mN43) (y := mN40) hown (mvT hZ (gw hw 253 rfl)) (mvT hZ (gw hw 254 rfl)) (mvT hZ (gw hw 255 rfl)) (mvT hZ (gw hw 256 rfl)) (mvT hZ (gw hw 257 rfl)) (mvT hZ (gw hw 258 rfl)) (mvT hZ (gw hw 259 rfl)) (mvT hZ (gw hw 260 rfl)) (by decide) (backOf (W := 0) (rm_rblk1 l Z a0 hw [] ro u el1 em h0 n0 Z0 F_records_ro A_u F_e1_u A_el1 S_EMPTY ne_el1_em) hZ (gw hw 261 rfl) (gw hw 216 rfl) (by decide) (by decide)) q3a q3b q3c (g := (mkF m 9 #[.val (.ref a), .val (.int (1 : Int32))] [(.int (1 : Int32)), (.ref ro)])) rfl (by rw [hml]; rfl) (Steps.refl _) (argsL := [(.int (1 : Int32))]) (rest := []) (lenOf own_pd19 rfl) rfl (w0 (Nat.le_of_eq rfl)) (hb hby d38_9) (fun _ _ => ⟨rfl, e2, (by decide : 0 + 0 ≤ _), (by decide : 0 + 0 ≤ _)⟩)
  dsimp only [Pt.U, Pt.locs, Pt.cells, Pt.slots] at X3 l3 y3 z3 st3 hQ3
  subst l3 y3 z3
  obtain ⟨rfl, N3q, e3⟩ := hQ3
  have N3 := Fr.app N2 N3q
  refine Gs (fun _ tk => st3.trans tk) ?_
  show Goes _ _ _ _ _ (T3.setTop (mkF m 14 #[.val (.ref a), .val (.int (1 : Int32))] [(.ref el1)]))
  refine Goes.ret X3 (some (.ref el1)) (fun h => by rw [hret] at h; cases h) hlk (by decide) (by decide) ?_ (fun fs hr => ?_)
  · exact ⟨rfl, N3, e3⟩
  · exact own_retA X3 hx hret rfl rfl (hb hby d38_14) hr
theorem own_ef_rm_bix12 (m : MethodId) (x0 : Addr) (x1 : Int32) : entryFrame m #[(.ref x0), (.int x1)] 2 = mkF m 0 #[.val (.ref x0), .val (.int x1)] [] := by first | (simp [entryFrame, mkF, argsToLocals, Value.category]; done) | rfl
def Q_rm_bix12 (Z : State) (a : Addr) (ro : Addr) (u : Addr) (el1 : Addr) (em : Addr) (ix : Int32) (h0 : Heap) (n0 : Nat) (v : Option Value) (h : Heap) (L : List Loc) : Prop := v = some (.int ix) ∧ Fr n0 L ∧ h = h0
set_option maxRecDepth 65536 in
set_option maxHeartbeats 40000000 in
theorem rm_bix12 (l : Launch) (Z : State) (a0 : Array Value) (hw : ∀ d ∈ tables_1, d.before a0 Z = true) (ws : List Jvm.Cond) (a : Addr) (ro : Addr) (u : Addr) (el1 : Addr) (em : Addr) (ix : Int32) (h0 : Heap) (n0 : Nat) (Z0 : n0 ≤ h0.size) (F_source_a : Fld Z h0 a "org/stripeward/scenario/Blocks" "source" "Lorg/stripeward/scenario/Blocks$Source;" (.ref ro)) (F_places_a : Fld Z h0 a "org/stripeward/scenario/Blocks" "places" "[I" .null) (F_first_a : Fld Z h0 a "org/stripeward/scenario/Blocks" "first" "I" (.int (0 : Int32))) (F_size_a : Fld Z h0 a "org/stripeward/scenario/Blocks" "size" "I" (.int (2 : Int32))) (A_a : Exa Z h0 a "org/stripeward/scenario/Blocks") (A_ro : Exa Z h0 ro "org/stripeward/scenario/Blocks$Records") (F_records_ro : Fld Z h0 ro "org/stripeward/scenario/Blocks$Records" "records" "Ljava/util/List;" (.ref u)) (A_u : Exa Z h0 u "java/util/ImmutableCollections$List12") (F_e1_u : Fld Z h0 u "java/util/ImmutableCollections$List12" "e1" "Ljava/lang/Object;" (.ref el1)) (A_el1 : Exa Z h0 el1 "org/stripeward/scenario/Block") (S_EMPTY : Sta Z h0 "java/util/ImmutableCollections" "EMPTY" "Ljava/lang/Object;" (.ref em)) (ne_el1_em : el1 ≠ em) (F_index_el1 : Fld Z h0 el1 "org/stripeward/scenario/Block" "index" "I" (.int ix)) :
    Met l Z mN46 prog_3_method_8_code 2 (some .int) ({ frames := 2, cells := 0, slots := 0, locals := 26 } : Room) ws #[(.ref a), (.int (1 : Int32))] h0 (Q_rm_bix12 Z a ro u el1 em ix h0 n0) := by
  refine own_met (plainFor_of_name own_pn15) ?_
  intro p e s m below meth c s₁ hret hx hby hlk hml hown hnm X0 e0 hZ hh
  have N0 := Fr.nil n0
  refine Gs (fun _ tk => castTop (own_ef_rm_bix12 m a (1 : Int32)) tk) ?_
  show Goes _ _ _ _ _ (s₁.setTop (mkF m 0 #[.val (.ref a), .val (.int (1 : Int32))] []))
  refine Gs (fun _ tk => XS.aloadN X0.here hx rfl (hb hby d39_0) rfl rfl tk) ?_
  obtain ⟨T1, X1, e1, st1⟩ := getF X0 hx hZ hown (host := "") (Or.inl (gw hw 238 rfl)) Via.refl e0 F_source_a (g := (mkF m 1 #[.val (.ref a), .val (.int (1 : Int32))] [(.ref a)])) rfl rfl (hb hby d39_1)
  refine Gs st1 ?_
  show Goes _ _ _ _ _ (T1.setTop (mkF m 4 #[.val (.ref a), .val (.int (1 : Int32))] [(.ref ro)]))
  refine Gs (fun _ tk => XS.aloadN X1.here hx rfl (hb hby d39_4) rfl rfl tk) ?_
  refine Gs (fun _ tk => XS.iloadN X1.here hx rfl (hb hby d39_5) rfl tk) ?_
  obtain ⟨cq2, q2, q2'⟩ := A_a.cell
  obtain ⟨_, _, ⟨T2, L2, k2, n2⟩, -, X2, ⟨Lc2, hQ2, l2, y2, z2⟩, st2⟩ := X1.privateBack hx (y := mN38) hown (mvT hZ (gw hw 249 rfl)) (mvT hZ (gw hw 250 rfl)) (own_selP hZ (gw hw 213 rfl) (gw hw 251 rfl) (gw hw 250 rfl) (by decide)) (Cond.privateMethod_at (mvP hZ (gw hw 251 rfl) (args := #[]))) (mvT hZ (gw hw 252 rfl)) (by decide) (backOf (W := 1) (rm_place12 l Z a0 hw [] a ro h0 n0 Z0 F_source_a F_places_a F_first_a F_size_a) hZ (gw hw 252 rfl) (gw hw 95 rfl) (by decide) (by decide)) (g := (mkF m 6 #[.val (.ref a), .val (.int (1 : Int32))] [(.int (1 : Int32)), (.ref a), (.ref ro)])) rfl (by rw [hml]; rfl) (Steps.refl _) (a := a) (by rw [e1]; exact q2) q2' (argsL := [(.int (1 : Int32))]) (rest := [(.ref ro)]) (lenOf own_pd18 rfl) rfl (w0 (Nat.le_of_eq rfl)) (hb hby d39_6) (fun _ _ => ⟨rfl, e1, (by decide : 0 + 0 ≤ _), (by decide : 0 + 0 ≤ _)⟩)
  dsimp only [Pt.U, Pt.locs, Pt.cells, Pt.slots] at X2 l2 y2 z2 st2 hQ2
  subst l2 y2 z2
  obtain ⟨rfl, N2q, e2⟩ := hQ2
  have N2 := Fr.app N0 N2q
  refine Gs (fun _ tk => st2.trans tk) ?_
  show Goes _ _ _ _ _ (T2.setTop (mkF m 9 #[.val (.ref a), .val (.int (1 : Int32))] [(.int (1 : Int32)), (.ref ro)]))
  obtain ⟨cq3, kq3, q3a, q3b, q3c⟩ := isOf hZ e2 A_ro
  obtain ⟨_, _, ⟨T3, L3, k3, n3⟩, -, X3, ⟨Lc3, hQ3, l3, y3, z3⟩, st3⟩ := X2.interfaceBack hx (xi := mN45) (y := mN41) hown (mvT hZ (gw hw 277 rfl)) (mvT hZ (gw hw 278 rfl)) (mvT hZ (gw hw 279 rfl)) (mvT hZ (gw hw 280 rfl)) (mvT hZ (gw hw 281 rfl)) (mvT hZ (gw hw 282 rfl)) (mvT hZ (gw hw 283 rfl)) (mvT hZ (gw hw 260 rfl)) (by decide) (backOf (W := 0) (rm_rix1 l Z a0 hw [] ro u el1 em ix h0 n0 Z0 F_records_ro A_u F_e1_u A_el1 S_EMPTY ne_el1_em F_index_el1) hZ (gw hw 284 rfl) (gw hw 216 rfl) (by decide) (by decide)) q3a q3b q3c (g := (mkF m 9 #[.val (.ref a), .val (.int (1 : Int32))] [(.int (1 : Int32)), (.ref ro)])) rfl (by rw [hml]; rfl) (Steps.refl _) (argsL := [(.int (1 : Int32))]) (rest := []) (lenOf own_pd18 rfl) rfl (w0 (Nat.le_of_eq rfl)) (hb hby d39_9) (fun _ _ => ⟨rfl, e2, (by decide : 0 + 0 ≤ _), (by decide : 0 + 0 ≤ _)⟩)
  dsimp only [Pt.U, Pt.locs, Pt.cells, Pt.slots] at X3 l3 y3 z3 st3 hQ3
  subst l3 y3 z3
  obtain ⟨rfl, N3q, e3⟩ := hQ3
  have N3 := Fr.app N2 N3q
  refine Gs (fun _ tk => st3.trans tk) ?_
  show Goes _ _ _ _ _ (T3.setTop (mkF m 14 #[.val (.ref a), .val (.int (1 : Int32))] [(.int ix)]))
  refine Goes.ret X3 (some (.int ix)) (fun h => by rw [hret] at h; cases h) hlk (by decide) (by decide) ?_ (fun fs hr => ?_)
  · exact ⟨rfl, N3, e3⟩
  · exact retI X3 hx hret (hb hby d39_14) hr
theorem own_pd20 : parseMethodDescriptor "(ILjava/lang/String;Lorg/stripeward/scenario/Rack;)V" = some ⟨[.int, (.object "java/lang/String"), (.object "org/stripeward/scenario/Rack")], none⟩ := by decide +kernel
theorem own_pd21 : parseMethodDescriptor "(ILjava/lang/String;Ljava/util/List;Lorg/stripeward/scenario/Stripe;ZD)V" = some ⟨[.int, (.object "java/lang/String"), (.object "java/util/List"), (.object "org/stripeward/scenario/Stripe"), .boolean, .double], none⟩ := by decide +kernel
theorem own_pd22 : parseMethodDescriptor "(Ljava/util/List;)Lorg/stripeward/scenario/Blocks;" = some ⟨[(.object "java/util/List")], some (.object "org/stripeward/scenario/Blocks")⟩ := by decide +kernel
theorem own_pd23 : parseMethodDescriptor "(Ljava/lang/Object;)Z" = some ⟨[(.object "java/lang/Object")], some .boolean⟩ := by decide +kernel
theorem own_pn16 : plainName "org/stripeward/scenario/BlocksOfPinLaw" = true := by first | (simp [plainName, overriddenIn]; done) | decide +kernel
theorem own_ef_rm_law (m : MethodId) (x0 : Int32) (x1 : Int32) (x2 : Int32) (x3 : Int32) : entryFrame m #[(.int x0), (.int x1), (.int x2), (.int x3)] maxLocals = mkF m 0 #[.val (.int x0), .val (.int x1), .val (.int x2), .val (.int x3), .unset, .unset, .unset, .unset, .unset, .unset, .unset, .unset, .unset, .unset] [] := by first | (simp [entryFrame, mkF, argsToLocals, Value.category, maxLocals]; done) | rfl
def Q_rm_law (Z : State) (x0 : Int32) (x1 : Int32) (x2 : Int32) (x3 : Int32) (d : Addr) (kd : ClassId) (nl : Addr) (ea : Addr) (ke : ClassId) (em : Addr) (no : Addr) (mr : Addr) (h0 : Heap) (n0 : Nat) (v : Option Value) (h : Heap) (L : List Loc) : Prop := v = some (.int 1) ∧ Fr n0 L
set_option maxRecDepth 65536 in
set_option maxHeartbeats 40000000 in
theorem rm_law (l : Launch) (Z : State) (a0 : Array Value) (hw : ∀ d ∈ tables_1, d.before a0 Z = true) (ws : List Jvm.Cond) (x0 : Int32) (x1 : Int32) (x2 : Int32) (x3 : Int32) (d : Addr) (kd : ClassId) (nl : Addr) (ea : Addr) (ke : ClassId) (em : Addr) (no : Addr) (mr : Addr) (h0 : Heap) (n0 : Nat) (Z0 : n0 ≤ h0.size) (S_DEFAULTCAPACITY_EMPTY_ELEMENTDATA : Sta Z h0 "java/util/ArrayList" "DEFAULTCAPACITY_EMPTY_ELEMENTDATA" "[Ljava/lang/Object;" (.ref d)) (V_d : Arv Z h0 d kd (.object "java/lang/Object") (0 : Int32) [] .null) (S_EMPTY_LIST : Sta Z h0 "java/util/ImmutableCollections" "EMPTY_LIST" "Ljava/util/ImmutableCollections$ListN;" (.ref nl)) (A_nl : Exa Z h0 nl "java/util/ImmutableCollections$ListN") (F_elements_nl : Fld Z h0 nl "java/util/ImmutableCollections$ListN" "elements" "[Ljava/lang/Object;" (.ref ea)) (V_ea : Arv Z h0 ea ke (.object "java/lang/Object") (0 : Int32) [] .null) (S_EMPTY : Sta Z h0 "java/util/ImmutableCollections" "EMPTY" "Ljava/lang/Object;" (.ref em)) (A_em : Exa Z h0 em "java/lang/Object") (S_NONE : Sta Z h0 "org/stripeward/scenario/Blocks" "NONE" "Lorg/stripeward/scenario/Blocks;" (.ref no)) (A_no : Exa Z h0 no "org/stripeward/scenario/Blocks") (F_size_no : Fld Z h0 no "org/stripeward/scenario/Blocks" "size" "I" (.int (0 : Int32))) (hmr : Mir Z "[Ljava/lang/Object;" mr) :
    Met l Z x code maxLocals ret room_1 ws #[(.int x0), (.int x1), (.int x2), (.int x3)] h0 (Q_rm_law Z x0 x1 x2 x3 d kd nl ea ke em no mr h0 n0) := by
  refine own_met (plainFor_of_name own_pn16) ?_
  intro p e s m below meth c s₁ hret hx hby hlk hml hown hnm X0 e0 hZ hh
  have N0 := Fr.nil n0
  refine Gs (fun _ tk => castTop (own_ef_rm_law m x0 x1 x2 x3) tk) ?_
  show Goes _ _ _ _ _ (s₁.setTop (mkF m 0 #[.val (.int x0), .val (.int x1), .val (.int x2), .val (.int x3), .unset, .unset, .unset, .unset, .unset, .unset, .unset, .unset, .unset, .unset] []))
  refine Gs (fun _ tk => XS.iloadN X0.here hx rfl (hb hby at_0) rfl tk) ?_
  refine Gs (fun _ tk => XS.iconst X0.here hx rfl (hb hby at_1) tk) ?_
  show Goes _ _ _ _ _ (s₁.setTop (mkF m 2 #[.val (.int x0), .val (.int x1), .val (.int x2), .val (.int x3), .unset, .unset, .unset, .unset, .unset, .unset, .unset, .unset, .unset, .unset] [(.int (3 : Int32)), (.int x0)]))
  refine Gs (fun _ tk => XS.iand X0.here hx rfl (hb hby at_2) rfl tk) ?_
  show Goes _ _ _ _ _ (s₁.setTop (mkF m 3 #[.val (.int x0), .val (.int x1), .val (.int x2), .val (.int x3), .unset, .unset, .unset, .unset, .unset, .unset, .unset, .unset, .unset, .unset] [(.int (x0 &&& (3 : Int32)))]))
  refine Gs (fun _ tk => XS.iconst X0.here hx rfl (hb hby at_3) tk) ?_
  show Goes _ _ _ _ _ (s₁.setTop (mkF m 4 #[.val (.int x0), .val (.int x1), .val (.int x2), .val (.int x3), .unset, .unset, .unset, .unset, .unset, .unset, .unset, .unset, .unset, .unset] [(.int (3 : Int32)), (.int (x0 &&& (3 : Int32)))]))
  refine Gs (fun _ tk => XS.irem X0.here hx rfl (hb hby at_4) rfl (by decide) tk) ?_
  rw [Jvm.irem_eq_mod]
  show Goes _ _ _ _ _ (s₁.setTop (mkF m 5 #[.val (.int x0), .val (.int x1), .val (.int x2), .val (.int x3), .unset, .unset, .unset, .unset, .unset, .unset, .unset, .unset, .unset, .unset] [(.int ((x0 &&& (3 : Int32)) % (3 : Int32)))]))
  show Goes _ _ _ _ _ (s₁.setTop (mkF m 5 #[.val (.int x0), .val (.int x1), .val (.int x2), .val (.int x3), .unset, .unset, .unset, .unset, .unset, .unset, .unset, .unset, .unset, .unset] [(.int ((x0 &&& (3 : Int32)) % (3 : Int32)))]))
  generalize hn : ((x0 &&& (3 : Int32)) % (3 : Int32)) = n
  obtain rfl | rfl | rfl : n = 0 ∨ n = 1 ∨ n = 2 := by rw [← hn]; exact own_three x0
  · show Goes _ _ _ _ _ (s₁.setTop (mkF m 5 #[.val (.int x0), .val (.int x1), .val (.int x2), .val (.int x3), .unset, .unset, .unset, .unset, .unset, .unset, .unset, .unset, .unset, .unset] [(.int (0 : Int32))]))
    refine Gs (fun _ tk => XS.istore X0.here hx rfl (hb hby at_5) rfl (l' := #[.val (.int x0), .val (.int x1), .val (.int x2), .val (.int x3), .val (.int (0 : Int32)), .unset, .unset, .unset, .unset, .unset, .unset, .unset, .unset, .unset]) rfl tk) ?_
    refine Gs (fun _ tk => XS.iloadN X0.here hx rfl (hb hby at_7) rfl tk) ?_
    refine Gs (fun _ tk => XS.bipush X0.here hx rfl (hb hby at_8) tk) ?_
    show Goes _ _ _ _ _ (s₁.setTop (mkF m 10 #[.val (.int x0), .val (.int x1), .val (.int x2), .val (.int x3), .val (.int (0 : Int32)), .unset, .unset, .unset, .unset, .unset, .unset, .unset, .unset, .unset] [(.int (8 : Int32)), (.int x0)]))
    refine Gs (fun _ tk => XS.iand X0.here hx rfl (hb hby at_10) rfl tk) ?_
    show Goes _ _ _ _ _ (s₁.setTop (mkF m 11 #[.val (.int x0), .val (.int x1), .val (.int x2), .val (.int x3), .val (.int (0 : Int32)), .unset, .unset, .unset, .unset, .unset, .unset, .unset, .unset, .unset] [(.int (x0 &&& (8 : Int32)))]))
    by_cases hc11_1 : (x0 &&& (8 : Int32)) = (0 : Int32)
    · refine Gs (fun _ tk => XS.ifYes X0.here hx rfl (pc0 := 11) (pc' := 18) rfl (hb hby at_11) rfl ((if0 _ _).trans (teq hc11_1).1) (by decide) (by decide) tk) ?_
      refine Gs (fun _ tk => XS.iconst X0.here hx rfl (hb hby at_18) tk) ?_
      refine Gs (fun _ tk => XS.istore X0.here hx rfl (hb hby at_19) rfl (l' := #[.val (.int x0), .val (.int x1), .val (.int x2), .val (.int x3), .val (.int (0 : Int32)), .val (.int (0 : Int32)), .unset, .unset, .unset, .unset, .unset, .unset, .unset, .unset]) rfl tk) ?_
      refine Gs (fun _ tk => XS.iloadN X0.here hx rfl (hb hby at_21) rfl tk) ?_
      refine Gs (fun _ tk => XS.bipush X0.here hx rfl (hb hby at_22) tk) ?_
      show Goes _ _ _ _ _ (s₁.setTop (mkF m 24 #[.val (.int x0), .val (.int x1), .val (.int x2), .val (.int x3), .val (.int (0 : Int32)), .val (.int (0 : Int32)), .unset, .unset, .unset, .unset, .unset, .unset, .unset, .unset] [(.int (16 : Int32)), (.int x0)]))
      refine Gs (fun _ tk => XS.iand X0.here hx rfl (hb hby at_24) rfl tk) ?_
      show Goes _ _ _ _ _ (s₁.setTop (mkF m 25 #[.val (.int x0), .val (.int x1), .val (.int x2), .val (.int x3), .val (.int (0 : Int32)), .val (.int (0 : Int32)), .unset, .unset, .unset, .unset, .unset, .unset, .unset, .unset] [(.int (x0 &&& (16 : Int32)))]))
      have J33 : ∀ pz : Int32, Goes p e below (fun o u L => FrameEnd s o u L room_1.cells room_1.slots) (Q_rm_law Z x0 x1 x2 x3 d kd nl ea ke em no mr h0 n0) (s₁.setTop (mkF m 33 #[.val (.int x0), .val (.int x1), .val (.int x2), .val (.int x3), .val (.int (0 : Int32)), .val (.int (0 : Int32)), .unset, .unset, .unset, .unset, .unset, .unset, .unset, .unset] [(.int pz)])) := by
        intro pz
        refine Gs (fun _ tk => XS.istore X0.here hx rfl (hb hby at_33) rfl (l' := #[.val (.int x0), .val (.int x1), .val (.int x2), .val (.int x3), .val (.int (0 : Int32)), .val (.int (0 : Int32)), .val (.int pz), .unset, .unset, .unset, .unset, .unset, .unset, .unset]) rfl tk) ?_
        obtain ⟨T2, h2, X2, e2, E2, A2, D2, -, st2⟩ := newO X0 hx hZ hown (gw hw 0 rfl) (gw hw 1 rfl) (gw hw 2 rfl) e0 (g := (mkF m 35 #[.val (.int x0), .val (.int x1), .val (.int x2), .val (.int x3), .val (.int (0 : Int32)), .val (.int (0 : Int32)), .val (.int pz), .unset, .unset, .unset, .unset, .unset, .unset, .unset] [])) rfl (hb hby at_35) (by decide) (by decide)
        obtain ⟨b2, gq2⟩ : ∃ z, z = h0.size := ⟨_, rfl⟩
        rw [← gq2] at A2 st2 D2
        have g_b2 : n0 ≤ b2 := by rw [gq2]; exact Z0
        have ne_d_b2 : d ≠ b2 := by rw [gq2]; exact Nat.ne_of_lt V_d.lt
        have ne_nl_b2 : nl ≠ b2 := by rw [gq2]; exact Nat.ne_of_lt A_nl.lt
        have ne_ea_b2 : ea ≠ b2 := by rw [gq2]; exact Nat.ne_of_lt V_ea.lt
        have ne_em_b2 : em ≠ b2 := by rw [gq2]; exact Nat.ne_of_lt A_em.lt
        have ne_no_b2 : no ≠ b2 := by rw [gq2]; exact Nat.ne_of_lt A_no.lt
        replace S_DEFAULTCAPACITY_EMPTY_ELEMENTDATA := S_DEFAULTCAPACITY_EMPTY_ELEMENTDATA.ext E2
        replace V_d := V_d.ext E2
        replace S_EMPTY_LIST := S_EMPTY_LIST.ext E2
        replace A_nl := A_nl.ext E2
        replace F_elements_nl := F_elements_nl.ext E2
        replace V_ea := V_ea.ext E2
        replace S_EMPTY := S_EMPTY.ext E2
        replace A_em := A_em.ext E2
        replace S_NONE := S_NONE.ext E2
        replace A_no := A_no.ext E2
        replace F_size_no := F_size_no.ext E2
        replace Z0 : n0 ≤ h2.size := Nat.le_trans Z0 E2.1
        have A_b2 : Exa Z h2 b2 "org/stripeward/scenario/Node" := A2
        have F_index_b2 : Fld Z h2 b2 "org/stripeward/scenario/Node" "index" "I" (.int (0 : Int32)) := D2 (Or.inr (gw hw 15 rfl)) (ty := .int) (by decide)
        have F_name_b2 : Fld Z h2 b2 "org/stripeward/scenario/Node" "name" "Ljava/lang/String;" .null := D2 (Or.inr (gw hw 17 rfl)) (ty := (.object "java/lang/String")) (by decide)
        have F_rack_b2 : Fld Z h2 b2 "org/stripeward/scenario/Node" "rack" "Lorg/stripeward/scenario/Rack;" .null := D2 (Or.inr (gw hw 19 rfl)) (ty := (.object "org/stripeward/scenario/Rack")) (by decide)
        refine Gs st2 ?_
        show Goes _ _ _ _ _ (T2.setTop (mkF m 38 #[.val (.int x0), .val (.int x1), .val (.int x2), .val (.int x3), .val (.int (0 : Int32)), .val (.int (0 : Int32)), .val (.int pz), .unset, .unset, .unset, .unset, .unset, .unset, .unset] [(.ref b2)]))
        refine Gs (fun _ tk => XS.dup X2.here hx rfl (hb hby at_38) rfl rfl tk) ?_
        refine Gs (fun _ tk => XS.iloadN X2.here hx rfl (hb hby at_39) rfl tk) ?_
        refine Gs (fun _ tk => XS.aconstNull X2.here hx rfl (hb hby at_40) tk) ?_
        refine Gs (fun _ tk => XS.aconstNull X2.here hx rfl (hb hby at_41) tk) ?_
        obtain ⟨_, _, ⟨T3, L3, k3, n3⟩, -, X3, ⟨Lc3, hQ3, l3, y3, z3⟩, st3⟩ := X2.specialBack hx (y := mN25) rfl hown (mvT hZ (gw hw 3 rfl)) (mvT hZ (gw hw 4 rfl)) (mvT hZ (gw hw 5 rfl)) (by decide) (backOf (W := 1) (rm_node l Z a0 hw [] b2 x3 h2 n0 Z0 A_b2 F_index_b2 F_name_b2 F_rack_b2 g_b2) hZ (gw hw 5 rfl) (gw hw 2 rfl) (by decide) (by decide)) (g := (mkF m 42 #[.val (.int x0), .val (.int x1), .val (.int x2), .val (.int x3), .val (.int (0 : Int32)), .val (.int (0 : Int32)), .val (.int pz), .unset, .unset, .unset, .unset, .unset, .unset, .unset] [.null, .null, (.int x3), (.ref b2), (.ref b2)])) rfl (by rw [hml]; rfl) (Steps.refl _) (a := b2) (argsL := [(.int x3), .null, .null]) (rest := [(.ref b2)]) (lenOf own_pd20 rfl) rfl (w0 (Nat.le_of_eq rfl)) (hb hby at_42) (fun _ _ => ⟨rfl, e2, (by decide : 1 + 0 ≤ _), (by decide : 3 + 0 ≤ _)⟩)
        dsimp only [Pt.U, Pt.locs, Pt.cells, Pt.slots] at X3 l3 y3 z3 st3 hQ3
        subst l3 y3 z3
        obtain ⟨rfl, N3q, K3⟩ := hQ3
        have N3 := Fr.app N0 N3q
        replace S_DEFAULTCAPACITY_EMPTY_ELEMENTDATA := own_staK S_DEFAULTCAPACITY_EMPTY_ELEMENTDATA K3 (allS (own_obE A_b2) all0)
        replace S_EMPTY_LIST := own_staK S_EMPTY_LIST K3 (allS (own_obE A_b2) all0)
        replace S_EMPTY := own_staK S_EMPTY K3 (allS (own_obE A_b2) all0)
        replace S_NONE := own_staK S_NONE K3 (allS (own_obE A_b2) all0)
        replace V_d := V_d.keep K3 (ninS ne_d_b2 nin0)
        replace A_nl := A_nl.keep K3
        replace F_elements_nl := F_elements_nl.keep K3 (ninS ne_nl_b2 nin0)
        replace V_ea := V_ea.keep K3 (ninS ne_ea_b2 nin0)
        replace A_em := A_em.keep K3
        replace A_no := A_no.keep K3
        replace F_size_no := F_size_no.keep K3 (ninS ne_no_b2 nin0)
        replace A_b2 := A_b2.keep K3
        replace Z0 := Nat.le_trans Z0 K3.1
        refine Gs (fun _ tk => st3.trans tk) ?_
        show Goes _ _ _ _ _ (T3.setTop (mkF m 45 #[.val (.int x0), .val (.int x1), .val (.int x2), .val (.int x3), .val (.int (0 : Int32)), .val (.int (0 : Int32)), .val (.int pz), .unset, .unset, .unset, .unset, .unset, .unset, .unset] [(.ref b2)]))
        refine Gs (fun _ tk => XS.astore X3.here hx rfl (hb hby at_45) rfl rfl (l' := #[.val (.int x0), .val (.int x1), .val (.int x2), .val (.int x3), .val (.int (0 : Int32)), .val (.int (0 : Int32)), .val (.int pz), .val (.ref b2), .unset, .unset, .unset, .unset, .unset, .unset]) rfl tk) ?_
        obtain ⟨T4, h4, X4, e4, E4, A4, D4, -, st4⟩ := newO X3 hx hZ hown (gw hw 20 rfl) (gw hw 21 rfl) (gw hw 22 rfl) rfl (g := (mkF m 47 #[.val (.int x0), .val (.int x1), .val (.int x2), .val (.int x3), .val (.int (0 : Int32)), .val (.int (0 : Int32)), .val (.int pz), .val (.ref b2), .unset, .unset, .unset, .unset, .unset, .unset] [])) rfl (hb hby at_47) (by decide) (by decide)
        obtain ⟨b4, gq4⟩ : ∃ z, z = T3.heap.size := ⟨_, rfl⟩
        rw [← gq4] at A4 st4 D4
        have g_b4 : n0 ≤ b4 := by rw [gq4]; exact Z0
        have ne_d_b4 : d ≠ b4 := by rw [gq4]; exact Nat.ne_of_lt V_d.lt
        have ne_nl_b4 : nl ≠ b4 := by rw [gq4]; exact Nat.ne_of_lt A_nl.lt
        have ne_ea_b4 : ea ≠ b4 := by rw [gq4]; exact Nat.ne_of_lt V_ea.lt
        have ne_em_b4 : em ≠ b4 := by rw [gq4]; exact Nat.ne_of_lt A_em.lt
        have ne_no_b4 : no ≠ b4 := by rw [gq4]; exact Nat.ne_of_lt A_no.lt
        have ne_b2_b4 : b2 ≠ b4 := by rw [gq4]; exact Nat.ne_of_lt A_b2.lt
        replace S_DEFAULTCAPACITY_EMPTY_ELEMENTDATA := S_DEFAULTCAPACITY_EMPTY_ELEMENTDATA.ext E4
        replace V_d := V_d.ext E4
        replace S_EMPTY_LIST := S_EMPTY_LIST.ext E4
        replace A_nl := A_nl.ext E4
        replace F_elements_nl := F_elements_nl.ext E4
        replace V_ea := V_ea.ext E4
        replace S_EMPTY := S_EMPTY.ext E4
        replace A_em := A_em.ext E4
        replace S_NONE := S_NONE.ext E4
        replace A_no := A_no.ext E4
        replace F_size_no := F_size_no.ext E4
        replace A_b2 := A_b2.ext E4
        replace Z0 : n0 ≤ h4.size := Nat.le_trans Z0 E4.1
        have A_b4 : Exa Z h4 b4 "java/util/ArrayList" := A4
        have F_modCount_b4 : Fld Z h4 b4 "java/util/AbstractList" "modCount" "I" (.int (0 : Int32)) := D4 (Or.inl (gw hw 40 rfl)) (ty := .int) (by decide)
        have F_elementData_b4 : Fld Z h4 b4 "java/util/ArrayList" "elementData" "[Ljava/lang/Object;" .null := D4 (Or.inl (gw hw 43 rfl)) (ty := (.array (.object "java/lang/Object"))) (by decide)
        have F_size_b4 : Fld Z h4 b4 "java/util/ArrayList" "size" "I" (.int (0 : Int32)) := D4 (Or.inl (gw hw 75 rfl)) (ty := .int) (by decide)
        refine Gs st4 ?_
        show Goes _ _ _ _ _ (T4.setTop (mkF m 50 #[.val (.int x0), .val (.int x1), .val (.int x2), .val (.int x3), .val (.int (0 : Int32)), .val (.int (0 : Int32)), .val (.int pz), .val (.ref b2), .unset, .unset, .unset, .unset, .unset, .unset] [(.ref b4)]))
        refine Gs (fun _ tk => XS.dup X4.here hx rfl (hb hby at_50) rfl rfl tk) ?_
        obtain ⟨_, _, ⟨T5, L5, k5, n5⟩, -, X5, ⟨Lc5, hQ5, l5, y5, z5⟩, st5⟩ := X4.specialBack hx (y := mN6) rfl hown (mvT hZ (gw hw 23 rfl)) (mvT hZ (gw hw 24 rfl)) (mvT hZ (gw hw 25 rfl)) (by decide) (backOf (W := 1) (rm_alinit l Z a0 hw [] b4 d h4 n0 Z0 A_b4 F_modCount_b4 F_elementData_b4 F_size_b4 S_DEFAULTCAPACITY_EMPTY_ELEMENTDATA g_b4) hZ (gw hw 25 rfl) (gw hw 22 rfl) (by decide) (by decide)) (g := (mkF m 51 #[.val (.int x0), .val (.int x1), .val (.int x2), .val (.int x3), .val (.int (0 : Int32)), .val (.int (0 : Int32)), .val (.int pz), .val (.ref b2), .unset, .unset, .unset, .unset, .unset, .unset] [(.ref b4), (.ref b4)])) rfl (by rw [hml]; rfl) (Steps.refl _) (a := b4) (argsL := []) (rest := [(.ref b4)]) (lenOf own_pd0 rfl) rfl (w0 (Nat.le_of_eq rfl)) (hb hby at_51) (fun _ _ => ⟨rfl, e4, (by decide : 2 + 0 ≤ _), (by decide : 6 + 0 ≤ _)⟩)
        dsimp only [Pt.U, Pt.locs, Pt.cells, Pt.slots] at X5 l5 y5 z5 st5 hQ5
        subst l5 y5 z5
        obtain ⟨rfl, N5q, K5, F_modCount_b4_5', F_elementData_b4_5', F_size_b4_5'⟩ := hQ5
        have N5 := Fr.app N3 N5q
        replace S_DEFAULTCAPACITY_EMPTY_ELEMENTDATA := own_staK S_DEFAULTCAPACITY_EMPTY_ELEMENTDATA K5 (allS (own_obE A_b4) all0)
        replace S_EMPTY_LIST := own_staK S_EMPTY_LIST K5 (allS (own_obE A_b4) all0)
        replace S_EMPTY := own_staK S_EMPTY K5 (allS (own_obE A_b4) all0)
        replace S_NONE := own_staK S_NONE K5 (allS (own_obE A_b4) all0)
        replace V_d := V_d.keep K5 (ninS ne_d_b4 nin0)
        replace A_nl := A_nl.keep K5
        replace F_elements_nl := F_elements_nl.keep K5 (ninS ne_nl_b4 nin0)
        replace V_ea := V_ea.keep K5 (ninS ne_ea_b4 nin0)
        replace A_em := A_em.keep K5
        replace A_no := A_no.keep K5
        replace F_size_no := F_size_no.keep K5 (ninS ne_no_b4 nin0)
        replace A_b2 := A_b2.keep K5
        replace A_b4 := A_b4.keep K5
        replace Z0 := Nat.le_trans Z0 K5.1
        have F_size_b4 := F_size_b4_5'
        refine Gs (fun _ tk => st5.trans tk) ?_
        show Goes _ _ _ _ _ (T5.setTop (mkF m 54 #[.val (.int x0), .val (.int x1), .val (.int x2), .val (.int x3), .val (.int (0 : Int32)), .val (.int (0 : Int32)), .val (.int pz), .val (.ref b2), .unset, .unset, .unset, .unset, .unset, .unset] [(.ref b4)]))
        refine Gs (fun _ tk => XS.astore X5.here hx rfl (hb hby at_54) rfl rfl (l' := #[.val (.int x0), .val (.int x1), .val (.int x2), .val (.int x3), .val (.int (0 : Int32)), .val (.int (0 : Int32)), .val (.int pz), .val (.ref b2), .val (.ref b4), .unset, .unset, .unset, .unset, .unset]) rfl tk) ?_
        refine Gs (fun _ tk => XS.iload X5.here hx rfl (hb hby at_56) rfl tk) ?_
        refine Gs (fun _ tk => XS.ifYes X5.here hx rfl (pc0 := 58) (pc' := 71) rfl (hb hby at_58) rfl ((if0 _ _).trans (teq (by decide : ((0 : Int32) = (0 : Int32)))).1) (by decide) (by decide) tk) ?_
        obtain ⟨T6, h6, X6, e6, E6, A6, D6, -, st6⟩ := newO X5 hx hZ hown (gw hw 44 rfl) (gw hw 45 rfl) (gw hw 46 rfl) rfl (g := (mkF m 71 #[.val (.int x0), .val (.int x1), .val (.int x2), .val (.int x3), .val (.int (0 : Int32)), .val (.int (0 : Int32)), .val (.int pz), .val (.ref b2), .val (.ref b4), .unset, .unset, .unset, .unset, .unset] [])) rfl (hb hby at_71) (by decide) (by decide)
        obtain ⟨b6, gq6⟩ : ∃ z, z = T5.heap.size := ⟨_, rfl⟩
        rw [← gq6] at A6 st6 D6
        have g_b6 : n0 ≤ b6 := by rw [gq6]; exact Z0
        have ne_d_b6 : d ≠ b6 := by rw [gq6]; exact Nat.ne_of_lt V_d.lt
        have ne_nl_b6 : nl ≠ b6 := by rw [gq6]; exact Nat.ne_of_lt A_nl.lt
        have ne_ea_b6 : ea ≠ b6 := by rw [gq6]; exact Nat.ne_of_lt V_ea.lt
        have ne_em_b6 : em ≠ b6 := by rw [gq6]; exact Nat.ne_of_lt A_em.lt
        have ne_no_b6 : no ≠ b6 := by rw [gq6]; exact Nat.ne_of_lt A_no.lt
        have ne_b2_b6 : b2 ≠ b6 := by rw [gq6]; exact Nat.ne_of_lt A_b2.lt
        have ne_b4_b6 : b4 ≠ b6 := by rw [gq6]; exact Nat.ne_of_lt A_b4.lt
        replace S_DEFAULTCAPACITY_EMPTY_ELEMENTDATA := S_DEFAULTCAPACITY_EMPTY_ELEMENTDATA.ext E6
        replace V_d := V_d.ext E6
        replace S_EMPTY_LIST := S_EMPTY_LIST.ext E6
        replace A_nl := A_nl.ext E6
        replace F_elements_nl := F_elements_nl.ext E6
        replace V_ea := V_ea.ext E6
        replace S_EMPTY := S_EMPTY.ext E6
        replace A_em := A_em.ext E6
        replace S_NONE := S_NONE.ext E6
        replace A_no := A_no.ext E6
        replace F_size_no := F_size_no.ext E6
        replace A_b2 := A_b2.ext E6
        replace A_b4 := A_b4.ext E6
        replace F_size_b4 := F_size_b4.ext E6
        replace Z0 : n0 ≤ h6.size := Nat.le_trans Z0 E6.1
        have A_b6 : Exa Z h6 b6 "org/stripeward/scenario/Block" := A6
        have F_index_b6 : Fld Z h6 b6 "org/stripeward/scenario/Block" "index" "I" (.int (0 : Int32)) := D6 (Or.inr (gw hw 81 rfl)) (ty := .int) (by decide)
        have F_name_b6 : Fld Z h6 b6 "org/stripeward/scenario/Block" "name" "Ljava/lang/String;" .null := D6 (Or.inr (gw hw 83 rfl)) (ty := (.object "java/lang/String")) (by decide)
        have F_holders_b6 : Fld Z h6 b6 "org/stripeward/scenario/Block" "holders" "Ljava/util/List;" .null := D6 (Or.inr (gw hw 85 rfl)) (ty := (.object "java/util/List")) (by decide)
        have F_stripe_b6 : Fld Z h6 b6 "org/stripeward/scenario/Block" "stripe" "Lorg/stripeward/scenario/Stripe;" .null := D6 (Or.inr (gw hw 87 rfl)) (ty := (.object "org/stripeward/scenario/Stripe")) (by decide)
        have F_parity_b6 : Fld Z h6 b6 "org/stripeward/scenario/Block" "parity" "Z" (.int (0 : Int32)) := D6 (Or.inr (gw hw 89 rfl)) (ty := .boolean) (by decide)
        have F_sizeMiB_b6 : Fld Z h6 b6 "org/stripeward/scenario/Block" "sizeMiB" "D" (.double (0 : UInt64)) := D6 (Or.inr (gw hw 91 rfl)) (ty := .double) (by decide)
        refine Gs st6 ?_
        show Goes _ _ _ _ _ (T6.setTop (mkF m 74 #[.val (.int x0), .val (.int x1), .val (.int x2), .val (.int x3), .val (.int (0 : Int32)), .val (.int (0 : Int32)), .val (.int pz), .val (.ref b2), .val (.ref b4), .unset, .unset, .unset, .unset, .unset] [(.ref b6)]))
        refine Gs (fun _ tk => XS.dup X6.here hx rfl (hb hby at_74) rfl rfl tk) ?_
        refine Gs (fun _ tk => XS.iloadN X6.here hx rfl (hb hby at_75) rfl tk) ?_
        refine Gs (fun _ tk => XS.aconstNull X6.here hx rfl (hb hby at_76) tk) ?_
        refine Gs (fun _ tk => XS.aload X6.here hx rfl (hb hby at_77) rfl rfl tk) ?_
        refine Gs (fun _ tk => XS.aconstNull X6.here hx rfl (hb hby at_79) tk) ?_
        refine Gs (fun _ tk => XS.iload X6.here hx rfl (hb hby at_80) rfl tk) ?_
        show Goes _ _ _ _ _ (T6.setTop (mkF m 82 #[.val (.int x0), .val (.int x1), .val (.int x2), .val (.int x3), .val (.int (0 : Int32)), .val (.int (0 : Int32)), .val (.int pz), .val (.ref b2), .val (.ref b4), .unset, .unset, .unset, .unset, .unset] [(.int pz), .null, (.ref b4), .null, (.int x1), (.ref b6), (.ref b6)]))
        refine Gs (fun _ tk => XS.dconst1 X6.here hx rfl (hb hby at_82) rfl tk) ?_
        obtain ⟨_, _, ⟨T7, L7, k7, n7⟩, -, X7, ⟨Lc7, hQ7, l7, y7, z7⟩, st7⟩ := X6.specialBack hx (y := mN26) rfl hown (mvT hZ (gw hw 47 rfl)) (mvT hZ (gw hw 48 rfl)) (mvT hZ (gw hw 49 rfl)) (by decide) (backOf (W := 1) (rm_block0 l Z a0 hw [] b6 x1 b4 pz FP.dconst1 nl h6 n0 Z0 A_b6 F_index_b6 F_name_b6 F_holders_b6 F_stripe_b6 F_parity_b6 F_sizeMiB_b6 g_b6 A_b4 F_size_b4 S_EMPTY_LIST ne_b4_b6) hZ (gw hw 49 rfl) (gw hw 46 rfl) (by decide) (by decide)) (g := (mkF m 83 #[.val (.int x0), .val (.int x1), .val (.int x2), .val (.int x3), .val (.int (0 : Int32)), .val (.int (0 : Int32)), .val (.int pz), .val (.ref b2), .val (.ref b4), .unset, .unset, .unset, .unset, .unset] [(.double FP.dconst1), (.int pz), .null, (.ref b4), .null, (.int x1), (.ref b6), (.ref b6)])) rfl (by rw [hml]; rfl) (Steps.refl _) (a := b6) (argsL := [(.int x1), .null, (.ref b4), .null, (.int pz), (.double FP.dconst1)]) (rest := [(.ref b6)]) (lenOf own_pd21 rfl) rfl (w0 (Nat.le_of_eq rfl)) (hb hby at_83) (fun _ _ => ⟨rfl, e6, (by decide : 3 + 0 ≤ _), (by decide : 12 + 0 ≤ _)⟩)
        dsimp only [Pt.U, Pt.locs, Pt.cells, Pt.slots] at X7 l7 y7 z7 st7 hQ7
        subst l7 y7 z7
        obtain ⟨rfl, N7q, K7, F_index_b6_7', F_holders_b6_7'⟩ := hQ7
        have N7 := Fr.app N5 N7q
        replace S_DEFAULTCAPACITY_EMPTY_ELEMENTDATA := own_staK S_DEFAULTCAPACITY_EMPTY_ELEMENTDATA K7 (allS (own_obE A_b6) all0)
        replace S_EMPTY_LIST := own_staK S_EMPTY_LIST K7 (allS (own_obE A_b6) all0)
        replace S_EMPTY := own_staK S_EMPTY K7 (allS (own_obE A_b6) all0)
        replace S_NONE := own_staK S_NONE K7 (allS (own_obE A_b6) all0)
        replace V_d := V_d.keep K7 (ninS ne_d_b6 nin0)
        replace A_nl := A_nl.keep K7
        replace F_elements_nl := F_elements_nl.keep K7 (ninS ne_nl_b6 nin0)
        replace V_ea := V_ea.keep K7 (ninS ne_ea_b6 nin0)
        replace A_em := A_em.keep K7
        replace A_no := A_no.keep K7
        replace F_size_no := F_size_no.keep K7 (ninS ne_no_b6 nin0)
        replace A_b2 := A_b2.keep K7
        replace A_b4 := A_b4.keep K7
        replace F_size_b4 := F_size_b4.keep K7 (ninS ne_b4_b6 nin0)
        replace A_b6 := A_b6.keep K7
        replace Z0 := Nat.le_trans Z0 K7.1
        refine Gs (fun _ tk => st7.trans tk) ?_
        show Goes _ _ _ _ _ (T7.setTop (mkF m 86 #[.val (.int x0), .val (.int x1), .val (.int x2), .val (.int x3), .val (.int (0 : Int32)), .val (.int (0 : Int32)), .val (.int pz), .val (.ref b2), .val (.ref b4), .unset, .unset, .unset, .unset, .unset] [(.ref b6)]))
        refine Gs (fun _ tk => XS.astore X7.here hx rfl (hb hby at_86) rfl rfl (l' := #[.val (.int x0), .val (.int x1), .val (.int x2), .val (.int x3), .val (.int (0 : Int32)), .val (.int (0 : Int32)), .val (.int pz), .val (.ref b2), .val (.ref b4), .val (.ref b6), .unset, .unset, .unset, .unset]) rfl tk) ?_
        obtain ⟨T8, h8, X8, e8, E8, A8, D8, -, st8⟩ := newO X7 hx hZ hown (gw hw 44 rfl) (gw hw 45 rfl) (gw hw 46 rfl) rfl (g := (mkF m 88 #[.val (.int x0), .val (.int x1), .val (.int x2), .val (.int x3), .val (.int (0 : Int32)), .val (.int (0 : Int32)), .val (.int pz), .val (.ref b2), .val (.ref b4), .val (.ref b6), .unset, .unset, .unset, .unset] [])) rfl (hb hby at_88) (by decide) (by decide)
        obtain ⟨b8, gq8⟩ : ∃ z, z = T7.heap.size := ⟨_, rfl⟩
        rw [← gq8] at A8 st8 D8
        have g_b8 : n0 ≤ b8 := by rw [gq8]; exact Z0
        have ne_d_b8 : d ≠ b8 := by rw [gq8]; exact Nat.ne_of_lt V_d.lt
        have ne_nl_b8 : nl ≠ b8 := by rw [gq8]; exact Nat.ne_of_lt A_nl.lt
        have ne_ea_b8 : ea ≠ b8 := by rw [gq8]; exact Nat.ne_of_lt V_ea.lt
        have ne_em_b8 : em ≠ b8 := by rw [gq8]; exact Nat.ne_of_lt A_em.lt
        have ne_no_b8 : no ≠ b8 := by rw [gq8]; exact Nat.ne_of_lt A_no.lt
        have ne_b2_b8 : b2 ≠ b8 := by rw [gq8]; exact Nat.ne_of_lt A_b2.lt
        have ne_b4_b8 : b4 ≠ b8 := by rw [gq8]; exact Nat.ne_of_lt A_b4.lt
        have ne_b6_b8 : b6 ≠ b8 := by rw [gq8]; exact Nat.ne_of_lt A_b6.lt
        replace S_DEFAULTCAPACITY_EMPTY_ELEMENTDATA := S_DEFAULTCAPACITY_EMPTY_ELEMENTDATA.ext E8
        replace V_d := V_d.ext E8
        replace S_EMPTY_LIST := S_EMPTY_LIST.ext E8
        replace A_nl := A_nl.ext E8
        replace F_elements_nl := F_elements_nl.ext E8
        replace V_ea := V_ea.ext E8
        replace S_EMPTY := S_EMPTY.ext E8
        replace A_em := A_em.ext E8
        replace S_NONE := S_NONE.ext E8
        replace A_no := A_no.ext E8
        replace F_size_no := F_size_no.ext E8
        replace A_b2 := A_b2.ext E8
        replace A_b4 := A_b4.ext E8
        replace F_size_b4 := F_size_b4.ext E8
        replace A_b6 := A_b6.ext E8
        replace Z0 : n0 ≤ h8.size := Nat.le_trans Z0 E8.1
        have A_b8 : Exa Z h8 b8 "org/stripeward/scenario/Block" := A8
        have F_index_b8 : Fld Z h8 b8 "org/stripeward/scenario/Block" "index" "I" (.int (0 : Int32)) := D8 (Or.inr (gw hw 81 rfl)) (ty := .int) (by decide)
        have F_name_b8 : Fld Z h8 b8 "org/stripeward/scenario/Block" "name" "Ljava/lang/String;" .null := D8 (Or.inr (gw hw 83 rfl)) (ty := (.object "java/lang/String")) (by decide)
        have F_holders_b8 : Fld Z h8 b8 "org/stripeward/scenario/Block" "holders" "Ljava/util/List;" .null := D8 (Or.inr (gw hw 85 rfl)) (ty := (.object "java/util/List")) (by decide)
        have F_stripe_b8 : Fld Z h8 b8 "org/stripeward/scenario/Block" "stripe" "Lorg/stripeward/scenario/Stripe;" .null := D8 (Or.inr (gw hw 87 rfl)) (ty := (.object "org/stripeward/scenario/Stripe")) (by decide)
        have F_parity_b8 : Fld Z h8 b8 "org/stripeward/scenario/Block" "parity" "Z" (.int (0 : Int32)) := D8 (Or.inr (gw hw 89 rfl)) (ty := .boolean) (by decide)
        have F_sizeMiB_b8 : Fld Z h8 b8 "org/stripeward/scenario/Block" "sizeMiB" "D" (.double (0 : UInt64)) := D8 (Or.inr (gw hw 91 rfl)) (ty := .double) (by decide)
        refine Gs st8 ?_
        show Goes _ _ _ _ _ (T8.setTop (mkF m 91 #[.val (.int x0), .val (.int x1), .val (.int x2), .val (.int x3), .val (.int (0 : Int32)), .val (.int (0 : Int32)), .val (.int pz), .val (.ref b2), .val (.ref b4), .val (.ref b6), .unset, .unset, .unset, .unset] [(.ref b8)]))
        refine Gs (fun _ tk => XS.dup X8.here hx rfl (hb hby at_91) rfl rfl tk) ?_
        refine Gs (fun _ tk => XS.iloadN X8.here hx rfl (hb hby at_92) rfl tk) ?_
        refine Gs (fun _ tk => XS.aconstNull X8.here hx rfl (hb hby at_93) tk) ?_
        refine Gs (fun _ tk => XS.aload X8.here hx rfl (hb hby at_94) rfl rfl tk) ?_
        refine Gs (fun _ tk => XS.aconstNull X8.here hx rfl (hb hby at_96) tk) ?_
        refine Gs (fun _ tk => XS.iconst X8.here hx rfl (hb hby at_97) tk) ?_
        show Goes _ _ _ _ _ (T8.setTop (mkF m 98 #[.val (.int x0), .val (.int x1), .val (.int x2), .val (.int x3), .val (.int (0 : Int32)), .val (.int (0 : Int32)), .val (.int pz), .val (.ref b2), .val (.ref b4), .val (.ref b6), .unset, .unset, .unset, .unset] [(.int (0 : Int32)), .null, (.ref b4), .null, (.int x2), (.ref b8), (.ref b8)]))
        refine Gs (fun _ tk => X8.ldc2DoubleC hx hown (mvT hZ (gw hw 92 rfl)) (g := (mkF m 98 #[.val (.int x0), .val (.int x1), .val (.int x2), .val (.int x3), .val (.int (0 : Int32)), .val (.int (0 : Int32)), .val (.int pz), .val (.ref b2), .val (.ref b4), .val (.ref b6), .unset, .unset, .unset, .unset] [(.int (0 : Int32)), .null, (.ref b4), .null, (.int x2), (.ref b8), (.ref b8)])) rfl (hb hby at_98) _ tk) ?_
        show Goes _ _ _ _ _ (T8.setTop (mkF m 101 #[.val (.int x0), .val (.int x1), .val (.int x2), .val (.int x3), .val (.int (0 : Int32)), .val (.int (0 : Int32)), .val (.int pz), .val (.ref b2), .val (.ref b4), .val (.ref b6), .unset, .unset, .unset, .unset] [(.double (4611686018427387904 : UInt64)), (.int (0 : Int32)), .null, (.ref b4), .null, (.int x2), (.ref b8), (.ref b8)]))
        obtain ⟨_, _, ⟨T9, L9, k9, n9⟩, -, X9, ⟨Lc9, hQ9, l9, y9, z9⟩, st9⟩ := X8.specialBack hx (y := mN26) rfl hown (mvT hZ (gw hw 47 rfl)) (mvT hZ (gw hw 48 rfl)) (mvT hZ (gw hw 49 rfl)) (by decide) (backOf (W := 1) (rm_block0 l Z a0 hw [] b8 x2 b4 (0 : Int32) (4611686018427387904 : UInt64) nl h8 n0 Z0 A_b8 F_index_b8 F_name_b8 F_holders_b8 F_stripe_b8 F_parity_b8 F_sizeMiB_b8 g_b8 A_b4 F_size_b4 S_EMPTY_LIST ne_b4_b8) hZ (gw hw 49 rfl) (gw hw 46 rfl) (by decide) (by decide)) (g := (mkF m 101 #[.val (.int x0), .val (.int x1), .val (.int x2), .val (.int x3), .val (.int (0 : Int32)), .val (.int (0 : Int32)), .val (.int pz), .val (.ref b2), .val (.ref b4), .val (.ref b6), .unset, .unset, .unset, .unset] [(.double (4611686018427387904 : UInt64)), (.int (0 : Int32)), .null, (.ref b4), .null, (.int x2), (.ref b8), (.ref b8)])) rfl (by rw [hml]; rfl) (Steps.refl _) (a := b8) (argsL := [(.int x2), .null, (.ref b4), .null, (.int (0 : Int32)), (.double (4611686018427387904 : UInt64))]) (rest := [(.ref b8)]) (lenOf own_pd21 rfl) rfl (w0 (Nat.le_of_eq rfl)) (hb hby at_101) (fun _ _ => ⟨rfl, e8, (by decide : 4 + 0 ≤ _), (by decide : 18 + 0 ≤ _)⟩)
        dsimp only [Pt.U, Pt.locs, Pt.cells, Pt.slots] at X9 l9 y9 z9 st9 hQ9
        subst l9 y9 z9
        obtain ⟨rfl, N9q, K9, F_index_b8_9', F_holders_b8_9'⟩ := hQ9
        have N9 := Fr.app N7 N9q
        replace S_DEFAULTCAPACITY_EMPTY_ELEMENTDATA := own_staK S_DEFAULTCAPACITY_EMPTY_ELEMENTDATA K9 (allS (own_obE A_b8) all0)
        replace S_EMPTY_LIST := own_staK S_EMPTY_LIST K9 (allS (own_obE A_b8) all0)
        replace S_EMPTY := own_staK S_EMPTY K9 (allS (own_obE A_b8) all0)
        replace S_NONE := own_staK S_NONE K9 (allS (own_obE A_b8) all0)
        replace V_d := V_d.keep K9 (ninS ne_d_b8 nin0)
        replace A_nl := A_nl.keep K9
        replace F_elements_nl := F_elements_nl.keep K9 (ninS ne_nl_b8 nin0)
        replace V_ea := V_ea.keep K9 (ninS ne_ea_b8 nin0)
        replace A_em := A_em.keep K9
        replace A_no := A_no.keep K9
        replace F_size_no := F_size_no.keep K9 (ninS ne_no_b8 nin0)
        replace A_b2 := A_b2.keep K9
        replace A_b4 := A_b4.keep K9
        replace A_b6 := A_b6.keep K9
        replace A_b8 := A_b8.keep K9
        replace Z0 := Nat.le_trans Z0 K9.1
        refine Gs (fun _ tk => st9.trans tk) ?_
        show Goes _ _ _ _ _ (T9.setTop (mkF m 104 #[.val (.int x0), .val (.int x1), .val (.int x2), .val (.int x3), .val (.int (0 : Int32)), .val (.int (0 : Int32)), .val (.int pz), .val (.ref b2), .val (.ref b4), .val (.ref b6), .unset, .unset, .unset, .unset] [(.ref b8)]))
        refine Gs (fun _ tk => XS.astore X9.here hx rfl (hb hby at_104) rfl rfl (l' := #[.val (.int x0), .val (.int x1), .val (.int x2), .val (.int x3), .val (.int (0 : Int32)), .val (.int (0 : Int32)), .val (.int pz), .val (.ref b2), .val (.ref b4), .val (.ref b6), .val (.ref b8), .unset, .unset, .unset]) rfl tk) ?_
        obtain ⟨T10, h10, X10, e10, E10, A10, D10, -, st10⟩ := newO X9 hx hZ hown (gw hw 20 rfl) (gw hw 21 rfl) (gw hw 22 rfl) rfl (g := (mkF m 106 #[.val (.int x0), .val (.int x1), .val (.int x2), .val (.int x3), .val (.int (0 : Int32)), .val (.int (0 : Int32)), .val (.int pz), .val (.ref b2), .val (.ref b4), .val (.ref b6), .val (.ref b8), .unset, .unset, .unset] [])) rfl (hb hby at_106) (by decide) (by decide)
        obtain ⟨b10, gq10⟩ : ∃ z, z = T9.heap.size := ⟨_, rfl⟩
        rw [← gq10] at A10 st10 D10
        have g_b10 : n0 ≤ b10 := by rw [gq10]; exact Z0
        have ne_d_b10 : d ≠ b10 := by rw [gq10]; exact Nat.ne_of_lt V_d.lt
        have ne_nl_b10 : nl ≠ b10 := by rw [gq10]; exact Nat.ne_of_lt A_nl.lt
        have ne_ea_b10 : ea ≠ b10 := by rw [gq10]; exact Nat.ne_of_lt V_ea.lt
        have ne_em_b10 : em ≠ b10 := by rw [gq10]; exact Nat.ne_of_lt A_em.lt
        have ne_no_b10 : no ≠ b10 := by rw [gq10]; exact Nat.ne_of_lt A_no.lt
        have ne_b2_b10 : b2 ≠ b10 := by rw [gq10]; exact Nat.ne_of_lt A_b2.lt
        have ne_b4_b10 : b4 ≠ b10 := by rw [gq10]; exact Nat.ne_of_lt A_b4.lt
        have ne_b6_b10 : b6 ≠ b10 := by rw [gq10]; exact Nat.ne_of_lt A_b6.lt
        have ne_b8_b10 : b8 ≠ b10 := by rw [gq10]; exact Nat.ne_of_lt A_b8.lt
        replace S_DEFAULTCAPACITY_EMPTY_ELEMENTDATA := S_DEFAULTCAPACITY_EMPTY_ELEMENTDATA.ext E10
        replace V_d := V_d.ext E10
        replace S_EMPTY_LIST := S_EMPTY_LIST.ext E10
        replace A_nl := A_nl.ext E10
        replace F_elements_nl := F_elements_nl.ext E10
        replace V_ea := V_ea.ext E10
        replace S_EMPTY := S_EMPTY.ext E10
        replace A_em := A_em.ext E10
        replace S_NONE := S_NONE.ext E10
        replace A_no := A_no.ext E10
        replace F_size_no := F_size_no.ext E10
        replace Z0 : n0 ≤ h10.size := Nat.le_trans Z0 E10.1
        have A_b10 : Exa Z h10 b10 "java/util/ArrayList" := A10
        have F_modCount_b10 : Fld Z h10 b10 "java/util/AbstractList" "modCount" "I" (.int (0 : Int32)) := D10 (Or.inl (gw hw 40 rfl)) (ty := .int) (by decide)
        have F_elementData_b10 : Fld Z h10 b10 "java/util/ArrayList" "elementData" "[Ljava/lang/Object;" .null := D10 (Or.inl (gw hw 43 rfl)) (ty := (.array (.object "java/lang/Object"))) (by decide)
        have F_size_b10 : Fld Z h10 b10 "java/util/ArrayList" "size" "I" (.int (0 : Int32)) := D10 (Or.inl (gw hw 75 rfl)) (ty := .int) (by decide)
        refine Gs st10 ?_
        show Goes _ _ _ _ _ (T10.setTop (mkF m 109 #[.val (.int x0), .val (.int x1), .val (.int x2), .val (.int x3), .val (.int (0 : Int32)), .val (.int (0 : Int32)), .val (.int pz), .val (.ref b2), .val (.ref b4), .val (.ref b6), .val (.ref b8), .unset, .unset, .unset] [(.ref b10)]))
        refine Gs (fun _ tk => XS.dup X10.here hx rfl (hb hby at_109) rfl rfl tk) ?_
        obtain ⟨_, _, ⟨T11, L11, k11, n11⟩, -, X11, ⟨Lc11, hQ11, l11, y11, z11⟩, st11⟩ := X10.specialBack hx (y := mN6) rfl hown (mvT hZ (gw hw 23 rfl)) (mvT hZ (gw hw 24 rfl)) (mvT hZ (gw hw 25 rfl)) (by decide) (backOf (W := 1) (rm_alinit l Z a0 hw [] b10 d h10 n0 Z0 A_b10 F_modCount_b10 F_elementData_b10 F_size_b10 S_DEFAULTCAPACITY_EMPTY_ELEMENTDATA g_b10) hZ (gw hw 25 rfl) (gw hw 22 rfl) (by decide) (by decide)) (g := (mkF m 110 #[.val (.int x0), .val (.int x1), .val (.int x2), .val (.int x3), .val (.int (0 : Int32)), .val (.int (0 : Int32)), .val (.int pz), .val (.ref b2), .val (.ref b4), .val (.ref b6), .val (.ref b8), .unset, .unset, .unset] [(.ref b10), (.ref b10)])) rfl (by rw [hml]; rfl) (Steps.refl _) (a := b10) (argsL := []) (rest := [(.ref b10)]) (lenOf own_pd0 rfl) rfl (w0 (Nat.le_of_eq rfl)) (hb hby at_110) (fun _ _ => ⟨rfl, e10, (by decide : 5 + 0 ≤ _), (by decide : 21 + 0 ≤ _)⟩)
        dsimp only [Pt.U, Pt.locs, Pt.cells, Pt.slots] at X11 l11 y11 z11 st11 hQ11
        subst l11 y11 z11
        obtain ⟨rfl, N11q, K11, F_modCount_b10_11', F_elementData_b10_11', F_size_b10_11'⟩ := hQ11
        have N11 := Fr.app N9 N11q
        replace S_DEFAULTCAPACITY_EMPTY_ELEMENTDATA := own_staK S_DEFAULTCAPACITY_EMPTY_ELEMENTDATA K11 (allS (own_obE A_b10) all0)
        replace S_EMPTY_LIST := own_staK S_EMPTY_LIST K11 (allS (own_obE A_b10) all0)
        replace S_EMPTY := own_staK S_EMPTY K11 (allS (own_obE A_b10) all0)
        replace S_NONE := own_staK S_NONE K11 (allS (own_obE A_b10) all0)
        replace V_d := V_d.keep K11 (ninS ne_d_b10 nin0)
        replace A_nl := A_nl.keep K11
        replace F_elements_nl := F_elements_nl.keep K11 (ninS ne_nl_b10 nin0)
        replace V_ea := V_ea.keep K11 (ninS ne_ea_b10 nin0)
        replace A_em := A_em.keep K11
        replace A_no := A_no.keep K11
        replace F_size_no := F_size_no.keep K11 (ninS ne_no_b10 nin0)
        replace A_b10 := A_b10.keep K11
        replace Z0 := Nat.le_trans Z0 K11.1
        have F_size_b10 := F_size_b10_11'
        refine Gs (fun _ tk => st11.trans tk) ?_
        show Goes _ _ _ _ _ (T11.setTop (mkF m 113 #[.val (.int x0), .val (.int x1), .val (.int x2), .val (.int x3), .val (.int (0 : Int32)), .val (.int (0 : Int32)), .val (.int pz), .val (.ref b2), .val (.ref b4), .val (.ref b6), .val (.ref b8), .unset, .unset, .unset] [(.ref b10)]))
        refine Gs (fun _ tk => XS.astore X11.here hx rfl (hb hby at_113) rfl rfl (l' := #[.val (.int x0), .val (.int x1), .val (.int x2), .val (.int x3), .val (.int (0 : Int32)), .val (.int (0 : Int32)), .val (.int pz), .val (.ref b2), .val (.ref b4), .val (.ref b6), .val (.ref b8), .val (.ref b10), .unset, .unset]) rfl tk) ?_
        refine Gs (fun _ tk => XS.iload X11.here hx rfl (hb hby at_115) rfl tk) ?_
        refine Gs (fun _ tk => XS.iconst X11.here hx rfl (hb hby at_117) tk) ?_
        refine Gs (fun _ tk => XS.icmpYes X11.here hx rfl (pc0 := 118) (pc' := 131) rfl (hb hby at_118) rfl (tlt (by decide : ((0 : Int32) < (1 : Int32)))).1 (by decide) (by decide) tk) ?_
        refine Gs (fun _ tk => XS.iload X11.here hx rfl (hb hby at_131) rfl tk) ?_
        refine Gs (fun _ tk => XS.iconst X11.here hx rfl (hb hby at_133) tk) ?_
        show Goes _ _ _ _ _ (T11.setTop (mkF m 134 #[.val (.int x0), .val (.int x1), .val (.int x2), .val (.int x3), .val (.int (0 : Int32)), .val (.int (0 : Int32)), .val (.int pz), .val (.ref b2), .val (.ref b4), .val (.ref b6), .val (.ref b8), .val (.ref b10), .unset, .unset] [(.int (2 : Int32)), (.int (0 : Int32))]))
        refine Gs (fun _ tk => XS.icmpYes X11.here hx rfl (pc0 := 134) (pc' := 147) rfl (hb hby at_134) rfl (tlt (by decide : ((0 : Int32) < (2 : Int32)))).1 (by decide) (by decide) tk) ?_
        refine Gs (fun _ tk => XS.aload X11.here hx rfl (hb hby at_147) rfl rfl tk) ?_
        obtain ⟨_, _, ⟨T12, L12, k12, n12⟩, -, X12, ⟨Lc12, hQ12, l12, y12, z12⟩, st12⟩ := Jvm.LawKit.callS X11 hx (y := mN35) hown (mvT hZ (gw hw 93 rfl)) (mvT hZ (gw hw 94 rfl)) (mvT hZ (gw hw 95 rfl)) (mvT hZ (gw hw 96 rfl)) (by decide) (backOf (W := 0) (rm_bsof0 l Z a0 hw [] b10 no T11.heap n0 Z0 A_b10 F_size_b10 S_NONE) hZ (gw hw 96 rfl) (gw hw 95 rfl) (by decide) (by decide)) (g := (mkF m 149 #[.val (.int x0), .val (.int x1), .val (.int x2), .val (.int x3), .val (.int (0 : Int32)), .val (.int (0 : Int32)), .val (.int pz), .val (.ref b2), .val (.ref b4), .val (.ref b6), .val (.ref b8), .val (.ref b10), .unset, .unset] [(.ref b10)])) rfl (by rw [hml]; rfl) (argsL := [(.ref b10)]) (rest := []) (lenOf own_pd22 rfl) rfl (w0 (Nat.le_of_eq rfl)) (hb hby at_149) (fun _ _ => ⟨rfl, rfl, (by decide : 5 + 0 ≤ _), (by decide : 21 + 0 ≤ _)⟩)
        dsimp only [Pt.U, Pt.locs, Pt.cells, Pt.slots] at X12 l12 y12 z12 st12 hQ12
        subst l12 y12 z12
        obtain ⟨rfl, N12q, e12⟩ := hQ12
        have N12 := Fr.app N11 N12q
        refine Gs st12 ?_
        show Goes _ _ _ _ _ (T12.setTop (mkF m 152 #[.val (.int x0), .val (.int x1), .val (.int x2), .val (.int x3), .val (.int (0 : Int32)), .val (.int (0 : Int32)), .val (.int pz), .val (.ref b2), .val (.ref b4), .val (.ref b6), .val (.ref b8), .val (.ref b10), .unset, .unset] [(.ref no)]))
        refine Gs (fun _ tk => XS.astore X12.here hx rfl (hb hby at_152) rfl rfl (l' := #[.val (.int x0), .val (.int x1), .val (.int x2), .val (.int x3), .val (.int (0 : Int32)), .val (.int (0 : Int32)), .val (.int pz), .val (.ref b2), .val (.ref b4), .val (.ref b6), .val (.ref b8), .val (.ref b10), .val (.ref no), .unset]) rfl tk) ?_
        refine Gs (fun _ tk => XS.aload X12.here hx rfl (hb hby at_154) rfl rfl tk) ?_
        obtain ⟨cq13, kq13, q13a, q13b, q13c⟩ := isOf hZ e12 A_no
        obtain ⟨_, _, ⟨T13, L13, k13, n13⟩, -, X13, ⟨Lc13, hQ13, l13, y13, z13⟩, st13⟩ := X12.virtualBack hx (y := mN37) (z := mN37) hown (mvT hZ (gw hw 105 rfl)) (mvT hZ (gw hw 106 rfl)) (notFace_of_selects (args := #[]) (mvT hZ (gw hw 108 rfl))) (mvT hZ (gw hw 108 rfl)) (mvT hZ (gw hw 107 rfl)) (by decide) (backOf (W := 0) (rm_bssz l Z a0 hw [] no (0 : Int32) T11.heap n0 Z0 F_size_no) hZ (gw hw 109 rfl) (gw hw 95 rfl) (by decide) (by decide)) q13a q13c (g := (mkF m 156 #[.val (.int x0), .val (.int x1), .val (.int x2), .val (.int x3), .val (.int (0 : Int32)), .val (.int (0 : Int32)), .val (.int pz), .val (.ref b2), .val (.ref b4), .val (.ref b6), .val (.ref b8), .val (.ref b10), .val (.ref no), .unset] [(.ref no)])) rfl (by rw [hml]; rfl) (Steps.refl _) (argsL := []) (rest := []) (lenOf own_pd15 rfl) rfl (w0 (Nat.le_of_eq rfl)) (hb hby at_156) (fun _ _ => ⟨rfl, e12, (by decide : 5 + 0 ≤ _), (by decide : 21 + 0 ≤ _)⟩)
        dsimp only [Pt.U, Pt.locs, Pt.cells, Pt.slots] at X13 l13 y13 z13 st13 hQ13
        subst l13 y13 z13
        obtain ⟨rfl, N13q, e13⟩ := hQ13
        have N13 := Fr.app N12 N13q
        refine Gs (fun _ tk => st13.trans tk) ?_
        show Goes _ _ _ _ _ (T13.setTop (mkF m 159 #[.val (.int x0), .val (.int x1), .val (.int x2), .val (.int x3), .val (.int (0 : Int32)), .val (.int (0 : Int32)), .val (.int pz), .val (.ref b2), .val (.ref b4), .val (.ref b6), .val (.ref b8), .val (.ref b10), .val (.ref no), .unset] [(.int (0 : Int32))]))
        refine Gs (fun _ tk => XS.iload X13.here hx rfl (hb hby at_159) rfl tk) ?_
        refine Gs (fun _ tk => XS.icmpNo X13.here hx rfl (hb hby at_161) rfl (teq (by decide : ((0 : Int32) = (0 : Int32)))).2 tk) ?_
        refine Gs (fun _ tk => XS.iconst X13.here hx rfl (hb hby at_164) tk) ?_
        refine Gs (fun _ tk => XS.goto X13.here hx rfl (pc0 := 165) (pc' := 169) rfl (hb hby at_165) (by decide) (by decide) tk) ?_
        refine Gs (fun _ tk => XS.istore X13.here hx rfl (hb hby at_169) rfl (l' := #[.val (.int x0), .val (.int x1), .val (.int x2), .val (.int x3), .val (.int (0 : Int32)), .val (.int (0 : Int32)), .val (.int pz), .val (.ref b2), .val (.ref b4), .val (.ref b6), .val (.ref b8), .val (.ref b10), .val (.ref no), .val (.int (1 : Int32))]) rfl tk) ?_
        refine Gs (fun _ tk => XS.iload X13.here hx rfl (hb hby at_171) rfl tk) ?_
        show Goes _ _ _ _ _ (T13.setTop (mkF m 173 #[.val (.int x0), .val (.int x1), .val (.int x2), .val (.int x3), .val (.int (0 : Int32)), .val (.int (0 : Int32)), .val (.int pz), .val (.ref b2), .val (.ref b4), .val (.ref b6), .val (.ref b8), .val (.ref b10), .val (.ref no), .val (.int (1 : Int32))] [(.int (1 : Int32))]))
        refine Gs (fun _ tk => XS.ifNo X13.here hx rfl (hb hby at_173) rfl ((if0 _ _).trans (feq (by decide : ¬ ((1 : Int32) = (0 : Int32)))).1) tk) ?_
        refine Gs (fun _ tk => XS.iload X13.here hx rfl (hb hby at_176) rfl tk) ?_
        refine Gs (fun _ tk => XS.iconst X13.here hx rfl (hb hby at_178) tk) ?_
        refine Gs (fun _ tk => XS.icmpYes X13.here hx rfl (pc0 := 179) (pc' := 229) rfl (hb hby at_179) rfl (tlt (by decide : ((0 : Int32) < (1 : Int32)))).1 (by decide) (by decide) tk) ?_
        refine Gs (fun _ tk => XS.iload X13.here hx rfl (hb hby at_229) rfl tk) ?_
        refine Gs (fun _ tk => XS.ifNo X13.here hx rfl (hb hby at_231) rfl ((if0 _ _).trans (feq (by decide : ¬ ((1 : Int32) = (0 : Int32)))).1) tk) ?_
        show Goes _ _ _ _ _ (T13.setTop (mkF m 234 #[.val (.int x0), .val (.int x1), .val (.int x2), .val (.int x3), .val (.int (0 : Int32)), .val (.int (0 : Int32)), .val (.int pz), .val (.ref b2), .val (.ref b4), .val (.ref b6), .val (.ref b8), .val (.ref b10), .val (.ref no), .val (.int (1 : Int32))] []))
        refine Gs (fun _ tk => XS.iload X13.here hx rfl (hb hby at_234) rfl tk) ?_
        refine Gs (fun _ tk => XS.iconst X13.here hx rfl (hb hby at_236) tk) ?_
        refine Gs (fun _ tk => XS.icmpYes X13.here hx rfl (pc0 := 237) (pc' := 268) rfl (hb hby at_237) rfl (tlt (by decide : ((0 : Int32) < (2 : Int32)))).1 (by decide) (by decide) tk) ?_
        refine Gs (fun _ tk => XS.iload X13.here hx rfl (hb hby at_268) rfl tk) ?_
        refine Gs (fun _ tk => XS.ifNo X13.here hx rfl (hb hby at_270) rfl ((if0 _ _).trans (feq (by decide : ¬ ((1 : Int32) = (0 : Int32)))).1) tk) ?_
        refine Gs (fun _ tk => XS.aload X13.here hx rfl (hb hby at_273) rfl rfl tk) ?_
        show Goes _ _ _ _ _ (T13.setTop (mkF m 275 #[.val (.int x0), .val (.int x1), .val (.int x2), .val (.int x3), .val (.int (0 : Int32)), .val (.int (0 : Int32)), .val (.int pz), .val (.ref b2), .val (.ref b4), .val (.ref b6), .val (.ref b8), .val (.ref b10), .val (.ref no), .val (.int (1 : Int32))] [(.ref no)]))
        obtain ⟨_, _, ⟨T14, L14, k14, n14⟩, -, X14, ⟨Lc14, hQ14, l14, y14, z14⟩, st14⟩ := Jvm.LawKit.callS X13 hx (y := mN35) hown (mvT hZ (gw hw 93 rfl)) (mvT hZ (gw hw 94 rfl)) (mvT hZ (gw hw 95 rfl)) (mvT hZ (gw hw 96 rfl)) (by decide) (backOf (W := 0) (rm_bsofS l Z a0 hw [] no T11.heap n0 Z0 A_no) hZ (gw hw 96 rfl) (gw hw 95 rfl) (by decide) (by decide)) (g := (mkF m 275 #[.val (.int x0), .val (.int x1), .val (.int x2), .val (.int x3), .val (.int (0 : Int32)), .val (.int (0 : Int32)), .val (.int pz), .val (.ref b2), .val (.ref b4), .val (.ref b6), .val (.ref b8), .val (.ref b10), .val (.ref no), .val (.int (1 : Int32))] [(.ref no)])) rfl (by rw [hml]; rfl) (argsL := [(.ref no)]) (rest := []) (lenOf own_pd22 rfl) rfl (w0 (Nat.le_of_eq rfl)) (hb hby at_275) (fun _ _ => ⟨rfl, e13, (by decide : 5 + 0 ≤ _), (by decide : 21 + 0 ≤ _)⟩)
        dsimp only [Pt.U, Pt.locs, Pt.cells, Pt.slots] at X14 l14 y14 z14 st14 hQ14
        subst l14 y14 z14
        obtain ⟨rfl, N14q, e14⟩ := hQ14
        have N14 := Fr.app N13 N14q
        refine Gs st14 ?_
        show Goes _ _ _ _ _ (T14.setTop (mkF m 278 #[.val (.int x0), .val (.int x1), .val (.int x2), .val (.int x3), .val (.int (0 : Int32)), .val (.int (0 : Int32)), .val (.int pz), .val (.ref b2), .val (.ref b4), .val (.ref b6), .val (.ref b8), .val (.ref b10), .val (.ref no), .val (.int (1 : Int32))] [(.ref no)]))
        refine Gs (fun _ tk => XS.aload X14.here hx rfl (hb hby at_278) rfl rfl tk) ?_
        refine Gs (fun _ tk => Jvm.RoadKit.acmp (g := (mkF m 280 #[.val (.int x0), .val (.int x1), .val (.int x2), .val (.int x3), .val (.int (0 : Int32)), .val (.int (0 : Int32)), .val (.int pz), .val (.ref b2), .val (.ref b4), .val (.ref b6), .val (.ref b8), .val (.ref b10), .val (.ref no), .val (.int (1 : Int32))] [(.ref no), (.ref no)])) X14 hx rfl rfl rfl (pc0 := 280) (pc' := 283) (same := true) rfl (hb hby at_280) rfl (decide_eq_true (congrArg Value.ref rfl)) (by decide) (by decide) tk) ?_
        refine Gs (fun _ tk => XS.iconst X14.here hx rfl (hb hby at_283) tk) ?_
        refine Gs (fun _ tk => XS.goto X14.here hx rfl (pc0 := 284) (pc' := 288) rfl (hb hby at_284) (by decide) (by decide) tk) ?_
        refine Gs (fun _ tk => XS.istore X14.here hx rfl (hb hby at_288) rfl (l' := #[.val (.int x0), .val (.int x1), .val (.int x2), .val (.int x3), .val (.int (0 : Int32)), .val (.int (0 : Int32)), .val (.int pz), .val (.ref b2), .val (.ref b4), .val (.ref b6), .val (.ref b8), .val (.ref b10), .val (.ref no), .val (.int (1 : Int32))]) rfl tk) ?_
        refine Gs (fun _ tk => XS.iload X14.here hx rfl (hb hby at_290) rfl tk) ?_
        show Goes _ _ _ _ _ (T14.setTop (mkF m 292 #[.val (.int x0), .val (.int x1), .val (.int x2), .val (.int x3), .val (.int (0 : Int32)), .val (.int (0 : Int32)), .val (.int pz), .val (.ref b2), .val (.ref b4), .val (.ref b6), .val (.ref b8), .val (.ref b10), .val (.ref no), .val (.int (1 : Int32))] [(.int (1 : Int32))]))
        refine Goes.ret X14 (some (.int (1 : Int32))) (fun h => by rw [hret] at h; cases h) hlk (by decide) (by decide) ?_ (fun fs hr => ?_)
        · exact ⟨rfl, N14⟩
        · exact own_retN X14 hx (t := .boolean) hret (by simp) rfl (hb hby at_292) hr
      by_cases hc25_15 : (x0 &&& (16 : Int32)) = (0 : Int32)
      · refine Gs (fun _ tk => XS.ifYes X0.here hx rfl (pc0 := 25) (pc' := 32) rfl (hb hby at_25) rfl ((if0 _ _).trans (teq hc25_15).1) (by decide) (by decide) tk) ?_
        refine Gs (fun _ tk => XS.iconst X0.here hx rfl (hb hby at_32) tk) ?_
        exact J33 (0 : Int32)
      · refine Gs (fun _ tk => XS.ifNo X0.here hx rfl (hb hby at_25) rfl ((if0 _ _).trans (feq hc25_15).1) tk) ?_
        refine Gs (fun _ tk => XS.iconst X0.here hx rfl (hb hby at_28) tk) ?_
        refine Gs (fun _ tk => XS.goto X0.here hx rfl (pc0 := 29) (pc' := 33) rfl (hb hby at_29) (by decide) (by decide) tk) ?_
        exact J33 (1 : Int32)
    · refine Gs (fun _ tk => XS.ifNo X0.here hx rfl (hb hby at_11) rfl ((if0 _ _).trans (feq hc11_1).1) tk) ?_
      refine Gs (fun _ tk => XS.iconst X0.here hx rfl (hb hby at_14) tk) ?_
      refine Gs (fun _ tk => XS.goto X0.here hx rfl (pc0 := 15) (pc' := 19) rfl (hb hby at_15) (by decide) (by decide) tk) ?_
      refine Gs (fun _ tk => XS.istore X0.here hx rfl (hb hby at_19) rfl (l' := #[.val (.int x0), .val (.int x1), .val (.int x2), .val (.int x3), .val (.int (0 : Int32)), .val (.int (1 : Int32)), .unset, .unset, .unset, .unset, .unset, .unset, .unset, .unset]) rfl tk) ?_
      refine Gs (fun _ tk => XS.iloadN X0.here hx rfl (hb hby at_21) rfl tk) ?_
      refine Gs (fun _ tk => XS.bipush X0.here hx rfl (hb hby at_22) tk) ?_
      show Goes _ _ _ _ _ (s₁.setTop (mkF m 24 #[.val (.int x0), .val (.int x1), .val (.int x2), .val (.int x3), .val (.int (0 : Int32)), .val (.int (1 : Int32)), .unset, .unset, .unset, .unset, .unset, .unset, .unset, .unset] [(.int (16 : Int32)), (.int x0)]))
      refine Gs (fun _ tk => XS.iand X0.here hx rfl (hb hby at_24) rfl tk) ?_
      show Goes _ _ _ _ _ (s₁.setTop (mkF m 25 #[.val (.int x0), .val (.int x1), .val (.int x2), .val (.int x3), .val (.int (0 : Int32)), .val (.int (1 : Int32)), .unset, .unset, .unset, .unset, .unset, .unset, .unset, .unset] [(.int (x0 &&& (16 : Int32)))]))
      have J33 : ∀ pz : Int32, Goes p e below (fun o u L => FrameEnd s o u L room_1.cells room_1.slots) (Q_rm_law Z x0 x1 x2 x3 d kd nl ea ke em no mr h0 n0) (s₁.setTop (mkF m 33 #[.val (.int x0), .val (.int x1), .val (.int x2), .val (.int x3), .val (.int (0 : Int32)), .val (.int (1 : Int32)), .unset, .unset, .unset, .unset, .unset, .unset, .unset, .unset] [(.int pz)])) := by
        intro pz
        refine Gs (fun _ tk => XS.istore X0.here hx rfl (hb hby at_33) rfl (l' := #[.val (.int x0), .val (.int x1), .val (.int x2), .val (.int x3), .val (.int (0 : Int32)), .val (.int (1 : Int32)), .val (.int pz), .unset, .unset, .unset, .unset, .unset, .unset, .unset]) rfl tk) ?_
        obtain ⟨T16, h16, X16, e16, E16, A16, D16, -, st16⟩ := newO X0 hx hZ hown (gw hw 0 rfl) (gw hw 1 rfl) (gw hw 2 rfl) e0 (g := (mkF m 35 #[.val (.int x0), .val (.int x1), .val (.int x2), .val (.int x3), .val (.int (0 : Int32)), .val (.int (1 : Int32)), .val (.int pz), .unset, .unset, .unset, .unset, .unset, .unset, .unset] [])) rfl (hb hby at_35) (by decide) (by decide)
        obtain ⟨b16, gq16⟩ : ∃ z, z = h0.size := ⟨_, rfl⟩
        rw [← gq16] at A16 st16 D16
        have g_b16 : n0 ≤ b16 := by rw [gq16]; exact Z0
        have ne_d_b16 : d ≠ b16 := by rw [gq16]; exact Nat.ne_of_lt V_d.lt
        have ne_nl_b16 : nl ≠ b16 := by rw [gq16]; exact Nat.ne_of_lt A_nl.lt
        have ne_ea_b16 : ea ≠ b16 := by rw [gq16]; exact Nat.ne_of_lt V_ea.lt
        have ne_em_b16 : em ≠ b16 := by rw [gq16]; exact Nat.ne_of_lt A_em.lt
        have ne_no_b16 : no ≠ b16 := by rw [gq16]; exact Nat.ne_of_lt A_no.lt
        replace S_DEFAULTCAPACITY_EMPTY_ELEMENTDATA := S_DEFAULTCAPACITY_EMPTY_ELEMENTDATA.ext E16
        replace V_d := V_d.ext E16
        replace S_EMPTY_LIST := S_EMPTY_LIST.ext E16
        replace A_nl := A_nl.ext E16
        replace F_elements_nl := F_elements_nl.ext E16
        replace V_ea := V_ea.ext E16
        replace S_EMPTY := S_EMPTY.ext E16
        replace A_em := A_em.ext E16
        replace S_NONE := S_NONE.ext E16
        replace A_no := A_no.ext E16
        replace F_size_no := F_size_no.ext E16
        replace Z0 : n0 ≤ h16.size := Nat.le_trans Z0 E16.1
        have A_b16 : Exa Z h16 b16 "org/stripeward/scenario/Node" := A16
        have F_index_b16 : Fld Z h16 b16 "org/stripeward/scenario/Node" "index" "I" (.int (0 : Int32)) := D16 (Or.inr (gw hw 15 rfl)) (ty := .int) (by decide)
        have F_name_b16 : Fld Z h16 b16 "org/stripeward/scenario/Node" "name" "Ljava/lang/String;" .null := D16 (Or.inr (gw hw 17 rfl)) (ty := (.object "java/lang/String")) (by decide)
        have F_rack_b16 : Fld Z h16 b16 "org/stripeward/scenario/Node" "rack" "Lorg/stripeward/scenario/Rack;" .null := D16 (Or.inr (gw hw 19 rfl)) (ty := (.object "org/stripeward/scenario/Rack")) (by decide)
        refine Gs st16 ?_
        show Goes _ _ _ _ _ (T16.setTop (mkF m 38 #[.val (.int x0), .val (.int x1), .val (.int x2), .val (.int x3), .val (.int (0 : Int32)), .val (.int (1 : Int32)), .val (.int pz), .unset, .unset, .unset, .unset, .unset, .unset, .unset] [(.ref b16)]))
        refine Gs (fun _ tk => XS.dup X16.here hx rfl (hb hby at_38) rfl rfl tk) ?_
        refine Gs (fun _ tk => XS.iloadN X16.here hx rfl (hb hby at_39) rfl tk) ?_
        refine Gs (fun _ tk => XS.aconstNull X16.here hx rfl (hb hby at_40) tk) ?_
        refine Gs (fun _ tk => XS.aconstNull X16.here hx rfl (hb hby at_41) tk) ?_
        obtain ⟨_, _, ⟨T17, L17, k17, n17⟩, -, X17, ⟨Lc17, hQ17, l17, y17, z17⟩, st17⟩ := X16.specialBack hx (y := mN25) rfl hown (mvT hZ (gw hw 3 rfl)) (mvT hZ (gw hw 4 rfl)) (mvT hZ (gw hw 5 rfl)) (by decide) (backOf (W := 1) (rm_node l Z a0 hw [] b16 x3 h16 n0 Z0 A_b16 F_index_b16 F_name_b16 F_rack_b16 g_b16) hZ (gw hw 5 rfl) (gw hw 2 rfl) (by decide) (by decide)) (g := (mkF m 42 #[.val (.int x0), .val (.int x1), .val (.int x2), .val (.int x3), .val (.int (0 : Int32)), .val (.int (1 : Int32)), .val (.int pz), .unset, .unset, .unset, .unset, .unset, .unset, .unset] [.null, .null, (.int x3), (.ref b16), (.ref b16)])) rfl (by rw [hml]; rfl) (Steps.refl _) (a := b16) (argsL := [(.int x3), .null, .null]) (rest := [(.ref b16)]) (lenOf own_pd20 rfl) rfl (w0 (Nat.le_of_eq rfl)) (hb hby at_42) (fun _ _ => ⟨rfl, e16, (by decide : 1 + 0 ≤ _), (by decide : 3 + 0 ≤ _)⟩)
        dsimp only [Pt.U, Pt.locs, Pt.cells, Pt.slots] at X17 l17 y17 z17 st17 hQ17
        subst l17 y17 z17
        obtain ⟨rfl, N17q, K17⟩ := hQ17
        have N17 := Fr.app N0 N17q
        replace S_DEFAULTCAPACITY_EMPTY_ELEMENTDATA := own_staK S_DEFAULTCAPACITY_EMPTY_ELEMENTDATA K17 (allS (own_obE A_b16) all0)
        replace S_EMPTY_LIST := own_staK S_EMPTY_LIST K17 (allS (own_obE A_b16) all0)
        replace S_EMPTY := own_staK S_EMPTY K17 (allS (own_obE A_b16) all0)
        replace S_NONE := own_staK S_NONE K17 (allS (own_obE A_b16) all0)
        replace V_d := V_d.keep K17 (ninS ne_d_b16 nin0)
        replace A_nl := A_nl.keep K17
        replace F_elements_nl := F_elements_nl.keep K17 (ninS ne_nl_b16 nin0)
        replace V_ea := V_ea.keep K17 (ninS ne_ea_b16 nin0)
        replace A_em := A_em.keep K17
        replace A_no := A_no.keep K17
        replace F_size_no := F_size_no.keep K17 (ninS ne_no_b16 nin0)
        replace A_b16 := A_b16.keep K17
        replace Z0 := Nat.le_trans Z0 K17.1
        refine Gs (fun _ tk => st17.trans tk) ?_
        show Goes _ _ _ _ _ (T17.setTop (mkF m 45 #[.val (.int x0), .val (.int x1), .val (.int x2), .val (.int x3), .val (.int (0 : Int32)), .val (.int (1 : Int32)), .val (.int pz), .unset, .unset, .unset, .unset, .unset, .unset, .unset] [(.ref b16)]))
        refine Gs (fun _ tk => XS.astore X17.here hx rfl (hb hby at_45) rfl rfl (l' := #[.val (.int x0), .val (.int x1), .val (.int x2), .val (.int x3), .val (.int (0 : Int32)), .val (.int (1 : Int32)), .val (.int pz), .val (.ref b16), .unset, .unset, .unset, .unset, .unset, .unset]) rfl tk) ?_
        obtain ⟨T18, h18, X18, e18, E18, A18, D18, -, st18⟩ := newO X17 hx hZ hown (gw hw 20 rfl) (gw hw 21 rfl) (gw hw 22 rfl) rfl (g := (mkF m 47 #[.val (.int x0), .val (.int x1), .val (.int x2), .val (.int x3), .val (.int (0 : Int32)), .val (.int (1 : Int32)), .val (.int pz), .val (.ref b16), .unset, .unset, .unset, .unset, .unset, .unset] [])) rfl (hb hby at_47) (by decide) (by decide)
        obtain ⟨b18, gq18⟩ : ∃ z, z = T17.heap.size := ⟨_, rfl⟩
        rw [← gq18] at A18 st18 D18
        have g_b18 : n0 ≤ b18 := by rw [gq18]; exact Z0
        have ne_d_b18 : d ≠ b18 := by rw [gq18]; exact Nat.ne_of_lt V_d.lt
        have ne_nl_b18 : nl ≠ b18 := by rw [gq18]; exact Nat.ne_of_lt A_nl.lt
        have ne_ea_b18 : ea ≠ b18 := by rw [gq18]; exact Nat.ne_of_lt V_ea.lt
        have ne_em_b18 : em ≠ b18 := by rw [gq18]; exact Nat.ne_of_lt A_em.lt
        have ne_no_b18 : no ≠ b18 := by rw [gq18]; exact Nat.ne_of_lt A_no.lt
        have ne_b16_b18 : b16 ≠ b18 := by rw [gq18]; exact Nat.ne_of_lt A_b16.lt
        replace S_DEFAULTCAPACITY_EMPTY_ELEMENTDATA := S_DEFAULTCAPACITY_EMPTY_ELEMENTDATA.ext E18
        replace V_d := V_d.ext E18
        replace S_EMPTY_LIST := S_EMPTY_LIST.ext E18
        replace A_nl := A_nl.ext E18
        replace F_elements_nl := F_elements_nl.ext E18
        replace V_ea := V_ea.ext E18
        replace S_EMPTY := S_EMPTY.ext E18
        replace A_em := A_em.ext E18
        replace S_NONE := S_NONE.ext E18
        replace A_no := A_no.ext E18
        replace F_size_no := F_size_no.ext E18
        replace A_b16 := A_b16.ext E18
        replace Z0 : n0 ≤ h18.size := Nat.le_trans Z0 E18.1
        have A_b18 : Exa Z h18 b18 "java/util/ArrayList" := A18
        have F_modCount_b18 : Fld Z h18 b18 "java/util/AbstractList" "modCount" "I" (.int (0 : Int32)) := D18 (Or.inl (gw hw 40 rfl)) (ty := .int) (by decide)
        have F_elementData_b18 : Fld Z h18 b18 "java/util/ArrayList" "elementData" "[Ljava/lang/Object;" .null := D18 (Or.inl (gw hw 43 rfl)) (ty := (.array (.object "java/lang/Object"))) (by decide)
        have F_size_b18 : Fld Z h18 b18 "java/util/ArrayList" "size" "I" (.int (0 : Int32)) := D18 (Or.inl (gw hw 75 rfl)) (ty := .int) (by decide)
        refine Gs st18 ?_
        show Goes _ _ _ _ _ (T18.setTop (mkF m 50 #[.val (.int x0), .val (.int x1), .val (.int x2), .val (.int x3), .val (.int (0 : Int32)), .val (.int (1 : Int32)), .val (.int pz), .val (.ref b16), .unset, .unset, .unset, .unset, .unset, .unset] [(.ref b18)]))
        refine Gs (fun _ tk => XS.dup X18.here hx rfl (hb hby at_50) rfl rfl tk) ?_
        obtain ⟨_, _, ⟨T19, L19, k19, n19⟩, -, X19, ⟨Lc19, hQ19, l19, y19, z19⟩, st19⟩ := X18.specialBack hx (y := mN6) rfl hown (mvT hZ (gw hw 23 rfl)) (mvT hZ (gw hw 24 rfl)) (mvT hZ (gw hw 25 rfl)) (by decide) (backOf (W := 1) (rm_alinit l Z a0 hw [] b18 d h18 n0 Z0 A_b18 F_modCount_b18 F_elementData_b18 F_size_b18 S_DEFAULTCAPACITY_EMPTY_ELEMENTDATA g_b18) hZ (gw hw 25 rfl) (gw hw 22 rfl) (by decide) (by decide)) (g := (mkF m 51 #[.val (.int x0), .val (.int x1), .val (.int x2), .val (.int x3), .val (.int (0 : Int32)), .val (.int (1 : Int32)), .val (.int pz), .val (.ref b16), .unset, .unset, .unset, .unset, .unset, .unset] [(.ref b18), (.ref b18)])) rfl (by rw [hml]; rfl) (Steps.refl _) (a := b18) (argsL := []) (rest := [(.ref b18)]) (lenOf own_pd0 rfl) rfl (w0 (Nat.le_of_eq rfl)) (hb hby at_51) (fun _ _ => ⟨rfl, e18, (by decide : 2 + 0 ≤ _), (by decide : 6 + 0 ≤ _)⟩)
        dsimp only [Pt.U, Pt.locs, Pt.cells, Pt.slots] at X19 l19 y19 z19 st19 hQ19
        subst l19 y19 z19
        obtain ⟨rfl, N19q, K19, F_modCount_b18_19', F_elementData_b18_19', F_size_b18_19'⟩ := hQ19
        have N19 := Fr.app N17 N19q
        replace S_DEFAULTCAPACITY_EMPTY_ELEMENTDATA := own_staK S_DEFAULTCAPACITY_EMPTY_ELEMENTDATA K19 (allS (own_obE A_b18) all0)
        replace S_EMPTY_LIST := own_staK S_EMPTY_LIST K19 (allS (own_obE A_b18) all0)
        replace S_EMPTY := own_staK S_EMPTY K19 (allS (own_obE A_b18) all0)
        replace S_NONE := own_staK S_NONE K19 (allS (own_obE A_b18) all0)
        replace V_d := V_d.keep K19 (ninS ne_d_b18 nin0)
        replace A_nl := A_nl.keep K19
        replace F_elements_nl := F_elements_nl.keep K19 (ninS ne_nl_b18 nin0)
        replace V_ea := V_ea.keep K19 (ninS ne_ea_b18 nin0)
        replace A_em := A_em.keep K19
        replace A_no := A_no.keep K19
        replace F_size_no := F_size_no.keep K19 (ninS ne_no_b18 nin0)
        replace A_b16 := A_b16.keep K19
        replace A_b18 := A_b18.keep K19
        replace Z0 := Nat.le_trans Z0 K19.1
        have F_modCount_b18 := F_modCount_b18_19'
        have F_elementData_b18 := F_elementData_b18_19'
        have F_size_b18 := F_size_b18_19'
        refine Gs (fun _ tk => st19.trans tk) ?_
        show Goes _ _ _ _ _ (T19.setTop (mkF m 54 #[.val (.int x0), .val (.int x1), .val (.int x2), .val (.int x3), .val (.int (0 : Int32)), .val (.int (1 : Int32)), .val (.int pz), .val (.ref b16), .unset, .unset, .unset, .unset, .unset, .unset] [(.ref b18)]))
        refine Gs (fun _ tk => XS.astore X19.here hx rfl (hb hby at_54) rfl rfl (l' := #[.val (.int x0), .val (.int x1), .val (.int x2), .val (.int x3), .val (.int (0 : Int32)), .val (.int (1 : Int32)), .val (.int pz), .val (.ref b16), .val (.ref b18), .unset, .unset, .unset, .unset, .unset]) rfl tk) ?_
        refine Gs (fun _ tk => XS.iload X19.here hx rfl (hb hby at_56) rfl tk) ?_
        refine Gs (fun _ tk => XS.ifNo X19.here hx rfl (hb hby at_58) rfl ((if0 _ _).trans (feq (by decide : ¬ ((1 : Int32) = (0 : Int32)))).1) tk) ?_
        refine Gs (fun _ tk => XS.aload X19.here hx rfl (hb hby at_61) rfl rfl tk) ?_
        refine Gs (fun _ tk => XS.aload X19.here hx rfl (hb hby at_63) rfl rfl tk) ?_
        have ltc20_d : d < T19.heap.size := V_d.lt
        have ltc20_nl : nl < T19.heap.size := A_nl.lt
        have ltc20_ea : ea < T19.heap.size := V_ea.lt
        have ltc20_em : em < T19.heap.size := A_em.lt
        have ltc20_no : no < T19.heap.size := A_no.lt
        have ltc20_b16 : b16 < T19.heap.size := A_b16.lt
        have ltc20_b18 : b18 < T19.heap.size := A_b18.lt
        obtain ⟨cq20, kq20, q20a, q20b, q20c⟩ := isOf hZ rfl A_b18
        obtain ⟨_, _, ⟨T20, L20, k20, n20⟩, -, X20, ⟨Lc20, hQ20, l20, y20, z20⟩, st20⟩ := X19.interfaceBack hx (xi := mN49) (y := mN12) hown (mvT hZ (gw hw 113 rfl)) (mvT hZ (gw hw 114 rfl)) (mvT hZ (gw hw 115 rfl)) (mvT hZ (gw hw 116 rfl)) (mvT hZ (gw hw 117 rfl)) (mvT hZ (gw hw 118 rfl)) (mvT hZ (gw hw 119 rfl)) (mvT hZ (gw hw 102 rfl)) (by decide) (backOf (W := 0) (rm_add0 l Z a0 hw [] b18 b16 (0 : Int32) d kd T19.heap n0 Z0 A_b18 F_modCount_b18 F_elementData_b18 F_size_b18 S_DEFAULTCAPACITY_EMPTY_ELEMENTDATA V_d g_b18 ne_d_b18 (Ins.of_exa A_b16 (gw hw 144 rfl))) hZ (gw hw 120 rfl) (gw hw 22 rfl) (by decide) (by decide)) q20a q20b q20c (g := (mkF m 65 #[.val (.int x0), .val (.int x1), .val (.int x2), .val (.int x3), .val (.int (0 : Int32)), .val (.int (1 : Int32)), .val (.int pz), .val (.ref b16), .val (.ref b18), .unset, .unset, .unset, .unset, .unset] [(.ref b16), (.ref b18)])) rfl (by rw [hml]; rfl) (Steps.refl _) (argsL := [(.ref b16)]) (rest := []) (lenOf own_pd23 rfl) rfl (w0 (Nat.le_of_eq rfl)) (hb hby at_65) (fun _ _ => ⟨rfl, rfl, (by decide : 2 + 1 ≤ _), (by decide : 6 + 10 ≤ _)⟩)
        dsimp only [Pt.U, Pt.locs, Pt.cells, Pt.slots] at X20 l20 y20 z20 st20 hQ20
        subst l20 y20 z20
        obtain ⟨b20, kb20, rfl, N20q, K20, F_modCount_b18_20', F_elementData_b18_20', F_size_b18_20', V_b20_20', A_b20_20', Ov_20', g_b20_20', sz_b20_20'⟩ := hQ20
        have N20 := Fr.app N19 N20q
        replace S_DEFAULTCAPACITY_EMPTY_ELEMENTDATA := own_staK S_DEFAULTCAPACITY_EMPTY_ELEMENTDATA K20 (allS (own_obE A_b18) all0)
        replace S_EMPTY_LIST := own_staK S_EMPTY_LIST K20 (allS (own_obE A_b18) all0)
        replace S_EMPTY := own_staK S_EMPTY K20 (allS (own_obE A_b18) all0)
        replace S_NONE := own_staK S_NONE K20 (allS (own_obE A_b18) all0)
        replace V_d := V_d.keep K20 (ninS ne_d_b18 nin0)
        replace A_nl := A_nl.keep K20
        replace F_elements_nl := F_elements_nl.keep K20 (ninS ne_nl_b18 nin0)
        replace V_ea := V_ea.keep K20 (ninS ne_ea_b18 nin0)
        replace A_em := A_em.keep K20
        replace A_no := A_no.keep K20
        replace F_size_no := F_size_no.keep K20 (ninS ne_no_b18 nin0)
        replace A_b16 := A_b16.keep K20
        replace A_b18 := A_b18.keep K20
        replace Z0 := Nat.le_trans Z0 K20.1
        have F_elementData_b18 := F_elementData_b18_20'
        have F_size_b18 := F_size_b18_20'
        have V_b20 := V_b20_20'
        have A_b20 := A_b20_20'
        have g_b20 := g_b20_20'
        have szc_b20 := sz_b20_20'
        have ne_d_b20 : d ≠ b20 := Nat.ne_of_lt (Nat.lt_of_lt_of_le ltc20_d szc_b20)
        have ne_nl_b20 : nl ≠ b20 := Nat.ne_of_lt (Nat.lt_of_lt_of_le ltc20_nl szc_b20)
        have ne_ea_b20 : ea ≠ b20 := Nat.ne_of_lt (Nat.lt_of_lt_of_le ltc20_ea szc_b20)
        have ne_em_b20 : em ≠ b20 := Nat.ne_of_lt (Nat.lt_of_lt_of_le ltc20_em szc_b20)
        have ne_no_b20 : no ≠ b20 := Nat.ne_of_lt (Nat.lt_of_lt_of_le ltc20_no szc_b20)
        have ne_b16_b20 : b16 ≠ b20 := Nat.ne_of_lt (Nat.lt_of_lt_of_le ltc20_b16 szc_b20)
        have ne_b18_b20 : b18 ≠ b20 := Nat.ne_of_lt (Nat.lt_of_lt_of_le ltc20_b18 szc_b20)
        refine Gs (fun _ tk => st20.trans tk) ?_
        show Goes _ _ _ _ _ (T20.setTop (mkF m 70 #[.val (.int x0), .val (.int x1), .val (.int x2), .val (.int x3), .val (.int (0 : Int32)), .val (.int (1 : Int32)), .val (.int pz), .val (.ref b16), .val (.ref b18), .unset, .unset, .unset, .unset, .unset] [(.int (1 : Int32))]))
        refine Gs (fun _ tk => XS.pop X20.here hx rfl (hb hby at_70) rfl rfl tk) ?_
        obtain ⟨T21, h21, X21, e21, E21, A21, D21, -, st21⟩ := newO X20 hx hZ hown (gw hw 44 rfl) (gw hw 45 rfl) (gw hw 46 rfl) rfl (g := (mkF m 71 #[.val (.int x0), .val (.int x1), .val (.int x2), .val (.int x3), .val (.int (0 : Int32)), .val (.int (1 : Int32)), .val (.int pz), .val (.ref b16), .val (.ref b18), .unset, .unset, .unset, .unset, .unset] [])) rfl (hb hby at_71) (by decide) (by decide)
        obtain ⟨b21, gq21⟩ : ∃ z, z = T20.heap.size := ⟨_, rfl⟩
        rw [← gq21] at A21 st21 D21
        have g_b21 : n0 ≤ b21 := by rw [gq21]; exact Z0
        have ne_d_b21 : d ≠ b21 := by rw [gq21]; exact Nat.ne_of_lt V_d.lt
        have ne_nl_b21 : nl ≠ b21 := by rw [gq21]; exact Nat.ne_of_lt A_nl.lt
        have ne_ea_b21 : ea ≠ b21 := by rw [gq21]; exact Nat.ne_of_lt V_ea.lt
        have ne_em_b21 : em ≠ b21 := by rw [gq21]; exact Nat.ne_of_lt A_em.lt
        have ne_no_b21 : no ≠ b21 := by rw [gq21]; exact Nat.ne_of_lt A_no.lt
        have ne_b16_b21 : b16 ≠ b21 := by rw [gq21]; exact Nat.ne_of_lt A_b16.lt
        have ne_b18_b21 : b18 ≠ b21 := by rw [gq21]; exact Nat.ne_of_lt A_b18.lt
        have ne_b20_b21 : b20 ≠ b21 := by rw [gq21]; exact Nat.ne_of_lt V_b20.lt
        replace S_DEFAULTCAPACITY_EMPTY_ELEMENTDATA := S_DEFAULTCAPACITY_EMPTY_ELEMENTDATA.ext E21
        replace V_d := V_d.ext E21
        replace S_EMPTY_LIST := S_EMPTY_LIST.ext E21
        replace A_nl := A_nl.ext E21
        replace F_elements_nl := F_elements_nl.ext E21
        replace V_ea := V_ea.ext E21
        replace S_EMPTY := S_EMPTY.ext E21
        replace A_em := A_em.ext E21
        replace S_NONE := S_NONE.ext E21
        replace A_no := A_no.ext E21
        replace F_size_no := F_size_no.ext E21
        replace A_b16 := A_b16.ext E21
        replace A_b18 := A_b18.ext E21
        replace F_elementData_b18 := F_elementData_b18.ext E21
        replace F_size_b18 := F_size_b18.ext E21
        replace V_b20 := V_b20.ext E21
        replace A_b20 := A_b20.ext E21
        replace Z0 : n0 ≤ h21.size := Nat.le_trans Z0 E21.1
        have A_b21 : Exa Z h21 b21 "org/stripeward/scenario/Block" := A21
        have F_index_b21 : Fld Z h21 b21 "org/stripeward/scenario/Block" "index" "I" (.int (0 : Int32)) := D21 (Or.inr (gw hw 81 rfl)) (ty := .int) (by decide)
        have F_name_b21 : Fld Z h21 b21 "org/stripeward/scenario/Block" "name" "Ljava/lang/String;" .null := D21 (Or.inr (gw hw 83 rfl)) (ty := (.object "java/lang/String")) (by decide)
        have F_holders_b21 : Fld Z h21 b21 "org/stripeward/scenario/Block" "holders" "Ljava/util/List;" .null := D21 (Or.inr (gw hw 85 rfl)) (ty := (.object "java/util/List")) (by decide)
        have F_stripe_b21 : Fld Z h21 b21 "org/stripeward/scenario/Block" "stripe" "Lorg/stripeward/scenario/Stripe;" .null := D21 (Or.inr (gw hw 87 rfl)) (ty := (.object "org/stripeward/scenario/Stripe")) (by decide)
        have F_parity_b21 : Fld Z h21 b21 "org/stripeward/scenario/Block" "parity" "Z" (.int (0 : Int32)) := D21 (Or.inr (gw hw 89 rfl)) (ty := .boolean) (by decide)
        have F_sizeMiB_b21 : Fld Z h21 b21 "org/stripeward/scenario/Block" "sizeMiB" "D" (.double (0 : UInt64)) := D21 (Or.inr (gw hw 91 rfl)) (ty := .double) (by decide)
        refine Gs st21 ?_
        show Goes _ _ _ _ _ (T21.setTop (mkF m 74 #[.val (.int x0), .val (.int x1), .val (.int x2), .val (.int x3), .val (.int (0 : Int32)), .val (.int (1 : Int32)), .val (.int pz), .val (.ref b16), .val (.ref b18), .unset, .unset, .unset, .unset, .unset] [(.ref b21)]))
        refine Gs (fun _ tk => XS.dup X21.here hx rfl (hb hby at_74) rfl rfl tk) ?_
        refine Gs (fun _ tk => XS.iloadN X21.here hx rfl (hb hby at_75) rfl tk) ?_
        refine Gs (fun _ tk => XS.aconstNull X21.here hx rfl (hb hby at_76) tk) ?_
        refine Gs (fun _ tk => XS.aload X21.here hx rfl (hb hby at_77) rfl rfl tk) ?_
        refine Gs (fun _ tk => XS.aconstNull X21.here hx rfl (hb hby at_79) tk) ?_
        refine Gs (fun _ tk => XS.iload X21.here hx rfl (hb hby at_80) rfl tk) ?_
        show Goes _ _ _ _ _ (T21.setTop (mkF m 82 #[.val (.int x0), .val (.int x1), .val (.int x2), .val (.int x3), .val (.int (0 : Int32)), .val (.int (1 : Int32)), .val (.int pz), .val (.ref b16), .val (.ref b18), .unset, .unset, .unset, .unset, .unset] [(.int pz), .null, (.ref b18), .null, (.int x1), (.ref b21), (.ref b21)]))
        refine Gs (fun _ tk => XS.dconst1 X21.here hx rfl (hb hby at_82) rfl tk) ?_
        have ltc22_d : d < h21.size := V_d.lt
        have ltc22_nl : nl < h21.size := A_nl.lt
        have ltc22_ea : ea < h21.size := V_ea.lt
        have ltc22_em : em < h21.size := A_em.lt
        have ltc22_no : no < h21.size := A_no.lt
        have ltc22_b16 : b16 < h21.size := A_b16.lt
        have ltc22_b18 : b18 < h21.size := A_b18.lt
        have ltc22_b20 : b20 < h21.size := V_b20.lt
        have ltc22_b21 : b21 < h21.size := A_b21.lt
        obtain ⟨_, _, ⟨T22, L22, k22, n22⟩, -, X22, ⟨Lc22, hQ22, l22, y22, z22⟩, st22⟩ := X21.specialBack hx (y := mN26) rfl hown (mvT hZ (gw hw 47 rfl)) (mvT hZ (gw hw 48 rfl)) (mvT hZ (gw hw 49 rfl)) (by decide) (backOf (W := 1) (rm_block1 l Z a0 hw [] b21 x1 b18 pz FP.dconst1 b16 b20 kb20 mr em h21 n0 Z0 A_b21 F_index_b21 F_name_b21 F_holders_b21 F_stripe_b21 F_parity_b21 F_sizeMiB_b21 g_b21 A_b18 F_elementData_b18 F_size_b18 V_b20 A_b20 (Ins.of_exa A_b16 (gw hw 144 rfl)) (by first | assumption | decide) S_EMPTY ne_b18_b21 ne_b20_b21) hZ (gw hw 49 rfl) (gw hw 46 rfl) (by decide) (by decide)) (g := (mkF m 83 #[.val (.int x0), .val (.int x1), .val (.int x2), .val (.int x3), .val (.int (0 : Int32)), .val (.int (1 : Int32)), .val (.int pz), .val (.ref b16), .val (.ref b18), .unset, .unset, .unset, .unset, .unset] [(.double FP.dconst1), (.int pz), .null, (.ref b18), .null, (.int x1), (.ref b21), (.ref b21)])) rfl (by rw [hml]; rfl) (Steps.refl _) (a := b21) (argsL := [(.int x1), .null, (.ref b18), .null, (.int pz), (.double FP.dconst1)]) (rest := [(.ref b21)]) (lenOf own_pd21 rfl) rfl (w0 (Nat.le_of_eq rfl)) (hb hby at_83) (fun _ _ => ⟨rfl, e21, (by decide : 4 + 2 ≤ _), (by decide : 22 + 3 ≤ _)⟩)
        dsimp only [Pt.U, Pt.locs, Pt.cells, Pt.slots] at X22 l22 y22 z22 st22 hQ22
        subst l22 y22 z22
        obtain ⟨u22, rfl, N22q, K22, F_index_b21_22', F_holders_b21_22', A_u22_22', F_e0_u22_22', F_e1_u22_22', g_u22_22', sz_u22_22'⟩ := hQ22
        have N22 := Fr.app N20 N22q
        replace S_DEFAULTCAPACITY_EMPTY_ELEMENTDATA := own_staK S_DEFAULTCAPACITY_EMPTY_ELEMENTDATA K22 (allS (own_obE A_b21) all0)
        replace S_EMPTY_LIST := own_staK S_EMPTY_LIST K22 (allS (own_obE A_b21) all0)
        replace S_EMPTY := own_staK S_EMPTY K22 (allS (own_obE A_b21) all0)
        replace S_NONE := own_staK S_NONE K22 (allS (own_obE A_b21) all0)
        replace V_d := V_d.keep K22 (ninS ne_d_b21 nin0)
        replace A_nl := A_nl.keep K22
        replace F_elements_nl := F_elements_nl.keep K22 (ninS ne_nl_b21 nin0)
        replace V_ea := V_ea.keep K22 (ninS ne_ea_b21 nin0)
        replace A_em := A_em.keep K22
        replace A_no := A_no.keep K22
        replace F_size_no := F_size_no.keep K22 (ninS ne_no_b21 nin0)
        replace A_b16 := A_b16.keep K22
        replace A_b18 := A_b18.keep K22
        replace F_elementData_b18 := F_elementData_b18.keep K22 (ninS ne_b18_b21 nin0)
        replace F_size_b18 := F_size_b18.keep K22 (ninS ne_b18_b21 nin0)
        replace V_b20 := V_b20.keep K22 (ninS ne_b20_b21 nin0)
        replace A_b20 := A_b20.keep K22
        replace A_b21 := A_b21.keep K22
        replace Z0 := Nat.le_trans Z0 K22.1
        have A_u22 := A_u22_22'
        have g_u22 := g_u22_22'
        have szc_u22 := sz_u22_22'
        have ne_d_u22 : d ≠ u22 := Nat.ne_of_lt (Nat.lt_of_lt_of_le ltc22_d szc_u22)
        have ne_nl_u22 : nl ≠ u22 := Nat.ne_of_lt (Nat.lt_of_lt_of_le ltc22_nl szc_u22)
        have ne_ea_u22 : ea ≠ u22 := Nat.ne_of_lt (Nat.lt_of_lt_of_le ltc22_ea szc_u22)
        have ne_em_u22 : em ≠ u22 := Nat.ne_of_lt (Nat.lt_of_lt_of_le ltc22_em szc_u22)
        have ne_no_u22 : no ≠ u22 := Nat.ne_of_lt (Nat.lt_of_lt_of_le ltc22_no szc_u22)
        have ne_b16_u22 : b16 ≠ u22 := Nat.ne_of_lt (Nat.lt_of_lt_of_le ltc22_b16 szc_u22)
        have ne_b18_u22 : b18 ≠ u22 := Nat.ne_of_lt (Nat.lt_of_lt_of_le ltc22_b18 szc_u22)
        have ne_b20_u22 : b20 ≠ u22 := Nat.ne_of_lt (Nat.lt_of_lt_of_le ltc22_b20 szc_u22)
        have ne_b21_u22 : b21 ≠ u22 := Nat.ne_of_lt (Nat.lt_of_lt_of_le ltc22_b21 szc_u22)
        refine Gs (fun _ tk => st22.trans tk) ?_
        show Goes _ _ _ _ _ (T22.setTop (mkF m 86 #[.val (.int x0), .val (.int x1), .val (.int x2), .val (.int x3), .val (.int (0 : Int32)), .val (.int (1 : Int32)), .val (.int pz), .val (.ref b16), .val (.ref b18), .unset, .unset, .unset, .unset, .unset] [(.ref b21)]))
        refine Gs (fun _ tk => XS.astore X22.here hx rfl (hb hby at_86) rfl rfl (l' := #[.val (.int x0), .val (.int x1), .val (.int x2), .val (.int x3), .val (.int (0 : Int32)), .val (.int (1 : Int32)), .val (.int pz), .val (.ref b16), .val (.ref b18), .val (.ref b21), .unset, .unset, .unset, .unset]) rfl tk) ?_
        obtain ⟨T23, h23, X23, e23, E23, A23, D23, -, st23⟩ := newO X22 hx hZ hown (gw hw 44 rfl) (gw hw 45 rfl) (gw hw 46 rfl) rfl (g := (mkF m 88 #[.val (.int x0), .val (.int x1), .val (.int x2), .val (.int x3), .val (.int (0 : Int32)), .val (.int (1 : Int32)), .val (.int pz), .val (.ref b16), .val (.ref b18), .val (.ref b21), .unset, .unset, .unset, .unset] [])) rfl (hb hby at_88) (by decide) (by decide)
        obtain ⟨b23, gq23⟩ : ∃ z, z = T22.heap.size := ⟨_, rfl⟩
        rw [← gq23] at A23 st23 D23
        have g_b23 : n0 ≤ b23 := by rw [gq23]; exact Z0
        have ne_d_b23 : d ≠ b23 := by rw [gq23]; exact Nat.ne_of_lt V_d.lt
        have ne_nl_b23 : nl ≠ b23 := by rw [gq23]; exact Nat.ne_of_lt A_nl.lt
        have ne_ea_b23 : ea ≠ b23 := by rw [gq23]; exact Nat.ne_of_lt V_ea.lt
        have ne_em_b23 : em ≠ b23 := by rw [gq23]; exact Nat.ne_of_lt A_em.lt
        have ne_no_b23 : no ≠ b23 := by rw [gq23]; exact Nat.ne_of_lt A_no.lt
        have ne_b16_b23 : b16 ≠ b23 := by rw [gq23]; exact Nat.ne_of_lt A_b16.lt
        have ne_b18_b23 : b18 ≠ b23 := by rw [gq23]; exact Nat.ne_of_lt A_b18.lt
        have ne_b20_b23 : b20 ≠ b23 := by rw [gq23]; exact Nat.ne_of_lt V_b20.lt
        have ne_b21_b23 : b21 ≠ b23 := by rw [gq23]; exact Nat.ne_of_lt A_b21.lt
        have ne_u22_b23 : u22 ≠ b23 := by rw [gq23]; exact Nat.ne_of_lt A_u22.lt
        replace S_DEFAULTCAPACITY_EMPTY_ELEMENTDATA := S_DEFAULTCAPACITY_EMPTY_ELEMENTDATA.ext E23
        replace V_d := V_d.ext E23
        replace S_EMPTY_LIST := S_EMPTY_LIST.ext E23
        replace A_nl := A_nl.ext E23
        replace F_elements_nl := F_elements_nl.ext E23
        replace V_ea := V_ea.ext E23
        replace S_EMPTY := S_EMPTY.ext E23
        replace A_em := A_em.ext E23
        replace S_NONE := S_NONE.ext E23
        replace A_no := A_no.ext E23
        replace F_size_no := F_size_no.ext E23
        replace A_b16 := A_b16.ext E23
        replace A_b18 := A_b18.ext E23
        replace F_elementData_b18 := F_elementData_b18.ext E23
        replace F_size_b18 := F_size_b18.ext E23
        replace V_b20 := V_b20.ext E23
        replace A_b20 := A_b20.ext E23
        replace A_b21 := A_b21.ext E23
        replace A_u22 := A_u22.ext E23
        replace Z0 : n0 ≤ h23.size := Nat.le_trans Z0 E23.1
        have A_b23 : Exa Z h23 b23 "org/stripeward/scenario/Block" := A23
        have F_index_b23 : Fld Z h23 b23 "org/stripeward/scenario/Block" "index" "I" (.int (0 : Int32)) := D23 (Or.inr (gw hw 81 rfl)) (ty := .int) (by decide)
        have F_name_b23 : Fld Z h23 b23 "org/stripeward/scenario/Block" "name" "Ljava/lang/String;" .null := D23 (Or.inr (gw hw 83 rfl)) (ty := (.object "java/lang/String")) (by decide)
        have F_holders_b23 : Fld Z h23 b23 "org/stripeward/scenario/Block" "holders" "Ljava/util/List;" .null := D23 (Or.inr (gw hw 85 rfl)) (ty := (.object "java/util/List")) (by decide)
        have F_stripe_b23 : Fld Z h23 b23 "org/stripeward/scenario/Block" "stripe" "Lorg/stripeward/scenario/Stripe;" .null := D23 (Or.inr (gw hw 87 rfl)) (ty := (.object "org/stripeward/scenario/Stripe")) (by decide)
        have F_parity_b23 : Fld Z h23 b23 "org/stripeward/scenario/Block" "parity" "Z" (.int (0 : Int32)) := D23 (Or.inr (gw hw 89 rfl)) (ty := .boolean) (by decide)
        have F_sizeMiB_b23 : Fld Z h23 b23 "org/stripeward/scenario/Block" "sizeMiB" "D" (.double (0 : UInt64)) := D23 (Or.inr (gw hw 91 rfl)) (ty := .double) (by decide)
        refine Gs st23 ?_
        show Goes _ _ _ _ _ (T23.setTop (mkF m 91 #[.val (.int x0), .val (.int x1), .val (.int x2), .val (.int x3), .val (.int (0 : Int32)), .val (.int (1 : Int32)), .val (.int pz), .val (.ref b16), .val (.ref b18), .val (.ref b21), .unset, .unset, .unset, .unset] [(.ref b23)]))
        refine Gs (fun _ tk => XS.dup X23.here hx rfl (hb hby at_91) rfl rfl tk) ?_
        refine Gs (fun _ tk => XS.iloadN X23.here hx rfl (hb hby at_92) rfl tk) ?_
        refine Gs (fun _ tk => XS.aconstNull X23.here hx rfl (hb hby at_93) tk) ?_
        refine Gs (fun _ tk => XS.aload X23.here hx rfl (hb hby at_94) rfl rfl tk) ?_
        refine Gs (fun _ tk => XS.aconstNull X23.here hx rfl (hb hby at_96) tk) ?_
        refine Gs (fun _ tk => XS.iconst X23.here hx rfl (hb hby at_97) tk) ?_
        show Goes _ _ _ _ _ (T23.setTop (mkF m 98 #[.val (.int x0), .val (.int x1), .val (.int x2), .val (.int x3), .val (.int (0 : Int32)), .val (.int (1 : Int32)), .val (.int pz), .val (.ref b16), .val (.ref b18), .val (.ref b21), .unset, .unset, .unset, .unset] [(.int (0 : Int32)), .null, (.ref b18), .null, (.int x2), (.ref b23), (.ref b23)]))
        refine Gs (fun _ tk => X23.ldc2DoubleC hx hown (mvT hZ (gw hw 92 rfl)) (g := (mkF m 98 #[.val (.int x0), .val (.int x1), .val (.int x2), .val (.int x3), .val (.int (0 : Int32)), .val (.int (1 : Int32)), .val (.int pz), .val (.ref b16), .val (.ref b18), .val (.ref b21), .unset, .unset, .unset, .unset] [(.int (0 : Int32)), .null, (.ref b18), .null, (.int x2), (.ref b23), (.ref b23)])) rfl (hb hby at_98) _ tk) ?_
        show Goes _ _ _ _ _ (T23.setTop (mkF m 101 #[.val (.int x0), .val (.int x1), .val (.int x2), .val (.int x3), .val (.int (0 : Int32)), .val (.int (1 : Int32)), .val (.int pz), .val (.ref b16), .val (.ref b18), .val (.ref b21), .unset, .unset, .unset, .unset] [(.double (4611686018427387904 : UInt64)), (.int (0 : Int32)), .null, (.ref b18), .null, (.int x2), (.ref b23), (.ref b23)]))
        have ltc24_d : d < h23.size := V_d.lt
        have ltc24_nl : nl < h23.size := A_nl.lt
        have ltc24_ea : ea < h23.size := V_ea.lt
        have ltc24_em : em < h23.size := A_em.lt
        have ltc24_no : no < h23.size := A_no.lt
        have ltc24_b16 : b16 < h23.size := A_b16.lt
        have ltc24_b18 : b18 < h23.size := A_b18.lt
        have ltc24_b20 : b20 < h23.size := V_b20.lt
        have ltc24_b21 : b21 < h23.size := A_b21.lt
        have ltc24_u22 : u22 < h23.size := A_u22.lt
        have ltc24_b23 : b23 < h23.size := A_b23.lt
        obtain ⟨_, _, ⟨T24, L24, k24, n24⟩, -, X24, ⟨Lc24, hQ24, l24, y24, z24⟩, st24⟩ := X23.specialBack hx (y := mN26) rfl hown (mvT hZ (gw hw 47 rfl)) (mvT hZ (gw hw 48 rfl)) (mvT hZ (gw hw 49 rfl)) (by decide) (backOf (W := 1) (rm_block1 l Z a0 hw [] b23 x2 b18 (0 : Int32) (4611686018427387904 : UInt64) b16 b20 kb20 mr em h23 n0 Z0 A_b23 F_index_b23 F_name_b23 F_holders_b23 F_stripe_b23 F_parity_b23 F_sizeMiB_b23 g_b23 A_b18 F_elementData_b18 F_size_b18 V_b20 A_b20 (Ins.of_exa A_b16 (gw hw 144 rfl)) (by first | assumption | decide) S_EMPTY ne_b18_b23 ne_b20_b23) hZ (gw hw 49 rfl) (gw hw 46 rfl) (by decide) (by decide)) (g := (mkF m 101 #[.val (.int x0), .val (.int x1), .val (.int x2), .val (.int x3), .val (.int (0 : Int32)), .val (.int (1 : Int32)), .val (.int pz), .val (.ref b16), .val (.ref b18), .val (.ref b21), .unset, .unset, .unset, .unset] [(.double (4611686018427387904 : UInt64)), (.int (0 : Int32)), .null, (.ref b18), .null, (.int x2), (.ref b23), (.ref b23)])) rfl (by rw [hml]; rfl) (Steps.refl _) (a := b23) (argsL := [(.int x2), .null, (.ref b18), .null, (.int (0 : Int32)), (.double (4611686018427387904 : UInt64))]) (rest := [(.ref b23)]) (lenOf own_pd21 rfl) rfl (w0 (Nat.le_of_eq rfl)) (hb hby at_101) (fun _ _ => ⟨rfl, e23, (by decide : 7 + 2 ≤ _), (by decide : 31 + 3 ≤ _)⟩)
        dsimp only [Pt.U, Pt.locs, Pt.cells, Pt.slots] at X24 l24 y24 z24 st24 hQ24
        subst l24 y24 z24
        obtain ⟨u24, rfl, N24q, K24, F_index_b23_24', F_holders_b23_24', A_u24_24', F_e0_u24_24', F_e1_u24_24', g_u24_24', sz_u24_24'⟩ := hQ24
        have N24 := Fr.app N22 N24q
        replace S_DEFAULTCAPACITY_EMPTY_ELEMENTDATA := own_staK S_DEFAULTCAPACITY_EMPTY_ELEMENTDATA K24 (allS (own_obE A_b23) all0)
        replace S_EMPTY_LIST := own_staK S_EMPTY_LIST K24 (allS (own_obE A_b23) all0)
        replace S_EMPTY := own_staK S_EMPTY K24 (allS (own_obE A_b23) all0)
        replace S_NONE := own_staK S_NONE K24 (allS (own_obE A_b23) all0)
        replace V_d := V_d.keep K24 (ninS ne_d_b23 nin0)
        replace A_nl := A_nl.keep K24
        replace F_elements_nl := F_elements_nl.keep K24 (ninS ne_nl_b23 nin0)
        replace V_ea := V_ea.keep K24 (ninS ne_ea_b23 nin0)
        replace A_em := A_em.keep K24
        replace A_no := A_no.keep K24
        replace F_size_no := F_size_no.keep K24 (ninS ne_no_b23 nin0)
        replace A_b16 := A_b16.keep K24
        replace A_b18 := A_b18.keep K24
        replace V_b20 := V_b20.keep K24 (ninS ne_b20_b23 nin0)
        replace A_b21 := A_b21.keep K24
        replace A_u22 := A_u22.keep K24
        replace A_b23 := A_b23.keep K24
        replace Z0 := Nat.le_trans Z0 K24.1
        have A_u24 := A_u24_24'
        have g_u24 := g_u24_24'
        have szc_u24 := sz_u24_24'
        have ne_d_u24 : d ≠ u24 := Nat.ne_of_lt (Nat.lt_of_lt_of_le ltc24_d szc_u24)
        have ne_nl_u24 : nl ≠ u24 := Nat.ne_of_lt (Nat.lt_of_lt_of_le ltc24_nl szc_u24)
        have ne_ea_u24 : ea ≠ u24 := Nat.ne_of_lt (Nat.lt_of_lt_of_le ltc24_ea szc_u24)
        have ne_em_u24 : em ≠ u24 := Nat.ne_of_lt (Nat.lt_of_lt_of_le ltc24_em szc_u24)
        have ne_no_u24 : no ≠ u24 := Nat.ne_of_lt (Nat.lt_of_lt_of_le ltc24_no szc_u24)
        have ne_b16_u24 : b16 ≠ u24 := Nat.ne_of_lt (Nat.lt_of_lt_of_le ltc24_b16 szc_u24)
        have ne_b18_u24 : b18 ≠ u24 := Nat.ne_of_lt (Nat.lt_of_lt_of_le ltc24_b18 szc_u24)
        have ne_b20_u24 : b20 ≠ u24 := Nat.ne_of_lt (Nat.lt_of_lt_of_le ltc24_b20 szc_u24)
        have ne_b21_u24 : b21 ≠ u24 := Nat.ne_of_lt (Nat.lt_of_lt_of_le ltc24_b21 szc_u24)
        have ne_u22_u24 : u22 ≠ u24 := Nat.ne_of_lt (Nat.lt_of_lt_of_le ltc24_u22 szc_u24)
        have ne_b23_u24 : b23 ≠ u24 := Nat.ne_of_lt (Nat.lt_of_lt_of_le ltc24_b23 szc_u24)
        refine Gs (fun _ tk => st24.trans tk) ?_
        show Goes _ _ _ _ _ (T24.setTop (mkF m 104 #[.val (.int x0), .val (.int x1), .val (.int x2), .val (.int x3), .val (.int (0 : Int32)), .val (.int (1 : Int32)), .val (.int pz), .val (.ref b16), .val (.ref b18), .val (.ref b21), .unset, .unset, .unset, .unset] [(.ref b23)]))
        refine Gs (fun _ tk => XS.astore X24.here hx rfl (hb hby at_104) rfl rfl (l' := #[.val (.int x0), .val (.int x1), .val (.int x2), .val (.int x3), .val (.int (0 : Int32)), .val (.int (1 : Int32)), .val (.int pz), .val (.ref b16), .val (.ref b18), .val (.ref b21), .val (.ref b23), .unset, .unset, .unset]) rfl tk) ?_
        obtain ⟨T25, h25, X25, e25, E25, A25, D25, -, st25⟩ := newO X24 hx hZ hown (gw hw 20 rfl) (gw hw 21 rfl) (gw hw 22 rfl) rfl (g := (mkF m 106 #[.val (.int x0), .val (.int x1), .val (.int x2), .val (.int x3), .val (.int (0 : Int32)), .val (.int (1 : Int32)), .val (.int pz), .val (.ref b16), .val (.ref b18), .val (.ref b21), .val (.ref b23), .unset, .unset, .unset] [])) rfl (hb hby at_106) (by decide) (by decide)
        obtain ⟨b25, gq25⟩ : ∃ z, z = T24.heap.size := ⟨_, rfl⟩
        rw [← gq25] at A25 st25 D25
        have g_b25 : n0 ≤ b25 := by rw [gq25]; exact Z0
        have ne_d_b25 : d ≠ b25 := by rw [gq25]; exact Nat.ne_of_lt V_d.lt
        have ne_nl_b25 : nl ≠ b25 := by rw [gq25]; exact Nat.ne_of_lt A_nl.lt
        have ne_ea_b25 : ea ≠ b25 := by rw [gq25]; exact Nat.ne_of_lt V_ea.lt
        have ne_em_b25 : em ≠ b25 := by rw [gq25]; exact Nat.ne_of_lt A_em.lt
        have ne_no_b25 : no ≠ b25 := by rw [gq25]; exact Nat.ne_of_lt A_no.lt
        have ne_b16_b25 : b16 ≠ b25 := by rw [gq25]; exact Nat.ne_of_lt A_b16.lt
        have ne_b18_b25 : b18 ≠ b25 := by rw [gq25]; exact Nat.ne_of_lt A_b18.lt
        have ne_b20_b25 : b20 ≠ b25 := by rw [gq25]; exact Nat.ne_of_lt V_b20.lt
        have ne_b21_b25 : b21 ≠ b25 := by rw [gq25]; exact Nat.ne_of_lt A_b21.lt
        have ne_u22_b25 : u22 ≠ b25 := by rw [gq25]; exact Nat.ne_of_lt A_u22.lt
        have ne_b23_b25 : b23 ≠ b25 := by rw [gq25]; exact Nat.ne_of_lt A_b23.lt
        have ne_u24_b25 : u24 ≠ b25 := by rw [gq25]; exact Nat.ne_of_lt A_u24.lt
        replace S_DEFAULTCAPACITY_EMPTY_ELEMENTDATA := S_DEFAULTCAPACITY_EMPTY_ELEMENTDATA.ext E25
        replace V_d := V_d.ext E25
        replace S_EMPTY_LIST := S_EMPTY_LIST.ext E25
        replace A_nl := A_nl.ext E25
        replace F_elements_nl := F_elements_nl.ext E25
        replace V_ea := V_ea.ext E25
        replace S_EMPTY := S_EMPTY.ext E25
        replace A_em := A_em.ext E25
        replace S_NONE := S_NONE.ext E25
        replace A_no := A_no.ext E25
        replace F_size_no := F_size_no.ext E25
        replace Z0 : n0 ≤ h25.size := Nat.le_trans Z0 E25.1
        have A_b25 : Exa Z h25 b25 "java/util/ArrayList" := A25
        have F_modCount_b25 : Fld Z h25 b25 "java/util/AbstractList" "modCount" "I" (.int (0 : Int32)) := D25 (Or.inl (gw hw 40 rfl)) (ty := .int) (by decide)
        have F_elementData_b25 : Fld Z h25 b25 "java/util/ArrayList" "elementData" "[Ljava/lang/Object;" .null := D25 (Or.inl (gw hw 43 rfl)) (ty := (.array (.object "java/lang/Object"))) (by decide)
        have F_size_b25 : Fld Z h25 b25 "java/util/ArrayList" "size" "I" (.int (0 : Int32)) := D25 (Or.inl (gw hw 75 rfl)) (ty := .int) (by decide)
        refine Gs st25 ?_
        show Goes _ _ _ _ _ (T25.setTop (mkF m 109 #[.val (.int x0), .val (.int x1), .val (.int x2), .val (.int x3), .val (.int (0 : Int32)), .val (.int (1 : Int32)), .val (.int pz), .val (.ref b16), .val (.ref b18), .val (.ref b21), .val (.ref b23), .unset, .unset, .unset] [(.ref b25)]))
        refine Gs (fun _ tk => XS.dup X25.here hx rfl (hb hby at_109) rfl rfl tk) ?_
        obtain ⟨_, _, ⟨T26, L26, k26, n26⟩, -, X26, ⟨Lc26, hQ26, l26, y26, z26⟩, st26⟩ := X25.specialBack hx (y := mN6) rfl hown (mvT hZ (gw hw 23 rfl)) (mvT hZ (gw hw 24 rfl)) (mvT hZ (gw hw 25 rfl)) (by decide) (backOf (W := 1) (rm_alinit l Z a0 hw [] b25 d h25 n0 Z0 A_b25 F_modCount_b25 F_elementData_b25 F_size_b25 S_DEFAULTCAPACITY_EMPTY_ELEMENTDATA g_b25) hZ (gw hw 25 rfl) (gw hw 22 rfl) (by decide) (by decide)) (g := (mkF m 110 #[.val (.int x0), .val (.int x1), .val (.int x2), .val (.int x3), .val (.int (0 : Int32)), .val (.int (1 : Int32)), .val (.int pz), .val (.ref b16), .val (.ref b18), .val (.ref b21), .val (.ref b23), .unset, .unset, .unset] [(.ref b25), (.ref b25)])) rfl (by rw [hml]; rfl) (Steps.refl _) (a := b25) (argsL := []) (rest := [(.ref b25)]) (lenOf own_pd0 rfl) rfl (w0 (Nat.le_of_eq rfl)) (hb hby at_110) (fun _ _ => ⟨rfl, e25, (by decide : 10 + 0 ≤ _), (by decide : 37 + 0 ≤ _)⟩)
        dsimp only [Pt.U, Pt.locs, Pt.cells, Pt.slots] at X26 l26 y26 z26 st26 hQ26
        subst l26 y26 z26
        obtain ⟨rfl, N26q, K26, F_modCount_b25_26', F_elementData_b25_26', F_size_b25_26'⟩ := hQ26
        have N26 := Fr.app N24 N26q
        replace S_DEFAULTCAPACITY_EMPTY_ELEMENTDATA := own_staK S_DEFAULTCAPACITY_EMPTY_ELEMENTDATA K26 (allS (own_obE A_b25) all0)
        replace S_EMPTY_LIST := own_staK S_EMPTY_LIST K26 (allS (own_obE A_b25) all0)
        replace S_EMPTY := own_staK S_EMPTY K26 (allS (own_obE A_b25) all0)
        replace S_NONE := own_staK S_NONE K26 (allS (own_obE A_b25) all0)
        replace V_d := V_d.keep K26 (ninS ne_d_b25 nin0)
        replace A_nl := A_nl.keep K26
        replace F_elements_nl := F_elements_nl.keep K26 (ninS ne_nl_b25 nin0)
        replace V_ea := V_ea.keep K26 (ninS ne_ea_b25 nin0)
        replace A_em := A_em.keep K26
        replace A_no := A_no.keep K26
        replace F_size_no := F_size_no.keep K26 (ninS ne_no_b25 nin0)
        replace A_b25 := A_b25.keep K26
        replace Z0 := Nat.le_trans Z0 K26.1
        have F_size_b25 := F_size_b25_26'
        refine Gs (fun _ tk => st26.trans tk) ?_
        show Goes _ _ _ _ _ (T26.setTop (mkF m 113 #[.val (.int x0), .val (.int x1), .val (.int x2), .val (.int x3), .val (.int (0 : Int32)), .val (.int (1 : Int32)), .val (.int pz), .val (.ref b16), .val (.ref b18), .val (.ref b21), .val (.ref b23), .unset, .unset, .unset] [(.ref b25)]))
        refine Gs (fun _ tk => XS.astore X26.here hx rfl (hb hby at_113) rfl rfl (l' := #[.val (.int x0), .val (.int x1), .val (.int x2), .val (.int x3), .val (.int (0 : Int32)), .val (.int (1 : Int32)), .val (.int pz), .val (.ref b16), .val (.ref b18), .val (.ref b21), .val (.ref b23), .val (.ref b25), .unset, .unset]) rfl tk) ?_
        refine Gs (fun _ tk => XS.iload X26.here hx rfl (hb hby at_115) rfl tk) ?_
        refine Gs (fun _ tk => XS.iconst X26.here hx rfl (hb hby at_117) tk) ?_
        refine Gs (fun _ tk => XS.icmpYes X26.here hx rfl (pc0 := 118) (pc' := 131) rfl (hb hby at_118) rfl (tlt (by decide : ((0 : Int32) < (1 : Int32)))).1 (by decide) (by decide) tk) ?_
        refine Gs (fun _ tk => XS.iload X26.here hx rfl (hb hby at_131) rfl tk) ?_
        refine Gs (fun _ tk => XS.iconst X26.here hx rfl (hb hby at_133) tk) ?_
        show Goes _ _ _ _ _ (T26.setTop (mkF m 134 #[.val (.int x0), .val (.int x1), .val (.int x2), .val (.int x3), .val (.int (0 : Int32)), .val (.int (1 : Int32)), .val (.int pz), .val (.ref b16), .val (.ref b18), .val (.ref b21), .val (.ref b23), .val (.ref b25), .unset, .unset] [(.int (2 : Int32)), (.int (0 : Int32))]))
        refine Gs (fun _ tk => XS.icmpYes X26.here hx rfl (pc0 := 134) (pc' := 147) rfl (hb hby at_134) rfl (tlt (by decide : ((0 : Int32) < (2 : Int32)))).1 (by decide) (by decide) tk) ?_
        refine Gs (fun _ tk => XS.aload X26.here hx rfl (hb hby at_147) rfl rfl tk) ?_
        obtain ⟨_, _, ⟨T27, L27, k27, n27⟩, -, X27, ⟨Lc27, hQ27, l27, y27, z27⟩, st27⟩ := Jvm.LawKit.callS X26 hx (y := mN35) hown (mvT hZ (gw hw 93 rfl)) (mvT hZ (gw hw 94 rfl)) (mvT hZ (gw hw 95 rfl)) (mvT hZ (gw hw 96 rfl)) (by decide) (backOf (W := 0) (rm_bsof0 l Z a0 hw [] b25 no T26.heap n0 Z0 A_b25 F_size_b25 S_NONE) hZ (gw hw 96 rfl) (gw hw 95 rfl) (by decide) (by decide)) (g := (mkF m 149 #[.val (.int x0), .val (.int x1), .val (.int x2), .val (.int x3), .val (.int (0 : Int32)), .val (.int (1 : Int32)), .val (.int pz), .val (.ref b16), .val (.ref b18), .val (.ref b21), .val (.ref b23), .val (.ref b25), .unset, .unset] [(.ref b25)])) rfl (by rw [hml]; rfl) (argsL := [(.ref b25)]) (rest := []) (lenOf own_pd22 rfl) rfl (w0 (Nat.le_of_eq rfl)) (hb hby at_149) (fun _ _ => ⟨rfl, rfl, (by decide : 10 + 0 ≤ _), (by decide : 37 + 0 ≤ _)⟩)
        dsimp only [Pt.U, Pt.locs, Pt.cells, Pt.slots] at X27 l27 y27 z27 st27 hQ27
        subst l27 y27 z27
        obtain ⟨rfl, N27q, e27⟩ := hQ27
        have N27 := Fr.app N26 N27q
        refine Gs st27 ?_
        show Goes _ _ _ _ _ (T27.setTop (mkF m 152 #[.val (.int x0), .val (.int x1), .val (.int x2), .val (.int x3), .val (.int (0 : Int32)), .val (.int (1 : Int32)), .val (.int pz), .val (.ref b16), .val (.ref b18), .val (.ref b21), .val (.ref b23), .val (.ref b25), .unset, .unset] [(.ref no)]))
        refine Gs (fun _ tk => XS.astore X27.here hx rfl (hb hby at_152) rfl rfl (l' := #[.val (.int x0), .val (.int x1), .val (.int x2), .val (.int x3), .val (.int (0 : Int32)), .val (.int (1 : Int32)), .val (.int pz), .val (.ref b16), .val (.ref b18), .val (.ref b21), .val (.ref b23), .val (.ref b25), .val (.ref no), .unset]) rfl tk) ?_
        refine Gs (fun _ tk => XS.aload X27.here hx rfl (hb hby at_154) rfl rfl tk) ?_
        obtain ⟨cq28, kq28, q28a, q28b, q28c⟩ := isOf hZ e27 A_no
        obtain ⟨_, _, ⟨T28, L28, k28, n28⟩, -, X28, ⟨Lc28, hQ28, l28, y28, z28⟩, st28⟩ := X27.virtualBack hx (y := mN37) (z := mN37) hown (mvT hZ (gw hw 105 rfl)) (mvT hZ (gw hw 106 rfl)) (notFace_of_selects (args := #[]) (mvT hZ (gw hw 108 rfl))) (mvT hZ (gw hw 108 rfl)) (mvT hZ (gw hw 107 rfl)) (by decide) (backOf (W := 0) (rm_bssz l Z a0 hw [] no (0 : Int32) T26.heap n0 Z0 F_size_no) hZ (gw hw 109 rfl) (gw hw 95 rfl) (by decide) (by decide)) q28a q28c (g := (mkF m 156 #[.val (.int x0), .val (.int x1), .val (.int x2), .val (.int x3), .val (.int (0 : Int32)), .val (.int (1 : Int32)), .val (.int pz), .val (.ref b16), .val (.ref b18), .val (.ref b21), .val (.ref b23), .val (.ref b25), .val (.ref no), .unset] [(.ref no)])) rfl (by rw [hml]; rfl) (Steps.refl _) (argsL := []) (rest := []) (lenOf own_pd15 rfl) rfl (w0 (Nat.le_of_eq rfl)) (hb hby at_156) (fun _ _ => ⟨rfl, e27, (by decide : 10 + 0 ≤ _), (by decide : 37 + 0 ≤ _)⟩)
        dsimp only [Pt.U, Pt.locs, Pt.cells, Pt.slots] at X28 l28 y28 z28 st28 hQ28
        subst l28 y28 z28
        obtain ⟨rfl, N28q, e28⟩ := hQ28
        have N28 := Fr.app N27 N28q
        refine Gs (fun _ tk => st28.trans tk) ?_
        show Goes _ _ _ _ _ (T28.setTop (mkF m 159 #[.val (.int x0), .val (.int x1), .val (.int x2), .val (.int x3), .val (.int (0 : Int32)), .val (.int (1 : Int32)), .val (.int pz), .val (.ref b16), .val (.ref b18), .val (.ref b21), .val (.ref b23), .val (.ref b25), .val (.ref no), .unset] [(.int (0 : Int32))]))
        refine Gs (fun _ tk => XS.iload X28.here hx rfl (hb hby at_159) rfl tk) ?_
        refine Gs (fun _ tk => XS.icmpNo X28.here hx rfl (hb hby at_161) rfl (teq (by decide : ((0 : Int32) = (0 : Int32)))).2 tk) ?_
        refine Gs (fun _ tk => XS.iconst X28.here hx rfl (hb hby at_164) tk) ?_
        refine Gs (fun _ tk => XS.goto X28.here hx rfl (pc0 := 165) (pc' := 169) rfl (hb hby at_165) (by decide) (by decide) tk) ?_
        refine Gs (fun _ tk => XS.istore X28.here hx rfl (hb hby at_169) rfl (l' := #[.val (.int x0), .val (.int x1), .val (.int x2), .val (.int x3), .val (.int (0 : Int32)), .val (.int (1 : Int32)), .val (.int pz), .val (.ref b16), .val (.ref b18), .val (.ref b21), .val (.ref b23), .val (.ref b25), .val (.ref no), .val (.int (1 : Int32))]) rfl tk) ?_
        refine Gs (fun _ tk => XS.iload X28.here hx rfl (hb hby at_171) rfl tk) ?_
        show Goes _ _ _ _ _ (T28.setTop (mkF m 173 #[.val (.int x0), .val (.int x1), .val (.int x2), .val (.int x3), .val (.int (0 : Int32)), .val (.int (1 : Int32)), .val (.int pz), .val (.ref b16), .val (.ref b18), .val (.ref b21), .val (.ref b23), .val (.ref b25), .val (.ref no), .val (.int (1 : Int32))] [(.int (1 : Int32))]))
        refine Gs (fun _ tk => XS.ifNo X28.here hx rfl (hb hby at_173) rfl ((if0 _ _).trans (feq (by decide : ¬ ((1 : Int32) = (0 : Int32)))).1) tk) ?_
        refine Gs (fun _ tk => XS.iload X28.here hx rfl (hb hby at_176) rfl tk) ?_
        refine Gs (fun _ tk => XS.iconst X28.here hx rfl (hb hby at_178) tk) ?_
        refine Gs (fun _ tk => XS.icmpYes X28.here hx rfl (pc0 := 179) (pc' := 229) rfl (hb hby at_179) rfl (tlt (by decide : ((0 : Int32) < (1 : Int32)))).1 (by decide) (by decide) tk) ?_
        refine Gs (fun _ tk => XS.iload X28.here hx rfl (hb hby at_229) rfl tk) ?_
        refine Gs (fun _ tk => XS.ifNo X28.here hx rfl (hb hby at_231) rfl ((if0 _ _).trans (feq (by decide : ¬ ((1 : Int32) = (0 : Int32)))).1) tk) ?_
        show Goes _ _ _ _ _ (T28.setTop (mkF m 234 #[.val (.int x0), .val (.int x1), .val (.int x2), .val (.int x3), .val (.int (0 : Int32)), .val (.int (1 : Int32)), .val (.int pz), .val (.ref b16), .val (.ref b18), .val (.ref b21), .val (.ref b23), .val (.ref b25), .val (.ref no), .val (.int (1 : Int32))] []))
        refine Gs (fun _ tk => XS.iload X28.here hx rfl (hb hby at_234) rfl tk) ?_
        refine Gs (fun _ tk => XS.iconst X28.here hx rfl (hb hby at_236) tk) ?_
        refine Gs (fun _ tk => XS.icmpYes X28.here hx rfl (pc0 := 237) (pc' := 268) rfl (hb hby at_237) rfl (tlt (by decide : ((0 : Int32) < (2 : Int32)))).1 (by decide) (by decide) tk) ?_
        refine Gs (fun _ tk => XS.iload X28.here hx rfl (hb hby at_268) rfl tk) ?_
        refine Gs (fun _ tk => XS.ifNo X28.here hx rfl (hb hby at_270) rfl ((if0 _ _).trans (feq (by decide : ¬ ((1 : Int32) = (0 : Int32)))).1) tk) ?_
        refine Gs (fun _ tk => XS.aload X28.here hx rfl (hb hby at_273) rfl rfl tk) ?_
        show Goes _ _ _ _ _ (T28.setTop (mkF m 275 #[.val (.int x0), .val (.int x1), .val (.int x2), .val (.int x3), .val (.int (0 : Int32)), .val (.int (1 : Int32)), .val (.int pz), .val (.ref b16), .val (.ref b18), .val (.ref b21), .val (.ref b23), .val (.ref b25), .val (.ref no), .val (.int (1 : Int32))] [(.ref no)]))
        obtain ⟨_, _, ⟨T29, L29, k29, n29⟩, -, X29, ⟨Lc29, hQ29, l29, y29, z29⟩, st29⟩ := Jvm.LawKit.callS X28 hx (y := mN35) hown (mvT hZ (gw hw 93 rfl)) (mvT hZ (gw hw 94 rfl)) (mvT hZ (gw hw 95 rfl)) (mvT hZ (gw hw 96 rfl)) (by decide) (backOf (W := 0) (rm_bsofS l Z a0 hw [] no T26.heap n0 Z0 A_no) hZ (gw hw 96 rfl) (gw hw 95 rfl) (by decide) (by decide)) (g := (mkF m 275 #[.val (.int x0), .val (.int x1), .val (.int x2), .val (.int x3), .val (.int (0 : Int32)), .val (.int (1 : Int32)), .val (.int pz), .val (.ref b16), .val (.ref b18), .val (.ref b21), .val (.ref b23), .val (.ref b25), .val (.ref no), .val (.int (1 : Int32))] [(.ref no)])) rfl (by rw [hml]; rfl) (argsL := [(.ref no)]) (rest := []) (lenOf own_pd22 rfl) rfl (w0 (Nat.le_of_eq rfl)) (hb hby at_275) (fun _ _ => ⟨rfl, e28, (by decide : 10 + 0 ≤ _), (by decide : 37 + 0 ≤ _)⟩)
        dsimp only [Pt.U, Pt.locs, Pt.cells, Pt.slots] at X29 l29 y29 z29 st29 hQ29
        subst l29 y29 z29
        obtain ⟨rfl, N29q, e29⟩ := hQ29
        have N29 := Fr.app N28 N29q
        refine Gs st29 ?_
        show Goes _ _ _ _ _ (T29.setTop (mkF m 278 #[.val (.int x0), .val (.int x1), .val (.int x2), .val (.int x3), .val (.int (0 : Int32)), .val (.int (1 : Int32)), .val (.int pz), .val (.ref b16), .val (.ref b18), .val (.ref b21), .val (.ref b23), .val (.ref b25), .val (.ref no), .val (.int (1 : Int32))] [(.ref no)]))
        refine Gs (fun _ tk => XS.aload X29.here hx rfl (hb hby at_278) rfl rfl tk) ?_
        refine Gs (fun _ tk => Jvm.RoadKit.acmp (g := (mkF m 280 #[.val (.int x0), .val (.int x1), .val (.int x2), .val (.int x3), .val (.int (0 : Int32)), .val (.int (1 : Int32)), .val (.int pz), .val (.ref b16), .val (.ref b18), .val (.ref b21), .val (.ref b23), .val (.ref b25), .val (.ref no), .val (.int (1 : Int32))] [(.ref no), (.ref no)])) X29 hx rfl rfl rfl (pc0 := 280) (pc' := 283) (same := true) rfl (hb hby at_280) rfl (decide_eq_true (congrArg Value.ref rfl)) (by decide) (by decide) tk) ?_
        refine Gs (fun _ tk => XS.iconst X29.here hx rfl (hb hby at_283) tk) ?_
        refine Gs (fun _ tk => XS.goto X29.here hx rfl (pc0 := 284) (pc' := 288) rfl (hb hby at_284) (by decide) (by decide) tk) ?_
        refine Gs (fun _ tk => XS.istore X29.here hx rfl (hb hby at_288) rfl (l' := #[.val (.int x0), .val (.int x1), .val (.int x2), .val (.int x3), .val (.int (0 : Int32)), .val (.int (1 : Int32)), .val (.int pz), .val (.ref b16), .val (.ref b18), .val (.ref b21), .val (.ref b23), .val (.ref b25), .val (.ref no), .val (.int (1 : Int32))]) rfl tk) ?_
        refine Gs (fun _ tk => XS.iload X29.here hx rfl (hb hby at_290) rfl tk) ?_
        show Goes _ _ _ _ _ (T29.setTop (mkF m 292 #[.val (.int x0), .val (.int x1), .val (.int x2), .val (.int x3), .val (.int (0 : Int32)), .val (.int (1 : Int32)), .val (.int pz), .val (.ref b16), .val (.ref b18), .val (.ref b21), .val (.ref b23), .val (.ref b25), .val (.ref no), .val (.int (1 : Int32))] [(.int (1 : Int32))]))
        refine Goes.ret X29 (some (.int (1 : Int32))) (fun h => by rw [hret] at h; cases h) hlk (by decide) (by decide) ?_ (fun fs hr => ?_)
        · exact ⟨rfl, N29⟩
        · exact own_retN X29 hx (t := .boolean) hret (by simp) rfl (hb hby at_292) hr
      by_cases hc25_30 : (x0 &&& (16 : Int32)) = (0 : Int32)
      · refine Gs (fun _ tk => XS.ifYes X0.here hx rfl (pc0 := 25) (pc' := 32) rfl (hb hby at_25) rfl ((if0 _ _).trans (teq hc25_30).1) (by decide) (by decide) tk) ?_
        refine Gs (fun _ tk => XS.iconst X0.here hx rfl (hb hby at_32) tk) ?_
        exact J33 (0 : Int32)
      · refine Gs (fun _ tk => XS.ifNo X0.here hx rfl (hb hby at_25) rfl ((if0 _ _).trans (feq hc25_30).1) tk) ?_
        refine Gs (fun _ tk => XS.iconst X0.here hx rfl (hb hby at_28) tk) ?_
        refine Gs (fun _ tk => XS.goto X0.here hx rfl (pc0 := 29) (pc' := 33) rfl (hb hby at_29) (by decide) (by decide) tk) ?_
        exact J33 (1 : Int32)
  · show Goes _ _ _ _ _ (s₁.setTop (mkF m 5 #[.val (.int x0), .val (.int x1), .val (.int x2), .val (.int x3), .unset, .unset, .unset, .unset, .unset, .unset, .unset, .unset, .unset, .unset] [(.int (1 : Int32))]))
    refine Gs (fun _ tk => XS.istore X0.here hx rfl (hb hby at_5) rfl (l' := #[.val (.int x0), .val (.int x1), .val (.int x2), .val (.int x3), .val (.int (1 : Int32)), .unset, .unset, .unset, .unset, .unset, .unset, .unset, .unset, .unset]) rfl tk) ?_
    refine Gs (fun _ tk => XS.iloadN X0.here hx rfl (hb hby at_7) rfl tk) ?_
    refine Gs (fun _ tk => XS.bipush X0.here hx rfl (hb hby at_8) tk) ?_
    show Goes _ _ _ _ _ (s₁.setTop (mkF m 10 #[.val (.int x0), .val (.int x1), .val (.int x2), .val (.int x3), .val (.int (1 : Int32)), .unset, .unset, .unset, .unset, .unset, .unset, .unset, .unset, .unset] [(.int (8 : Int32)), (.int x0)]))
    refine Gs (fun _ tk => XS.iand X0.here hx rfl (hb hby at_10) rfl tk) ?_
    show Goes _ _ _ _ _ (s₁.setTop (mkF m 11 #[.val (.int x0), .val (.int x1), .val (.int x2), .val (.int x3), .val (.int (1 : Int32)), .unset, .unset, .unset, .unset, .unset, .unset, .unset, .unset, .unset] [(.int (x0 &&& (8 : Int32)))]))
    by_cases hc11_31 : (x0 &&& (8 : Int32)) = (0 : Int32)
    · refine Gs (fun _ tk => XS.ifYes X0.here hx rfl (pc0 := 11) (pc' := 18) rfl (hb hby at_11) rfl ((if0 _ _).trans (teq hc11_31).1) (by decide) (by decide) tk) ?_
      refine Gs (fun _ tk => XS.iconst X0.here hx rfl (hb hby at_18) tk) ?_
      refine Gs (fun _ tk => XS.istore X0.here hx rfl (hb hby at_19) rfl (l' := #[.val (.int x0), .val (.int x1), .val (.int x2), .val (.int x3), .val (.int (1 : Int32)), .val (.int (0 : Int32)), .unset, .unset, .unset, .unset, .unset, .unset, .unset, .unset]) rfl tk) ?_
      refine Gs (fun _ tk => XS.iloadN X0.here hx rfl (hb hby at_21) rfl tk) ?_
      refine Gs (fun _ tk => XS.bipush X0.here hx rfl (hb hby at_22) tk) ?_
      show Goes _ _ _ _ _ (s₁.setTop (mkF m 24 #[.val (.int x0), .val (.int x1), .val (.int x2), .val (.int x3), .val (.int (1 : Int32)), .val (.int (0 : Int32)), .unset, .unset, .unset, .unset, .unset, .unset, .unset, .unset] [(.int (16 : Int32)), (.int x0)]))
      refine Gs (fun _ tk => XS.iand X0.here hx rfl (hb hby at_24) rfl tk) ?_
      show Goes _ _ _ _ _ (s₁.setTop (mkF m 25 #[.val (.int x0), .val (.int x1), .val (.int x2), .val (.int x3), .val (.int (1 : Int32)), .val (.int (0 : Int32)), .unset, .unset, .unset, .unset, .unset, .unset, .unset, .unset] [(.int (x0 &&& (16 : Int32)))]))
      have J33 : ∀ pz : Int32, Goes p e below (fun o u L => FrameEnd s o u L room_1.cells room_1.slots) (Q_rm_law Z x0 x1 x2 x3 d kd nl ea ke em no mr h0 n0) (s₁.setTop (mkF m 33 #[.val (.int x0), .val (.int x1), .val (.int x2), .val (.int x3), .val (.int (1 : Int32)), .val (.int (0 : Int32)), .unset, .unset, .unset, .unset, .unset, .unset, .unset, .unset] [(.int pz)])) := by
        intro pz
        refine Gs (fun _ tk => XS.istore X0.here hx rfl (hb hby at_33) rfl (l' := #[.val (.int x0), .val (.int x1), .val (.int x2), .val (.int x3), .val (.int (1 : Int32)), .val (.int (0 : Int32)), .val (.int pz), .unset, .unset, .unset, .unset, .unset, .unset, .unset]) rfl tk) ?_
        obtain ⟨T32, h32, X32, e32, E32, A32, D32, -, st32⟩ := newO X0 hx hZ hown (gw hw 0 rfl) (gw hw 1 rfl) (gw hw 2 rfl) e0 (g := (mkF m 35 #[.val (.int x0), .val (.int x1), .val (.int x2), .val (.int x3), .val (.int (1 : Int32)), .val (.int (0 : Int32)), .val (.int pz), .unset, .unset, .unset, .unset, .unset, .unset, .unset] [])) rfl (hb hby at_35) (by decide) (by decide)
        obtain ⟨b32, gq32⟩ : ∃ z, z = h0.size := ⟨_, rfl⟩
        rw [← gq32] at A32 st32 D32
        have g_b32 : n0 ≤ b32 := by rw [gq32]; exact Z0
        have ne_d_b32 : d ≠ b32 := by rw [gq32]; exact Nat.ne_of_lt V_d.lt
        have ne_nl_b32 : nl ≠ b32 := by rw [gq32]; exact Nat.ne_of_lt A_nl.lt
        have ne_ea_b32 : ea ≠ b32 := by rw [gq32]; exact Nat.ne_of_lt V_ea.lt
        have ne_em_b32 : em ≠ b32 := by rw [gq32]; exact Nat.ne_of_lt A_em.lt
        have ne_no_b32 : no ≠ b32 := by rw [gq32]; exact Nat.ne_of_lt A_no.lt
        replace S_DEFAULTCAPACITY_EMPTY_ELEMENTDATA := S_DEFAULTCAPACITY_EMPTY_ELEMENTDATA.ext E32
        replace V_d := V_d.ext E32
        replace S_EMPTY_LIST := S_EMPTY_LIST.ext E32
        replace A_nl := A_nl.ext E32
        replace F_elements_nl := F_elements_nl.ext E32
        replace V_ea := V_ea.ext E32
        replace S_EMPTY := S_EMPTY.ext E32
        replace A_em := A_em.ext E32
        replace A_no := A_no.ext E32
        replace Z0 : n0 ≤ h32.size := Nat.le_trans Z0 E32.1
        have A_b32 : Exa Z h32 b32 "org/stripeward/scenario/Node" := A32
        have F_index_b32 : Fld Z h32 b32 "org/stripeward/scenario/Node" "index" "I" (.int (0 : Int32)) := D32 (Or.inr (gw hw 15 rfl)) (ty := .int) (by decide)
        have F_name_b32 : Fld Z h32 b32 "org/stripeward/scenario/Node" "name" "Ljava/lang/String;" .null := D32 (Or.inr (gw hw 17 rfl)) (ty := (.object "java/lang/String")) (by decide)
        have F_rack_b32 : Fld Z h32 b32 "org/stripeward/scenario/Node" "rack" "Lorg/stripeward/scenario/Rack;" .null := D32 (Or.inr (gw hw 19 rfl)) (ty := (.object "org/stripeward/scenario/Rack")) (by decide)
        refine Gs st32 ?_
        show Goes _ _ _ _ _ (T32.setTop (mkF m 38 #[.val (.int x0), .val (.int x1), .val (.int x2), .val (.int x3), .val (.int (1 : Int32)), .val (.int (0 : Int32)), .val (.int pz), .unset, .unset, .unset, .unset, .unset, .unset, .unset] [(.ref b32)]))
        refine Gs (fun _ tk => XS.dup X32.here hx rfl (hb hby at_38) rfl rfl tk) ?_
        refine Gs (fun _ tk => XS.iloadN X32.here hx rfl (hb hby at_39) rfl tk) ?_
        refine Gs (fun _ tk => XS.aconstNull X32.here hx rfl (hb hby at_40) tk) ?_
        refine Gs (fun _ tk => XS.aconstNull X32.here hx rfl (hb hby at_41) tk) ?_
        obtain ⟨_, _, ⟨T33, L33, k33, n33⟩, -, X33, ⟨Lc33, hQ33, l33, y33, z33⟩, st33⟩ := X32.specialBack hx (y := mN25) rfl hown (mvT hZ (gw hw 3 rfl)) (mvT hZ (gw hw 4 rfl)) (mvT hZ (gw hw 5 rfl)) (by decide) (backOf (W := 1) (rm_node l Z a0 hw [] b32 x3 h32 n0 Z0 A_b32 F_index_b32 F_name_b32 F_rack_b32 g_b32) hZ (gw hw 5 rfl) (gw hw 2 rfl) (by decide) (by decide)) (g := (mkF m 42 #[.val (.int x0), .val (.int x1), .val (.int x2), .val (.int x3), .val (.int (1 : Int32)), .val (.int (0 : Int32)), .val (.int pz), .unset, .unset, .unset, .unset, .unset, .unset, .unset] [.null, .null, (.int x3), (.ref b32), (.ref b32)])) rfl (by rw [hml]; rfl) (Steps.refl _) (a := b32) (argsL := [(.int x3), .null, .null]) (rest := [(.ref b32)]) (lenOf own_pd20 rfl) rfl (w0 (Nat.le_of_eq rfl)) (hb hby at_42) (fun _ _ => ⟨rfl, e32, (by decide : 1 + 0 ≤ _), (by decide : 3 + 0 ≤ _)⟩)
        dsimp only [Pt.U, Pt.locs, Pt.cells, Pt.slots] at X33 l33 y33 z33 st33 hQ33
        subst l33 y33 z33
        obtain ⟨rfl, N33q, K33⟩ := hQ33
        have N33 := Fr.app N0 N33q
        replace S_DEFAULTCAPACITY_EMPTY_ELEMENTDATA := own_staK S_DEFAULTCAPACITY_EMPTY_ELEMENTDATA K33 (allS (own_obE A_b32) all0)
        replace S_EMPTY_LIST := own_staK S_EMPTY_LIST K33 (allS (own_obE A_b32) all0)
        replace S_EMPTY := own_staK S_EMPTY K33 (allS (own_obE A_b32) all0)
        replace V_d := V_d.keep K33 (ninS ne_d_b32 nin0)
        replace A_nl := A_nl.keep K33
        replace F_elements_nl := F_elements_nl.keep K33 (ninS ne_nl_b32 nin0)
        replace V_ea := V_ea.keep K33 (ninS ne_ea_b32 nin0)
        replace A_em := A_em.keep K33
        replace A_no := A_no.keep K33
        replace A_b32 := A_b32.keep K33
        replace Z0 := Nat.le_trans Z0 K33.1
        refine Gs (fun _ tk => st33.trans tk) ?_
        show Goes _ _ _ _ _ (T33.setTop (mkF m 45 #[.val (.int x0), .val (.int x1), .val (.int x2), .val (.int x3), .val (.int (1 : Int32)), .val (.int (0 : Int32)), .val (.int pz), .unset, .unset, .unset, .unset, .unset, .unset, .unset] [(.ref b32)]))
        refine Gs (fun _ tk => XS.astore X33.here hx rfl (hb hby at_45) rfl rfl (l' := #[.val (.int x0), .val (.int x1), .val (.int x2), .val (.int x3), .val (.int (1 : Int32)), .val (.int (0 : Int32)), .val (.int pz), .val (.ref b32), .unset, .unset, .unset, .unset, .unset, .unset]) rfl tk) ?_
        obtain ⟨T34, h34, X34, e34, E34, A34, D34, -, st34⟩ := newO X33 hx hZ hown (gw hw 20 rfl) (gw hw 21 rfl) (gw hw 22 rfl) rfl (g := (mkF m 47 #[.val (.int x0), .val (.int x1), .val (.int x2), .val (.int x3), .val (.int (1 : Int32)), .val (.int (0 : Int32)), .val (.int pz), .val (.ref b32), .unset, .unset, .unset, .unset, .unset, .unset] [])) rfl (hb hby at_47) (by decide) (by decide)
        obtain ⟨b34, gq34⟩ : ∃ z, z = T33.heap.size := ⟨_, rfl⟩
        rw [← gq34] at A34 st34 D34
        have g_b34 : n0 ≤ b34 := by rw [gq34]; exact Z0
        have ne_d_b34 : d ≠ b34 := by rw [gq34]; exact Nat.ne_of_lt V_d.lt
        have ne_nl_b34 : nl ≠ b34 := by rw [gq34]; exact Nat.ne_of_lt A_nl.lt
        have ne_ea_b34 : ea ≠ b34 := by rw [gq34]; exact Nat.ne_of_lt V_ea.lt
        have ne_em_b34 : em ≠ b34 := by rw [gq34]; exact Nat.ne_of_lt A_em.lt
        have ne_no_b34 : no ≠ b34 := by rw [gq34]; exact Nat.ne_of_lt A_no.lt
        have ne_b32_b34 : b32 ≠ b34 := by rw [gq34]; exact Nat.ne_of_lt A_b32.lt
        replace S_DEFAULTCAPACITY_EMPTY_ELEMENTDATA := S_DEFAULTCAPACITY_EMPTY_ELEMENTDATA.ext E34
        replace V_d := V_d.ext E34
        replace S_EMPTY_LIST := S_EMPTY_LIST.ext E34
        replace A_nl := A_nl.ext E34
        replace F_elements_nl := F_elements_nl.ext E34
        replace V_ea := V_ea.ext E34
        replace S_EMPTY := S_EMPTY.ext E34
        replace A_em := A_em.ext E34
        replace A_no := A_no.ext E34
        replace A_b32 := A_b32.ext E34
        replace Z0 : n0 ≤ h34.size := Nat.le_trans Z0 E34.1
        have A_b34 : Exa Z h34 b34 "java/util/ArrayList" := A34
        have F_modCount_b34 : Fld Z h34 b34 "java/util/AbstractList" "modCount" "I" (.int (0 : Int32)) := D34 (Or.inl (gw hw 40 rfl)) (ty := .int) (by decide)
        have F_elementData_b34 : Fld Z h34 b34 "java/util/ArrayList" "elementData" "[Ljava/lang/Object;" .null := D34 (Or.inl (gw hw 43 rfl)) (ty := (.array (.object "java/lang/Object"))) (by decide)
        have F_size_b34 : Fld Z h34 b34 "java/util/ArrayList" "size" "I" (.int (0 : Int32)) := D34 (Or.inl (gw hw 75 rfl)) (ty := .int) (by decide)
        refine Gs st34 ?_
        show Goes _ _ _ _ _ (T34.setTop (mkF m 50 #[.val (.int x0), .val (.int x1), .val (.int x2), .val (.int x3), .val (.int (1 : Int32)), .val (.int (0 : Int32)), .val (.int pz), .val (.ref b32), .unset, .unset, .unset, .unset, .unset, .unset] [(.ref b34)]))
        refine Gs (fun _ tk => XS.dup X34.here hx rfl (hb hby at_50) rfl rfl tk) ?_
        obtain ⟨_, _, ⟨T35, L35, k35, n35⟩, -, X35, ⟨Lc35, hQ35, l35, y35, z35⟩, st35⟩ := X34.specialBack hx (y := mN6) rfl hown (mvT hZ (gw hw 23 rfl)) (mvT hZ (gw hw 24 rfl)) (mvT hZ (gw hw 25 rfl)) (by decide) (backOf (W := 1) (rm_alinit l Z a0 hw [] b34 d h34 n0 Z0 A_b34 F_modCount_b34 F_elementData_b34 F_size_b34 S_DEFAULTCAPACITY_EMPTY_ELEMENTDATA g_b34) hZ (gw hw 25 rfl) (gw hw 22 rfl) (by decide) (by decide)) (g := (mkF m 51 #[.val (.int x0), .val (.int x1), .val (.int x2), .val (.int x3), .val (.int (1 : Int32)), .val (.int (0 : Int32)), .val (.int pz), .val (.ref b32), .unset, .unset, .unset, .unset, .unset, .unset] [(.ref b34), (.ref b34)])) rfl (by rw [hml]; rfl) (Steps.refl _) (a := b34) (argsL := []) (rest := [(.ref b34)]) (lenOf own_pd0 rfl) rfl (w0 (Nat.le_of_eq rfl)) (hb hby at_51) (fun _ _ => ⟨rfl, e34, (by decide : 2 + 0 ≤ _), (by decide : 6 + 0 ≤ _)⟩)
        dsimp only [Pt.U, Pt.locs, Pt.cells, Pt.slots] at X35 l35 y35 z35 st35 hQ35
        subst l35 y35 z35
        obtain ⟨rfl, N35q, K35, F_modCount_b34_35', F_elementData_b34_35', F_size_b34_35'⟩ := hQ35
        have N35 := Fr.app N33 N35q
        replace S_DEFAULTCAPACITY_EMPTY_ELEMENTDATA := own_staK S_DEFAULTCAPACITY_EMPTY_ELEMENTDATA K35 (allS (own_obE A_b34) all0)
        replace S_EMPTY_LIST := own_staK S_EMPTY_LIST K35 (allS (own_obE A_b34) all0)
        replace S_EMPTY := own_staK S_EMPTY K35 (allS (own_obE A_b34) all0)
        replace V_d := V_d.keep K35 (ninS ne_d_b34 nin0)
        replace A_nl := A_nl.keep K35
        replace F_elements_nl := F_elements_nl.keep K35 (ninS ne_nl_b34 nin0)
        replace V_ea := V_ea.keep K35 (ninS ne_ea_b34 nin0)
        replace A_em := A_em.keep K35
        replace A_no := A_no.keep K35
        replace A_b32 := A_b32.keep K35
        replace A_b34 := A_b34.keep K35
        replace Z0 := Nat.le_trans Z0 K35.1
        have F_size_b34 := F_size_b34_35'
        refine Gs (fun _ tk => st35.trans tk) ?_
        show Goes _ _ _ _ _ (T35.setTop (mkF m 54 #[.val (.int x0), .val (.int x1), .val (.int x2), .val (.int x3), .val (.int (1 : Int32)), .val (.int (0 : Int32)), .val (.int pz), .val (.ref b32), .unset, .unset, .unset, .unset, .unset, .unset] [(.ref b34)]))
        refine Gs (fun _ tk => XS.astore X35.here hx rfl (hb hby at_54) rfl rfl (l' := #[.val (.int x0), .val (.int x1), .val (.int x2), .val (.int x3), .val (.int (1 : Int32)), .val (.int (0 : Int32)), .val (.int pz), .val (.ref b32), .val (.ref b34), .unset, .unset, .unset, .unset, .unset]) rfl tk) ?_
        refine Gs (fun _ tk => XS.iload X35.here hx rfl (hb hby at_56) rfl tk) ?_
        refine Gs (fun _ tk => XS.ifYes X35.here hx rfl (pc0 := 58) (pc' := 71) rfl (hb hby at_58) rfl ((if0 _ _).trans (teq (by decide : ((0 : Int32) = (0 : Int32)))).1) (by decide) (by decide) tk) ?_
        obtain ⟨T36, h36, X36, e36, E36, A36, D36, -, st36⟩ := newO X35 hx hZ hown (gw hw 44 rfl) (gw hw 45 rfl) (gw hw 46 rfl) rfl (g := (mkF m 71 #[.val (.int x0), .val (.int x1), .val (.int x2), .val (.int x3), .val (.int (1 : Int32)), .val (.int (0 : Int32)), .val (.int pz), .val (.ref b32), .val (.ref b34), .unset, .unset, .unset, .unset, .unset] [])) rfl (hb hby at_71) (by decide) (by decide)
        obtain ⟨b36, gq36⟩ : ∃ z, z = T35.heap.size := ⟨_, rfl⟩
        rw [← gq36] at A36 st36 D36
        have g_b36 : n0 ≤ b36 := by rw [gq36]; exact Z0
        have ne_d_b36 : d ≠ b36 := by rw [gq36]; exact Nat.ne_of_lt V_d.lt
        have ne_nl_b36 : nl ≠ b36 := by rw [gq36]; exact Nat.ne_of_lt A_nl.lt
        have ne_ea_b36 : ea ≠ b36 := by rw [gq36]; exact Nat.ne_of_lt V_ea.lt
        have ne_em_b36 : em ≠ b36 := by rw [gq36]; exact Nat.ne_of_lt A_em.lt
        have ne_no_b36 : no ≠ b36 := by rw [gq36]; exact Nat.ne_of_lt A_no.lt
        have ne_b32_b36 : b32 ≠ b36 := by rw [gq36]; exact Nat.ne_of_lt A_b32.lt
        have ne_b34_b36 : b34 ≠ b36 := by rw [gq36]; exact Nat.ne_of_lt A_b34.lt
        replace S_DEFAULTCAPACITY_EMPTY_ELEMENTDATA := S_DEFAULTCAPACITY_EMPTY_ELEMENTDATA.ext E36
        replace V_d := V_d.ext E36
        replace S_EMPTY_LIST := S_EMPTY_LIST.ext E36
        replace A_nl := A_nl.ext E36
        replace F_elements_nl := F_elements_nl.ext E36
        replace V_ea := V_ea.ext E36
        replace S_EMPTY := S_EMPTY.ext E36
        replace A_em := A_em.ext E36
        replace A_no := A_no.ext E36
        replace A_b32 := A_b32.ext E36
        replace A_b34 := A_b34.ext E36
        replace F_size_b34 := F_size_b34.ext E36
        replace Z0 : n0 ≤ h36.size := Nat.le_trans Z0 E36.1
        have A_b36 : Exa Z h36 b36 "org/stripeward/scenario/Block" := A36
        have F_index_b36 : Fld Z h36 b36 "org/stripeward/scenario/Block" "index" "I" (.int (0 : Int32)) := D36 (Or.inr (gw hw 81 rfl)) (ty := .int) (by decide)
        have F_name_b36 : Fld Z h36 b36 "org/stripeward/scenario/Block" "name" "Ljava/lang/String;" .null := D36 (Or.inr (gw hw 83 rfl)) (ty := (.object "java/lang/String")) (by decide)
        have F_holders_b36 : Fld Z h36 b36 "org/stripeward/scenario/Block" "holders" "Ljava/util/List;" .null := D36 (Or.inr (gw hw 85 rfl)) (ty := (.object "java/util/List")) (by decide)
        have F_stripe_b36 : Fld Z h36 b36 "org/stripeward/scenario/Block" "stripe" "Lorg/stripeward/scenario/Stripe;" .null := D36 (Or.inr (gw hw 87 rfl)) (ty := (.object "org/stripeward/scenario/Stripe")) (by decide)
        have F_parity_b36 : Fld Z h36 b36 "org/stripeward/scenario/Block" "parity" "Z" (.int (0 : Int32)) := D36 (Or.inr (gw hw 89 rfl)) (ty := .boolean) (by decide)
        have F_sizeMiB_b36 : Fld Z h36 b36 "org/stripeward/scenario/Block" "sizeMiB" "D" (.double (0 : UInt64)) := D36 (Or.inr (gw hw 91 rfl)) (ty := .double) (by decide)
        refine Gs st36 ?_
        show Goes _ _ _ _ _ (T36.setTop (mkF m 74 #[.val (.int x0), .val (.int x1), .val (.int x2), .val (.int x3), .val (.int (1 : Int32)), .val (.int (0 : Int32)), .val (.int pz), .val (.ref b32), .val (.ref b34), .unset, .unset, .unset, .unset, .unset] [(.ref b36)]))
        refine Gs (fun _ tk => XS.dup X36.here hx rfl (hb hby at_74) rfl rfl tk) ?_
        refine Gs (fun _ tk => XS.iloadN X36.here hx rfl (hb hby at_75) rfl tk) ?_
        refine Gs (fun _ tk => XS.aconstNull X36.here hx rfl (hb hby at_76) tk) ?_
        refine Gs (fun _ tk => XS.aload X36.here hx rfl (hb hby at_77) rfl rfl tk) ?_
        refine Gs (fun _ tk => XS.aconstNull X36.here hx rfl (hb hby at_79) tk) ?_
        refine Gs (fun _ tk => XS.iload X36.here hx rfl (hb hby at_80) rfl tk) ?_
        show Goes _ _ _ _ _ (T36.setTop (mkF m 82 #[.val (.int x0), .val (.int x1), .val (.int x2), .val (.int x3), .val (.int (1 : Int32)), .val (.int (0 : Int32)), .val (.int pz), .val (.ref b32), .val (.ref b34), .unset, .unset, .unset, .unset, .unset] [(.int pz), .null, (.ref b34), .null, (.int x1), (.ref b36), (.ref b36)]))
        refine Gs (fun _ tk => XS.dconst1 X36.here hx rfl (hb hby at_82) rfl tk) ?_
        obtain ⟨_, _, ⟨T37, L37, k37, n37⟩, -, X37, ⟨Lc37, hQ37, l37, y37, z37⟩, st37⟩ := X36.specialBack hx (y := mN26) rfl hown (mvT hZ (gw hw 47 rfl)) (mvT hZ (gw hw 48 rfl)) (mvT hZ (gw hw 49 rfl)) (by decide) (backOf (W := 1) (rm_block0 l Z a0 hw [] b36 x1 b34 pz FP.dconst1 nl h36 n0 Z0 A_b36 F_index_b36 F_name_b36 F_holders_b36 F_stripe_b36 F_parity_b36 F_sizeMiB_b36 g_b36 A_b34 F_size_b34 S_EMPTY_LIST ne_b34_b36) hZ (gw hw 49 rfl) (gw hw 46 rfl) (by decide) (by decide)) (g := (mkF m 83 #[.val (.int x0), .val (.int x1), .val (.int x2), .val (.int x3), .val (.int (1 : Int32)), .val (.int (0 : Int32)), .val (.int pz), .val (.ref b32), .val (.ref b34), .unset, .unset, .unset, .unset, .unset] [(.double FP.dconst1), (.int pz), .null, (.ref b34), .null, (.int x1), (.ref b36), (.ref b36)])) rfl (by rw [hml]; rfl) (Steps.refl _) (a := b36) (argsL := [(.int x1), .null, (.ref b34), .null, (.int pz), (.double FP.dconst1)]) (rest := [(.ref b36)]) (lenOf own_pd21 rfl) rfl (w0 (Nat.le_of_eq rfl)) (hb hby at_83) (fun _ _ => ⟨rfl, e36, (by decide : 3 + 0 ≤ _), (by decide : 12 + 0 ≤ _)⟩)
        dsimp only [Pt.U, Pt.locs, Pt.cells, Pt.slots] at X37 l37 y37 z37 st37 hQ37
        subst l37 y37 z37
        obtain ⟨rfl, N37q, K37, F_index_b36_37', F_holders_b36_37'⟩ := hQ37
        have N37 := Fr.app N35 N37q
        replace S_DEFAULTCAPACITY_EMPTY_ELEMENTDATA := own_staK S_DEFAULTCAPACITY_EMPTY_ELEMENTDATA K37 (allS (own_obE A_b36) all0)
        replace S_EMPTY_LIST := own_staK S_EMPTY_LIST K37 (allS (own_obE A_b36) all0)
        replace S_EMPTY := own_staK S_EMPTY K37 (allS (own_obE A_b36) all0)
        replace V_d := V_d.keep K37 (ninS ne_d_b36 nin0)
        replace A_nl := A_nl.keep K37
        replace F_elements_nl := F_elements_nl.keep K37 (ninS ne_nl_b36 nin0)
        replace V_ea := V_ea.keep K37 (ninS ne_ea_b36 nin0)
        replace A_em := A_em.keep K37
        replace A_no := A_no.keep K37
        replace A_b32 := A_b32.keep K37
        replace A_b34 := A_b34.keep K37
        replace F_size_b34 := F_size_b34.keep K37 (ninS ne_b34_b36 nin0)
        replace A_b36 := A_b36.keep K37
        replace Z0 := Nat.le_trans Z0 K37.1
        have F_index_b36 := F_index_b36_37'
        have F_holders_b36 := F_holders_b36_37'
        refine Gs (fun _ tk => st37.trans tk) ?_
        show Goes _ _ _ _ _ (T37.setTop (mkF m 86 #[.val (.int x0), .val (.int x1), .val (.int x2), .val (.int x3), .val (.int (1 : Int32)), .val (.int (0 : Int32)), .val (.int pz), .val (.ref b32), .val (.ref b34), .unset, .unset, .unset, .unset, .unset] [(.ref b36)]))
        refine Gs (fun _ tk => XS.astore X37.here hx rfl (hb hby at_86) rfl rfl (l' := #[.val (.int x0), .val (.int x1), .val (.int x2), .val (.int x3), .val (.int (1 : Int32)), .val (.int (0 : Int32)), .val (.int pz), .val (.ref b32), .val (.ref b34), .val (.ref b36), .unset, .unset, .unset, .unset]) rfl tk) ?_
        obtain ⟨T38, h38, X38, e38, E38, A38, D38, -, st38⟩ := newO X37 hx hZ hown (gw hw 44 rfl) (gw hw 45 rfl) (gw hw 46 rfl) rfl (g := (mkF m 88 #[.val (.int x0), .val (.int x1), .val (.int x2), .val (.int x3), .val (.int (1 : Int32)), .val (.int (0 : Int32)), .val (.int pz), .val (.ref b32), .val (.ref b34), .val (.ref b36), .unset, .unset, .unset, .unset] [])) rfl (hb hby at_88) (by decide) (by decide)
        obtain ⟨b38, gq38⟩ : ∃ z, z = T37.heap.size := ⟨_, rfl⟩
        rw [← gq38] at A38 st38 D38
        have g_b38 : n0 ≤ b38 := by rw [gq38]; exact Z0
        have ne_d_b38 : d ≠ b38 := by rw [gq38]; exact Nat.ne_of_lt V_d.lt
        have ne_nl_b38 : nl ≠ b38 := by rw [gq38]; exact Nat.ne_of_lt A_nl.lt
        have ne_ea_b38 : ea ≠ b38 := by rw [gq38]; exact Nat.ne_of_lt V_ea.lt
        have ne_em_b38 : em ≠ b38 := by rw [gq38]; exact Nat.ne_of_lt A_em.lt
        have ne_no_b38 : no ≠ b38 := by rw [gq38]; exact Nat.ne_of_lt A_no.lt
        have ne_b32_b38 : b32 ≠ b38 := by rw [gq38]; exact Nat.ne_of_lt A_b32.lt
        have ne_b34_b38 : b34 ≠ b38 := by rw [gq38]; exact Nat.ne_of_lt A_b34.lt
        have ne_b36_b38 : b36 ≠ b38 := by rw [gq38]; exact Nat.ne_of_lt A_b36.lt
        replace S_DEFAULTCAPACITY_EMPTY_ELEMENTDATA := S_DEFAULTCAPACITY_EMPTY_ELEMENTDATA.ext E38
        replace V_d := V_d.ext E38
        replace S_EMPTY_LIST := S_EMPTY_LIST.ext E38
        replace A_nl := A_nl.ext E38
        replace F_elements_nl := F_elements_nl.ext E38
        replace V_ea := V_ea.ext E38
        replace S_EMPTY := S_EMPTY.ext E38
        replace A_em := A_em.ext E38
        replace A_no := A_no.ext E38
        replace A_b32 := A_b32.ext E38
        replace A_b34 := A_b34.ext E38
        replace F_size_b34 := F_size_b34.ext E38
        replace A_b36 := A_b36.ext E38
        replace F_index_b36 := F_index_b36.ext E38
        replace F_holders_b36 := F_holders_b36.ext E38
        replace Z0 : n0 ≤ h38.size := Nat.le_trans Z0 E38.1
        have A_b38 : Exa Z h38 b38 "org/stripeward/scenario/Block" := A38
        have F_index_b38 : Fld Z h38 b38 "org/stripeward/scenario/Block" "index" "I" (.int (0 : Int32)) := D38 (Or.inr (gw hw 81 rfl)) (ty := .int) (by decide)
        have F_name_b38 : Fld Z h38 b38 "org/stripeward/scenario/Block" "name" "Ljava/lang/String;" .null := D38 (Or.inr (gw hw 83 rfl)) (ty := (.object "java/lang/String")) (by decide)
        have F_holders_b38 : Fld Z h38 b38 "org/stripeward/scenario/Block" "holders" "Ljava/util/List;" .null := D38 (Or.inr (gw hw 85 rfl)) (ty := (.object "java/util/List")) (by decide)
        have F_stripe_b38 : Fld Z h38 b38 "org/stripeward/scenario/Block" "stripe" "Lorg/stripeward/scenario/Stripe;" .null := D38 (Or.inr (gw hw 87 rfl)) (ty := (.object "org/stripeward/scenario/Stripe")) (by decide)
        have F_parity_b38 : Fld Z h38 b38 "org/stripeward/scenario/Block" "parity" "Z" (.int (0 : Int32)) := D38 (Or.inr (gw hw 89 rfl)) (ty := .boolean) (by decide)
        have F_sizeMiB_b38 : Fld Z h38 b38 "org/stripeward/scenario/Block" "sizeMiB" "D" (.double (0 : UInt64)) := D38 (Or.inr (gw hw 91 rfl)) (ty := .double) (by decide)
        refine Gs st38 ?_
        show Goes _ _ _ _ _ (T38.setTop (mkF m 91 #[.val (.int x0), .val (.int x1), .val (.int x2), .val (.int x3), .val (.int (1 : Int32)), .val (.int (0 : Int32)), .val (.int pz), .val (.ref b32), .val (.ref b34), .val (.ref b36), .unset, .unset, .unset, .unset] [(.ref b38)]))
        refine Gs (fun _ tk => XS.dup X38.here hx rfl (hb hby at_91) rfl rfl tk) ?_
        refine Gs (fun _ tk => XS.iloadN X38.here hx rfl (hb hby at_92) rfl tk) ?_
        refine Gs (fun _ tk => XS.aconstNull X38.here hx rfl (hb hby at_93) tk) ?_
        refine Gs (fun _ tk => XS.aload X38.here hx rfl (hb hby at_94) rfl rfl tk) ?_
        refine Gs (fun _ tk => XS.aconstNull X38.here hx rfl (hb hby at_96) tk) ?_
        refine Gs (fun _ tk => XS.iconst X38.here hx rfl (hb hby at_97) tk) ?_
        show Goes _ _ _ _ _ (T38.setTop (mkF m 98 #[.val (.int x0), .val (.int x1), .val (.int x2), .val (.int x3), .val (.int (1 : Int32)), .val (.int (0 : Int32)), .val (.int pz), .val (.ref b32), .val (.ref b34), .val (.ref b36), .unset, .unset, .unset, .unset] [(.int (0 : Int32)), .null, (.ref b34), .null, (.int x2), (.ref b38), (.ref b38)]))
        refine Gs (fun _ tk => X38.ldc2DoubleC hx hown (mvT hZ (gw hw 92 rfl)) (g := (mkF m 98 #[.val (.int x0), .val (.int x1), .val (.int x2), .val (.int x3), .val (.int (1 : Int32)), .val (.int (0 : Int32)), .val (.int pz), .val (.ref b32), .val (.ref b34), .val (.ref b36), .unset, .unset, .unset, .unset] [(.int (0 : Int32)), .null, (.ref b34), .null, (.int x2), (.ref b38), (.ref b38)])) rfl (hb hby at_98) _ tk) ?_
        show Goes _ _ _ _ _ (T38.setTop (mkF m 101 #[.val (.int x0), .val (.int x1), .val (.int x2), .val (.int x3), .val (.int (1 : Int32)), .val (.int (0 : Int32)), .val (.int pz), .val (.ref b32), .val (.ref b34), .val (.ref b36), .unset, .unset, .unset, .unset] [(.double (4611686018427387904 : UInt64)), (.int (0 : Int32)), .null, (.ref b34), .null, (.int x2), (.ref b38), (.ref b38)]))
        obtain ⟨_, _, ⟨T39, L39, k39, n39⟩, -, X39, ⟨Lc39, hQ39, l39, y39, z39⟩, st39⟩ := X38.specialBack hx (y := mN26) rfl hown (mvT hZ (gw hw 47 rfl)) (mvT hZ (gw hw 48 rfl)) (mvT hZ (gw hw 49 rfl)) (by decide) (backOf (W := 1) (rm_block0 l Z a0 hw [] b38 x2 b34 (0 : Int32) (4611686018427387904 : UInt64) nl h38 n0 Z0 A_b38 F_index_b38 F_name_b38 F_holders_b38 F_stripe_b38 F_parity_b38 F_sizeMiB_b38 g_b38 A_b34 F_size_b34 S_EMPTY_LIST ne_b34_b38) hZ (gw hw 49 rfl) (gw hw 46 rfl) (by decide) (by decide)) (g := (mkF m 101 #[.val (.int x0), .val (.int x1), .val (.int x2), .val (.int x3), .val (.int (1 : Int32)), .val (.int (0 : Int32)), .val (.int pz), .val (.ref b32), .val (.ref b34), .val (.ref b36), .unset, .unset, .unset, .unset] [(.double (4611686018427387904 : UInt64)), (.int (0 : Int32)), .null, (.ref b34), .null, (.int x2), (.ref b38), (.ref b38)])) rfl (by rw [hml]; rfl) (Steps.refl _) (a := b38) (argsL := [(.int x2), .null, (.ref b34), .null, (.int (0 : Int32)), (.double (4611686018427387904 : UInt64))]) (rest := [(.ref b38)]) (lenOf own_pd21 rfl) rfl (w0 (Nat.le_of_eq rfl)) (hb hby at_101) (fun _ _ => ⟨rfl, e38, (by decide : 4 + 0 ≤ _), (by decide : 18 + 0 ≤ _)⟩)
        dsimp only [Pt.U, Pt.locs, Pt.cells, Pt.slots] at X39 l39 y39 z39 st39 hQ39
        subst l39 y39 z39
        obtain ⟨rfl, N39q, K39, F_index_b38_39', F_holders_b38_39'⟩ := hQ39
        have N39 := Fr.app N37 N39q
        replace S_DEFAULTCAPACITY_EMPTY_ELEMENTDATA := own_staK S_DEFAULTCAPACITY_EMPTY_ELEMENTDATA K39 (allS (own_obE A_b38) all0)
        replace S_EMPTY_LIST := own_staK S_EMPTY_LIST K39 (allS (own_obE A_b38) all0)
        replace S_EMPTY := own_staK S_EMPTY K39 (allS (own_obE A_b38) all0)
        replace V_d := V_d.keep K39 (ninS ne_d_b38 nin0)
        replace A_nl := A_nl.keep K39
        replace F_elements_nl := F_elements_nl.keep K39 (ninS ne_nl_b38 nin0)
        replace V_ea := V_ea.keep K39 (ninS ne_ea_b38 nin0)
        replace A_em := A_em.keep K39
        replace A_no := A_no.keep K39
        replace A_b32 := A_b32.keep K39
        replace A_b34 := A_b34.keep K39
        replace A_b36 := A_b36.keep K39
        replace F_index_b36 := F_index_b36.keep K39 (ninS ne_b36_b38 nin0)
        replace F_holders_b36 := F_holders_b36.keep K39 (ninS ne_b36_b38 nin0)
        replace A_b38 := A_b38.keep K39
        replace Z0 := Nat.le_trans Z0 K39.1
        refine Gs (fun _ tk => st39.trans tk) ?_
        show Goes _ _ _ _ _ (T39.setTop (mkF m 104 #[.val (.int x0), .val (.int x1), .val (.int x2), .val (.int x3), .val (.int (1 : Int32)), .val (.int (0 : Int32)), .val (.int pz), .val (.ref b32), .val (.ref b34), .val (.ref b36), .unset, .unset, .unset, .unset] [(.ref b38)]))
        refine Gs (fun _ tk => XS.astore X39.here hx rfl (hb hby at_104) rfl rfl (l' := #[.val (.int x0), .val (.int x1), .val (.int x2), .val (.int x3), .val (.int (1 : Int32)), .val (.int (0 : Int32)), .val (.int pz), .val (.ref b32), .val (.ref b34), .val (.ref b36), .val (.ref b38), .unset, .unset, .unset]) rfl tk) ?_
        obtain ⟨T40, h40, X40, e40, E40, A40, D40, -, st40⟩ := newO X39 hx hZ hown (gw hw 20 rfl) (gw hw 21 rfl) (gw hw 22 rfl) rfl (g := (mkF m 106 #[.val (.int x0), .val (.int x1), .val (.int x2), .val (.int x3), .val (.int (1 : Int32)), .val (.int (0 : Int32)), .val (.int pz), .val (.ref b32), .val (.ref b34), .val (.ref b36), .val (.ref b38), .unset, .unset, .unset] [])) rfl (hb hby at_106) (by decide) (by decide)
        obtain ⟨b40, gq40⟩ : ∃ z, z = T39.heap.size := ⟨_, rfl⟩
        rw [← gq40] at A40 st40 D40
        have g_b40 : n0 ≤ b40 := by rw [gq40]; exact Z0
        have ne_d_b40 : d ≠ b40 := by rw [gq40]; exact Nat.ne_of_lt V_d.lt
        have ne_nl_b40 : nl ≠ b40 := by rw [gq40]; exact Nat.ne_of_lt A_nl.lt
        have ne_ea_b40 : ea ≠ b40 := by rw [gq40]; exact Nat.ne_of_lt V_ea.lt
        have ne_em_b40 : em ≠ b40 := by rw [gq40]; exact Nat.ne_of_lt A_em.lt
        have ne_no_b40 : no ≠ b40 := by rw [gq40]; exact Nat.ne_of_lt A_no.lt
        have ne_b32_b40 : b32 ≠ b40 := by rw [gq40]; exact Nat.ne_of_lt A_b32.lt
        have ne_b34_b40 : b34 ≠ b40 := by rw [gq40]; exact Nat.ne_of_lt A_b34.lt
        have ne_b36_b40 : b36 ≠ b40 := by rw [gq40]; exact Nat.ne_of_lt A_b36.lt
        have ne_b38_b40 : b38 ≠ b40 := by rw [gq40]; exact Nat.ne_of_lt A_b38.lt
        replace S_DEFAULTCAPACITY_EMPTY_ELEMENTDATA := S_DEFAULTCAPACITY_EMPTY_ELEMENTDATA.ext E40
        replace V_d := V_d.ext E40
        replace S_EMPTY_LIST := S_EMPTY_LIST.ext E40
        replace A_nl := A_nl.ext E40
        replace F_elements_nl := F_elements_nl.ext E40
        replace V_ea := V_ea.ext E40
        replace S_EMPTY := S_EMPTY.ext E40
        replace A_em := A_em.ext E40
        replace A_no := A_no.ext E40
        replace A_b32 := A_b32.ext E40
        replace A_b34 := A_b34.ext E40
        replace A_b36 := A_b36.ext E40
        replace F_index_b36 := F_index_b36.ext E40
        replace F_holders_b36 := F_holders_b36.ext E40
        replace A_b38 := A_b38.ext E40
        replace Z0 : n0 ≤ h40.size := Nat.le_trans Z0 E40.1
        have A_b40 : Exa Z h40 b40 "java/util/ArrayList" := A40
        have F_modCount_b40 : Fld Z h40 b40 "java/util/AbstractList" "modCount" "I" (.int (0 : Int32)) := D40 (Or.inl (gw hw 40 rfl)) (ty := .int) (by decide)
        have F_elementData_b40 : Fld Z h40 b40 "java/util/ArrayList" "elementData" "[Ljava/lang/Object;" .null := D40 (Or.inl (gw hw 43 rfl)) (ty := (.array (.object "java/lang/Object"))) (by decide)
        have F_size_b40 : Fld Z h40 b40 "java/util/ArrayList" "size" "I" (.int (0 : Int32)) := D40 (Or.inl (gw hw 75 rfl)) (ty := .int) (by decide)
        refine Gs st40 ?_
        show Goes _ _ _ _ _ (T40.setTop (mkF m 109 #[.val (.int x0), .val (.int x1), .val (.int x2), .val (.int x3), .val (.int (1 : Int32)), .val (.int (0 : Int32)), .val (.int pz), .val (.ref b32), .val (.ref b34), .val (.ref b36), .val (.ref b38), .unset, .unset, .unset] [(.ref b40)]))
        refine Gs (fun _ tk => XS.dup X40.here hx rfl (hb hby at_109) rfl rfl tk) ?_
        obtain ⟨_, _, ⟨T41, L41, k41, n41⟩, -, X41, ⟨Lc41, hQ41, l41, y41, z41⟩, st41⟩ := X40.specialBack hx (y := mN6) rfl hown (mvT hZ (gw hw 23 rfl)) (mvT hZ (gw hw 24 rfl)) (mvT hZ (gw hw 25 rfl)) (by decide) (backOf (W := 1) (rm_alinit l Z a0 hw [] b40 d h40 n0 Z0 A_b40 F_modCount_b40 F_elementData_b40 F_size_b40 S_DEFAULTCAPACITY_EMPTY_ELEMENTDATA g_b40) hZ (gw hw 25 rfl) (gw hw 22 rfl) (by decide) (by decide)) (g := (mkF m 110 #[.val (.int x0), .val (.int x1), .val (.int x2), .val (.int x3), .val (.int (1 : Int32)), .val (.int (0 : Int32)), .val (.int pz), .val (.ref b32), .val (.ref b34), .val (.ref b36), .val (.ref b38), .unset, .unset, .unset] [(.ref b40), (.ref b40)])) rfl (by rw [hml]; rfl) (Steps.refl _) (a := b40) (argsL := []) (rest := [(.ref b40)]) (lenOf own_pd0 rfl) rfl (w0 (Nat.le_of_eq rfl)) (hb hby at_110) (fun _ _ => ⟨rfl, e40, (by decide : 5 + 0 ≤ _), (by decide : 21 + 0 ≤ _)⟩)
        dsimp only [Pt.U, Pt.locs, Pt.cells, Pt.slots] at X41 l41 y41 z41 st41 hQ41
        subst l41 y41 z41
        obtain ⟨rfl, N41q, K41, F_modCount_b40_41', F_elementData_b40_41', F_size_b40_41'⟩ := hQ41
        have N41 := Fr.app N39 N41q
        replace S_DEFAULTCAPACITY_EMPTY_ELEMENTDATA := own_staK S_DEFAULTCAPACITY_EMPTY_ELEMENTDATA K41 (allS (own_obE A_b40) all0)
        replace S_EMPTY_LIST := own_staK S_EMPTY_LIST K41 (allS (own_obE A_b40) all0)
        replace S_EMPTY := own_staK S_EMPTY K41 (allS (own_obE A_b40) all0)
        replace V_d := V_d.keep K41 (ninS ne_d_b40 nin0)
        replace A_nl := A_nl.keep K41
        replace F_elements_nl := F_elements_nl.keep K41 (ninS ne_nl_b40 nin0)
        replace V_ea := V_ea.keep K41 (ninS ne_ea_b40 nin0)
        replace A_em := A_em.keep K41
        replace A_no := A_no.keep K41
        replace A_b32 := A_b32.keep K41
        replace A_b34 := A_b34.keep K41
        replace A_b36 := A_b36.keep K41
        replace F_index_b36 := F_index_b36.keep K41 (ninS ne_b36_b40 nin0)
        replace F_holders_b36 := F_holders_b36.keep K41 (ninS ne_b36_b40 nin0)
        replace A_b38 := A_b38.keep K41
        replace A_b40 := A_b40.keep K41
        replace Z0 := Nat.le_trans Z0 K41.1
        have F_modCount_b40 := F_modCount_b40_41'
        have F_elementData_b40 := F_elementData_b40_41'
        have F_size_b40 := F_size_b40_41'
        refine Gs (fun _ tk => st41.trans tk) ?_
        show Goes _ _ _ _ _ (T41.setTop (mkF m 113 #[.val (.int x0), .val (.int x1), .val (.int x2), .val (.int x3), .val (.int (1 : Int32)), .val (.int (0 : Int32)), .val (.int pz), .val (.ref b32), .val (.ref b34), .val (.ref b36), .val (.ref b38), .unset, .unset, .unset] [(.ref b40)]))
        refine Gs (fun _ tk => XS.astore X41.here hx rfl (hb hby at_113) rfl rfl (l' := #[.val (.int x0), .val (.int x1), .val (.int x2), .val (.int x3), .val (.int (1 : Int32)), .val (.int (0 : Int32)), .val (.int pz), .val (.ref b32), .val (.ref b34), .val (.ref b36), .val (.ref b38), .val (.ref b40), .unset, .unset]) rfl tk) ?_
        refine Gs (fun _ tk => XS.iload X41.here hx rfl (hb hby at_115) rfl tk) ?_
        refine Gs (fun _ tk => XS.iconst X41.here hx rfl (hb hby at_117) tk) ?_
        refine Gs (fun _ tk => XS.icmpNo X41.here hx rfl (hb hby at_118) rfl (flt (by decide : ¬ ((1 : Int32) < (1 : Int32)))).1 tk) ?_
        refine Gs (fun _ tk => XS.aload X41.here hx rfl (hb hby at_121) rfl rfl tk) ?_
        refine Gs (fun _ tk => XS.aload X41.here hx rfl (hb hby at_123) rfl rfl tk) ?_
        show Goes _ _ _ _ _ (T41.setTop (mkF m 125 #[.val (.int x0), .val (.int x1), .val (.int x2), .val (.int x3), .val (.int (1 : Int32)), .val (.int (0 : Int32)), .val (.int pz), .val (.ref b32), .val (.ref b34), .val (.ref b36), .val (.ref b38), .val (.ref b40), .unset, .unset] [(.ref b36), (.ref b40)]))
        have ltc42_d : d < T41.heap.size := V_d.lt
        have ltc42_nl : nl < T41.heap.size := A_nl.lt
        have ltc42_ea : ea < T41.heap.size := V_ea.lt
        have ltc42_em : em < T41.heap.size := A_em.lt
        have ltc42_no : no < T41.heap.size := A_no.lt
        have ltc42_b32 : b32 < T41.heap.size := A_b32.lt
        have ltc42_b34 : b34 < T41.heap.size := A_b34.lt
        have ltc42_b36 : b36 < T41.heap.size := A_b36.lt
        have ltc42_b38 : b38 < T41.heap.size := A_b38.lt
        have ltc42_b40 : b40 < T41.heap.size := A_b40.lt
        obtain ⟨cq42, kq42, q42a, q42b, q42c⟩ := isOf hZ rfl A_b40
        obtain ⟨_, _, ⟨T42, L42, k42, n42⟩, -, X42, ⟨Lc42, hQ42, l42, y42, z42⟩, st42⟩ := X41.interfaceBack hx (xi := mN49) (y := mN12) hown (mvT hZ (gw hw 113 rfl)) (mvT hZ (gw hw 114 rfl)) (mvT hZ (gw hw 115 rfl)) (mvT hZ (gw hw 116 rfl)) (mvT hZ (gw hw 117 rfl)) (mvT hZ (gw hw 118 rfl)) (mvT hZ (gw hw 119 rfl)) (mvT hZ (gw hw 102 rfl)) (by decide) (backOf (W := 0) (rm_add0 l Z a0 hw [] b40 b36 (0 : Int32) d kd T41.heap n0 Z0 A_b40 F_modCount_b40 F_elementData_b40 F_size_b40 S_DEFAULTCAPACITY_EMPTY_ELEMENTDATA V_d g_b40 ne_d_b40 (Ins.of_exa A_b36 (gw hw 208 rfl))) hZ (gw hw 120 rfl) (gw hw 22 rfl) (by decide) (by decide)) q42a q42b q42c (g := (mkF m 125 #[.val (.int x0), .val (.int x1), .val (.int x2), .val (.int x3), .val (.int (1 : Int32)), .val (.int (0 : Int32)), .val (.int pz), .val (.ref b32), .val (.ref b34), .val (.ref b36), .val (.ref b38), .val (.ref b40), .unset, .unset] [(.ref b36), (.ref b40)])) rfl (by rw [hml]; rfl) (Steps.refl _) (argsL := [(.ref b36)]) (rest := []) (lenOf own_pd23 rfl) rfl (w0 (Nat.le_of_eq rfl)) (hb hby at_125) (fun _ _ => ⟨rfl, rfl, (by decide : 5 + 1 ≤ _), (by decide : 21 + 10 ≤ _)⟩)
        dsimp only [Pt.U, Pt.locs, Pt.cells, Pt.slots] at X42 l42 y42 z42 st42 hQ42
        subst l42 y42 z42
        obtain ⟨b42, kb42, rfl, N42q, K42, F_modCount_b40_42', F_elementData_b40_42', F_size_b40_42', V_b42_42', A_b42_42', Ov_42', g_b42_42', sz_b42_42'⟩ := hQ42
        have N42 := Fr.app N41 N42q
        replace S_DEFAULTCAPACITY_EMPTY_ELEMENTDATA := own_staK S_DEFAULTCAPACITY_EMPTY_ELEMENTDATA K42 (allS (own_obE A_b40) all0)
        replace S_EMPTY_LIST := own_staK S_EMPTY_LIST K42 (allS (own_obE A_b40) all0)
        replace S_EMPTY := own_staK S_EMPTY K42 (allS (own_obE A_b40) all0)
        replace V_d := V_d.keep K42 (ninS ne_d_b40 nin0)
        replace A_nl := A_nl.keep K42
        replace F_elements_nl := F_elements_nl.keep K42 (ninS ne_nl_b40 nin0)
        replace V_ea := V_ea.keep K42 (ninS ne_ea_b40 nin0)
        replace A_em := A_em.keep K42
        replace A_no := A_no.keep K42
        replace A_b32 := A_b32.keep K42
        replace A_b34 := A_b34.keep K42
        replace A_b36 := A_b36.keep K42
        replace F_index_b36 := F_index_b36.keep K42 (ninS ne_b36_b40 nin0)
        replace F_holders_b36 := F_holders_b36.keep K42 (ninS ne_b36_b40 nin0)
        replace A_b38 := A_b38.keep K42
        replace A_b40 := A_b40.keep K42
        replace Z0 := Nat.le_trans Z0 K42.1
        have F_elementData_b40 := F_elementData_b40_42'
        have F_size_b40 := F_size_b40_42'
        have V_b42 := V_b42_42'
        have A_b42 := A_b42_42'
        have g_b42 := g_b42_42'
        have szc_b42 := sz_b42_42'
        have ne_d_b42 : d ≠ b42 := Nat.ne_of_lt (Nat.lt_of_lt_of_le ltc42_d szc_b42)
        have ne_nl_b42 : nl ≠ b42 := Nat.ne_of_lt (Nat.lt_of_lt_of_le ltc42_nl szc_b42)
        have ne_ea_b42 : ea ≠ b42 := Nat.ne_of_lt (Nat.lt_of_lt_of_le ltc42_ea szc_b42)
        have ne_em_b42 : em ≠ b42 := Nat.ne_of_lt (Nat.lt_of_lt_of_le ltc42_em szc_b42)
        have ne_no_b42 : no ≠ b42 := Nat.ne_of_lt (Nat.lt_of_lt_of_le ltc42_no szc_b42)
        have ne_b32_b42 : b32 ≠ b42 := Nat.ne_of_lt (Nat.lt_of_lt_of_le ltc42_b32 szc_b42)
        have ne_b34_b42 : b34 ≠ b42 := Nat.ne_of_lt (Nat.lt_of_lt_of_le ltc42_b34 szc_b42)
        have ne_b36_b42 : b36 ≠ b42 := Nat.ne_of_lt (Nat.lt_of_lt_of_le ltc42_b36 szc_b42)
        have ne_b38_b42 : b38 ≠ b42 := Nat.ne_of_lt (Nat.lt_of_lt_of_le ltc42_b38 szc_b42)
        have ne_b40_b42 : b40 ≠ b42 := Nat.ne_of_lt (Nat.lt_of_lt_of_le ltc42_b40 szc_b42)
        refine Gs (fun _ tk => st42.trans tk) ?_
        show Goes _ _ _ _ _ (T42.setTop (mkF m 130 #[.val (.int x0), .val (.int x1), .val (.int x2), .val (.int x3), .val (.int (1 : Int32)), .val (.int (0 : Int32)), .val (.int pz), .val (.ref b32), .val (.ref b34), .val (.ref b36), .val (.ref b38), .val (.ref b40), .unset, .unset] [(.int (1 : Int32))]))
        refine Gs (fun _ tk => XS.pop X42.here hx rfl (hb hby at_130) rfl rfl tk) ?_
        refine Gs (fun _ tk => XS.iload X42.here hx rfl (hb hby at_131) rfl tk) ?_
        refine Gs (fun _ tk => XS.iconst X42.here hx rfl (hb hby at_133) tk) ?_
        refine Gs (fun _ tk => XS.icmpYes X42.here hx rfl (pc0 := 134) (pc' := 147) rfl (hb hby at_134) rfl (tlt (by decide : ((1 : Int32) < (2 : Int32)))).1 (by decide) (by decide) tk) ?_
        refine Gs (fun _ tk => XS.aload X42.here hx rfl (hb hby at_147) rfl rfl tk) ?_
        have ltc43_d : d < T42.heap.size := V_d.lt
        have ltc43_nl : nl < T42.heap.size := A_nl.lt
        have ltc43_ea : ea < T42.heap.size := V_ea.lt
        have ltc43_em : em < T42.heap.size := A_em.lt
        have ltc43_no : no < T42.heap.size := A_no.lt
        have ltc43_b32 : b32 < T42.heap.size := A_b32.lt
        have ltc43_b34 : b34 < T42.heap.size := A_b34.lt
        have ltc43_b36 : b36 < T42.heap.size := A_b36.lt
        have ltc43_b38 : b38 < T42.heap.size := A_b38.lt
        have ltc43_b40 : b40 < T42.heap.size := A_b40.lt
        have ltc43_b42 : b42 < T42.heap.size := V_b42.lt
        obtain ⟨_, _, ⟨T43, L43, k43, n43⟩, -, X43, ⟨Lc43, hQ43, l43, y43, z43⟩, st43⟩ := Jvm.LawKit.callS X42 hx (y := mN35) hown (mvT hZ (gw hw 93 rfl)) (mvT hZ (gw hw 94 rfl)) (mvT hZ (gw hw 95 rfl)) (mvT hZ (gw hw 96 rfl)) (by decide) (backOf (W := 0) (rm_bsof1 l Z a0 hw [] b40 b36 b42 kb42 mr em T42.heap n0 Z0 A_b40 F_elementData_b40 F_size_b40 V_b42 A_b42 (Ins.of_exa A_b36 (gw hw 208 rfl)) (by first | assumption | decide) S_EMPTY) hZ (gw hw 96 rfl) (gw hw 95 rfl) (by decide) (by decide)) (g := (mkF m 149 #[.val (.int x0), .val (.int x1), .val (.int x2), .val (.int x3), .val (.int (1 : Int32)), .val (.int (0 : Int32)), .val (.int pz), .val (.ref b32), .val (.ref b34), .val (.ref b36), .val (.ref b38), .val (.ref b40), .unset, .unset] [(.ref b40)])) rfl (by rw [hml]; rfl) (argsL := [(.ref b40)]) (rest := []) (lenOf own_pd22 rfl) rfl (w0 (Nat.le_of_eq rfl)) (hb hby at_149) (fun _ _ => ⟨rfl, rfl, (by decide : 6 + 4 ≤ _), (by decide : 31 + 9 ≤ _)⟩)
        dsimp only [Pt.U, Pt.locs, Pt.cells, Pt.slots] at X43 l43 y43 z43 st43 hQ43
        subst l43 y43 z43
        obtain ⟨bo43, ro43, u43, rfl, N43q, K43, A_bo43_43', F_source_bo43_43', F_places_bo43_43', F_first_bo43_43', F_size_bo43_43', A_ro43_43', F_records_ro43_43', A_u43_43', F_e0_u43_43', F_e1_u43_43', g_bo43_43', sz_bo43_43', sz_ro43_43', sz_u43_43'⟩ := hQ43
        have N43 := Fr.app N42 N43q
        replace S_DEFAULTCAPACITY_EMPTY_ELEMENTDATA := own_staK S_DEFAULTCAPACITY_EMPTY_ELEMENTDATA K43 all0
        replace S_EMPTY_LIST := own_staK S_EMPTY_LIST K43 all0
        replace S_EMPTY := own_staK S_EMPTY K43 all0
        replace V_d := V_d.keep K43 nin0
        replace A_nl := A_nl.keep K43
        replace F_elements_nl := F_elements_nl.keep K43 nin0
        replace V_ea := V_ea.keep K43 nin0
        replace A_em := A_em.keep K43
        replace A_no := A_no.keep K43
        replace A_b36 := A_b36.keep K43
        replace F_index_b36 := F_index_b36.keep K43 nin0
        replace F_holders_b36 := F_holders_b36.keep K43 nin0
        replace Z0 := Nat.le_trans Z0 K43.1
        have A_bo43 := A_bo43_43'
        have F_source_bo43 := F_source_bo43_43'
        have F_places_bo43 := F_places_bo43_43'
        have F_first_bo43 := F_first_bo43_43'
        have F_size_bo43 := F_size_bo43_43'
        have A_ro43 := A_ro43_43'
        have F_records_ro43 := F_records_ro43_43'
        have A_u43 := A_u43_43'
        have F_e0_u43 := F_e0_u43_43'
        have g_bo43 := g_bo43_43'
        have szc_bo43 := sz_bo43_43'
        have ne_d_bo43 : d ≠ bo43 := Nat.ne_of_lt (Nat.lt_of_lt_of_le ltc43_d szc_bo43)
        have ne_nl_bo43 : nl ≠ bo43 := Nat.ne_of_lt (Nat.lt_of_lt_of_le ltc43_nl szc_bo43)
        have ne_ea_bo43 : ea ≠ bo43 := Nat.ne_of_lt (Nat.lt_of_lt_of_le ltc43_ea szc_bo43)
        have ne_em_bo43 : em ≠ bo43 := Nat.ne_of_lt (Nat.lt_of_lt_of_le ltc43_em szc_bo43)
        have ne_no_bo43 : no ≠ bo43 := Nat.ne_of_lt (Nat.lt_of_lt_of_le ltc43_no szc_bo43)
        have ne_b32_bo43 : b32 ≠ bo43 := Nat.ne_of_lt (Nat.lt_of_lt_of_le ltc43_b32 szc_bo43)
        have ne_b34_bo43 : b34 ≠ bo43 := Nat.ne_of_lt (Nat.lt_of_lt_of_le ltc43_b34 szc_bo43)
        have ne_b36_bo43 : b36 ≠ bo43 := Nat.ne_of_lt (Nat.lt_of_lt_of_le ltc43_b36 szc_bo43)
        have ne_b38_bo43 : b38 ≠ bo43 := Nat.ne_of_lt (Nat.lt_of_lt_of_le ltc43_b38 szc_bo43)
        have ne_b40_bo43 : b40 ≠ bo43 := Nat.ne_of_lt (Nat.lt_of_lt_of_le ltc43_b40 szc_bo43)
        have ne_b42_bo43 : b42 ≠ bo43 := Nat.ne_of_lt (Nat.lt_of_lt_of_le ltc43_b42 szc_bo43)
        have szc_ro43 := sz_ro43_43'
        have ne_d_ro43 : d ≠ ro43 := Nat.ne_of_lt (Nat.lt_of_lt_of_le ltc43_d szc_ro43)
        have ne_nl_ro43 : nl ≠ ro43 := Nat.ne_of_lt (Nat.lt_of_lt_of_le ltc43_nl szc_ro43)
        have ne_ea_ro43 : ea ≠ ro43 := Nat.ne_of_lt (Nat.lt_of_lt_of_le ltc43_ea szc_ro43)
        have ne_em_ro43 : em ≠ ro43 := Nat.ne_of_lt (Nat.lt_of_lt_of_le ltc43_em szc_ro43)
        have ne_no_ro43 : no ≠ ro43 := Nat.ne_of_lt (Nat.lt_of_lt_of_le ltc43_no szc_ro43)
        have ne_b32_ro43 : b32 ≠ ro43 := Nat.ne_of_lt (Nat.lt_of_lt_of_le ltc43_b32 szc_ro43)
        have ne_b34_ro43 : b34 ≠ ro43 := Nat.ne_of_lt (Nat.lt_of_lt_of_le ltc43_b34 szc_ro43)
        have ne_b36_ro43 : b36 ≠ ro43 := Nat.ne_of_lt (Nat.lt_of_lt_of_le ltc43_b36 szc_ro43)
        have ne_b38_ro43 : b38 ≠ ro43 := Nat.ne_of_lt (Nat.lt_of_lt_of_le ltc43_b38 szc_ro43)
        have ne_b40_ro43 : b40 ≠ ro43 := Nat.ne_of_lt (Nat.lt_of_lt_of_le ltc43_b40 szc_ro43)
        have ne_b42_ro43 : b42 ≠ ro43 := Nat.ne_of_lt (Nat.lt_of_lt_of_le ltc43_b42 szc_ro43)
        have szc_u43 := sz_u43_43'
        have ne_d_u43 : d ≠ u43 := Nat.ne_of_lt (Nat.lt_of_lt_of_le ltc43_d szc_u43)
        have ne_nl_u43 : nl ≠ u43 := Nat.ne_of_lt (Nat.lt_of_lt_of_le ltc43_nl szc_u43)
        have ne_ea_u43 : ea ≠ u43 := Nat.ne_of_lt (Nat.lt_of_lt_of_le ltc43_ea szc_u43)
        have ne_em_u43 : em ≠ u43 := Nat.ne_of_lt (Nat.lt_of_lt_of_le ltc43_em szc_u43)
        have ne_no_u43 : no ≠ u43 := Nat.ne_of_lt (Nat.lt_of_lt_of_le ltc43_no szc_u43)
        have ne_b32_u43 : b32 ≠ u43 := Nat.ne_of_lt (Nat.lt_of_lt_of_le ltc43_b32 szc_u43)
        have ne_b34_u43 : b34 ≠ u43 := Nat.ne_of_lt (Nat.lt_of_lt_of_le ltc43_b34 szc_u43)
        have ne_b36_u43 : b36 ≠ u43 := Nat.ne_of_lt (Nat.lt_of_lt_of_le ltc43_b36 szc_u43)
        have ne_b38_u43 : b38 ≠ u43 := Nat.ne_of_lt (Nat.lt_of_lt_of_le ltc43_b38 szc_u43)
        have ne_b40_u43 : b40 ≠ u43 := Nat.ne_of_lt (Nat.lt_of_lt_of_le ltc43_b40 szc_u43)
        have ne_b42_u43 : b42 ≠ u43 := Nat.ne_of_lt (Nat.lt_of_lt_of_le ltc43_b42 szc_u43)
        refine Gs st43 ?_
        show Goes _ _ _ _ _ (T43.setTop (mkF m 152 #[.val (.int x0), .val (.int x1), .val (.int x2), .val (.int x3), .val (.int (1 : Int32)), .val (.int (0 : Int32)), .val (.int pz), .val (.ref b32), .val (.ref b34), .val (.ref b36), .val (.ref b38), .val (.ref b40), .unset, .unset] [(.ref bo43)]))
        refine Gs (fun _ tk => XS.astore X43.here hx rfl (hb hby at_152) rfl rfl (l' := #[.val (.int x0), .val (.int x1), .val (.int x2), .val (.int x3), .val (.int (1 : Int32)), .val (.int (0 : Int32)), .val (.int pz), .val (.ref b32), .val (.ref b34), .val (.ref b36), .val (.ref b38), .val (.ref b40), .val (.ref bo43), .unset]) rfl tk) ?_
        refine Gs (fun _ tk => XS.aload X43.here hx rfl (hb hby at_154) rfl rfl tk) ?_
        obtain ⟨cq44, kq44, q44a, q44b, q44c⟩ := isOf hZ rfl A_bo43
        obtain ⟨_, _, ⟨T44, L44, k44, n44⟩, -, X44, ⟨Lc44, hQ44, l44, y44, z44⟩, st44⟩ := X43.virtualBack hx (y := mN37) (z := mN37) hown (mvT hZ (gw hw 105 rfl)) (mvT hZ (gw hw 106 rfl)) (notFace_of_selects (args := #[]) (mvT hZ (gw hw 108 rfl))) (mvT hZ (gw hw 108 rfl)) (mvT hZ (gw hw 107 rfl)) (by decide) (backOf (W := 0) (rm_bssz l Z a0 hw [] bo43 (1 : Int32) T43.heap n0 Z0 F_size_bo43) hZ (gw hw 109 rfl) (gw hw 95 rfl) (by decide) (by decide)) q44a q44c (g := (mkF m 156 #[.val (.int x0), .val (.int x1), .val (.int x2), .val (.int x3), .val (.int (1 : Int32)), .val (.int (0 : Int32)), .val (.int pz), .val (.ref b32), .val (.ref b34), .val (.ref b36), .val (.ref b38), .val (.ref b40), .val (.ref bo43), .unset] [(.ref bo43)])) rfl (by rw [hml]; rfl) (Steps.refl _) (argsL := []) (rest := []) (lenOf own_pd15 rfl) rfl (w0 (Nat.le_of_eq rfl)) (hb hby at_156) (fun _ _ => ⟨rfl, rfl, (by decide : 10 + 0 ≤ _), (by decide : 40 + 0 ≤ _)⟩)
        dsimp only [Pt.U, Pt.locs, Pt.cells, Pt.slots] at X44 l44 y44 z44 st44 hQ44
        subst l44 y44 z44
        obtain ⟨rfl, N44q, e44⟩ := hQ44
        have N44 := Fr.app N43 N44q
        refine Gs (fun _ tk => st44.trans tk) ?_
        show Goes _ _ _ _ _ (T44.setTop (mkF m 159 #[.val (.int x0), .val (.int x1), .val (.int x2), .val (.int x3), .val (.int (1 : Int32)), .val (.int (0 : Int32)), .val (.int pz), .val (.ref b32), .val (.ref b34), .val (.ref b36), .val (.ref b38), .val (.ref b40), .val (.ref bo43), .unset] [(.int (1 : Int32))]))
        refine Gs (fun _ tk => XS.iload X44.here hx rfl (hb hby at_159) rfl tk) ?_
        refine Gs (fun _ tk => XS.icmpNo X44.here hx rfl (hb hby at_161) rfl (teq (by decide : ((1 : Int32) = (1 : Int32)))).2 tk) ?_
        refine Gs (fun _ tk => XS.iconst X44.here hx rfl (hb hby at_164) tk) ?_
        refine Gs (fun _ tk => XS.goto X44.here hx rfl (pc0 := 165) (pc' := 169) rfl (hb hby at_165) (by decide) (by decide) tk) ?_
        refine Gs (fun _ tk => XS.istore X44.here hx rfl (hb hby at_169) rfl (l' := #[.val (.int x0), .val (.int x1), .val (.int x2), .val (.int x3), .val (.int (1 : Int32)), .val (.int (0 : Int32)), .val (.int pz), .val (.ref b32), .val (.ref b34), .val (.ref b36), .val (.ref b38), .val (.ref b40), .val (.ref bo43), .val (.int (1 : Int32))]) rfl tk) ?_
        refine Gs (fun _ tk => XS.iload X44.here hx rfl (hb hby at_171) rfl tk) ?_
        show Goes _ _ _ _ _ (T44.setTop (mkF m 173 #[.val (.int x0), .val (.int x1), .val (.int x2), .val (.int x3), .val (.int (1 : Int32)), .val (.int (0 : Int32)), .val (.int pz), .val (.ref b32), .val (.ref b34), .val (.ref b36), .val (.ref b38), .val (.ref b40), .val (.ref bo43), .val (.int (1 : Int32))] [(.int (1 : Int32))]))
        refine Gs (fun _ tk => XS.ifNo X44.here hx rfl (hb hby at_173) rfl ((if0 _ _).trans (feq (by decide : ¬ ((1 : Int32) = (0 : Int32)))).1) tk) ?_
        refine Gs (fun _ tk => XS.iload X44.here hx rfl (hb hby at_176) rfl tk) ?_
        refine Gs (fun _ tk => XS.iconst X44.here hx rfl (hb hby at_178) tk) ?_
        refine Gs (fun _ tk => XS.icmpNo X44.here hx rfl (hb hby at_179) rfl (flt (by decide : ¬ ((1 : Int32) < (1 : Int32)))).1 tk) ?_
        refine Gs (fun _ tk => XS.aload X44.here hx rfl (hb hby at_182) rfl rfl tk) ?_
        refine Gs (fun _ tk => XS.iconst X44.here hx rfl (hb hby at_184) tk) ?_
        show Goes _ _ _ _ _ (T44.setTop (mkF m 185 #[.val (.int x0), .val (.int x1), .val (.int x2), .val (.int x3), .val (.int (1 : Int32)), .val (.int (0 : Int32)), .val (.int pz), .val (.ref b32), .val (.ref b34), .val (.ref b36), .val (.ref b38), .val (.ref b40), .val (.ref bo43), .val (.int (1 : Int32))] [(.int (0 : Int32)), (.ref bo43)]))
        obtain ⟨cq45, kq45, q45a, q45b, q45c⟩ := isOf hZ e44 A_bo43
        obtain ⟨_, _, ⟨T45, L45, k45, n45⟩, -, X45, ⟨Lc45, hQ45, l45, y45, z45⟩, st45⟩ := X44.virtualBack hx (y := mN44) (z := mN44) hown (mvT hZ (gw hw 244 rfl)) (mvT hZ (gw hw 245 rfl)) (notFace_of_selects (args := #[]) (mvT hZ (gw hw 247 rfl))) (mvT hZ (gw hw 247 rfl)) (mvT hZ (gw hw 246 rfl)) (by decide) (backOf (W := 0) (rm_bget01 l Z a0 hw [] bo43 ro43 u43 b36 T43.heap n0 Z0 F_source_bo43 F_places_bo43 F_first_bo43 F_size_bo43 A_bo43 A_ro43 F_records_ro43 A_u43 F_e0_u43 A_b36) hZ (gw hw 248 rfl) (gw hw 95 rfl) (by decide) (by decide)) q45a q45c (g := (mkF m 185 #[.val (.int x0), .val (.int x1), .val (.int x2), .val (.int x3), .val (.int (1 : Int32)), .val (.int (0 : Int32)), .val (.int pz), .val (.ref b32), .val (.ref b34), .val (.ref b36), .val (.ref b38), .val (.ref b40), .val (.ref bo43), .val (.int (1 : Int32))] [(.int (0 : Int32)), (.ref bo43)])) rfl (by rw [hml]; rfl) (Steps.refl _) (argsL := [(.int (0 : Int32))]) (rest := []) (lenOf own_pd19 rfl) rfl (w0 (Nat.le_of_eq rfl)) (hb hby at_185) (fun _ _ => ⟨rfl, e44, (by decide : 10 + 0 ≤ _), (by decide : 40 + 0 ≤ _)⟩)
        dsimp only [Pt.U, Pt.locs, Pt.cells, Pt.slots] at X45 l45 y45 z45 st45 hQ45
        subst l45 y45 z45
        obtain ⟨rfl, N45q, e45⟩ := hQ45
        have N45 := Fr.app N44 N45q
        refine Gs (fun _ tk => st45.trans tk) ?_
        show Goes _ _ _ _ _ (T45.setTop (mkF m 188 #[.val (.int x0), .val (.int x1), .val (.int x2), .val (.int x3), .val (.int (1 : Int32)), .val (.int (0 : Int32)), .val (.int pz), .val (.ref b32), .val (.ref b34), .val (.ref b36), .val (.ref b38), .val (.ref b40), .val (.ref bo43), .val (.int (1 : Int32))] [(.ref b36)]))
        refine Gs (fun _ tk => XS.aload X45.here hx rfl (hb hby at_188) rfl rfl tk) ?_
        refine Gs (fun _ tk => Jvm.RoadKit.acmp (g := (mkF m 190 #[.val (.int x0), .val (.int x1), .val (.int x2), .val (.int x3), .val (.int (1 : Int32)), .val (.int (0 : Int32)), .val (.int pz), .val (.ref b32), .val (.ref b34), .val (.ref b36), .val (.ref b38), .val (.ref b40), .val (.ref bo43), .val (.int (1 : Int32))] [(.ref b36), (.ref b36)])) X45 hx rfl rfl rfl (pc0 := 190) (pc' := 193) (same := true) rfl (hb hby at_190) rfl (decide_eq_true (congrArg Value.ref rfl)) (by decide) (by decide) tk) ?_
        refine Gs (fun _ tk => XS.aload X45.here hx rfl (hb hby at_193) rfl rfl tk) ?_
        refine Gs (fun _ tk => XS.iconst X45.here hx rfl (hb hby at_195) tk) ?_
        obtain ⟨cq46, kq46, q46a, q46b, q46c⟩ := isOf hZ e45 A_bo43
        obtain ⟨_, _, ⟨T46, L46, k46, n46⟩, -, X46, ⟨Lc46, hQ46, l46, y46, z46⟩, st46⟩ := X45.virtualBack hx (y := mN46) (z := mN46) hown (mvT hZ (gw hw 272 rfl)) (mvT hZ (gw hw 273 rfl)) (notFace_of_selects (args := #[]) (mvT hZ (gw hw 275 rfl))) (mvT hZ (gw hw 275 rfl)) (mvT hZ (gw hw 274 rfl)) (by decide) (backOf (W := 0) (rm_bix01 l Z a0 hw [] bo43 ro43 u43 b36 x1 T43.heap n0 Z0 F_source_bo43 F_places_bo43 F_first_bo43 F_size_bo43 A_bo43 A_ro43 F_records_ro43 A_u43 F_e0_u43 A_b36 F_index_b36) hZ (gw hw 276 rfl) (gw hw 95 rfl) (by decide) (by decide)) q46a q46c (g := (mkF m 196 #[.val (.int x0), .val (.int x1), .val (.int x2), .val (.int x3), .val (.int (1 : Int32)), .val (.int (0 : Int32)), .val (.int pz), .val (.ref b32), .val (.ref b34), .val (.ref b36), .val (.ref b38), .val (.ref b40), .val (.ref bo43), .val (.int (1 : Int32))] [(.int (0 : Int32)), (.ref bo43)])) rfl (by rw [hml]; rfl) (Steps.refl _) (argsL := [(.int (0 : Int32))]) (rest := []) (lenOf own_pd18 rfl) rfl (w0 (Nat.le_of_eq rfl)) (hb hby at_196) (fun _ _ => ⟨rfl, e45, (by decide : 10 + 0 ≤ _), (by decide : 40 + 0 ≤ _)⟩)
        dsimp only [Pt.U, Pt.locs, Pt.cells, Pt.slots] at X46 l46 y46 z46 st46 hQ46
        subst l46 y46 z46
        obtain ⟨rfl, N46q, e46⟩ := hQ46
        have N46 := Fr.app N45 N46q
        refine Gs (fun _ tk => st46.trans tk) ?_
        show Goes _ _ _ _ _ (T46.setTop (mkF m 199 #[.val (.int x0), .val (.int x1), .val (.int x2), .val (.int x3), .val (.int (1 : Int32)), .val (.int (0 : Int32)), .val (.int pz), .val (.ref b32), .val (.ref b34), .val (.ref b36), .val (.ref b38), .val (.ref b40), .val (.ref bo43), .val (.int (1 : Int32))] [(.int x1)]))
        refine Gs (fun _ tk => XS.iloadN X46.here hx rfl (hb hby at_199) rfl tk) ?_
        refine Gs (fun _ tk => XS.icmpNo X46.here hx rfl (hb hby at_200) rfl (teq (rfl : x1 = x1)).2 tk) ?_
        refine Gs (fun _ tk => XS.aload X46.here hx rfl (hb hby at_203) rfl rfl tk) ?_
        refine Gs (fun _ tk => XS.iconst X46.here hx rfl (hb hby at_205) tk) ?_
        obtain ⟨cq47, kq47, q47a, q47b, q47c⟩ := isOf hZ e46 A_bo43
        obtain ⟨_, _, ⟨T47, L47, k47, n47⟩, -, X47, ⟨Lc47, hQ47, l47, y47, z47⟩, st47⟩ := X46.virtualBack hx (y := mN48) (z := mN48) hown (mvT hZ (gw hw 290 rfl)) (mvT hZ (gw hw 291 rfl)) (notFace_of_selects (args := #[]) (mvT hZ (gw hw 293 rfl))) (mvT hZ (gw hw 293 rfl)) (mvT hZ (gw hw 292 rfl)) (by decide) (backOf (W := 0) (rm_bhc10 l Z a0 hw [] bo43 ro43 u43 b36 nl ea ke T43.heap n0 Z0 F_source_bo43 F_places_bo43 F_first_bo43 F_size_bo43 A_bo43 A_ro43 F_records_ro43 A_u43 F_e0_u43 A_b36 F_holders_b36 A_nl F_elements_nl V_ea) hZ (gw hw 294 rfl) (gw hw 95 rfl) (by decide) (by decide)) q47a q47c (g := (mkF m 206 #[.val (.int x0), .val (.int x1), .val (.int x2), .val (.int x3), .val (.int (1 : Int32)), .val (.int (0 : Int32)), .val (.int pz), .val (.ref b32), .val (.ref b34), .val (.ref b36), .val (.ref b38), .val (.ref b40), .val (.ref bo43), .val (.int (1 : Int32))] [(.int (0 : Int32)), (.ref bo43)])) rfl (by rw [hml]; rfl) (Steps.refl _) (argsL := [(.int (0 : Int32))]) (rest := []) (lenOf own_pd18 rfl) rfl (w0 (Nat.le_of_eq rfl)) (hb hby at_206) (fun _ _ => ⟨rfl, e46, (by decide : 10 + 0 ≤ _), (by decide : 40 + 0 ≤ _)⟩)
        dsimp only [Pt.U, Pt.locs, Pt.cells, Pt.slots] at X47 l47 y47 z47 st47 hQ47
        subst l47 y47 z47
        obtain ⟨rfl, N47q, e47⟩ := hQ47
        have N47 := Fr.app N46 N47q
        refine Gs (fun _ tk => st47.trans tk) ?_
        show Goes _ _ _ _ _ (T47.setTop (mkF m 209 #[.val (.int x0), .val (.int x1), .val (.int x2), .val (.int x3), .val (.int (1 : Int32)), .val (.int (0 : Int32)), .val (.int pz), .val (.ref b32), .val (.ref b34), .val (.ref b36), .val (.ref b38), .val (.ref b40), .val (.ref bo43), .val (.int (1 : Int32))] [(.int (0 : Int32))]))
        refine Gs (fun _ tk => XS.iload X47.here hx rfl (hb hby at_209) rfl tk) ?_
        refine Gs (fun _ tk => XS.ifYes X47.here hx rfl (pc0 := 211) (pc' := 218) rfl (hb hby at_211) rfl ((if0 _ _).trans (teq (by decide : ((0 : Int32) = (0 : Int32)))).1) (by decide) (by decide) tk) ?_
        refine Gs (fun _ tk => XS.iconst X47.here hx rfl (hb hby at_218) tk) ?_
        refine Gs (fun _ tk => XS.icmpNo X47.here hx rfl (hb hby at_219) rfl (teq (by decide : ((0 : Int32) = (0 : Int32)))).2 tk) ?_
        refine Gs (fun _ tk => XS.iconst X47.here hx rfl (hb hby at_222) tk) ?_
        refine Gs (fun _ tk => XS.goto X47.here hx rfl (pc0 := 223) (pc' := 227) rfl (hb hby at_223) (by decide) (by decide) tk) ?_
        show Goes _ _ _ _ _ (T47.setTop (mkF m 227 #[.val (.int x0), .val (.int x1), .val (.int x2), .val (.int x3), .val (.int (1 : Int32)), .val (.int (0 : Int32)), .val (.int pz), .val (.ref b32), .val (.ref b34), .val (.ref b36), .val (.ref b38), .val (.ref b40), .val (.ref bo43), .val (.int (1 : Int32))] [(.int (1 : Int32))]))
        refine Gs (fun _ tk => XS.istore X47.here hx rfl (hb hby at_227) rfl (l' := #[.val (.int x0), .val (.int x1), .val (.int x2), .val (.int x3), .val (.int (1 : Int32)), .val (.int (0 : Int32)), .val (.int pz), .val (.ref b32), .val (.ref b34), .val (.ref b36), .val (.ref b38), .val (.ref b40), .val (.ref bo43), .val (.int (1 : Int32))]) rfl tk) ?_
        refine Gs (fun _ tk => XS.iload X47.here hx rfl (hb hby at_229) rfl tk) ?_
        refine Gs (fun _ tk => XS.ifNo X47.here hx rfl (hb hby at_231) rfl ((if0 _ _).trans (feq (by decide : ¬ ((1 : Int32) = (0 : Int32)))).1) tk) ?_
        refine Gs (fun _ tk => XS.iload X47.here hx rfl (hb hby at_234) rfl tk) ?_
        refine Gs (fun _ tk => XS.iconst X47.here hx rfl (hb hby at_236) tk) ?_
        refine Gs (fun _ tk => XS.icmpYes X47.here hx rfl (pc0 := 237) (pc' := 268) rfl (hb hby at_237) rfl (tlt (by decide : ((1 : Int32) < (2 : Int32)))).1 (by decide) (by decide) tk) ?_
        show Goes _ _ _ _ _ (T47.setTop (mkF m 268 #[.val (.int x0), .val (.int x1), .val (.int x2), .val (.int x3), .val (.int (1 : Int32)), .val (.int (0 : Int32)), .val (.int pz), .val (.ref b32), .val (.ref b34), .val (.ref b36), .val (.ref b38), .val (.ref b40), .val (.ref bo43), .val (.int (1 : Int32))] []))
        refine Gs (fun _ tk => XS.iload X47.here hx rfl (hb hby at_268) rfl tk) ?_
        refine Gs (fun _ tk => XS.ifNo X47.here hx rfl (hb hby at_270) rfl ((if0 _ _).trans (feq (by decide : ¬ ((1 : Int32) = (0 : Int32)))).1) tk) ?_
        refine Gs (fun _ tk => XS.aload X47.here hx rfl (hb hby at_273) rfl rfl tk) ?_
        obtain ⟨_, _, ⟨T48, L48, k48, n48⟩, -, X48, ⟨Lc48, hQ48, l48, y48, z48⟩, st48⟩ := Jvm.LawKit.callS X47 hx (y := mN35) hown (mvT hZ (gw hw 93 rfl)) (mvT hZ (gw hw 94 rfl)) (mvT hZ (gw hw 95 rfl)) (mvT hZ (gw hw 96 rfl)) (by decide) (backOf (W := 0) (rm_bsofS l Z a0 hw [] bo43 T43.heap n0 Z0 A_bo43) hZ (gw hw 96 rfl) (gw hw 95 rfl) (by decide) (by decide)) (g := (mkF m 275 #[.val (.int x0), .val (.int x1), .val (.int x2), .val (.int x3), .val (.int (1 : Int32)), .val (.int (0 : Int32)), .val (.int pz), .val (.ref b32), .val (.ref b34), .val (.ref b36), .val (.ref b38), .val (.ref b40), .val (.ref bo43), .val (.int (1 : Int32))] [(.ref bo43)])) rfl (by rw [hml]; rfl) (argsL := [(.ref bo43)]) (rest := []) (lenOf own_pd22 rfl) rfl (w0 (Nat.le_of_eq rfl)) (hb hby at_275) (fun _ _ => ⟨rfl, e47, (by decide : 10 + 0 ≤ _), (by decide : 40 + 0 ≤ _)⟩)
        dsimp only [Pt.U, Pt.locs, Pt.cells, Pt.slots] at X48 l48 y48 z48 st48 hQ48
        subst l48 y48 z48
        obtain ⟨rfl, N48q, e48⟩ := hQ48
        have N48 := Fr.app N47 N48q
        refine Gs st48 ?_
        show Goes _ _ _ _ _ (T48.setTop (mkF m 278 #[.val (.int x0), .val (.int x1), .val (.int x2), .val (.int x3), .val (.int (1 : Int32)), .val (.int (0 : Int32)), .val (.int pz), .val (.ref b32), .val (.ref b34), .val (.ref b36), .val (.ref b38), .val (.ref b40), .val (.ref bo43), .val (.int (1 : Int32))] [(.ref bo43)]))
        refine Gs (fun _ tk => XS.aload X48.here hx rfl (hb hby at_278) rfl rfl tk) ?_
        refine Gs (fun _ tk => Jvm.RoadKit.acmp (g := (mkF m 280 #[.val (.int x0), .val (.int x1), .val (.int x2), .val (.int x3), .val (.int (1 : Int32)), .val (.int (0 : Int32)), .val (.int pz), .val (.ref b32), .val (.ref b34), .val (.ref b36), .val (.ref b38), .val (.ref b40), .val (.ref bo43), .val (.int (1 : Int32))] [(.ref bo43), (.ref bo43)])) X48 hx rfl rfl rfl (pc0 := 280) (pc' := 283) (same := true) rfl (hb hby at_280) rfl (decide_eq_true (congrArg Value.ref rfl)) (by decide) (by decide) tk) ?_
        refine Gs (fun _ tk => XS.iconst X48.here hx rfl (hb hby at_283) tk) ?_
        refine Gs (fun _ tk => XS.goto X48.here hx rfl (pc0 := 284) (pc' := 288) rfl (hb hby at_284) (by decide) (by decide) tk) ?_
        refine Gs (fun _ tk => XS.istore X48.here hx rfl (hb hby at_288) rfl (l' := #[.val (.int x0), .val (.int x1), .val (.int x2), .val (.int x3), .val (.int (1 : Int32)), .val (.int (0 : Int32)), .val (.int pz), .val (.ref b32), .val (.ref b34), .val (.ref b36), .val (.ref b38), .val (.ref b40), .val (.ref bo43), .val (.int (1 : Int32))]) rfl tk) ?_
        refine Gs (fun _ tk => XS.iload X48.here hx rfl (hb hby at_290) rfl tk) ?_
        show Goes _ _ _ _ _ (T48.setTop (mkF m 292 #[.val (.int x0), .val (.int x1), .val (.int x2), .val (.int x3), .val (.int (1 : Int32)), .val (.int (0 : Int32)), .val (.int pz), .val (.ref b32), .val (.ref b34), .val (.ref b36), .val (.ref b38), .val (.ref b40), .val (.ref bo43), .val (.int (1 : Int32))] [(.int (1 : Int32))]))
        refine Goes.ret X48 (some (.int (1 : Int32))) (fun h => by rw [hret] at h; cases h) hlk (by decide) (by decide) ?_ (fun fs hr => ?_)
        · exact ⟨rfl, N48⟩
        · exact own_retN X48 hx (t := .boolean) hret (by simp) rfl (hb hby at_292) hr
      by_cases hc25_49 : (x0 &&& (16 : Int32)) = (0 : Int32)
      · refine Gs (fun _ tk => XS.ifYes X0.here hx rfl (pc0 := 25) (pc' := 32) rfl (hb hby at_25) rfl ((if0 _ _).trans (teq hc25_49).1) (by decide) (by decide) tk) ?_
        refine Gs (fun _ tk => XS.iconst X0.here hx rfl (hb hby at_32) tk) ?_
        exact J33 (0 : Int32)
      · refine Gs (fun _ tk => XS.ifNo X0.here hx rfl (hb hby at_25) rfl ((if0 _ _).trans (feq hc25_49).1) tk) ?_
        refine Gs (fun _ tk => XS.iconst X0.here hx rfl (hb hby at_28) tk) ?_
        refine Gs (fun _ tk => XS.goto X0.here hx rfl (pc0 := 29) (pc' := 33) rfl (hb hby at_29) (by decide) (by decide) tk) ?_
        exact J33 (1 : Int32)
    · refine Gs (fun _ tk => XS.ifNo X0.here hx rfl (hb hby at_11) rfl ((if0 _ _).trans (feq hc11_31).1) tk) ?_
      refine Gs (fun _ tk => XS.iconst X0.here hx rfl (hb hby at_14) tk) ?_
      refine Gs (fun _ tk => XS.goto X0.here hx rfl (pc0 := 15) (pc' := 19) rfl (hb hby at_15) (by decide) (by decide) tk) ?_
      refine Gs (fun _ tk => XS.istore X0.here hx rfl (hb hby at_19) rfl (l' := #[.val (.int x0), .val (.int x1), .val (.int x2), .val (.int x3), .val (.int (1 : Int32)), .val (.int (1 : Int32)), .unset, .unset, .unset, .unset, .unset, .unset, .unset, .unset]) rfl tk) ?_
      refine Gs (fun _ tk => XS.iloadN X0.here hx rfl (hb hby at_21) rfl tk) ?_
      refine Gs (fun _ tk => XS.bipush X0.here hx rfl (hb hby at_22) tk) ?_
      show Goes _ _ _ _ _ (s₁.setTop (mkF m 24 #[.val (.int x0), .val (.int x1), .val (.int x2), .val (.int x3), .val (.int (1 : Int32)), .val (.int (1 : Int32)), .unset, .unset, .unset, .unset, .unset, .unset, .unset, .unset] [(.int (16 : Int32)), (.int x0)]))
      refine Gs (fun _ tk => XS.iand X0.here hx rfl (hb hby at_24) rfl tk) ?_
      show Goes _ _ _ _ _ (s₁.setTop (mkF m 25 #[.val (.int x0), .val (.int x1), .val (.int x2), .val (.int x3), .val (.int (1 : Int32)), .val (.int (1 : Int32)), .unset, .unset, .unset, .unset, .unset, .unset, .unset, .unset] [(.int (x0 &&& (16 : Int32)))]))
      have J33 : ∀ pz : Int32, Goes p e below (fun o u L => FrameEnd s o u L room_1.cells room_1.slots) (Q_rm_law Z x0 x1 x2 x3 d kd nl ea ke em no mr h0 n0) (s₁.setTop (mkF m 33 #[.val (.int x0), .val (.int x1), .val (.int x2), .val (.int x3), .val (.int (1 : Int32)), .val (.int (1 : Int32)), .unset, .unset, .unset, .unset, .unset, .unset, .unset, .unset] [(.int pz)])) := by
        intro pz
        refine Gs (fun _ tk => XS.istore X0.here hx rfl (hb hby at_33) rfl (l' := #[.val (.int x0), .val (.int x1), .val (.int x2), .val (.int x3), .val (.int (1 : Int32)), .val (.int (1 : Int32)), .val (.int pz), .unset, .unset, .unset, .unset, .unset, .unset, .unset]) rfl tk) ?_
        obtain ⟨T50, h50, X50, e50, E50, A50, D50, -, st50⟩ := newO X0 hx hZ hown (gw hw 0 rfl) (gw hw 1 rfl) (gw hw 2 rfl) e0 (g := (mkF m 35 #[.val (.int x0), .val (.int x1), .val (.int x2), .val (.int x3), .val (.int (1 : Int32)), .val (.int (1 : Int32)), .val (.int pz), .unset, .unset, .unset, .unset, .unset, .unset, .unset] [])) rfl (hb hby at_35) (by decide) (by decide)
        obtain ⟨b50, gq50⟩ : ∃ z, z = h0.size := ⟨_, rfl⟩
        rw [← gq50] at A50 st50 D50
        have g_b50 : n0 ≤ b50 := by rw [gq50]; exact Z0
        have ne_d_b50 : d ≠ b50 := by rw [gq50]; exact Nat.ne_of_lt V_d.lt
        have ne_nl_b50 : nl ≠ b50 := by rw [gq50]; exact Nat.ne_of_lt A_nl.lt
        have ne_ea_b50 : ea ≠ b50 := by rw [gq50]; exact Nat.ne_of_lt V_ea.lt
        have ne_em_b50 : em ≠ b50 := by rw [gq50]; exact Nat.ne_of_lt A_em.lt
        have ne_no_b50 : no ≠ b50 := by rw [gq50]; exact Nat.ne_of_lt A_no.lt
        replace S_DEFAULTCAPACITY_EMPTY_ELEMENTDATA := S_DEFAULTCAPACITY_EMPTY_ELEMENTDATA.ext E50
        replace V_d := V_d.ext E50
        replace S_EMPTY_LIST := S_EMPTY_LIST.ext E50
        replace A_nl := A_nl.ext E50
        replace F_elements_nl := F_elements_nl.ext E50
        replace V_ea := V_ea.ext E50
        replace S_EMPTY := S_EMPTY.ext E50
        replace A_em := A_em.ext E50
        replace A_no := A_no.ext E50
        replace Z0 : n0 ≤ h50.size := Nat.le_trans Z0 E50.1
        have A_b50 : Exa Z h50 b50 "org/stripeward/scenario/Node" := A50
        have F_index_b50 : Fld Z h50 b50 "org/stripeward/scenario/Node" "index" "I" (.int (0 : Int32)) := D50 (Or.inr (gw hw 15 rfl)) (ty := .int) (by decide)
        have F_name_b50 : Fld Z h50 b50 "org/stripeward/scenario/Node" "name" "Ljava/lang/String;" .null := D50 (Or.inr (gw hw 17 rfl)) (ty := (.object "java/lang/String")) (by decide)
        have F_rack_b50 : Fld Z h50 b50 "org/stripeward/scenario/Node" "rack" "Lorg/stripeward/scenario/Rack;" .null := D50 (Or.inr (gw hw 19 rfl)) (ty := (.object "org/stripeward/scenario/Rack")) (by decide)
        refine Gs st50 ?_
        show Goes _ _ _ _ _ (T50.setTop (mkF m 38 #[.val (.int x0), .val (.int x1), .val (.int x2), .val (.int x3), .val (.int (1 : Int32)), .val (.int (1 : Int32)), .val (.int pz), .unset, .unset, .unset, .unset, .unset, .unset, .unset] [(.ref b50)]))
        refine Gs (fun _ tk => XS.dup X50.here hx rfl (hb hby at_38) rfl rfl tk) ?_
        refine Gs (fun _ tk => XS.iloadN X50.here hx rfl (hb hby at_39) rfl tk) ?_
        refine Gs (fun _ tk => XS.aconstNull X50.here hx rfl (hb hby at_40) tk) ?_
        refine Gs (fun _ tk => XS.aconstNull X50.here hx rfl (hb hby at_41) tk) ?_
        obtain ⟨_, _, ⟨T51, L51, k51, n51⟩, -, X51, ⟨Lc51, hQ51, l51, y51, z51⟩, st51⟩ := X50.specialBack hx (y := mN25) rfl hown (mvT hZ (gw hw 3 rfl)) (mvT hZ (gw hw 4 rfl)) (mvT hZ (gw hw 5 rfl)) (by decide) (backOf (W := 1) (rm_node l Z a0 hw [] b50 x3 h50 n0 Z0 A_b50 F_index_b50 F_name_b50 F_rack_b50 g_b50) hZ (gw hw 5 rfl) (gw hw 2 rfl) (by decide) (by decide)) (g := (mkF m 42 #[.val (.int x0), .val (.int x1), .val (.int x2), .val (.int x3), .val (.int (1 : Int32)), .val (.int (1 : Int32)), .val (.int pz), .unset, .unset, .unset, .unset, .unset, .unset, .unset] [.null, .null, (.int x3), (.ref b50), (.ref b50)])) rfl (by rw [hml]; rfl) (Steps.refl _) (a := b50) (argsL := [(.int x3), .null, .null]) (rest := [(.ref b50)]) (lenOf own_pd20 rfl) rfl (w0 (Nat.le_of_eq rfl)) (hb hby at_42) (fun _ _ => ⟨rfl, e50, (by decide : 1 + 0 ≤ _), (by decide : 3 + 0 ≤ _)⟩)
        dsimp only [Pt.U, Pt.locs, Pt.cells, Pt.slots] at X51 l51 y51 z51 st51 hQ51
        subst l51 y51 z51
        obtain ⟨rfl, N51q, K51⟩ := hQ51
        have N51 := Fr.app N0 N51q
        replace S_DEFAULTCAPACITY_EMPTY_ELEMENTDATA := own_staK S_DEFAULTCAPACITY_EMPTY_ELEMENTDATA K51 (allS (own_obE A_b50) all0)
        replace S_EMPTY_LIST := own_staK S_EMPTY_LIST K51 (allS (own_obE A_b50) all0)
        replace S_EMPTY := own_staK S_EMPTY K51 (allS (own_obE A_b50) all0)
        replace V_d := V_d.keep K51 (ninS ne_d_b50 nin0)
        replace A_nl := A_nl.keep K51
        replace F_elements_nl := F_elements_nl.keep K51 (ninS ne_nl_b50 nin0)
        replace V_ea := V_ea.keep K51 (ninS ne_ea_b50 nin0)
        replace A_em := A_em.keep K51
        replace A_no := A_no.keep K51
        replace A_b50 := A_b50.keep K51
        replace Z0 := Nat.le_trans Z0 K51.1
        refine Gs (fun _ tk => st51.trans tk) ?_
        show Goes _ _ _ _ _ (T51.setTop (mkF m 45 #[.val (.int x0), .val (.int x1), .val (.int x2), .val (.int x3), .val (.int (1 : Int32)), .val (.int (1 : Int32)), .val (.int pz), .unset, .unset, .unset, .unset, .unset, .unset, .unset] [(.ref b50)]))
        refine Gs (fun _ tk => XS.astore X51.here hx rfl (hb hby at_45) rfl rfl (l' := #[.val (.int x0), .val (.int x1), .val (.int x2), .val (.int x3), .val (.int (1 : Int32)), .val (.int (1 : Int32)), .val (.int pz), .val (.ref b50), .unset, .unset, .unset, .unset, .unset, .unset]) rfl tk) ?_
        obtain ⟨T52, h52, X52, e52, E52, A52, D52, -, st52⟩ := newO X51 hx hZ hown (gw hw 20 rfl) (gw hw 21 rfl) (gw hw 22 rfl) rfl (g := (mkF m 47 #[.val (.int x0), .val (.int x1), .val (.int x2), .val (.int x3), .val (.int (1 : Int32)), .val (.int (1 : Int32)), .val (.int pz), .val (.ref b50), .unset, .unset, .unset, .unset, .unset, .unset] [])) rfl (hb hby at_47) (by decide) (by decide)
        obtain ⟨b52, gq52⟩ : ∃ z, z = T51.heap.size := ⟨_, rfl⟩
        rw [← gq52] at A52 st52 D52
        have g_b52 : n0 ≤ b52 := by rw [gq52]; exact Z0
        have ne_d_b52 : d ≠ b52 := by rw [gq52]; exact Nat.ne_of_lt V_d.lt
        have ne_nl_b52 : nl ≠ b52 := by rw [gq52]; exact Nat.ne_of_lt A_nl.lt
        have ne_ea_b52 : ea ≠ b52 := by rw [gq52]; exact Nat.ne_of_lt V_ea.lt
        have ne_em_b52 : em ≠ b52 := by rw [gq52]; exact Nat.ne_of_lt A_em.lt
        have ne_no_b52 : no ≠ b52 := by rw [gq52]; exact Nat.ne_of_lt A_no.lt
        have ne_b50_b52 : b50 ≠ b52 := by rw [gq52]; exact Nat.ne_of_lt A_b50.lt
        replace S_DEFAULTCAPACITY_EMPTY_ELEMENTDATA := S_DEFAULTCAPACITY_EMPTY_ELEMENTDATA.ext E52
        replace V_d := V_d.ext E52
        replace S_EMPTY_LIST := S_EMPTY_LIST.ext E52
        replace A_nl := A_nl.ext E52
        replace F_elements_nl := F_elements_nl.ext E52
        replace V_ea := V_ea.ext E52
        replace S_EMPTY := S_EMPTY.ext E52
        replace A_em := A_em.ext E52
        replace A_no := A_no.ext E52
        replace A_b50 := A_b50.ext E52
        replace Z0 : n0 ≤ h52.size := Nat.le_trans Z0 E52.1
        have A_b52 : Exa Z h52 b52 "java/util/ArrayList" := A52
        have F_modCount_b52 : Fld Z h52 b52 "java/util/AbstractList" "modCount" "I" (.int (0 : Int32)) := D52 (Or.inl (gw hw 40 rfl)) (ty := .int) (by decide)
        have F_elementData_b52 : Fld Z h52 b52 "java/util/ArrayList" "elementData" "[Ljava/lang/Object;" .null := D52 (Or.inl (gw hw 43 rfl)) (ty := (.array (.object "java/lang/Object"))) (by decide)
        have F_size_b52 : Fld Z h52 b52 "java/util/ArrayList" "size" "I" (.int (0 : Int32)) := D52 (Or.inl (gw hw 75 rfl)) (ty := .int) (by decide)
        refine Gs st52 ?_
        show Goes _ _ _ _ _ (T52.setTop (mkF m 50 #[.val (.int x0), .val (.int x1), .val (.int x2), .val (.int x3), .val (.int (1 : Int32)), .val (.int (1 : Int32)), .val (.int pz), .val (.ref b50), .unset, .unset, .unset, .unset, .unset, .unset] [(.ref b52)]))
        refine Gs (fun _ tk => XS.dup X52.here hx rfl (hb hby at_50) rfl rfl tk) ?_
        obtain ⟨_, _, ⟨T53, L53, k53, n53⟩, -, X53, ⟨Lc53, hQ53, l53, y53, z53⟩, st53⟩ := X52.specialBack hx (y := mN6) rfl hown (mvT hZ (gw hw 23 rfl)) (mvT hZ (gw hw 24 rfl)) (mvT hZ (gw hw 25 rfl)) (by decide) (backOf (W := 1) (rm_alinit l Z a0 hw [] b52 d h52 n0 Z0 A_b52 F_modCount_b52 F_elementData_b52 F_size_b52 S_DEFAULTCAPACITY_EMPTY_ELEMENTDATA g_b52) hZ (gw hw 25 rfl) (gw hw 22 rfl) (by decide) (by decide)) (g := (mkF m 51 #[.val (.int x0), .val (.int x1), .val (.int x2), .val (.int x3), .val (.int (1 : Int32)), .val (.int (1 : Int32)), .val (.int pz), .val (.ref b50), .unset, .unset, .unset, .unset, .unset, .unset] [(.ref b52), (.ref b52)])) rfl (by rw [hml]; rfl) (Steps.refl _) (a := b52) (argsL := []) (rest := [(.ref b52)]) (lenOf own_pd0 rfl) rfl (w0 (Nat.le_of_eq rfl)) (hb hby at_51) (fun _ _ => ⟨rfl, e52, (by decide : 2 + 0 ≤ _), (by decide : 6 + 0 ≤ _)⟩)
        dsimp only [Pt.U, Pt.locs, Pt.cells, Pt.slots] at X53 l53 y53 z53 st53 hQ53
        subst l53 y53 z53
        obtain ⟨rfl, N53q, K53, F_modCount_b52_53', F_elementData_b52_53', F_size_b52_53'⟩ := hQ53
        have N53 := Fr.app N51 N53q
        replace S_DEFAULTCAPACITY_EMPTY_ELEMENTDATA := own_staK S_DEFAULTCAPACITY_EMPTY_ELEMENTDATA K53 (allS (own_obE A_b52) all0)
        replace S_EMPTY_LIST := own_staK S_EMPTY_LIST K53 (allS (own_obE A_b52) all0)
        replace S_EMPTY := own_staK S_EMPTY K53 (allS (own_obE A_b52) all0)
        replace V_d := V_d.keep K53 (ninS ne_d_b52 nin0)
        replace A_nl := A_nl.keep K53
        replace F_elements_nl := F_elements_nl.keep K53 (ninS ne_nl_b52 nin0)
        replace V_ea := V_ea.keep K53 (ninS ne_ea_b52 nin0)
        replace A_em := A_em.keep K53
        replace A_no := A_no.keep K53
        replace A_b50 := A_b50.keep K53
        replace A_b52 := A_b52.keep K53
        replace Z0 := Nat.le_trans Z0 K53.1
        have F_modCount_b52 := F_modCount_b52_53'
        have F_elementData_b52 := F_elementData_b52_53'
        have F_size_b52 := F_size_b52_53'
        refine Gs (fun _ tk => st53.trans tk) ?_
        show Goes _ _ _ _ _ (T53.setTop (mkF m 54 #[.val (.int x0), .val (.int x1), .val (.int x2), .val (.int x3), .val (.int (1 : Int32)), .val (.int (1 : Int32)), .val (.int pz), .val (.ref b50), .unset, .unset, .unset, .unset, .unset, .unset] [(.ref b52)]))
        refine Gs (fun _ tk => XS.astore X53.here hx rfl (hb hby at_54) rfl rfl (l' := #[.val (.int x0), .val (.int x1), .val (.int x2), .val (.int x3), .val (.int (1 : Int32)), .val (.int (1 : Int32)), .val (.int pz), .val (.ref b50), .val (.ref b52), .unset, .unset, .unset, .unset, .unset]) rfl tk) ?_
        refine Gs (fun _ tk => XS.iload X53.here hx rfl (hb hby at_56) rfl tk) ?_
        refine Gs (fun _ tk => XS.ifNo X53.here hx rfl (hb hby at_58) rfl ((if0 _ _).trans (feq (by decide : ¬ ((1 : Int32) = (0 : Int32)))).1) tk) ?_
        refine Gs (fun _ tk => XS.aload X53.here hx rfl (hb hby at_61) rfl rfl tk) ?_
        refine Gs (fun _ tk => XS.aload X53.here hx rfl (hb hby at_63) rfl rfl tk) ?_
        have ltc54_d : d < T53.heap.size := V_d.lt
        have ltc54_nl : nl < T53.heap.size := A_nl.lt
        have ltc54_ea : ea < T53.heap.size := V_ea.lt
        have ltc54_em : em < T53.heap.size := A_em.lt
        have ltc54_no : no < T53.heap.size := A_no.lt
        have ltc54_b50 : b50 < T53.heap.size := A_b50.lt
        have ltc54_b52 : b52 < T53.heap.size := A_b52.lt
        obtain ⟨cq54, kq54, q54a, q54b, q54c⟩ := isOf hZ rfl A_b52
        obtain ⟨_, _, ⟨T54, L54, k54, n54⟩, -, X54, ⟨Lc54, hQ54, l54, y54, z54⟩, st54⟩ := X53.interfaceBack hx (xi := mN49) (y := mN12) hown (mvT hZ (gw hw 113 rfl)) (mvT hZ (gw hw 114 rfl)) (mvT hZ (gw hw 115 rfl)) (mvT hZ (gw hw 116 rfl)) (mvT hZ (gw hw 117 rfl)) (mvT hZ (gw hw 118 rfl)) (mvT hZ (gw hw 119 rfl)) (mvT hZ (gw hw 102 rfl)) (by decide) (backOf (W := 0) (rm_add0 l Z a0 hw [] b52 b50 (0 : Int32) d kd T53.heap n0 Z0 A_b52 F_modCount_b52 F_elementData_b52 F_size_b52 S_DEFAULTCAPACITY_EMPTY_ELEMENTDATA V_d g_b52 ne_d_b52 (Ins.of_exa A_b50 (gw hw 144 rfl))) hZ (gw hw 120 rfl) (gw hw 22 rfl) (by decide) (by decide)) q54a q54b q54c (g := (mkF m 65 #[.val (.int x0), .val (.int x1), .val (.int x2), .val (.int x3), .val (.int (1 : Int32)), .val (.int (1 : Int32)), .val (.int pz), .val (.ref b50), .val (.ref b52), .unset, .unset, .unset, .unset, .unset] [(.ref b50), (.ref b52)])) rfl (by rw [hml]; rfl) (Steps.refl _) (argsL := [(.ref b50)]) (rest := []) (lenOf own_pd23 rfl) rfl (w0 (Nat.le_of_eq rfl)) (hb hby at_65) (fun _ _ => ⟨rfl, rfl, (by decide : 2 + 1 ≤ _), (by decide : 6 + 10 ≤ _)⟩)
        dsimp only [Pt.U, Pt.locs, Pt.cells, Pt.slots] at X54 l54 y54 z54 st54 hQ54
        subst l54 y54 z54
        obtain ⟨b54, kb54, rfl, N54q, K54, F_modCount_b52_54', F_elementData_b52_54', F_size_b52_54', V_b54_54', A_b54_54', Ov_54', g_b54_54', sz_b54_54'⟩ := hQ54
        have N54 := Fr.app N53 N54q
        replace S_DEFAULTCAPACITY_EMPTY_ELEMENTDATA := own_staK S_DEFAULTCAPACITY_EMPTY_ELEMENTDATA K54 (allS (own_obE A_b52) all0)
        replace S_EMPTY_LIST := own_staK S_EMPTY_LIST K54 (allS (own_obE A_b52) all0)
        replace S_EMPTY := own_staK S_EMPTY K54 (allS (own_obE A_b52) all0)
        replace V_d := V_d.keep K54 (ninS ne_d_b52 nin0)
        replace A_nl := A_nl.keep K54
        replace F_elements_nl := F_elements_nl.keep K54 (ninS ne_nl_b52 nin0)
        replace V_ea := V_ea.keep K54 (ninS ne_ea_b52 nin0)
        replace A_em := A_em.keep K54
        replace A_no := A_no.keep K54
        replace A_b50 := A_b50.keep K54
        replace A_b52 := A_b52.keep K54
        replace Z0 := Nat.le_trans Z0 K54.1
        have F_elementData_b52 := F_elementData_b52_54'
        have F_size_b52 := F_size_b52_54'
        have V_b54 := V_b54_54'
        have A_b54 := A_b54_54'
        have g_b54 := g_b54_54'
        have szc_b54 := sz_b54_54'
        have ne_d_b54 : d ≠ b54 := Nat.ne_of_lt (Nat.lt_of_lt_of_le ltc54_d szc_b54)
        have ne_nl_b54 : nl ≠ b54 := Nat.ne_of_lt (Nat.lt_of_lt_of_le ltc54_nl szc_b54)
        have ne_ea_b54 : ea ≠ b54 := Nat.ne_of_lt (Nat.lt_of_lt_of_le ltc54_ea szc_b54)
        have ne_em_b54 : em ≠ b54 := Nat.ne_of_lt (Nat.lt_of_lt_of_le ltc54_em szc_b54)
        have ne_no_b54 : no ≠ b54 := Nat.ne_of_lt (Nat.lt_of_lt_of_le ltc54_no szc_b54)
        have ne_b50_b54 : b50 ≠ b54 := Nat.ne_of_lt (Nat.lt_of_lt_of_le ltc54_b50 szc_b54)
        have ne_b52_b54 : b52 ≠ b54 := Nat.ne_of_lt (Nat.lt_of_lt_of_le ltc54_b52 szc_b54)
        refine Gs (fun _ tk => st54.trans tk) ?_
        show Goes _ _ _ _ _ (T54.setTop (mkF m 70 #[.val (.int x0), .val (.int x1), .val (.int x2), .val (.int x3), .val (.int (1 : Int32)), .val (.int (1 : Int32)), .val (.int pz), .val (.ref b50), .val (.ref b52), .unset, .unset, .unset, .unset, .unset] [(.int (1 : Int32))]))
        refine Gs (fun _ tk => XS.pop X54.here hx rfl (hb hby at_70) rfl rfl tk) ?_
        obtain ⟨T55, h55, X55, e55, E55, A55, D55, -, st55⟩ := newO X54 hx hZ hown (gw hw 44 rfl) (gw hw 45 rfl) (gw hw 46 rfl) rfl (g := (mkF m 71 #[.val (.int x0), .val (.int x1), .val (.int x2), .val (.int x3), .val (.int (1 : Int32)), .val (.int (1 : Int32)), .val (.int pz), .val (.ref b50), .val (.ref b52), .unset, .unset, .unset, .unset, .unset] [])) rfl (hb hby at_71) (by decide) (by decide)
        obtain ⟨b55, gq55⟩ : ∃ z, z = T54.heap.size := ⟨_, rfl⟩
        rw [← gq55] at A55 st55 D55
        have g_b55 : n0 ≤ b55 := by rw [gq55]; exact Z0
        have ne_d_b55 : d ≠ b55 := by rw [gq55]; exact Nat.ne_of_lt V_d.lt
        have ne_nl_b55 : nl ≠ b55 := by rw [gq55]; exact Nat.ne_of_lt A_nl.lt
        have ne_ea_b55 : ea ≠ b55 := by rw [gq55]; exact Nat.ne_of_lt V_ea.lt
        have ne_em_b55 : em ≠ b55 := by rw [gq55]; exact Nat.ne_of_lt A_em.lt
        have ne_no_b55 : no ≠ b55 := by rw [gq55]; exact Nat.ne_of_lt A_no.lt
        have ne_b50_b55 : b50 ≠ b55 := by rw [gq55]; exact Nat.ne_of_lt A_b50.lt
        have ne_b52_b55 : b52 ≠ b55 := by rw [gq55]; exact Nat.ne_of_lt A_b52.lt
        have ne_b54_b55 : b54 ≠ b55 := by rw [gq55]; exact Nat.ne_of_lt V_b54.lt
        replace S_DEFAULTCAPACITY_EMPTY_ELEMENTDATA := S_DEFAULTCAPACITY_EMPTY_ELEMENTDATA.ext E55
        replace V_d := V_d.ext E55
        replace S_EMPTY_LIST := S_EMPTY_LIST.ext E55
        replace A_nl := A_nl.ext E55
        replace F_elements_nl := F_elements_nl.ext E55
        replace V_ea := V_ea.ext E55
        replace S_EMPTY := S_EMPTY.ext E55
        replace A_em := A_em.ext E55
        replace A_no := A_no.ext E55
        replace A_b50 := A_b50.ext E55
        replace A_b52 := A_b52.ext E55
        replace F_elementData_b52 := F_elementData_b52.ext E55
        replace F_size_b52 := F_size_b52.ext E55
        replace V_b54 := V_b54.ext E55
        replace A_b54 := A_b54.ext E55
        replace Z0 : n0 ≤ h55.size := Nat.le_trans Z0 E55.1
        have A_b55 : Exa Z h55 b55 "org/stripeward/scenario/Block" := A55
        have F_index_b55 : Fld Z h55 b55 "org/stripeward/scenario/Block" "index" "I" (.int (0 : Int32)) := D55 (Or.inr (gw hw 81 rfl)) (ty := .int) (by decide)
        have F_name_b55 : Fld Z h55 b55 "org/stripeward/scenario/Block" "name" "Ljava/lang/String;" .null := D55 (Or.inr (gw hw 83 rfl)) (ty := (.object "java/lang/String")) (by decide)
        have F_holders_b55 : Fld Z h55 b55 "org/stripeward/scenario/Block" "holders" "Ljava/util/List;" .null := D55 (Or.inr (gw hw 85 rfl)) (ty := (.object "java/util/List")) (by decide)
        have F_stripe_b55 : Fld Z h55 b55 "org/stripeward/scenario/Block" "stripe" "Lorg/stripeward/scenario/Stripe;" .null := D55 (Or.inr (gw hw 87 rfl)) (ty := (.object "org/stripeward/scenario/Stripe")) (by decide)
        have F_parity_b55 : Fld Z h55 b55 "org/stripeward/scenario/Block" "parity" "Z" (.int (0 : Int32)) := D55 (Or.inr (gw hw 89 rfl)) (ty := .boolean) (by decide)
        have F_sizeMiB_b55 : Fld Z h55 b55 "org/stripeward/scenario/Block" "sizeMiB" "D" (.double (0 : UInt64)) := D55 (Or.inr (gw hw 91 rfl)) (ty := .double) (by decide)
        refine Gs st55 ?_
        show Goes _ _ _ _ _ (T55.setTop (mkF m 74 #[.val (.int x0), .val (.int x1), .val (.int x2), .val (.int x3), .val (.int (1 : Int32)), .val (.int (1 : Int32)), .val (.int pz), .val (.ref b50), .val (.ref b52), .unset, .unset, .unset, .unset, .unset] [(.ref b55)]))
        refine Gs (fun _ tk => XS.dup X55.here hx rfl (hb hby at_74) rfl rfl tk) ?_
        refine Gs (fun _ tk => XS.iloadN X55.here hx rfl (hb hby at_75) rfl tk) ?_
        refine Gs (fun _ tk => XS.aconstNull X55.here hx rfl (hb hby at_76) tk) ?_
        refine Gs (fun _ tk => XS.aload X55.here hx rfl (hb hby at_77) rfl rfl tk) ?_
        refine Gs (fun _ tk => XS.aconstNull X55.here hx rfl (hb hby at_79) tk) ?_
        refine Gs (fun _ tk => XS.iload X55.here hx rfl (hb hby at_80) rfl tk) ?_
        show Goes _ _ _ _ _ (T55.setTop (mkF m 82 #[.val (.int x0), .val (.int x1), .val (.int x2), .val (.int x3), .val (.int (1 : Int32)), .val (.int (1 : Int32)), .val (.int pz), .val (.ref b50), .val (.ref b52), .unset, .unset, .unset, .unset, .unset] [(.int pz), .null, (.ref b52), .null, (.int x1), (.ref b55), (.ref b55)]))
        refine Gs (fun _ tk => XS.dconst1 X55.here hx rfl (hb hby at_82) rfl tk) ?_
        have ltc56_d : d < h55.size := V_d.lt
        have ltc56_nl : nl < h55.size := A_nl.lt
        have ltc56_ea : ea < h55.size := V_ea.lt
        have ltc56_em : em < h55.size := A_em.lt
        have ltc56_no : no < h55.size := A_no.lt
        have ltc56_b50 : b50 < h55.size := A_b50.lt
        have ltc56_b52 : b52 < h55.size := A_b52.lt
        have ltc56_b54 : b54 < h55.size := V_b54.lt
        have ltc56_b55 : b55 < h55.size := A_b55.lt
        obtain ⟨_, _, ⟨T56, L56, k56, n56⟩, -, X56, ⟨Lc56, hQ56, l56, y56, z56⟩, st56⟩ := X55.specialBack hx (y := mN26) rfl hown (mvT hZ (gw hw 47 rfl)) (mvT hZ (gw hw 48 rfl)) (mvT hZ (gw hw 49 rfl)) (by decide) (backOf (W := 1) (rm_block1 l Z a0 hw [] b55 x1 b52 pz FP.dconst1 b50 b54 kb54 mr em h55 n0 Z0 A_b55 F_index_b55 F_name_b55 F_holders_b55 F_stripe_b55 F_parity_b55 F_sizeMiB_b55 g_b55 A_b52 F_elementData_b52 F_size_b52 V_b54 A_b54 (Ins.of_exa A_b50 (gw hw 144 rfl)) (by first | assumption | decide) S_EMPTY ne_b52_b55 ne_b54_b55) hZ (gw hw 49 rfl) (gw hw 46 rfl) (by decide) (by decide)) (g := (mkF m 83 #[.val (.int x0), .val (.int x1), .val (.int x2), .val (.int x3), .val (.int (1 : Int32)), .val (.int (1 : Int32)), .val (.int pz), .val (.ref b50), .val (.ref b52), .unset, .unset, .unset, .unset, .unset] [(.double FP.dconst1), (.int pz), .null, (.ref b52), .null, (.int x1), (.ref b55), (.ref b55)])) rfl (by rw [hml]; rfl) (Steps.refl _) (a := b55) (argsL := [(.int x1), .null, (.ref b52), .null, (.int pz), (.double FP.dconst1)]) (rest := [(.ref b55)]) (lenOf own_pd21 rfl) rfl (w0 (Nat.le_of_eq rfl)) (hb hby at_83) (fun _ _ => ⟨rfl, e55, (by decide : 4 + 2 ≤ _), (by decide : 22 + 3 ≤ _)⟩)
        dsimp only [Pt.U, Pt.locs, Pt.cells, Pt.slots] at X56 l56 y56 z56 st56 hQ56
        subst l56 y56 z56
        obtain ⟨u56, rfl, N56q, K56, F_index_b55_56', F_holders_b55_56', A_u56_56', F_e0_u56_56', F_e1_u56_56', g_u56_56', sz_u56_56'⟩ := hQ56
        have N56 := Fr.app N54 N56q
        replace S_DEFAULTCAPACITY_EMPTY_ELEMENTDATA := own_staK S_DEFAULTCAPACITY_EMPTY_ELEMENTDATA K56 (allS (own_obE A_b55) all0)
        replace S_EMPTY_LIST := own_staK S_EMPTY_LIST K56 (allS (own_obE A_b55) all0)
        replace S_EMPTY := own_staK S_EMPTY K56 (allS (own_obE A_b55) all0)
        replace V_d := V_d.keep K56 (ninS ne_d_b55 nin0)
        replace A_nl := A_nl.keep K56
        replace F_elements_nl := F_elements_nl.keep K56 (ninS ne_nl_b55 nin0)
        replace V_ea := V_ea.keep K56 (ninS ne_ea_b55 nin0)
        replace A_em := A_em.keep K56
        replace A_no := A_no.keep K56
        replace A_b50 := A_b50.keep K56
        replace A_b52 := A_b52.keep K56
        replace F_elementData_b52 := F_elementData_b52.keep K56 (ninS ne_b52_b55 nin0)
        replace F_size_b52 := F_size_b52.keep K56 (ninS ne_b52_b55 nin0)
        replace V_b54 := V_b54.keep K56 (ninS ne_b54_b55 nin0)
        replace A_b54 := A_b54.keep K56
        replace A_b55 := A_b55.keep K56
        replace Z0 := Nat.le_trans Z0 K56.1
        have F_index_b55 := F_index_b55_56'
        have F_holders_b55 := F_holders_b55_56'
        have A_u56 := A_u56_56'
        have F_e1_u56 := F_e1_u56_56'
        have g_u56 := g_u56_56'
        have szc_u56 := sz_u56_56'
        have ne_d_u56 : d ≠ u56 := Nat.ne_of_lt (Nat.lt_of_lt_of_le ltc56_d szc_u56)
        have ne_nl_u56 : nl ≠ u56 := Nat.ne_of_lt (Nat.lt_of_lt_of_le ltc56_nl szc_u56)
        have ne_ea_u56 : ea ≠ u56 := Nat.ne_of_lt (Nat.lt_of_lt_of_le ltc56_ea szc_u56)
        have ne_em_u56 : em ≠ u56 := Nat.ne_of_lt (Nat.lt_of_lt_of_le ltc56_em szc_u56)
        have ne_no_u56 : no ≠ u56 := Nat.ne_of_lt (Nat.lt_of_lt_of_le ltc56_no szc_u56)
        have ne_b50_u56 : b50 ≠ u56 := Nat.ne_of_lt (Nat.lt_of_lt_of_le ltc56_b50 szc_u56)
        have ne_b52_u56 : b52 ≠ u56 := Nat.ne_of_lt (Nat.lt_of_lt_of_le ltc56_b52 szc_u56)
        have ne_b54_u56 : b54 ≠ u56 := Nat.ne_of_lt (Nat.lt_of_lt_of_le ltc56_b54 szc_u56)
        have ne_b55_u56 : b55 ≠ u56 := Nat.ne_of_lt (Nat.lt_of_lt_of_le ltc56_b55 szc_u56)
        refine Gs (fun _ tk => st56.trans tk) ?_
        show Goes _ _ _ _ _ (T56.setTop (mkF m 86 #[.val (.int x0), .val (.int x1), .val (.int x2), .val (.int x3), .val (.int (1 : Int32)), .val (.int (1 : Int32)), .val (.int pz), .val (.ref b50), .val (.ref b52), .unset, .unset, .unset, .unset, .unset] [(.ref b55)]))
        refine Gs (fun _ tk => XS.astore X56.here hx rfl (hb hby at_86) rfl rfl (l' := #[.val (.int x0), .val (.int x1), .val (.int x2), .val (.int x3), .val (.int (1 : Int32)), .val (.int (1 : Int32)), .val (.int pz), .val (.ref b50), .val (.ref b52), .val (.ref b55), .unset, .unset, .unset, .unset]) rfl tk) ?_
        obtain ⟨T57, h57, X57, e57, E57, A57, D57, -, st57⟩ := newO X56 hx hZ hown (gw hw 44 rfl) (gw hw 45 rfl) (gw hw 46 rfl) rfl (g := (mkF m 88 #[.val (.int x0), .val (.int x1), .val (.int x2), .val (.int x3), .val (.int (1 : Int32)), .val (.int (1 : Int32)), .val (.int pz), .val (.ref b50), .val (.ref b52), .val (.ref b55), .unset, .unset, .unset, .unset] [])) rfl (hb hby at_88) (by decide) (by decide)
        obtain ⟨b57, gq57⟩ : ∃ z, z = T56.heap.size := ⟨_, rfl⟩
        rw [← gq57] at A57 st57 D57
        have g_b57 : n0 ≤ b57 := by rw [gq57]; exact Z0
        have ne_d_b57 : d ≠ b57 := by rw [gq57]; exact Nat.ne_of_lt V_d.lt
        have ne_nl_b57 : nl ≠ b57 := by rw [gq57]; exact Nat.ne_of_lt A_nl.lt
        have ne_ea_b57 : ea ≠ b57 := by rw [gq57]; exact Nat.ne_of_lt V_ea.lt
        have ne_em_b57 : em ≠ b57 := by rw [gq57]; exact Nat.ne_of_lt A_em.lt
        have ne_no_b57 : no ≠ b57 := by rw [gq57]; exact Nat.ne_of_lt A_no.lt
        have ne_b50_b57 : b50 ≠ b57 := by rw [gq57]; exact Nat.ne_of_lt A_b50.lt
        have ne_b52_b57 : b52 ≠ b57 := by rw [gq57]; exact Nat.ne_of_lt A_b52.lt
        have ne_b54_b57 : b54 ≠ b57 := by rw [gq57]; exact Nat.ne_of_lt V_b54.lt
        have ne_b55_b57 : b55 ≠ b57 := by rw [gq57]; exact Nat.ne_of_lt A_b55.lt
        have ne_u56_b57 : u56 ≠ b57 := by rw [gq57]; exact Nat.ne_of_lt A_u56.lt
        replace S_DEFAULTCAPACITY_EMPTY_ELEMENTDATA := S_DEFAULTCAPACITY_EMPTY_ELEMENTDATA.ext E57
        replace V_d := V_d.ext E57
        replace S_EMPTY_LIST := S_EMPTY_LIST.ext E57
        replace A_nl := A_nl.ext E57
        replace F_elements_nl := F_elements_nl.ext E57
        replace V_ea := V_ea.ext E57
        replace S_EMPTY := S_EMPTY.ext E57
        replace A_em := A_em.ext E57
        replace A_no := A_no.ext E57
        replace A_b50 := A_b50.ext E57
        replace A_b52 := A_b52.ext E57
        replace F_elementData_b52 := F_elementData_b52.ext E57
        replace F_size_b52 := F_size_b52.ext E57
        replace V_b54 := V_b54.ext E57
        replace A_b54 := A_b54.ext E57
        replace A_b55 := A_b55.ext E57
        replace F_index_b55 := F_index_b55.ext E57
        replace F_holders_b55 := F_holders_b55.ext E57
        replace A_u56 := A_u56.ext E57
        replace F_e1_u56 := F_e1_u56.ext E57
        replace Z0 : n0 ≤ h57.size := Nat.le_trans Z0 E57.1
        have A_b57 : Exa Z h57 b57 "org/stripeward/scenario/Block" := A57
        have F_index_b57 : Fld Z h57 b57 "org/stripeward/scenario/Block" "index" "I" (.int (0 : Int32)) := D57 (Or.inr (gw hw 81 rfl)) (ty := .int) (by decide)
        have F_name_b57 : Fld Z h57 b57 "org/stripeward/scenario/Block" "name" "Ljava/lang/String;" .null := D57 (Or.inr (gw hw 83 rfl)) (ty := (.object "java/lang/String")) (by decide)
        have F_holders_b57 : Fld Z h57 b57 "org/stripeward/scenario/Block" "holders" "Ljava/util/List;" .null := D57 (Or.inr (gw hw 85 rfl)) (ty := (.object "java/util/List")) (by decide)
        have F_stripe_b57 : Fld Z h57 b57 "org/stripeward/scenario/Block" "stripe" "Lorg/stripeward/scenario/Stripe;" .null := D57 (Or.inr (gw hw 87 rfl)) (ty := (.object "org/stripeward/scenario/Stripe")) (by decide)
        have F_parity_b57 : Fld Z h57 b57 "org/stripeward/scenario/Block" "parity" "Z" (.int (0 : Int32)) := D57 (Or.inr (gw hw 89 rfl)) (ty := .boolean) (by decide)
        have F_sizeMiB_b57 : Fld Z h57 b57 "org/stripeward/scenario/Block" "sizeMiB" "D" (.double (0 : UInt64)) := D57 (Or.inr (gw hw 91 rfl)) (ty := .double) (by decide)
        refine Gs st57 ?_
        show Goes _ _ _ _ _ (T57.setTop (mkF m 91 #[.val (.int x0), .val (.int x1), .val (.int x2), .val (.int x3), .val (.int (1 : Int32)), .val (.int (1 : Int32)), .val (.int pz), .val (.ref b50), .val (.ref b52), .val (.ref b55), .unset, .unset, .unset, .unset] [(.ref b57)]))
        refine Gs (fun _ tk => XS.dup X57.here hx rfl (hb hby at_91) rfl rfl tk) ?_
        refine Gs (fun _ tk => XS.iloadN X57.here hx rfl (hb hby at_92) rfl tk) ?_
        refine Gs (fun _ tk => XS.aconstNull X57.here hx rfl (hb hby at_93) tk) ?_
        refine Gs (fun _ tk => XS.aload X57.here hx rfl (hb hby at_94) rfl rfl tk) ?_
        refine Gs (fun _ tk => XS.aconstNull X57.here hx rfl (hb hby at_96) tk) ?_
        refine Gs (fun _ tk => XS.iconst X57.here hx rfl (hb hby at_97) tk) ?_
        show Goes _ _ _ _ _ (T57.setTop (mkF m 98 #[.val (.int x0), .val (.int x1), .val (.int x2), .val (.int x3), .val (.int (1 : Int32)), .val (.int (1 : Int32)), .val (.int pz), .val (.ref b50), .val (.ref b52), .val (.ref b55), .unset, .unset, .unset, .unset] [(.int (0 : Int32)), .null, (.ref b52), .null, (.int x2), (.ref b57), (.ref b57)]))
        refine Gs (fun _ tk => X57.ldc2DoubleC hx hown (mvT hZ (gw hw 92 rfl)) (g := (mkF m 98 #[.val (.int x0), .val (.int x1), .val (.int x2), .val (.int x3), .val (.int (1 : Int32)), .val (.int (1 : Int32)), .val (.int pz), .val (.ref b50), .val (.ref b52), .val (.ref b55), .unset, .unset, .unset, .unset] [(.int (0 : Int32)), .null, (.ref b52), .null, (.int x2), (.ref b57), (.ref b57)])) rfl (hb hby at_98) _ tk) ?_
        show Goes _ _ _ _ _ (T57.setTop (mkF m 101 #[.val (.int x0), .val (.int x1), .val (.int x2), .val (.int x3), .val (.int (1 : Int32)), .val (.int (1 : Int32)), .val (.int pz), .val (.ref b50), .val (.ref b52), .val (.ref b55), .unset, .unset, .unset, .unset] [(.double (4611686018427387904 : UInt64)), (.int (0 : Int32)), .null, (.ref b52), .null, (.int x2), (.ref b57), (.ref b57)]))
        have ltc58_d : d < h57.size := V_d.lt
        have ltc58_nl : nl < h57.size := A_nl.lt
        have ltc58_ea : ea < h57.size := V_ea.lt
        have ltc58_em : em < h57.size := A_em.lt
        have ltc58_no : no < h57.size := A_no.lt
        have ltc58_b50 : b50 < h57.size := A_b50.lt
        have ltc58_b52 : b52 < h57.size := A_b52.lt
        have ltc58_b54 : b54 < h57.size := V_b54.lt
        have ltc58_b55 : b55 < h57.size := A_b55.lt
        have ltc58_u56 : u56 < h57.size := A_u56.lt
        have ltc58_b57 : b57 < h57.size := A_b57.lt
        obtain ⟨_, _, ⟨T58, L58, k58, n58⟩, -, X58, ⟨Lc58, hQ58, l58, y58, z58⟩, st58⟩ := X57.specialBack hx (y := mN26) rfl hown (mvT hZ (gw hw 47 rfl)) (mvT hZ (gw hw 48 rfl)) (mvT hZ (gw hw 49 rfl)) (by decide) (backOf (W := 1) (rm_block1 l Z a0 hw [] b57 x2 b52 (0 : Int32) (4611686018427387904 : UInt64) b50 b54 kb54 mr em h57 n0 Z0 A_b57 F_index_b57 F_name_b57 F_holders_b57 F_stripe_b57 F_parity_b57 F_sizeMiB_b57 g_b57 A_b52 F_elementData_b52 F_size_b52 V_b54 A_b54 (Ins.of_exa A_b50 (gw hw 144 rfl)) (by first | assumption | decide) S_EMPTY ne_b52_b57 ne_b54_b57) hZ (gw hw 49 rfl) (gw hw 46 rfl) (by decide) (by decide)) (g := (mkF m 101 #[.val (.int x0), .val (.int x1), .val (.int x2), .val (.int x3), .val (.int (1 : Int32)), .val (.int (1 : Int32)), .val (.int pz), .val (.ref b50), .val (.ref b52), .val (.ref b55), .unset, .unset, .unset, .unset] [(.double (4611686018427387904 : UInt64)), (.int (0 : Int32)), .null, (.ref b52), .null, (.int x2), (.ref b57), (.ref b57)])) rfl (by rw [hml]; rfl) (Steps.refl _) (a := b57) (argsL := [(.int x2), .null, (.ref b52), .null, (.int (0 : Int32)), (.double (4611686018427387904 : UInt64))]) (rest := [(.ref b57)]) (lenOf own_pd21 rfl) rfl (w0 (Nat.le_of_eq rfl)) (hb hby at_101) (fun _ _ => ⟨rfl, e57, (by decide : 7 + 2 ≤ _), (by decide : 31 + 3 ≤ _)⟩)
        dsimp only [Pt.U, Pt.locs, Pt.cells, Pt.slots] at X58 l58 y58 z58 st58 hQ58
        subst l58 y58 z58
        obtain ⟨u58, rfl, N58q, K58, F_index_b57_58', F_holders_b57_58', A_u58_58', F_e0_u58_58', F_e1_u58_58', g_u58_58', sz_u58_58'⟩ := hQ58
        have N58 := Fr.app N56 N58q
        replace S_DEFAULTCAPACITY_EMPTY_ELEMENTDATA := own_staK S_DEFAULTCAPACITY_EMPTY_ELEMENTDATA K58 (allS (own_obE A_b57) all0)
        replace S_EMPTY_LIST := own_staK S_EMPTY_LIST K58 (allS (own_obE A_b57) all0)
        replace S_EMPTY := own_staK S_EMPTY K58 (allS (own_obE A_b57) all0)
        replace V_d := V_d.keep K58 (ninS ne_d_b57 nin0)
        replace A_nl := A_nl.keep K58
        replace F_elements_nl := F_elements_nl.keep K58 (ninS ne_nl_b57 nin0)
        replace V_ea := V_ea.keep K58 (ninS ne_ea_b57 nin0)
        replace A_em := A_em.keep K58
        replace A_no := A_no.keep K58
        replace A_b50 := A_b50.keep K58
        replace A_b52 := A_b52.keep K58
        replace V_b54 := V_b54.keep K58 (ninS ne_b54_b57 nin0)
        replace A_b55 := A_b55.keep K58
        replace F_index_b55 := F_index_b55.keep K58 (ninS ne_b55_b57 nin0)
        replace F_holders_b55 := F_holders_b55.keep K58 (ninS ne_b55_b57 nin0)
        replace A_u56 := A_u56.keep K58
        replace F_e1_u56 := F_e1_u56.keep K58 (ninS ne_u56_b57 nin0)
        replace A_b57 := A_b57.keep K58
        replace Z0 := Nat.le_trans Z0 K58.1
        have A_u58 := A_u58_58'
        have g_u58 := g_u58_58'
        have szc_u58 := sz_u58_58'
        have ne_d_u58 : d ≠ u58 := Nat.ne_of_lt (Nat.lt_of_lt_of_le ltc58_d szc_u58)
        have ne_nl_u58 : nl ≠ u58 := Nat.ne_of_lt (Nat.lt_of_lt_of_le ltc58_nl szc_u58)
        have ne_ea_u58 : ea ≠ u58 := Nat.ne_of_lt (Nat.lt_of_lt_of_le ltc58_ea szc_u58)
        have ne_em_u58 : em ≠ u58 := Nat.ne_of_lt (Nat.lt_of_lt_of_le ltc58_em szc_u58)
        have ne_no_u58 : no ≠ u58 := Nat.ne_of_lt (Nat.lt_of_lt_of_le ltc58_no szc_u58)
        have ne_b50_u58 : b50 ≠ u58 := Nat.ne_of_lt (Nat.lt_of_lt_of_le ltc58_b50 szc_u58)
        have ne_b52_u58 : b52 ≠ u58 := Nat.ne_of_lt (Nat.lt_of_lt_of_le ltc58_b52 szc_u58)
        have ne_b54_u58 : b54 ≠ u58 := Nat.ne_of_lt (Nat.lt_of_lt_of_le ltc58_b54 szc_u58)
        have ne_b55_u58 : b55 ≠ u58 := Nat.ne_of_lt (Nat.lt_of_lt_of_le ltc58_b55 szc_u58)
        have ne_u56_u58 : u56 ≠ u58 := Nat.ne_of_lt (Nat.lt_of_lt_of_le ltc58_u56 szc_u58)
        have ne_b57_u58 : b57 ≠ u58 := Nat.ne_of_lt (Nat.lt_of_lt_of_le ltc58_b57 szc_u58)
        refine Gs (fun _ tk => st58.trans tk) ?_
        show Goes _ _ _ _ _ (T58.setTop (mkF m 104 #[.val (.int x0), .val (.int x1), .val (.int x2), .val (.int x3), .val (.int (1 : Int32)), .val (.int (1 : Int32)), .val (.int pz), .val (.ref b50), .val (.ref b52), .val (.ref b55), .unset, .unset, .unset, .unset] [(.ref b57)]))
        refine Gs (fun _ tk => XS.astore X58.here hx rfl (hb hby at_104) rfl rfl (l' := #[.val (.int x0), .val (.int x1), .val (.int x2), .val (.int x3), .val (.int (1 : Int32)), .val (.int (1 : Int32)), .val (.int pz), .val (.ref b50), .val (.ref b52), .val (.ref b55), .val (.ref b57), .unset, .unset, .unset]) rfl tk) ?_
        obtain ⟨T59, h59, X59, e59, E59, A59, D59, -, st59⟩ := newO X58 hx hZ hown (gw hw 20 rfl) (gw hw 21 rfl) (gw hw 22 rfl) rfl (g := (mkF m 106 #[.val (.int x0), .val (.int x1), .val (.int x2), .val (.int x3), .val (.int (1 : Int32)), .val (.int (1 : Int32)), .val (.int pz), .val (.ref b50), .val (.ref b52), .val (.ref b55), .val (.ref b57), .unset, .unset, .unset] [])) rfl (hb hby at_106) (by decide) (by decide)
        obtain ⟨b59, gq59⟩ : ∃ z, z = T58.heap.size := ⟨_, rfl⟩
        rw [← gq59] at A59 st59 D59
        have g_b59 : n0 ≤ b59 := by rw [gq59]; exact Z0
        have ne_d_b59 : d ≠ b59 := by rw [gq59]; exact Nat.ne_of_lt V_d.lt
        have ne_nl_b59 : nl ≠ b59 := by rw [gq59]; exact Nat.ne_of_lt A_nl.lt
        have ne_ea_b59 : ea ≠ b59 := by rw [gq59]; exact Nat.ne_of_lt V_ea.lt
        have ne_em_b59 : em ≠ b59 := by rw [gq59]; exact Nat.ne_of_lt A_em.lt
        have ne_no_b59 : no ≠ b59 := by rw [gq59]; exact Nat.ne_of_lt A_no.lt
        have ne_b50_b59 : b50 ≠ b59 := by rw [gq59]; exact Nat.ne_of_lt A_b50.lt
        have ne_b52_b59 : b52 ≠ b59 := by rw [gq59]; exact Nat.ne_of_lt A_b52.lt
        have ne_b54_b59 : b54 ≠ b59 := by rw [gq59]; exact Nat.ne_of_lt V_b54.lt
        have ne_b55_b59 : b55 ≠ b59 := by rw [gq59]; exact Nat.ne_of_lt A_b55.lt
        have ne_u56_b59 : u56 ≠ b59 := by rw [gq59]; exact Nat.ne_of_lt A_u56.lt
        have ne_b57_b59 : b57 ≠ b59 := by rw [gq59]; exact Nat.ne_of_lt A_b57.lt
        have ne_u58_b59 : u58 ≠ b59 := by rw [gq59]; exact Nat.ne_of_lt A_u58.lt
        replace S_DEFAULTCAPACITY_EMPTY_ELEMENTDATA := S_DEFAULTCAPACITY_EMPTY_ELEMENTDATA.ext E59
        replace V_d := V_d.ext E59
        replace S_EMPTY_LIST := S_EMPTY_LIST.ext E59
        replace A_nl := A_nl.ext E59
        replace F_elements_nl := F_elements_nl.ext E59
        replace V_ea := V_ea.ext E59
        replace S_EMPTY := S_EMPTY.ext E59
        replace A_em := A_em.ext E59
        replace A_no := A_no.ext E59
        replace A_b50 := A_b50.ext E59
        replace A_b52 := A_b52.ext E59
        replace V_b54 := V_b54.ext E59
        replace A_b55 := A_b55.ext E59
        replace F_index_b55 := F_index_b55.ext E59
        replace F_holders_b55 := F_holders_b55.ext E59
        replace A_u56 := A_u56.ext E59
        replace F_e1_u56 := F_e1_u56.ext E59
        replace A_b57 := A_b57.ext E59
        replace A_u58 := A_u58.ext E59
        replace Z0 : n0 ≤ h59.size := Nat.le_trans Z0 E59.1
        have A_b59 : Exa Z h59 b59 "java/util/ArrayList" := A59
        have F_modCount_b59 : Fld Z h59 b59 "java/util/AbstractList" "modCount" "I" (.int (0 : Int32)) := D59 (Or.inl (gw hw 40 rfl)) (ty := .int) (by decide)
        have F_elementData_b59 : Fld Z h59 b59 "java/util/ArrayList" "elementData" "[Ljava/lang/Object;" .null := D59 (Or.inl (gw hw 43 rfl)) (ty := (.array (.object "java/lang/Object"))) (by decide)
        have F_size_b59 : Fld Z h59 b59 "java/util/ArrayList" "size" "I" (.int (0 : Int32)) := D59 (Or.inl (gw hw 75 rfl)) (ty := .int) (by decide)
        refine Gs st59 ?_
        show Goes _ _ _ _ _ (T59.setTop (mkF m 109 #[.val (.int x0), .val (.int x1), .val (.int x2), .val (.int x3), .val (.int (1 : Int32)), .val (.int (1 : Int32)), .val (.int pz), .val (.ref b50), .val (.ref b52), .val (.ref b55), .val (.ref b57), .unset, .unset, .unset] [(.ref b59)]))
        refine Gs (fun _ tk => XS.dup X59.here hx rfl (hb hby at_109) rfl rfl tk) ?_
        obtain ⟨_, _, ⟨T60, L60, k60, n60⟩, -, X60, ⟨Lc60, hQ60, l60, y60, z60⟩, st60⟩ := X59.specialBack hx (y := mN6) rfl hown (mvT hZ (gw hw 23 rfl)) (mvT hZ (gw hw 24 rfl)) (mvT hZ (gw hw 25 rfl)) (by decide) (backOf (W := 1) (rm_alinit l Z a0 hw [] b59 d h59 n0 Z0 A_b59 F_modCount_b59 F_elementData_b59 F_size_b59 S_DEFAULTCAPACITY_EMPTY_ELEMENTDATA g_b59) hZ (gw hw 25 rfl) (gw hw 22 rfl) (by decide) (by decide)) (g := (mkF m 110 #[.val (.int x0), .val (.int x1), .val (.int x2), .val (.int x3), .val (.int (1 : Int32)), .val (.int (1 : Int32)), .val (.int pz), .val (.ref b50), .val (.ref b52), .val (.ref b55), .val (.ref b57), .unset, .unset, .unset] [(.ref b59), (.ref b59)])) rfl (by rw [hml]; rfl) (Steps.refl _) (a := b59) (argsL := []) (rest := [(.ref b59)]) (lenOf own_pd0 rfl) rfl (w0 (Nat.le_of_eq rfl)) (hb hby at_110) (fun _ _ => ⟨rfl, e59, (by decide : 10 + 0 ≤ _), (by decide : 37 + 0 ≤ _)⟩)
        dsimp only [Pt.U, Pt.locs, Pt.cells, Pt.slots] at X60 l60 y60 z60 st60 hQ60
        subst l60 y60 z60
        obtain ⟨rfl, N60q, K60, F_modCount_b59_60', F_elementData_b59_60', F_size_b59_60'⟩ := hQ60
        have N60 := Fr.app N58 N60q
        replace S_DEFAULTCAPACITY_EMPTY_ELEMENTDATA := own_staK S_DEFAULTCAPACITY_EMPTY_ELEMENTDATA K60 (allS (own_obE A_b59) all0)
        replace S_EMPTY_LIST := own_staK S_EMPTY_LIST K60 (allS (own_obE A_b59) all0)
        replace S_EMPTY := own_staK S_EMPTY K60 (allS (own_obE A_b59) all0)
        replace V_d := V_d.keep K60 (ninS ne_d_b59 nin0)
        replace A_nl := A_nl.keep K60
        replace F_elements_nl := F_elements_nl.keep K60 (ninS ne_nl_b59 nin0)
        replace V_ea := V_ea.keep K60 (ninS ne_ea_b59 nin0)
        replace A_em := A_em.keep K60
        replace A_no := A_no.keep K60
        replace A_b50 := A_b50.keep K60
        replace A_b52 := A_b52.keep K60
        replace V_b54 := V_b54.keep K60 (ninS ne_b54_b59 nin0)
        replace A_b55 := A_b55.keep K60
        replace F_index_b55 := F_index_b55.keep K60 (ninS ne_b55_b59 nin0)
        replace F_holders_b55 := F_holders_b55.keep K60 (ninS ne_b55_b59 nin0)
        replace A_u56 := A_u56.keep K60
        replace F_e1_u56 := F_e1_u56.keep K60 (ninS ne_u56_b59 nin0)
        replace A_b57 := A_b57.keep K60
        replace A_u58 := A_u58.keep K60
        replace A_b59 := A_b59.keep K60
        replace Z0 := Nat.le_trans Z0 K60.1
        have F_modCount_b59 := F_modCount_b59_60'
        have F_elementData_b59 := F_elementData_b59_60'
        have F_size_b59 := F_size_b59_60'
        refine Gs (fun _ tk => st60.trans tk) ?_
        show Goes _ _ _ _ _ (T60.setTop (mkF m 113 #[.val (.int x0), .val (.int x1), .val (.int x2), .val (.int x3), .val (.int (1 : Int32)), .val (.int (1 : Int32)), .val (.int pz), .val (.ref b50), .val (.ref b52), .val (.ref b55), .val (.ref b57), .unset, .unset, .unset] [(.ref b59)]))
        refine Gs (fun _ tk => XS.astore X60.here hx rfl (hb hby at_113) rfl rfl (l' := #[.val (.int x0), .val (.int x1), .val (.int x2), .val (.int x3), .val (.int (1 : Int32)), .val (.int (1 : Int32)), .val (.int pz), .val (.ref b50), .val (.ref b52), .val (.ref b55), .val (.ref b57), .val (.ref b59), .unset, .unset]) rfl tk) ?_
        refine Gs (fun _ tk => XS.iload X60.here hx rfl (hb hby at_115) rfl tk) ?_
        refine Gs (fun _ tk => XS.iconst X60.here hx rfl (hb hby at_117) tk) ?_
        refine Gs (fun _ tk => XS.icmpNo X60.here hx rfl (hb hby at_118) rfl (flt (by decide : ¬ ((1 : Int32) < (1 : Int32)))).1 tk) ?_
        refine Gs (fun _ tk => XS.aload X60.here hx rfl (hb hby at_121) rfl rfl tk) ?_
        refine Gs (fun _ tk => XS.aload X60.here hx rfl (hb hby at_123) rfl rfl tk) ?_
        show Goes _ _ _ _ _ (T60.setTop (mkF m 125 #[.val (.int x0), .val (.int x1), .val (.int x2), .val (.int x3), .val (.int (1 : Int32)), .val (.int (1 : Int32)), .val (.int pz), .val (.ref b50), .val (.ref b52), .val (.ref b55), .val (.ref b57), .val (.ref b59), .unset, .unset] [(.ref b55), (.ref b59)]))
        have ltc61_d : d < T60.heap.size := V_d.lt
        have ltc61_nl : nl < T60.heap.size := A_nl.lt
        have ltc61_ea : ea < T60.heap.size := V_ea.lt
        have ltc61_em : em < T60.heap.size := A_em.lt
        have ltc61_no : no < T60.heap.size := A_no.lt
        have ltc61_b50 : b50 < T60.heap.size := A_b50.lt
        have ltc61_b52 : b52 < T60.heap.size := A_b52.lt
        have ltc61_b54 : b54 < T60.heap.size := V_b54.lt
        have ltc61_b55 : b55 < T60.heap.size := A_b55.lt
        have ltc61_u56 : u56 < T60.heap.size := A_u56.lt
        have ltc61_b57 : b57 < T60.heap.size := A_b57.lt
        have ltc61_u58 : u58 < T60.heap.size := A_u58.lt
        have ltc61_b59 : b59 < T60.heap.size := A_b59.lt
        obtain ⟨cq61, kq61, q61a, q61b, q61c⟩ := isOf hZ rfl A_b59
        obtain ⟨_, _, ⟨T61, L61, k61, n61⟩, -, X61, ⟨Lc61, hQ61, l61, y61, z61⟩, st61⟩ := X60.interfaceBack hx (xi := mN49) (y := mN12) hown (mvT hZ (gw hw 113 rfl)) (mvT hZ (gw hw 114 rfl)) (mvT hZ (gw hw 115 rfl)) (mvT hZ (gw hw 116 rfl)) (mvT hZ (gw hw 117 rfl)) (mvT hZ (gw hw 118 rfl)) (mvT hZ (gw hw 119 rfl)) (mvT hZ (gw hw 102 rfl)) (by decide) (backOf (W := 0) (rm_add0 l Z a0 hw [] b59 b55 (0 : Int32) d kd T60.heap n0 Z0 A_b59 F_modCount_b59 F_elementData_b59 F_size_b59 S_DEFAULTCAPACITY_EMPTY_ELEMENTDATA V_d g_b59 ne_d_b59 (Ins.of_exa A_b55 (gw hw 208 rfl))) hZ (gw hw 120 rfl) (gw hw 22 rfl) (by decide) (by decide)) q61a q61b q61c (g := (mkF m 125 #[.val (.int x0), .val (.int x1), .val (.int x2), .val (.int x3), .val (.int (1 : Int32)), .val (.int (1 : Int32)), .val (.int pz), .val (.ref b50), .val (.ref b52), .val (.ref b55), .val (.ref b57), .val (.ref b59), .unset, .unset] [(.ref b55), (.ref b59)])) rfl (by rw [hml]; rfl) (Steps.refl _) (argsL := [(.ref b55)]) (rest := []) (lenOf own_pd23 rfl) rfl (w0 (Nat.le_of_eq rfl)) (hb hby at_125) (fun _ _ => ⟨rfl, rfl, (by decide : 10 + 1 ≤ _), (by decide : 37 + 10 ≤ _)⟩)
        dsimp only [Pt.U, Pt.locs, Pt.cells, Pt.slots] at X61 l61 y61 z61 st61 hQ61
        subst l61 y61 z61
        obtain ⟨b61, kb61, rfl, N61q, K61, F_modCount_b59_61', F_elementData_b59_61', F_size_b59_61', V_b61_61', A_b61_61', Ov_61', g_b61_61', sz_b61_61'⟩ := hQ61
        have N61 := Fr.app N60 N61q
        replace S_DEFAULTCAPACITY_EMPTY_ELEMENTDATA := own_staK S_DEFAULTCAPACITY_EMPTY_ELEMENTDATA K61 (allS (own_obE A_b59) all0)
        replace S_EMPTY_LIST := own_staK S_EMPTY_LIST K61 (allS (own_obE A_b59) all0)
        replace S_EMPTY := own_staK S_EMPTY K61 (allS (own_obE A_b59) all0)
        replace V_d := V_d.keep K61 (ninS ne_d_b59 nin0)
        replace A_nl := A_nl.keep K61
        replace F_elements_nl := F_elements_nl.keep K61 (ninS ne_nl_b59 nin0)
        replace V_ea := V_ea.keep K61 (ninS ne_ea_b59 nin0)
        replace A_em := A_em.keep K61
        replace A_no := A_no.keep K61
        replace A_b50 := A_b50.keep K61
        replace A_b52 := A_b52.keep K61
        replace V_b54 := V_b54.keep K61 (ninS ne_b54_b59 nin0)
        replace A_b55 := A_b55.keep K61
        replace F_index_b55 := F_index_b55.keep K61 (ninS ne_b55_b59 nin0)
        replace F_holders_b55 := F_holders_b55.keep K61 (ninS ne_b55_b59 nin0)
        replace A_u56 := A_u56.keep K61
        replace F_e1_u56 := F_e1_u56.keep K61 (ninS ne_u56_b59 nin0)
        replace A_b57 := A_b57.keep K61
        replace A_u58 := A_u58.keep K61
        replace A_b59 := A_b59.keep K61
        replace Z0 := Nat.le_trans Z0 K61.1
        have F_elementData_b59 := F_elementData_b59_61'
        have F_size_b59 := F_size_b59_61'
        have V_b61 := V_b61_61'
        have A_b61 := A_b61_61'
        have g_b61 := g_b61_61'
        have szc_b61 := sz_b61_61'
        have ne_d_b61 : d ≠ b61 := Nat.ne_of_lt (Nat.lt_of_lt_of_le ltc61_d szc_b61)
        have ne_nl_b61 : nl ≠ b61 := Nat.ne_of_lt (Nat.lt_of_lt_of_le ltc61_nl szc_b61)
        have ne_ea_b61 : ea ≠ b61 := Nat.ne_of_lt (Nat.lt_of_lt_of_le ltc61_ea szc_b61)
        have ne_em_b61 : em ≠ b61 := Nat.ne_of_lt (Nat.lt_of_lt_of_le ltc61_em szc_b61)
        have ne_no_b61 : no ≠ b61 := Nat.ne_of_lt (Nat.lt_of_lt_of_le ltc61_no szc_b61)
        have ne_b50_b61 : b50 ≠ b61 := Nat.ne_of_lt (Nat.lt_of_lt_of_le ltc61_b50 szc_b61)
        have ne_b52_b61 : b52 ≠ b61 := Nat.ne_of_lt (Nat.lt_of_lt_of_le ltc61_b52 szc_b61)
        have ne_b54_b61 : b54 ≠ b61 := Nat.ne_of_lt (Nat.lt_of_lt_of_le ltc61_b54 szc_b61)
        have ne_b55_b61 : b55 ≠ b61 := Nat.ne_of_lt (Nat.lt_of_lt_of_le ltc61_b55 szc_b61)
        have ne_u56_b61 : u56 ≠ b61 := Nat.ne_of_lt (Nat.lt_of_lt_of_le ltc61_u56 szc_b61)
        have ne_b57_b61 : b57 ≠ b61 := Nat.ne_of_lt (Nat.lt_of_lt_of_le ltc61_b57 szc_b61)
        have ne_u58_b61 : u58 ≠ b61 := Nat.ne_of_lt (Nat.lt_of_lt_of_le ltc61_u58 szc_b61)
        have ne_b59_b61 : b59 ≠ b61 := Nat.ne_of_lt (Nat.lt_of_lt_of_le ltc61_b59 szc_b61)
        refine Gs (fun _ tk => st61.trans tk) ?_
        show Goes _ _ _ _ _ (T61.setTop (mkF m 130 #[.val (.int x0), .val (.int x1), .val (.int x2), .val (.int x3), .val (.int (1 : Int32)), .val (.int (1 : Int32)), .val (.int pz), .val (.ref b50), .val (.ref b52), .val (.ref b55), .val (.ref b57), .val (.ref b59), .unset, .unset] [(.int (1 : Int32))]))
        refine Gs (fun _ tk => XS.pop X61.here hx rfl (hb hby at_130) rfl rfl tk) ?_
        refine Gs (fun _ tk => XS.iload X61.here hx rfl (hb hby at_131) rfl tk) ?_
        refine Gs (fun _ tk => XS.iconst X61.here hx rfl (hb hby at_133) tk) ?_
        refine Gs (fun _ tk => XS.icmpYes X61.here hx rfl (pc0 := 134) (pc' := 147) rfl (hb hby at_134) rfl (tlt (by decide : ((1 : Int32) < (2 : Int32)))).1 (by decide) (by decide) tk) ?_
        refine Gs (fun _ tk => XS.aload X61.here hx rfl (hb hby at_147) rfl rfl tk) ?_
        have ltc62_d : d < T61.heap.size := V_d.lt
        have ltc62_nl : nl < T61.heap.size := A_nl.lt
        have ltc62_ea : ea < T61.heap.size := V_ea.lt
        have ltc62_em : em < T61.heap.size := A_em.lt
        have ltc62_no : no < T61.heap.size := A_no.lt
        have ltc62_b50 : b50 < T61.heap.size := A_b50.lt
        have ltc62_b52 : b52 < T61.heap.size := A_b52.lt
        have ltc62_b54 : b54 < T61.heap.size := V_b54.lt
        have ltc62_b55 : b55 < T61.heap.size := A_b55.lt
        have ltc62_u56 : u56 < T61.heap.size := A_u56.lt
        have ltc62_b57 : b57 < T61.heap.size := A_b57.lt
        have ltc62_u58 : u58 < T61.heap.size := A_u58.lt
        have ltc62_b59 : b59 < T61.heap.size := A_b59.lt
        have ltc62_b61 : b61 < T61.heap.size := V_b61.lt
        obtain ⟨_, _, ⟨T62, L62, k62, n62⟩, -, X62, ⟨Lc62, hQ62, l62, y62, z62⟩, st62⟩ := Jvm.LawKit.callS X61 hx (y := mN35) hown (mvT hZ (gw hw 93 rfl)) (mvT hZ (gw hw 94 rfl)) (mvT hZ (gw hw 95 rfl)) (mvT hZ (gw hw 96 rfl)) (by decide) (backOf (W := 0) (rm_bsof1 l Z a0 hw [] b59 b55 b61 kb61 mr em T61.heap n0 Z0 A_b59 F_elementData_b59 F_size_b59 V_b61 A_b61 (Ins.of_exa A_b55 (gw hw 208 rfl)) (by first | assumption | decide) S_EMPTY) hZ (gw hw 96 rfl) (gw hw 95 rfl) (by decide) (by decide)) (g := (mkF m 149 #[.val (.int x0), .val (.int x1), .val (.int x2), .val (.int x3), .val (.int (1 : Int32)), .val (.int (1 : Int32)), .val (.int pz), .val (.ref b50), .val (.ref b52), .val (.ref b55), .val (.ref b57), .val (.ref b59), .unset, .unset] [(.ref b59)])) rfl (by rw [hml]; rfl) (argsL := [(.ref b59)]) (rest := []) (lenOf own_pd22 rfl) rfl (w0 (Nat.le_of_eq rfl)) (hb hby at_149) (fun _ _ => ⟨rfl, rfl, (by decide : 11 + 4 ≤ _), (by decide : 47 + 9 ≤ _)⟩)
        dsimp only [Pt.U, Pt.locs, Pt.cells, Pt.slots] at X62 l62 y62 z62 st62 hQ62
        subst l62 y62 z62
        obtain ⟨bo62, ro62, u62, rfl, N62q, K62, A_bo62_62', F_source_bo62_62', F_places_bo62_62', F_first_bo62_62', F_size_bo62_62', A_ro62_62', F_records_ro62_62', A_u62_62', F_e0_u62_62', F_e1_u62_62', g_bo62_62', sz_bo62_62', sz_ro62_62', sz_u62_62'⟩ := hQ62
        have N62 := Fr.app N61 N62q
        replace S_DEFAULTCAPACITY_EMPTY_ELEMENTDATA := own_staK S_DEFAULTCAPACITY_EMPTY_ELEMENTDATA K62 all0
        replace S_EMPTY_LIST := own_staK S_EMPTY_LIST K62 all0
        replace S_EMPTY := own_staK S_EMPTY K62 all0
        replace V_d := V_d.keep K62 nin0
        replace A_nl := A_nl.keep K62
        replace F_elements_nl := F_elements_nl.keep K62 nin0
        replace V_ea := V_ea.keep K62 nin0
        replace A_em := A_em.keep K62
        replace A_no := A_no.keep K62
        replace A_b55 := A_b55.keep K62
        replace F_index_b55 := F_index_b55.keep K62 nin0
        replace F_holders_b55 := F_holders_b55.keep K62 nin0
        replace A_u56 := A_u56.keep K62
        replace F_e1_u56 := F_e1_u56.keep K62 nin0
        replace Z0 := Nat.le_trans Z0 K62.1
        have A_bo62 := A_bo62_62'
        have F_source_bo62 := F_source_bo62_62'
        have F_places_bo62 := F_places_bo62_62'
        have F_first_bo62 := F_first_bo62_62'
        have F_size_bo62 := F_size_bo62_62'
        have A_ro62 := A_ro62_62'
        have F_records_ro62 := F_records_ro62_62'
        have A_u62 := A_u62_62'
        have F_e0_u62 := F_e0_u62_62'
        have g_bo62 := g_bo62_62'
        have szc_bo62 := sz_bo62_62'
        have ne_d_bo62 : d ≠ bo62 := Nat.ne_of_lt (Nat.lt_of_lt_of_le ltc62_d szc_bo62)
        have ne_nl_bo62 : nl ≠ bo62 := Nat.ne_of_lt (Nat.lt_of_lt_of_le ltc62_nl szc_bo62)
        have ne_ea_bo62 : ea ≠ bo62 := Nat.ne_of_lt (Nat.lt_of_lt_of_le ltc62_ea szc_bo62)
        have ne_em_bo62 : em ≠ bo62 := Nat.ne_of_lt (Nat.lt_of_lt_of_le ltc62_em szc_bo62)
        have ne_no_bo62 : no ≠ bo62 := Nat.ne_of_lt (Nat.lt_of_lt_of_le ltc62_no szc_bo62)
        have ne_b50_bo62 : b50 ≠ bo62 := Nat.ne_of_lt (Nat.lt_of_lt_of_le ltc62_b50 szc_bo62)
        have ne_b52_bo62 : b52 ≠ bo62 := Nat.ne_of_lt (Nat.lt_of_lt_of_le ltc62_b52 szc_bo62)
        have ne_b54_bo62 : b54 ≠ bo62 := Nat.ne_of_lt (Nat.lt_of_lt_of_le ltc62_b54 szc_bo62)
        have ne_b55_bo62 : b55 ≠ bo62 := Nat.ne_of_lt (Nat.lt_of_lt_of_le ltc62_b55 szc_bo62)
        have ne_u56_bo62 : u56 ≠ bo62 := Nat.ne_of_lt (Nat.lt_of_lt_of_le ltc62_u56 szc_bo62)
        have ne_b57_bo62 : b57 ≠ bo62 := Nat.ne_of_lt (Nat.lt_of_lt_of_le ltc62_b57 szc_bo62)
        have ne_u58_bo62 : u58 ≠ bo62 := Nat.ne_of_lt (Nat.lt_of_lt_of_le ltc62_u58 szc_bo62)
        have ne_b59_bo62 : b59 ≠ bo62 := Nat.ne_of_lt (Nat.lt_of_lt_of_le ltc62_b59 szc_bo62)
        have ne_b61_bo62 : b61 ≠ bo62 := Nat.ne_of_lt (Nat.lt_of_lt_of_le ltc62_b61 szc_bo62)
        have szc_ro62 := sz_ro62_62'
        have ne_d_ro62 : d ≠ ro62 := Nat.ne_of_lt (Nat.lt_of_lt_of_le ltc62_d szc_ro62)
        have ne_nl_ro62 : nl ≠ ro62 := Nat.ne_of_lt (Nat.lt_of_lt_of_le ltc62_nl szc_ro62)
        have ne_ea_ro62 : ea ≠ ro62 := Nat.ne_of_lt (Nat.lt_of_lt_of_le ltc62_ea szc_ro62)
        have ne_em_ro62 : em ≠ ro62 := Nat.ne_of_lt (Nat.lt_of_lt_of_le ltc62_em szc_ro62)
        have ne_no_ro62 : no ≠ ro62 := Nat.ne_of_lt (Nat.lt_of_lt_of_le ltc62_no szc_ro62)
        have ne_b50_ro62 : b50 ≠ ro62 := Nat.ne_of_lt (Nat.lt_of_lt_of_le ltc62_b50 szc_ro62)
        have ne_b52_ro62 : b52 ≠ ro62 := Nat.ne_of_lt (Nat.lt_of_lt_of_le ltc62_b52 szc_ro62)
        have ne_b54_ro62 : b54 ≠ ro62 := Nat.ne_of_lt (Nat.lt_of_lt_of_le ltc62_b54 szc_ro62)
        have ne_b55_ro62 : b55 ≠ ro62 := Nat.ne_of_lt (Nat.lt_of_lt_of_le ltc62_b55 szc_ro62)
        have ne_u56_ro62 : u56 ≠ ro62 := Nat.ne_of_lt (Nat.lt_of_lt_of_le ltc62_u56 szc_ro62)
        have ne_b57_ro62 : b57 ≠ ro62 := Nat.ne_of_lt (Nat.lt_of_lt_of_le ltc62_b57 szc_ro62)
        have ne_u58_ro62 : u58 ≠ ro62 := Nat.ne_of_lt (Nat.lt_of_lt_of_le ltc62_u58 szc_ro62)
        have ne_b59_ro62 : b59 ≠ ro62 := Nat.ne_of_lt (Nat.lt_of_lt_of_le ltc62_b59 szc_ro62)
        have ne_b61_ro62 : b61 ≠ ro62 := Nat.ne_of_lt (Nat.lt_of_lt_of_le ltc62_b61 szc_ro62)
        have szc_u62 := sz_u62_62'
        have ne_d_u62 : d ≠ u62 := Nat.ne_of_lt (Nat.lt_of_lt_of_le ltc62_d szc_u62)
        have ne_nl_u62 : nl ≠ u62 := Nat.ne_of_lt (Nat.lt_of_lt_of_le ltc62_nl szc_u62)
        have ne_ea_u62 : ea ≠ u62 := Nat.ne_of_lt (Nat.lt_of_lt_of_le ltc62_ea szc_u62)
        have ne_em_u62 : em ≠ u62 := Nat.ne_of_lt (Nat.lt_of_lt_of_le ltc62_em szc_u62)
        have ne_no_u62 : no ≠ u62 := Nat.ne_of_lt (Nat.lt_of_lt_of_le ltc62_no szc_u62)
        have ne_b50_u62 : b50 ≠ u62 := Nat.ne_of_lt (Nat.lt_of_lt_of_le ltc62_b50 szc_u62)
        have ne_b52_u62 : b52 ≠ u62 := Nat.ne_of_lt (Nat.lt_of_lt_of_le ltc62_b52 szc_u62)
        have ne_b54_u62 : b54 ≠ u62 := Nat.ne_of_lt (Nat.lt_of_lt_of_le ltc62_b54 szc_u62)
        have ne_b55_u62 : b55 ≠ u62 := Nat.ne_of_lt (Nat.lt_of_lt_of_le ltc62_b55 szc_u62)
        have ne_u56_u62 : u56 ≠ u62 := Nat.ne_of_lt (Nat.lt_of_lt_of_le ltc62_u56 szc_u62)
        have ne_b57_u62 : b57 ≠ u62 := Nat.ne_of_lt (Nat.lt_of_lt_of_le ltc62_b57 szc_u62)
        have ne_u58_u62 : u58 ≠ u62 := Nat.ne_of_lt (Nat.lt_of_lt_of_le ltc62_u58 szc_u62)
        have ne_b59_u62 : b59 ≠ u62 := Nat.ne_of_lt (Nat.lt_of_lt_of_le ltc62_b59 szc_u62)
        have ne_b61_u62 : b61 ≠ u62 := Nat.ne_of_lt (Nat.lt_of_lt_of_le ltc62_b61 szc_u62)
        refine Gs st62 ?_
        show Goes _ _ _ _ _ (T62.setTop (mkF m 152 #[.val (.int x0), .val (.int x1), .val (.int x2), .val (.int x3), .val (.int (1 : Int32)), .val (.int (1 : Int32)), .val (.int pz), .val (.ref b50), .val (.ref b52), .val (.ref b55), .val (.ref b57), .val (.ref b59), .unset, .unset] [(.ref bo62)]))
        refine Gs (fun _ tk => XS.astore X62.here hx rfl (hb hby at_152) rfl rfl (l' := #[.val (.int x0), .val (.int x1), .val (.int x2), .val (.int x3), .val (.int (1 : Int32)), .val (.int (1 : Int32)), .val (.int pz), .val (.ref b50), .val (.ref b52), .val (.ref b55), .val (.ref b57), .val (.ref b59), .val (.ref bo62), .unset]) rfl tk) ?_
        refine Gs (fun _ tk => XS.aload X62.here hx rfl (hb hby at_154) rfl rfl tk) ?_
        obtain ⟨cq63, kq63, q63a, q63b, q63c⟩ := isOf hZ rfl A_bo62
        obtain ⟨_, _, ⟨T63, L63, k63, n63⟩, -, X63, ⟨Lc63, hQ63, l63, y63, z63⟩, st63⟩ := X62.virtualBack hx (y := mN37) (z := mN37) hown (mvT hZ (gw hw 105 rfl)) (mvT hZ (gw hw 106 rfl)) (notFace_of_selects (args := #[]) (mvT hZ (gw hw 108 rfl))) (mvT hZ (gw hw 108 rfl)) (mvT hZ (gw hw 107 rfl)) (by decide) (backOf (W := 0) (rm_bssz l Z a0 hw [] bo62 (1 : Int32) T62.heap n0 Z0 F_size_bo62) hZ (gw hw 109 rfl) (gw hw 95 rfl) (by decide) (by decide)) q63a q63c (g := (mkF m 156 #[.val (.int x0), .val (.int x1), .val (.int x2), .val (.int x3), .val (.int (1 : Int32)), .val (.int (1 : Int32)), .val (.int pz), .val (.ref b50), .val (.ref b52), .val (.ref b55), .val (.ref b57), .val (.ref b59), .val (.ref bo62), .unset] [(.ref bo62)])) rfl (by rw [hml]; rfl) (Steps.refl _) (argsL := []) (rest := []) (lenOf own_pd15 rfl) rfl (w0 (Nat.le_of_eq rfl)) (hb hby at_156) (fun _ _ => ⟨rfl, rfl, (by decide : 15 + 0 ≤ _), (by decide : 56 + 0 ≤ _)⟩)
        dsimp only [Pt.U, Pt.locs, Pt.cells, Pt.slots] at X63 l63 y63 z63 st63 hQ63
        subst l63 y63 z63
        obtain ⟨rfl, N63q, e63⟩ := hQ63
        have N63 := Fr.app N62 N63q
        refine Gs (fun _ tk => st63.trans tk) ?_
        show Goes _ _ _ _ _ (T63.setTop (mkF m 159 #[.val (.int x0), .val (.int x1), .val (.int x2), .val (.int x3), .val (.int (1 : Int32)), .val (.int (1 : Int32)), .val (.int pz), .val (.ref b50), .val (.ref b52), .val (.ref b55), .val (.ref b57), .val (.ref b59), .val (.ref bo62), .unset] [(.int (1 : Int32))]))
        refine Gs (fun _ tk => XS.iload X63.here hx rfl (hb hby at_159) rfl tk) ?_
        refine Gs (fun _ tk => XS.icmpNo X63.here hx rfl (hb hby at_161) rfl (teq (by decide : ((1 : Int32) = (1 : Int32)))).2 tk) ?_
        refine Gs (fun _ tk => XS.iconst X63.here hx rfl (hb hby at_164) tk) ?_
        refine Gs (fun _ tk => XS.goto X63.here hx rfl (pc0 := 165) (pc' := 169) rfl (hb hby at_165) (by decide) (by decide) tk) ?_
        refine Gs (fun _ tk => XS.istore X63.here hx rfl (hb hby at_169) rfl (l' := #[.val (.int x0), .val (.int x1), .val (.int x2), .val (.int x3), .val (.int (1 : Int32)), .val (.int (1 : Int32)), .val (.int pz), .val (.ref b50), .val (.ref b52), .val (.ref b55), .val (.ref b57), .val (.ref b59), .val (.ref bo62), .val (.int (1 : Int32))]) rfl tk) ?_
        refine Gs (fun _ tk => XS.iload X63.here hx rfl (hb hby at_171) rfl tk) ?_
        show Goes _ _ _ _ _ (T63.setTop (mkF m 173 #[.val (.int x0), .val (.int x1), .val (.int x2), .val (.int x3), .val (.int (1 : Int32)), .val (.int (1 : Int32)), .val (.int pz), .val (.ref b50), .val (.ref b52), .val (.ref b55), .val (.ref b57), .val (.ref b59), .val (.ref bo62), .val (.int (1 : Int32))] [(.int (1 : Int32))]))
        refine Gs (fun _ tk => XS.ifNo X63.here hx rfl (hb hby at_173) rfl ((if0 _ _).trans (feq (by decide : ¬ ((1 : Int32) = (0 : Int32)))).1) tk) ?_
        refine Gs (fun _ tk => XS.iload X63.here hx rfl (hb hby at_176) rfl tk) ?_
        refine Gs (fun _ tk => XS.iconst X63.here hx rfl (hb hby at_178) tk) ?_
        refine Gs (fun _ tk => XS.icmpNo X63.here hx rfl (hb hby at_179) rfl (flt (by decide : ¬ ((1 : Int32) < (1 : Int32)))).1 tk) ?_
        refine Gs (fun _ tk => XS.aload X63.here hx rfl (hb hby at_182) rfl rfl tk) ?_
        refine Gs (fun _ tk => XS.iconst X63.here hx rfl (hb hby at_184) tk) ?_
        show Goes _ _ _ _ _ (T63.setTop (mkF m 185 #[.val (.int x0), .val (.int x1), .val (.int x2), .val (.int x3), .val (.int (1 : Int32)), .val (.int (1 : Int32)), .val (.int pz), .val (.ref b50), .val (.ref b52), .val (.ref b55), .val (.ref b57), .val (.ref b59), .val (.ref bo62), .val (.int (1 : Int32))] [(.int (0 : Int32)), (.ref bo62)]))
        obtain ⟨cq64, kq64, q64a, q64b, q64c⟩ := isOf hZ e63 A_bo62
        obtain ⟨_, _, ⟨T64, L64, k64, n64⟩, -, X64, ⟨Lc64, hQ64, l64, y64, z64⟩, st64⟩ := X63.virtualBack hx (y := mN44) (z := mN44) hown (mvT hZ (gw hw 244 rfl)) (mvT hZ (gw hw 245 rfl)) (notFace_of_selects (args := #[]) (mvT hZ (gw hw 247 rfl))) (mvT hZ (gw hw 247 rfl)) (mvT hZ (gw hw 246 rfl)) (by decide) (backOf (W := 0) (rm_bget01 l Z a0 hw [] bo62 ro62 u62 b55 T62.heap n0 Z0 F_source_bo62 F_places_bo62 F_first_bo62 F_size_bo62 A_bo62 A_ro62 F_records_ro62 A_u62 F_e0_u62 A_b55) hZ (gw hw 248 rfl) (gw hw 95 rfl) (by decide) (by decide)) q64a q64c (g := (mkF m 185 #[.val (.int x0), .val (.int x1), .val (.int x2), .val (.int x3), .val (.int (1 : Int32)), .val (.int (1 : Int32)), .val (.int pz), .val (.ref b50), .val (.ref b52), .val (.ref b55), .val (.ref b57), .val (.ref b59), .val (.ref bo62), .val (.int (1 : Int32))] [(.int (0 : Int32)), (.ref bo62)])) rfl (by rw [hml]; rfl) (Steps.refl _) (argsL := [(.int (0 : Int32))]) (rest := []) (lenOf own_pd19 rfl) rfl (w0 (Nat.le_of_eq rfl)) (hb hby at_185) (fun _ _ => ⟨rfl, e63, (by decide : 15 + 0 ≤ _), (by decide : 56 + 0 ≤ _)⟩)
        dsimp only [Pt.U, Pt.locs, Pt.cells, Pt.slots] at X64 l64 y64 z64 st64 hQ64
        subst l64 y64 z64
        obtain ⟨rfl, N64q, e64⟩ := hQ64
        have N64 := Fr.app N63 N64q
        refine Gs (fun _ tk => st64.trans tk) ?_
        show Goes _ _ _ _ _ (T64.setTop (mkF m 188 #[.val (.int x0), .val (.int x1), .val (.int x2), .val (.int x3), .val (.int (1 : Int32)), .val (.int (1 : Int32)), .val (.int pz), .val (.ref b50), .val (.ref b52), .val (.ref b55), .val (.ref b57), .val (.ref b59), .val (.ref bo62), .val (.int (1 : Int32))] [(.ref b55)]))
        refine Gs (fun _ tk => XS.aload X64.here hx rfl (hb hby at_188) rfl rfl tk) ?_
        refine Gs (fun _ tk => Jvm.RoadKit.acmp (g := (mkF m 190 #[.val (.int x0), .val (.int x1), .val (.int x2), .val (.int x3), .val (.int (1 : Int32)), .val (.int (1 : Int32)), .val (.int pz), .val (.ref b50), .val (.ref b52), .val (.ref b55), .val (.ref b57), .val (.ref b59), .val (.ref bo62), .val (.int (1 : Int32))] [(.ref b55), (.ref b55)])) X64 hx rfl rfl rfl (pc0 := 190) (pc' := 193) (same := true) rfl (hb hby at_190) rfl (decide_eq_true (congrArg Value.ref rfl)) (by decide) (by decide) tk) ?_
        refine Gs (fun _ tk => XS.aload X64.here hx rfl (hb hby at_193) rfl rfl tk) ?_
        refine Gs (fun _ tk => XS.iconst X64.here hx rfl (hb hby at_195) tk) ?_
        obtain ⟨cq65, kq65, q65a, q65b, q65c⟩ := isOf hZ e64 A_bo62
        obtain ⟨_, _, ⟨T65, L65, k65, n65⟩, -, X65, ⟨Lc65, hQ65, l65, y65, z65⟩, st65⟩ := X64.virtualBack hx (y := mN46) (z := mN46) hown (mvT hZ (gw hw 272 rfl)) (mvT hZ (gw hw 273 rfl)) (notFace_of_selects (args := #[]) (mvT hZ (gw hw 275 rfl))) (mvT hZ (gw hw 275 rfl)) (mvT hZ (gw hw 274 rfl)) (by decide) (backOf (W := 0) (rm_bix01 l Z a0 hw [] bo62 ro62 u62 b55 x1 T62.heap n0 Z0 F_source_bo62 F_places_bo62 F_first_bo62 F_size_bo62 A_bo62 A_ro62 F_records_ro62 A_u62 F_e0_u62 A_b55 F_index_b55) hZ (gw hw 276 rfl) (gw hw 95 rfl) (by decide) (by decide)) q65a q65c (g := (mkF m 196 #[.val (.int x0), .val (.int x1), .val (.int x2), .val (.int x3), .val (.int (1 : Int32)), .val (.int (1 : Int32)), .val (.int pz), .val (.ref b50), .val (.ref b52), .val (.ref b55), .val (.ref b57), .val (.ref b59), .val (.ref bo62), .val (.int (1 : Int32))] [(.int (0 : Int32)), (.ref bo62)])) rfl (by rw [hml]; rfl) (Steps.refl _) (argsL := [(.int (0 : Int32))]) (rest := []) (lenOf own_pd18 rfl) rfl (w0 (Nat.le_of_eq rfl)) (hb hby at_196) (fun _ _ => ⟨rfl, e64, (by decide : 15 + 0 ≤ _), (by decide : 56 + 0 ≤ _)⟩)
        dsimp only [Pt.U, Pt.locs, Pt.cells, Pt.slots] at X65 l65 y65 z65 st65 hQ65
        subst l65 y65 z65
        obtain ⟨rfl, N65q, e65⟩ := hQ65
        have N65 := Fr.app N64 N65q
        refine Gs (fun _ tk => st65.trans tk) ?_
        show Goes _ _ _ _ _ (T65.setTop (mkF m 199 #[.val (.int x0), .val (.int x1), .val (.int x2), .val (.int x3), .val (.int (1 : Int32)), .val (.int (1 : Int32)), .val (.int pz), .val (.ref b50), .val (.ref b52), .val (.ref b55), .val (.ref b57), .val (.ref b59), .val (.ref bo62), .val (.int (1 : Int32))] [(.int x1)]))
        refine Gs (fun _ tk => XS.iloadN X65.here hx rfl (hb hby at_199) rfl tk) ?_
        refine Gs (fun _ tk => XS.icmpNo X65.here hx rfl (hb hby at_200) rfl (teq (rfl : x1 = x1)).2 tk) ?_
        refine Gs (fun _ tk => XS.aload X65.here hx rfl (hb hby at_203) rfl rfl tk) ?_
        refine Gs (fun _ tk => XS.iconst X65.here hx rfl (hb hby at_205) tk) ?_
        obtain ⟨cq66, kq66, q66a, q66b, q66c⟩ := isOf hZ e65 A_bo62
        obtain ⟨_, _, ⟨T66, L66, k66, n66⟩, -, X66, ⟨Lc66, hQ66, l66, y66, z66⟩, st66⟩ := X65.virtualBack hx (y := mN48) (z := mN48) hown (mvT hZ (gw hw 290 rfl)) (mvT hZ (gw hw 291 rfl)) (notFace_of_selects (args := #[]) (mvT hZ (gw hw 293 rfl))) (mvT hZ (gw hw 293 rfl)) (mvT hZ (gw hw 292 rfl)) (by decide) (backOf (W := 0) (rm_bhc11 l Z a0 hw [] bo62 ro62 u62 b55 u56 em T62.heap n0 Z0 F_source_bo62 F_places_bo62 F_first_bo62 F_size_bo62 A_bo62 A_ro62 F_records_ro62 A_u62 F_e0_u62 A_b55 F_holders_b55 A_u56 F_e1_u56 S_EMPTY) hZ (gw hw 294 rfl) (gw hw 95 rfl) (by decide) (by decide)) q66a q66c (g := (mkF m 206 #[.val (.int x0), .val (.int x1), .val (.int x2), .val (.int x3), .val (.int (1 : Int32)), .val (.int (1 : Int32)), .val (.int pz), .val (.ref b50), .val (.ref b52), .val (.ref b55), .val (.ref b57), .val (.ref b59), .val (.ref bo62), .val (.int (1 : Int32))] [(.int (0 : Int32)), (.ref bo62)])) rfl (by rw [hml]; rfl) (Steps.refl _) (argsL := [(.int (0 : Int32))]) (rest := []) (lenOf own_pd18 rfl) rfl (w0 (Nat.le_of_eq rfl)) (hb hby at_206) (fun _ _ => ⟨rfl, e65, (by decide : 15 + 0 ≤ _), (by decide : 56 + 0 ≤ _)⟩)
        dsimp only [Pt.U, Pt.locs, Pt.cells, Pt.slots] at X66 l66 y66 z66 st66 hQ66
        subst l66 y66 z66
        obtain ⟨rfl, N66q, e66⟩ := hQ66
        have N66 := Fr.app N65 N66q
        refine Gs (fun _ tk => st66.trans tk) ?_
        show Goes _ _ _ _ _ (T66.setTop (mkF m 209 #[.val (.int x0), .val (.int x1), .val (.int x2), .val (.int x3), .val (.int (1 : Int32)), .val (.int (1 : Int32)), .val (.int pz), .val (.ref b50), .val (.ref b52), .val (.ref b55), .val (.ref b57), .val (.ref b59), .val (.ref bo62), .val (.int (1 : Int32))] [(.int (1 : Int32))]))
        refine Gs (fun _ tk => XS.iload X66.here hx rfl (hb hby at_209) rfl tk) ?_
        refine Gs (fun _ tk => XS.ifNo X66.here hx rfl (hb hby at_211) rfl ((if0 _ _).trans (feq (by decide : ¬ ((1 : Int32) = (0 : Int32)))).1) tk) ?_
        refine Gs (fun _ tk => XS.iconst X66.here hx rfl (hb hby at_214) tk) ?_
        refine Gs (fun _ tk => XS.goto X66.here hx rfl (pc0 := 215) (pc' := 219) rfl (hb hby at_215) (by decide) (by decide) tk) ?_
        refine Gs (fun _ tk => XS.icmpNo X66.here hx rfl (hb hby at_219) rfl (teq (by decide : ((1 : Int32) = (1 : Int32)))).2 tk) ?_
        refine Gs (fun _ tk => XS.iconst X66.here hx rfl (hb hby at_222) tk) ?_
        show Goes _ _ _ _ _ (T66.setTop (mkF m 223 #[.val (.int x0), .val (.int x1), .val (.int x2), .val (.int x3), .val (.int (1 : Int32)), .val (.int (1 : Int32)), .val (.int pz), .val (.ref b50), .val (.ref b52), .val (.ref b55), .val (.ref b57), .val (.ref b59), .val (.ref bo62), .val (.int (1 : Int32))] [(.int (1 : Int32))]))
        refine Gs (fun _ tk => XS.goto X66.here hx rfl (pc0 := 223) (pc' := 227) rfl (hb hby at_223) (by decide) (by decide) tk) ?_
        refine Gs (fun _ tk => XS.istore X66.here hx rfl (hb hby at_227) rfl (l' := #[.val (.int x0), .val (.int x1), .val (.int x2), .val (.int x3), .val (.int (1 : Int32)), .val (.int (1 : Int32)), .val (.int pz), .val (.ref b50), .val (.ref b52), .val (.ref b55), .val (.ref b57), .val (.ref b59), .val (.ref bo62), .val (.int (1 : Int32))]) rfl tk) ?_
        refine Gs (fun _ tk => XS.iload X66.here hx rfl (hb hby at_229) rfl tk) ?_
        refine Gs (fun _ tk => XS.ifNo X66.here hx rfl (hb hby at_231) rfl ((if0 _ _).trans (feq (by decide : ¬ ((1 : Int32) = (0 : Int32)))).1) tk) ?_
        refine Gs (fun _ tk => XS.iload X66.here hx rfl (hb hby at_234) rfl tk) ?_
        refine Gs (fun _ tk => XS.iconst X66.here hx rfl (hb hby at_236) tk) ?_
        show Goes _ _ _ _ _ (T66.setTop (mkF m 237 #[.val (.int x0), .val (.int x1), .val (.int x2), .val (.int x3), .val (.int (1 : Int32)), .val (.int (1 : Int32)), .val (.int pz), .val (.ref b50), .val (.ref b52), .val (.ref b55), .val (.ref b57), .val (.ref b59), .val (.ref bo62), .val (.int (1 : Int32))] [(.int (2 : Int32)), (.int (1 : Int32))]))
        refine Gs (fun _ tk => XS.icmpYes X66.here hx rfl (pc0 := 237) (pc' := 268) rfl (hb hby at_237) rfl (tlt (by decide : ((1 : Int32) < (2 : Int32)))).1 (by decide) (by decide) tk) ?_
        refine Gs (fun _ tk => XS.iload X66.here hx rfl (hb hby at_268) rfl tk) ?_
        refine Gs (fun _ tk => XS.ifNo X66.here hx rfl (hb hby at_270) rfl ((if0 _ _).trans (feq (by decide : ¬ ((1 : Int32) = (0 : Int32)))).1) tk) ?_
        refine Gs (fun _ tk => XS.aload X66.here hx rfl (hb hby at_273) rfl rfl tk) ?_
        obtain ⟨_, _, ⟨T67, L67, k67, n67⟩, -, X67, ⟨Lc67, hQ67, l67, y67, z67⟩, st67⟩ := Jvm.LawKit.callS X66 hx (y := mN35) hown (mvT hZ (gw hw 93 rfl)) (mvT hZ (gw hw 94 rfl)) (mvT hZ (gw hw 95 rfl)) (mvT hZ (gw hw 96 rfl)) (by decide) (backOf (W := 0) (rm_bsofS l Z a0 hw [] bo62 T62.heap n0 Z0 A_bo62) hZ (gw hw 96 rfl) (gw hw 95 rfl) (by decide) (by decide)) (g := (mkF m 275 #[.val (.int x0), .val (.int x1), .val (.int x2), .val (.int x3), .val (.int (1 : Int32)), .val (.int (1 : Int32)), .val (.int pz), .val (.ref b50), .val (.ref b52), .val (.ref b55), .val (.ref b57), .val (.ref b59), .val (.ref bo62), .val (.int (1 : Int32))] [(.ref bo62)])) rfl (by rw [hml]; rfl) (argsL := [(.ref bo62)]) (rest := []) (lenOf own_pd22 rfl) rfl (w0 (Nat.le_of_eq rfl)) (hb hby at_275) (fun _ _ => ⟨rfl, e66, (by decide : 15 + 0 ≤ _), (by decide : 56 + 0 ≤ _)⟩)
        dsimp only [Pt.U, Pt.locs, Pt.cells, Pt.slots] at X67 l67 y67 z67 st67 hQ67
        subst l67 y67 z67
        obtain ⟨rfl, N67q, e67⟩ := hQ67
        have N67 := Fr.app N66 N67q
        refine Gs st67 ?_
        show Goes _ _ _ _ _ (T67.setTop (mkF m 278 #[.val (.int x0), .val (.int x1), .val (.int x2), .val (.int x3), .val (.int (1 : Int32)), .val (.int (1 : Int32)), .val (.int pz), .val (.ref b50), .val (.ref b52), .val (.ref b55), .val (.ref b57), .val (.ref b59), .val (.ref bo62), .val (.int (1 : Int32))] [(.ref bo62)]))
        refine Gs (fun _ tk => XS.aload X67.here hx rfl (hb hby at_278) rfl rfl tk) ?_
        refine Gs (fun _ tk => Jvm.RoadKit.acmp (g := (mkF m 280 #[.val (.int x0), .val (.int x1), .val (.int x2), .val (.int x3), .val (.int (1 : Int32)), .val (.int (1 : Int32)), .val (.int pz), .val (.ref b50), .val (.ref b52), .val (.ref b55), .val (.ref b57), .val (.ref b59), .val (.ref bo62), .val (.int (1 : Int32))] [(.ref bo62), (.ref bo62)])) X67 hx rfl rfl rfl (pc0 := 280) (pc' := 283) (same := true) rfl (hb hby at_280) rfl (decide_eq_true (congrArg Value.ref rfl)) (by decide) (by decide) tk) ?_
        refine Gs (fun _ tk => XS.iconst X67.here hx rfl (hb hby at_283) tk) ?_
        refine Gs (fun _ tk => XS.goto X67.here hx rfl (pc0 := 284) (pc' := 288) rfl (hb hby at_284) (by decide) (by decide) tk) ?_
        refine Gs (fun _ tk => XS.istore X67.here hx rfl (hb hby at_288) rfl (l' := #[.val (.int x0), .val (.int x1), .val (.int x2), .val (.int x3), .val (.int (1 : Int32)), .val (.int (1 : Int32)), .val (.int pz), .val (.ref b50), .val (.ref b52), .val (.ref b55), .val (.ref b57), .val (.ref b59), .val (.ref bo62), .val (.int (1 : Int32))]) rfl tk) ?_
        refine Gs (fun _ tk => XS.iload X67.here hx rfl (hb hby at_290) rfl tk) ?_
        show Goes _ _ _ _ _ (T67.setTop (mkF m 292 #[.val (.int x0), .val (.int x1), .val (.int x2), .val (.int x3), .val (.int (1 : Int32)), .val (.int (1 : Int32)), .val (.int pz), .val (.ref b50), .val (.ref b52), .val (.ref b55), .val (.ref b57), .val (.ref b59), .val (.ref bo62), .val (.int (1 : Int32))] [(.int (1 : Int32))]))
        refine Goes.ret X67 (some (.int (1 : Int32))) (fun h => by rw [hret] at h; cases h) hlk (by decide) (by decide) ?_ (fun fs hr => ?_)
        · exact ⟨rfl, N67⟩
        · exact own_retN X67 hx (t := .boolean) hret (by simp) rfl (hb hby at_292) hr
      by_cases hc25_68 : (x0 &&& (16 : Int32)) = (0 : Int32)
      · refine Gs (fun _ tk => XS.ifYes X0.here hx rfl (pc0 := 25) (pc' := 32) rfl (hb hby at_25) rfl ((if0 _ _).trans (teq hc25_68).1) (by decide) (by decide) tk) ?_
        refine Gs (fun _ tk => XS.iconst X0.here hx rfl (hb hby at_32) tk) ?_
        exact J33 (0 : Int32)
      · refine Gs (fun _ tk => XS.ifNo X0.here hx rfl (hb hby at_25) rfl ((if0 _ _).trans (feq hc25_68).1) tk) ?_
        refine Gs (fun _ tk => XS.iconst X0.here hx rfl (hb hby at_28) tk) ?_
        refine Gs (fun _ tk => XS.goto X0.here hx rfl (pc0 := 29) (pc' := 33) rfl (hb hby at_29) (by decide) (by decide) tk) ?_
        exact J33 (1 : Int32)
  · show Goes _ _ _ _ _ (s₁.setTop (mkF m 5 #[.val (.int x0), .val (.int x1), .val (.int x2), .val (.int x3), .unset, .unset, .unset, .unset, .unset, .unset, .unset, .unset, .unset, .unset] [(.int (2 : Int32))]))
    refine Gs (fun _ tk => XS.istore X0.here hx rfl (hb hby at_5) rfl (l' := #[.val (.int x0), .val (.int x1), .val (.int x2), .val (.int x3), .val (.int (2 : Int32)), .unset, .unset, .unset, .unset, .unset, .unset, .unset, .unset, .unset]) rfl tk) ?_
    refine Gs (fun _ tk => XS.iloadN X0.here hx rfl (hb hby at_7) rfl tk) ?_
    refine Gs (fun _ tk => XS.bipush X0.here hx rfl (hb hby at_8) tk) ?_
    show Goes _ _ _ _ _ (s₁.setTop (mkF m 10 #[.val (.int x0), .val (.int x1), .val (.int x2), .val (.int x3), .val (.int (2 : Int32)), .unset, .unset, .unset, .unset, .unset, .unset, .unset, .unset, .unset] [(.int (8 : Int32)), (.int x0)]))
    refine Gs (fun _ tk => XS.iand X0.here hx rfl (hb hby at_10) rfl tk) ?_
    show Goes _ _ _ _ _ (s₁.setTop (mkF m 11 #[.val (.int x0), .val (.int x1), .val (.int x2), .val (.int x3), .val (.int (2 : Int32)), .unset, .unset, .unset, .unset, .unset, .unset, .unset, .unset, .unset] [(.int (x0 &&& (8 : Int32)))]))
    by_cases hc11_69 : (x0 &&& (8 : Int32)) = (0 : Int32)
    · refine Gs (fun _ tk => XS.ifYes X0.here hx rfl (pc0 := 11) (pc' := 18) rfl (hb hby at_11) rfl ((if0 _ _).trans (teq hc11_69).1) (by decide) (by decide) tk) ?_
      refine Gs (fun _ tk => XS.iconst X0.here hx rfl (hb hby at_18) tk) ?_
      refine Gs (fun _ tk => XS.istore X0.here hx rfl (hb hby at_19) rfl (l' := #[.val (.int x0), .val (.int x1), .val (.int x2), .val (.int x3), .val (.int (2 : Int32)), .val (.int (0 : Int32)), .unset, .unset, .unset, .unset, .unset, .unset, .unset, .unset]) rfl tk) ?_
      refine Gs (fun _ tk => XS.iloadN X0.here hx rfl (hb hby at_21) rfl tk) ?_
      refine Gs (fun _ tk => XS.bipush X0.here hx rfl (hb hby at_22) tk) ?_
      show Goes _ _ _ _ _ (s₁.setTop (mkF m 24 #[.val (.int x0), .val (.int x1), .val (.int x2), .val (.int x3), .val (.int (2 : Int32)), .val (.int (0 : Int32)), .unset, .unset, .unset, .unset, .unset, .unset, .unset, .unset] [(.int (16 : Int32)), (.int x0)]))
      refine Gs (fun _ tk => XS.iand X0.here hx rfl (hb hby at_24) rfl tk) ?_
      show Goes _ _ _ _ _ (s₁.setTop (mkF m 25 #[.val (.int x0), .val (.int x1), .val (.int x2), .val (.int x3), .val (.int (2 : Int32)), .val (.int (0 : Int32)), .unset, .unset, .unset, .unset, .unset, .unset, .unset, .unset] [(.int (x0 &&& (16 : Int32)))]))
      have J33 : ∀ pz : Int32, Goes p e below (fun o u L => FrameEnd s o u L room_1.cells room_1.slots) (Q_rm_law Z x0 x1 x2 x3 d kd nl ea ke em no mr h0 n0) (s₁.setTop (mkF m 33 #[.val (.int x0), .val (.int x1), .val (.int x2), .val (.int x3), .val (.int (2 : Int32)), .val (.int (0 : Int32)), .unset, .unset, .unset, .unset, .unset, .unset, .unset, .unset] [(.int pz)])) := by
        intro pz
        refine Gs (fun _ tk => XS.istore X0.here hx rfl (hb hby at_33) rfl (l' := #[.val (.int x0), .val (.int x1), .val (.int x2), .val (.int x3), .val (.int (2 : Int32)), .val (.int (0 : Int32)), .val (.int pz), .unset, .unset, .unset, .unset, .unset, .unset, .unset]) rfl tk) ?_
        obtain ⟨T70, h70, X70, e70, E70, A70, D70, -, st70⟩ := newO X0 hx hZ hown (gw hw 0 rfl) (gw hw 1 rfl) (gw hw 2 rfl) e0 (g := (mkF m 35 #[.val (.int x0), .val (.int x1), .val (.int x2), .val (.int x3), .val (.int (2 : Int32)), .val (.int (0 : Int32)), .val (.int pz), .unset, .unset, .unset, .unset, .unset, .unset, .unset] [])) rfl (hb hby at_35) (by decide) (by decide)
        obtain ⟨b70, gq70⟩ : ∃ z, z = h0.size := ⟨_, rfl⟩
        rw [← gq70] at A70 st70 D70
        have g_b70 : n0 ≤ b70 := by rw [gq70]; exact Z0
        have ne_d_b70 : d ≠ b70 := by rw [gq70]; exact Nat.ne_of_lt V_d.lt
        have ne_nl_b70 : nl ≠ b70 := by rw [gq70]; exact Nat.ne_of_lt A_nl.lt
        have ne_ea_b70 : ea ≠ b70 := by rw [gq70]; exact Nat.ne_of_lt V_ea.lt
        have ne_em_b70 : em ≠ b70 := by rw [gq70]; exact Nat.ne_of_lt A_em.lt
        have ne_no_b70 : no ≠ b70 := by rw [gq70]; exact Nat.ne_of_lt A_no.lt
        replace S_DEFAULTCAPACITY_EMPTY_ELEMENTDATA := S_DEFAULTCAPACITY_EMPTY_ELEMENTDATA.ext E70
        replace V_d := V_d.ext E70
        replace S_EMPTY_LIST := S_EMPTY_LIST.ext E70
        replace A_nl := A_nl.ext E70
        replace F_elements_nl := F_elements_nl.ext E70
        replace V_ea := V_ea.ext E70
        replace S_EMPTY := S_EMPTY.ext E70
        replace A_em := A_em.ext E70
        replace A_no := A_no.ext E70
        replace Z0 : n0 ≤ h70.size := Nat.le_trans Z0 E70.1
        have A_b70 : Exa Z h70 b70 "org/stripeward/scenario/Node" := A70
        have F_index_b70 : Fld Z h70 b70 "org/stripeward/scenario/Node" "index" "I" (.int (0 : Int32)) := D70 (Or.inr (gw hw 15 rfl)) (ty := .int) (by decide)
        have F_name_b70 : Fld Z h70 b70 "org/stripeward/scenario/Node" "name" "Ljava/lang/String;" .null := D70 (Or.inr (gw hw 17 rfl)) (ty := (.object "java/lang/String")) (by decide)
        have F_rack_b70 : Fld Z h70 b70 "org/stripeward/scenario/Node" "rack" "Lorg/stripeward/scenario/Rack;" .null := D70 (Or.inr (gw hw 19 rfl)) (ty := (.object "org/stripeward/scenario/Rack")) (by decide)
        refine Gs st70 ?_
        show Goes _ _ _ _ _ (T70.setTop (mkF m 38 #[.val (.int x0), .val (.int x1), .val (.int x2), .val (.int x3), .val (.int (2 : Int32)), .val (.int (0 : Int32)), .val (.int pz), .unset, .unset, .unset, .unset, .unset, .unset, .unset] [(.ref b70)]))
        refine Gs (fun _ tk => XS.dup X70.here hx rfl (hb hby at_38) rfl rfl tk) ?_
        refine Gs (fun _ tk => XS.iloadN X70.here hx rfl (hb hby at_39) rfl tk) ?_
        refine Gs (fun _ tk => XS.aconstNull X70.here hx rfl (hb hby at_40) tk) ?_
        refine Gs (fun _ tk => XS.aconstNull X70.here hx rfl (hb hby at_41) tk) ?_
        obtain ⟨_, _, ⟨T71, L71, k71, n71⟩, -, X71, ⟨Lc71, hQ71, l71, y71, z71⟩, st71⟩ := X70.specialBack hx (y := mN25) rfl hown (mvT hZ (gw hw 3 rfl)) (mvT hZ (gw hw 4 rfl)) (mvT hZ (gw hw 5 rfl)) (by decide) (backOf (W := 1) (rm_node l Z a0 hw [] b70 x3 h70 n0 Z0 A_b70 F_index_b70 F_name_b70 F_rack_b70 g_b70) hZ (gw hw 5 rfl) (gw hw 2 rfl) (by decide) (by decide)) (g := (mkF m 42 #[.val (.int x0), .val (.int x1), .val (.int x2), .val (.int x3), .val (.int (2 : Int32)), .val (.int (0 : Int32)), .val (.int pz), .unset, .unset, .unset, .unset, .unset, .unset, .unset] [.null, .null, (.int x3), (.ref b70), (.ref b70)])) rfl (by rw [hml]; rfl) (Steps.refl _) (a := b70) (argsL := [(.int x3), .null, .null]) (rest := [(.ref b70)]) (lenOf own_pd20 rfl) rfl (w0 (Nat.le_of_eq rfl)) (hb hby at_42) (fun _ _ => ⟨rfl, e70, (by decide : 1 + 0 ≤ _), (by decide : 3 + 0 ≤ _)⟩)
        dsimp only [Pt.U, Pt.locs, Pt.cells, Pt.slots] at X71 l71 y71 z71 st71 hQ71
        subst l71 y71 z71
        obtain ⟨rfl, N71q, K71⟩ := hQ71
        have N71 := Fr.app N0 N71q
        replace S_DEFAULTCAPACITY_EMPTY_ELEMENTDATA := own_staK S_DEFAULTCAPACITY_EMPTY_ELEMENTDATA K71 (allS (own_obE A_b70) all0)
        replace S_EMPTY_LIST := own_staK S_EMPTY_LIST K71 (allS (own_obE A_b70) all0)
        replace S_EMPTY := own_staK S_EMPTY K71 (allS (own_obE A_b70) all0)
        replace V_d := V_d.keep K71 (ninS ne_d_b70 nin0)
        replace A_nl := A_nl.keep K71
        replace F_elements_nl := F_elements_nl.keep K71 (ninS ne_nl_b70 nin0)
        replace V_ea := V_ea.keep K71 (ninS ne_ea_b70 nin0)
        replace A_em := A_em.keep K71
        replace A_no := A_no.keep K71
        replace A_b70 := A_b70.keep K71
        replace Z0 := Nat.le_trans Z0 K71.1
        refine Gs (fun _ tk => st71.trans tk) ?_
        show Goes _ _ _ _ _ (T71.setTop (mkF m 45 #[.val (.int x0), .val (.int x1), .val (.int x2), .val (.int x3), .val (.int (2 : Int32)), .val (.int (0 : Int32)), .val (.int pz), .unset, .unset, .unset, .unset, .unset, .unset, .unset] [(.ref b70)]))
        refine Gs (fun _ tk => XS.astore X71.here hx rfl (hb hby at_45) rfl rfl (l' := #[.val (.int x0), .val (.int x1), .val (.int x2), .val (.int x3), .val (.int (2 : Int32)), .val (.int (0 : Int32)), .val (.int pz), .val (.ref b70), .unset, .unset, .unset, .unset, .unset, .unset]) rfl tk) ?_
        obtain ⟨T72, h72, X72, e72, E72, A72, D72, -, st72⟩ := newO X71 hx hZ hown (gw hw 20 rfl) (gw hw 21 rfl) (gw hw 22 rfl) rfl (g := (mkF m 47 #[.val (.int x0), .val (.int x1), .val (.int x2), .val (.int x3), .val (.int (2 : Int32)), .val (.int (0 : Int32)), .val (.int pz), .val (.ref b70), .unset, .unset, .unset, .unset, .unset, .unset] [])) rfl (hb hby at_47) (by decide) (by decide)
        obtain ⟨b72, gq72⟩ : ∃ z, z = T71.heap.size := ⟨_, rfl⟩
        rw [← gq72] at A72 st72 D72
        have g_b72 : n0 ≤ b72 := by rw [gq72]; exact Z0
        have ne_d_b72 : d ≠ b72 := by rw [gq72]; exact Nat.ne_of_lt V_d.lt
        have ne_nl_b72 : nl ≠ b72 := by rw [gq72]; exact Nat.ne_of_lt A_nl.lt
        have ne_ea_b72 : ea ≠ b72 := by rw [gq72]; exact Nat.ne_of_lt V_ea.lt
        have ne_em_b72 : em ≠ b72 := by rw [gq72]; exact Nat.ne_of_lt A_em.lt
        have ne_no_b72 : no ≠ b72 := by rw [gq72]; exact Nat.ne_of_lt A_no.lt
        have ne_b70_b72 : b70 ≠ b72 := by rw [gq72]; exact Nat.ne_of_lt A_b70.lt
        replace S_DEFAULTCAPACITY_EMPTY_ELEMENTDATA := S_DEFAULTCAPACITY_EMPTY_ELEMENTDATA.ext E72
        replace V_d := V_d.ext E72
        replace S_EMPTY_LIST := S_EMPTY_LIST.ext E72
        replace A_nl := A_nl.ext E72
        replace F_elements_nl := F_elements_nl.ext E72
        replace V_ea := V_ea.ext E72
        replace S_EMPTY := S_EMPTY.ext E72
        replace A_em := A_em.ext E72
        replace A_no := A_no.ext E72
        replace A_b70 := A_b70.ext E72
        replace Z0 : n0 ≤ h72.size := Nat.le_trans Z0 E72.1
        have A_b72 : Exa Z h72 b72 "java/util/ArrayList" := A72
        have F_modCount_b72 : Fld Z h72 b72 "java/util/AbstractList" "modCount" "I" (.int (0 : Int32)) := D72 (Or.inl (gw hw 40 rfl)) (ty := .int) (by decide)
        have F_elementData_b72 : Fld Z h72 b72 "java/util/ArrayList" "elementData" "[Ljava/lang/Object;" .null := D72 (Or.inl (gw hw 43 rfl)) (ty := (.array (.object "java/lang/Object"))) (by decide)
        have F_size_b72 : Fld Z h72 b72 "java/util/ArrayList" "size" "I" (.int (0 : Int32)) := D72 (Or.inl (gw hw 75 rfl)) (ty := .int) (by decide)
        refine Gs st72 ?_
        show Goes _ _ _ _ _ (T72.setTop (mkF m 50 #[.val (.int x0), .val (.int x1), .val (.int x2), .val (.int x3), .val (.int (2 : Int32)), .val (.int (0 : Int32)), .val (.int pz), .val (.ref b70), .unset, .unset, .unset, .unset, .unset, .unset] [(.ref b72)]))
        refine Gs (fun _ tk => XS.dup X72.here hx rfl (hb hby at_50) rfl rfl tk) ?_
        obtain ⟨_, _, ⟨T73, L73, k73, n73⟩, -, X73, ⟨Lc73, hQ73, l73, y73, z73⟩, st73⟩ := X72.specialBack hx (y := mN6) rfl hown (mvT hZ (gw hw 23 rfl)) (mvT hZ (gw hw 24 rfl)) (mvT hZ (gw hw 25 rfl)) (by decide) (backOf (W := 1) (rm_alinit l Z a0 hw [] b72 d h72 n0 Z0 A_b72 F_modCount_b72 F_elementData_b72 F_size_b72 S_DEFAULTCAPACITY_EMPTY_ELEMENTDATA g_b72) hZ (gw hw 25 rfl) (gw hw 22 rfl) (by decide) (by decide)) (g := (mkF m 51 #[.val (.int x0), .val (.int x1), .val (.int x2), .val (.int x3), .val (.int (2 : Int32)), .val (.int (0 : Int32)), .val (.int pz), .val (.ref b70), .unset, .unset, .unset, .unset, .unset, .unset] [(.ref b72), (.ref b72)])) rfl (by rw [hml]; rfl) (Steps.refl _) (a := b72) (argsL := []) (rest := [(.ref b72)]) (lenOf own_pd0 rfl) rfl (w0 (Nat.le_of_eq rfl)) (hb hby at_51) (fun _ _ => ⟨rfl, e72, (by decide : 2 + 0 ≤ _), (by decide : 6 + 0 ≤ _)⟩)
        dsimp only [Pt.U, Pt.locs, Pt.cells, Pt.slots] at X73 l73 y73 z73 st73 hQ73
        subst l73 y73 z73
        obtain ⟨rfl, N73q, K73, F_modCount_b72_73', F_elementData_b72_73', F_size_b72_73'⟩ := hQ73
        have N73 := Fr.app N71 N73q
        replace S_DEFAULTCAPACITY_EMPTY_ELEMENTDATA := own_staK S_DEFAULTCAPACITY_EMPTY_ELEMENTDATA K73 (allS (own_obE A_b72) all0)
        replace S_EMPTY_LIST := own_staK S_EMPTY_LIST K73 (allS (own_obE A_b72) all0)
        replace S_EMPTY := own_staK S_EMPTY K73 (allS (own_obE A_b72) all0)
        replace V_d := V_d.keep K73 (ninS ne_d_b72 nin0)
        replace A_nl := A_nl.keep K73
        replace F_elements_nl := F_elements_nl.keep K73 (ninS ne_nl_b72 nin0)
        replace V_ea := V_ea.keep K73 (ninS ne_ea_b72 nin0)
        replace A_em := A_em.keep K73
        replace A_no := A_no.keep K73
        replace A_b70 := A_b70.keep K73
        replace A_b72 := A_b72.keep K73
        replace Z0 := Nat.le_trans Z0 K73.1
        have F_size_b72 := F_size_b72_73'
        refine Gs (fun _ tk => st73.trans tk) ?_
        show Goes _ _ _ _ _ (T73.setTop (mkF m 54 #[.val (.int x0), .val (.int x1), .val (.int x2), .val (.int x3), .val (.int (2 : Int32)), .val (.int (0 : Int32)), .val (.int pz), .val (.ref b70), .unset, .unset, .unset, .unset, .unset, .unset] [(.ref b72)]))
        refine Gs (fun _ tk => XS.astore X73.here hx rfl (hb hby at_54) rfl rfl (l' := #[.val (.int x0), .val (.int x1), .val (.int x2), .val (.int x3), .val (.int (2 : Int32)), .val (.int (0 : Int32)), .val (.int pz), .val (.ref b70), .val (.ref b72), .unset, .unset, .unset, .unset, .unset]) rfl tk) ?_
        refine Gs (fun _ tk => XS.iload X73.here hx rfl (hb hby at_56) rfl tk) ?_
        refine Gs (fun _ tk => XS.ifYes X73.here hx rfl (pc0 := 58) (pc' := 71) rfl (hb hby at_58) rfl ((if0 _ _).trans (teq (by decide : ((0 : Int32) = (0 : Int32)))).1) (by decide) (by decide) tk) ?_
        obtain ⟨T74, h74, X74, e74, E74, A74, D74, -, st74⟩ := newO X73 hx hZ hown (gw hw 44 rfl) (gw hw 45 rfl) (gw hw 46 rfl) rfl (g := (mkF m 71 #[.val (.int x0), .val (.int x1), .val (.int x2), .val (.int x3), .val (.int (2 : Int32)), .val (.int (0 : Int32)), .val (.int pz), .val (.ref b70), .val (.ref b72), .unset, .unset, .unset, .unset, .unset] [])) rfl (hb hby at_71) (by decide) (by decide)
        obtain ⟨b74, gq74⟩ : ∃ z, z = T73.heap.size := ⟨_, rfl⟩
        rw [← gq74] at A74 st74 D74
        have g_b74 : n0 ≤ b74 := by rw [gq74]; exact Z0
        have ne_d_b74 : d ≠ b74 := by rw [gq74]; exact Nat.ne_of_lt V_d.lt
        have ne_nl_b74 : nl ≠ b74 := by rw [gq74]; exact Nat.ne_of_lt A_nl.lt
        have ne_ea_b74 : ea ≠ b74 := by rw [gq74]; exact Nat.ne_of_lt V_ea.lt
        have ne_em_b74 : em ≠ b74 := by rw [gq74]; exact Nat.ne_of_lt A_em.lt
        have ne_no_b74 : no ≠ b74 := by rw [gq74]; exact Nat.ne_of_lt A_no.lt
        have ne_b70_b74 : b70 ≠ b74 := by rw [gq74]; exact Nat.ne_of_lt A_b70.lt
        have ne_b72_b74 : b72 ≠ b74 := by rw [gq74]; exact Nat.ne_of_lt A_b72.lt
        replace S_DEFAULTCAPACITY_EMPTY_ELEMENTDATA := S_DEFAULTCAPACITY_EMPTY_ELEMENTDATA.ext E74
        replace V_d := V_d.ext E74
        replace S_EMPTY_LIST := S_EMPTY_LIST.ext E74
        replace A_nl := A_nl.ext E74
        replace F_elements_nl := F_elements_nl.ext E74
        replace V_ea := V_ea.ext E74
        replace S_EMPTY := S_EMPTY.ext E74
        replace A_em := A_em.ext E74
        replace A_no := A_no.ext E74
        replace A_b70 := A_b70.ext E74
        replace A_b72 := A_b72.ext E74
        replace F_size_b72 := F_size_b72.ext E74
        replace Z0 : n0 ≤ h74.size := Nat.le_trans Z0 E74.1
        have A_b74 : Exa Z h74 b74 "org/stripeward/scenario/Block" := A74
        have F_index_b74 : Fld Z h74 b74 "org/stripeward/scenario/Block" "index" "I" (.int (0 : Int32)) := D74 (Or.inr (gw hw 81 rfl)) (ty := .int) (by decide)
        have F_name_b74 : Fld Z h74 b74 "org/stripeward/scenario/Block" "name" "Ljava/lang/String;" .null := D74 (Or.inr (gw hw 83 rfl)) (ty := (.object "java/lang/String")) (by decide)
        have F_holders_b74 : Fld Z h74 b74 "org/stripeward/scenario/Block" "holders" "Ljava/util/List;" .null := D74 (Or.inr (gw hw 85 rfl)) (ty := (.object "java/util/List")) (by decide)
        have F_stripe_b74 : Fld Z h74 b74 "org/stripeward/scenario/Block" "stripe" "Lorg/stripeward/scenario/Stripe;" .null := D74 (Or.inr (gw hw 87 rfl)) (ty := (.object "org/stripeward/scenario/Stripe")) (by decide)
        have F_parity_b74 : Fld Z h74 b74 "org/stripeward/scenario/Block" "parity" "Z" (.int (0 : Int32)) := D74 (Or.inr (gw hw 89 rfl)) (ty := .boolean) (by decide)
        have F_sizeMiB_b74 : Fld Z h74 b74 "org/stripeward/scenario/Block" "sizeMiB" "D" (.double (0 : UInt64)) := D74 (Or.inr (gw hw 91 rfl)) (ty := .double) (by decide)
        refine Gs st74 ?_
        show Goes _ _ _ _ _ (T74.setTop (mkF m 74 #[.val (.int x0), .val (.int x1), .val (.int x2), .val (.int x3), .val (.int (2 : Int32)), .val (.int (0 : Int32)), .val (.int pz), .val (.ref b70), .val (.ref b72), .unset, .unset, .unset, .unset, .unset] [(.ref b74)]))
        refine Gs (fun _ tk => XS.dup X74.here hx rfl (hb hby at_74) rfl rfl tk) ?_
        refine Gs (fun _ tk => XS.iloadN X74.here hx rfl (hb hby at_75) rfl tk) ?_
        refine Gs (fun _ tk => XS.aconstNull X74.here hx rfl (hb hby at_76) tk) ?_
        refine Gs (fun _ tk => XS.aload X74.here hx rfl (hb hby at_77) rfl rfl tk) ?_
        refine Gs (fun _ tk => XS.aconstNull X74.here hx rfl (hb hby at_79) tk) ?_
        refine Gs (fun _ tk => XS.iload X74.here hx rfl (hb hby at_80) rfl tk) ?_
        show Goes _ _ _ _ _ (T74.setTop (mkF m 82 #[.val (.int x0), .val (.int x1), .val (.int x2), .val (.int x3), .val (.int (2 : Int32)), .val (.int (0 : Int32)), .val (.int pz), .val (.ref b70), .val (.ref b72), .unset, .unset, .unset, .unset, .unset] [(.int pz), .null, (.ref b72), .null, (.int x1), (.ref b74), (.ref b74)]))
        refine Gs (fun _ tk => XS.dconst1 X74.here hx rfl (hb hby at_82) rfl tk) ?_
        obtain ⟨_, _, ⟨T75, L75, k75, n75⟩, -, X75, ⟨Lc75, hQ75, l75, y75, z75⟩, st75⟩ := X74.specialBack hx (y := mN26) rfl hown (mvT hZ (gw hw 47 rfl)) (mvT hZ (gw hw 48 rfl)) (mvT hZ (gw hw 49 rfl)) (by decide) (backOf (W := 1) (rm_block0 l Z a0 hw [] b74 x1 b72 pz FP.dconst1 nl h74 n0 Z0 A_b74 F_index_b74 F_name_b74 F_holders_b74 F_stripe_b74 F_parity_b74 F_sizeMiB_b74 g_b74 A_b72 F_size_b72 S_EMPTY_LIST ne_b72_b74) hZ (gw hw 49 rfl) (gw hw 46 rfl) (by decide) (by decide)) (g := (mkF m 83 #[.val (.int x0), .val (.int x1), .val (.int x2), .val (.int x3), .val (.int (2 : Int32)), .val (.int (0 : Int32)), .val (.int pz), .val (.ref b70), .val (.ref b72), .unset, .unset, .unset, .unset, .unset] [(.double FP.dconst1), (.int pz), .null, (.ref b72), .null, (.int x1), (.ref b74), (.ref b74)])) rfl (by rw [hml]; rfl) (Steps.refl _) (a := b74) (argsL := [(.int x1), .null, (.ref b72), .null, (.int pz), (.double FP.dconst1)]) (rest := [(.ref b74)]) (lenOf own_pd21 rfl) rfl (w0 (Nat.le_of_eq rfl)) (hb hby at_83) (fun _ _ => ⟨rfl, e74, (by decide : 3 + 0 ≤ _), (by decide : 12 + 0 ≤ _)⟩)
        dsimp only [Pt.U, Pt.locs, Pt.cells, Pt.slots] at X75 l75 y75 z75 st75 hQ75
        subst l75 y75 z75
        obtain ⟨rfl, N75q, K75, F_index_b74_75', F_holders_b74_75'⟩ := hQ75
        have N75 := Fr.app N73 N75q
        replace S_DEFAULTCAPACITY_EMPTY_ELEMENTDATA := own_staK S_DEFAULTCAPACITY_EMPTY_ELEMENTDATA K75 (allS (own_obE A_b74) all0)
        replace S_EMPTY_LIST := own_staK S_EMPTY_LIST K75 (allS (own_obE A_b74) all0)
        replace S_EMPTY := own_staK S_EMPTY K75 (allS (own_obE A_b74) all0)
        replace V_d := V_d.keep K75 (ninS ne_d_b74 nin0)
        replace A_nl := A_nl.keep K75
        replace F_elements_nl := F_elements_nl.keep K75 (ninS ne_nl_b74 nin0)
        replace V_ea := V_ea.keep K75 (ninS ne_ea_b74 nin0)
        replace A_em := A_em.keep K75
        replace A_no := A_no.keep K75
        replace A_b70 := A_b70.keep K75
        replace A_b72 := A_b72.keep K75
        replace F_size_b72 := F_size_b72.keep K75 (ninS ne_b72_b74 nin0)
        replace A_b74 := A_b74.keep K75
        replace Z0 := Nat.le_trans Z0 K75.1
        have F_index_b74 := F_index_b74_75'
        have F_holders_b74 := F_holders_b74_75'
        refine Gs (fun _ tk => st75.trans tk) ?_
        show Goes _ _ _ _ _ (T75.setTop (mkF m 86 #[.val (.int x0), .val (.int x1), .val (.int x2), .val (.int x3), .val (.int (2 : Int32)), .val (.int (0 : Int32)), .val (.int pz), .val (.ref b70), .val (.ref b72), .unset, .unset, .unset, .unset, .unset] [(.ref b74)]))
        refine Gs (fun _ tk => XS.astore X75.here hx rfl (hb hby at_86) rfl rfl (l' := #[.val (.int x0), .val (.int x1), .val (.int x2), .val (.int x3), .val (.int (2 : Int32)), .val (.int (0 : Int32)), .val (.int pz), .val (.ref b70), .val (.ref b72), .val (.ref b74), .unset, .unset, .unset, .unset]) rfl tk) ?_
        obtain ⟨T76, h76, X76, e76, E76, A76, D76, -, st76⟩ := newO X75 hx hZ hown (gw hw 44 rfl) (gw hw 45 rfl) (gw hw 46 rfl) rfl (g := (mkF m 88 #[.val (.int x0), .val (.int x1), .val (.int x2), .val (.int x3), .val (.int (2 : Int32)), .val (.int (0 : Int32)), .val (.int pz), .val (.ref b70), .val (.ref b72), .val (.ref b74), .unset, .unset, .unset, .unset] [])) rfl (hb hby at_88) (by decide) (by decide)
        obtain ⟨b76, gq76⟩ : ∃ z, z = T75.heap.size := ⟨_, rfl⟩
        rw [← gq76] at A76 st76 D76
        have g_b76 : n0 ≤ b76 := by rw [gq76]; exact Z0
        have ne_d_b76 : d ≠ b76 := by rw [gq76]; exact Nat.ne_of_lt V_d.lt
        have ne_nl_b76 : nl ≠ b76 := by rw [gq76]; exact Nat.ne_of_lt A_nl.lt
        have ne_ea_b76 : ea ≠ b76 := by rw [gq76]; exact Nat.ne_of_lt V_ea.lt
        have ne_em_b76 : em ≠ b76 := by rw [gq76]; exact Nat.ne_of_lt A_em.lt
        have ne_no_b76 : no ≠ b76 := by rw [gq76]; exact Nat.ne_of_lt A_no.lt
        have ne_b70_b76 : b70 ≠ b76 := by rw [gq76]; exact Nat.ne_of_lt A_b70.lt
        have ne_b72_b76 : b72 ≠ b76 := by rw [gq76]; exact Nat.ne_of_lt A_b72.lt
        have ne_b74_b76 : b74 ≠ b76 := by rw [gq76]; exact Nat.ne_of_lt A_b74.lt
        replace S_DEFAULTCAPACITY_EMPTY_ELEMENTDATA := S_DEFAULTCAPACITY_EMPTY_ELEMENTDATA.ext E76
        replace V_d := V_d.ext E76
        replace S_EMPTY_LIST := S_EMPTY_LIST.ext E76
        replace A_nl := A_nl.ext E76
        replace F_elements_nl := F_elements_nl.ext E76
        replace V_ea := V_ea.ext E76
        replace S_EMPTY := S_EMPTY.ext E76
        replace A_em := A_em.ext E76
        replace A_no := A_no.ext E76
        replace A_b70 := A_b70.ext E76
        replace A_b72 := A_b72.ext E76
        replace F_size_b72 := F_size_b72.ext E76
        replace A_b74 := A_b74.ext E76
        replace F_index_b74 := F_index_b74.ext E76
        replace F_holders_b74 := F_holders_b74.ext E76
        replace Z0 : n0 ≤ h76.size := Nat.le_trans Z0 E76.1
        have A_b76 : Exa Z h76 b76 "org/stripeward/scenario/Block" := A76
        have F_index_b76 : Fld Z h76 b76 "org/stripeward/scenario/Block" "index" "I" (.int (0 : Int32)) := D76 (Or.inr (gw hw 81 rfl)) (ty := .int) (by decide)
        have F_name_b76 : Fld Z h76 b76 "org/stripeward/scenario/Block" "name" "Ljava/lang/String;" .null := D76 (Or.inr (gw hw 83 rfl)) (ty := (.object "java/lang/String")) (by decide)
        have F_holders_b76 : Fld Z h76 b76 "org/stripeward/scenario/Block" "holders" "Ljava/util/List;" .null := D76 (Or.inr (gw hw 85 rfl)) (ty := (.object "java/util/List")) (by decide)
        have F_stripe_b76 : Fld Z h76 b76 "org/stripeward/scenario/Block" "stripe" "Lorg/stripeward/scenario/Stripe;" .null := D76 (Or.inr (gw hw 87 rfl)) (ty := (.object "org/stripeward/scenario/Stripe")) (by decide)
        have F_parity_b76 : Fld Z h76 b76 "org/stripeward/scenario/Block" "parity" "Z" (.int (0 : Int32)) := D76 (Or.inr (gw hw 89 rfl)) (ty := .boolean) (by decide)
        have F_sizeMiB_b76 : Fld Z h76 b76 "org/stripeward/scenario/Block" "sizeMiB" "D" (.double (0 : UInt64)) := D76 (Or.inr (gw hw 91 rfl)) (ty := .double) (by decide)
        refine Gs st76 ?_
        show Goes _ _ _ _ _ (T76.setTop (mkF m 91 #[.val (.int x0), .val (.int x1), .val (.int x2), .val (.int x3), .val (.int (2 : Int32)), .val (.int (0 : Int32)), .val (.int pz), .val (.ref b70), .val (.ref b72), .val (.ref b74), .unset, .unset, .unset, .unset] [(.ref b76)]))
        refine Gs (fun _ tk => XS.dup X76.here hx rfl (hb hby at_91) rfl rfl tk) ?_
        refine Gs (fun _ tk => XS.iloadN X76.here hx rfl (hb hby at_92) rfl tk) ?_
        refine Gs (fun _ tk => XS.aconstNull X76.here hx rfl (hb hby at_93) tk) ?_
        refine Gs (fun _ tk => XS.aload X76.here hx rfl (hb hby at_94) rfl rfl tk) ?_
        refine Gs (fun _ tk => XS.aconstNull X76.here hx rfl (hb hby at_96) tk) ?_
        refine Gs (fun _ tk => XS.iconst X76.here hx rfl (hb hby at_97) tk) ?_
        show Goes _ _ _ _ _ (T76.setTop (mkF m 98 #[.val (.int x0), .val (.int x1), .val (.int x2), .val (.int x3), .val (.int (2 : Int32)), .val (.int (0 : Int32)), .val (.int pz), .val (.ref b70), .val (.ref b72), .val (.ref b74), .unset, .unset, .unset, .unset] [(.int (0 : Int32)), .null, (.ref b72), .null, (.int x2), (.ref b76), (.ref b76)]))
        refine Gs (fun _ tk => X76.ldc2DoubleC hx hown (mvT hZ (gw hw 92 rfl)) (g := (mkF m 98 #[.val (.int x0), .val (.int x1), .val (.int x2), .val (.int x3), .val (.int (2 : Int32)), .val (.int (0 : Int32)), .val (.int pz), .val (.ref b70), .val (.ref b72), .val (.ref b74), .unset, .unset, .unset, .unset] [(.int (0 : Int32)), .null, (.ref b72), .null, (.int x2), (.ref b76), (.ref b76)])) rfl (hb hby at_98) _ tk) ?_
        show Goes _ _ _ _ _ (T76.setTop (mkF m 101 #[.val (.int x0), .val (.int x1), .val (.int x2), .val (.int x3), .val (.int (2 : Int32)), .val (.int (0 : Int32)), .val (.int pz), .val (.ref b70), .val (.ref b72), .val (.ref b74), .unset, .unset, .unset, .unset] [(.double (4611686018427387904 : UInt64)), (.int (0 : Int32)), .null, (.ref b72), .null, (.int x2), (.ref b76), (.ref b76)]))
        obtain ⟨_, _, ⟨T77, L77, k77, n77⟩, -, X77, ⟨Lc77, hQ77, l77, y77, z77⟩, st77⟩ := X76.specialBack hx (y := mN26) rfl hown (mvT hZ (gw hw 47 rfl)) (mvT hZ (gw hw 48 rfl)) (mvT hZ (gw hw 49 rfl)) (by decide) (backOf (W := 1) (rm_block0 l Z a0 hw [] b76 x2 b72 (0 : Int32) (4611686018427387904 : UInt64) nl h76 n0 Z0 A_b76 F_index_b76 F_name_b76 F_holders_b76 F_stripe_b76 F_parity_b76 F_sizeMiB_b76 g_b76 A_b72 F_size_b72 S_EMPTY_LIST ne_b72_b76) hZ (gw hw 49 rfl) (gw hw 46 rfl) (by decide) (by decide)) (g := (mkF m 101 #[.val (.int x0), .val (.int x1), .val (.int x2), .val (.int x3), .val (.int (2 : Int32)), .val (.int (0 : Int32)), .val (.int pz), .val (.ref b70), .val (.ref b72), .val (.ref b74), .unset, .unset, .unset, .unset] [(.double (4611686018427387904 : UInt64)), (.int (0 : Int32)), .null, (.ref b72), .null, (.int x2), (.ref b76), (.ref b76)])) rfl (by rw [hml]; rfl) (Steps.refl _) (a := b76) (argsL := [(.int x2), .null, (.ref b72), .null, (.int (0 : Int32)), (.double (4611686018427387904 : UInt64))]) (rest := [(.ref b76)]) (lenOf own_pd21 rfl) rfl (w0 (Nat.le_of_eq rfl)) (hb hby at_101) (fun _ _ => ⟨rfl, e76, (by decide : 4 + 0 ≤ _), (by decide : 18 + 0 ≤ _)⟩)
        dsimp only [Pt.U, Pt.locs, Pt.cells, Pt.slots] at X77 l77 y77 z77 st77 hQ77
        subst l77 y77 z77
        obtain ⟨rfl, N77q, K77, F_index_b76_77', F_holders_b76_77'⟩ := hQ77
        have N77 := Fr.app N75 N77q
        replace S_DEFAULTCAPACITY_EMPTY_ELEMENTDATA := own_staK S_DEFAULTCAPACITY_EMPTY_ELEMENTDATA K77 (allS (own_obE A_b76) all0)
        replace S_EMPTY := own_staK S_EMPTY K77 (allS (own_obE A_b76) all0)
        replace V_d := V_d.keep K77 (ninS ne_d_b76 nin0)
        replace A_nl := A_nl.keep K77
        replace F_elements_nl := F_elements_nl.keep K77 (ninS ne_nl_b76 nin0)
        replace V_ea := V_ea.keep K77 (ninS ne_ea_b76 nin0)
        replace A_em := A_em.keep K77
        replace A_no := A_no.keep K77
        replace A_b70 := A_b70.keep K77
        replace A_b72 := A_b72.keep K77
        replace A_b74 := A_b74.keep K77
        replace F_index_b74 := F_index_b74.keep K77 (ninS ne_b74_b76 nin0)
        replace F_holders_b74 := F_holders_b74.keep K77 (ninS ne_b74_b76 nin0)
        replace A_b76 := A_b76.keep K77
        replace Z0 := Nat.le_trans Z0 K77.1
        have F_index_b76 := F_index_b76_77'
        refine Gs (fun _ tk => st77.trans tk) ?_
        show Goes _ _ _ _ _ (T77.setTop (mkF m 104 #[.val (.int x0), .val (.int x1), .val (.int x2), .val (.int x3), .val (.int (2 : Int32)), .val (.int (0 : Int32)), .val (.int pz), .val (.ref b70), .val (.ref b72), .val (.ref b74), .unset, .unset, .unset, .unset] [(.ref b76)]))
        refine Gs (fun _ tk => XS.astore X77.here hx rfl (hb hby at_104) rfl rfl (l' := #[.val (.int x0), .val (.int x1), .val (.int x2), .val (.int x3), .val (.int (2 : Int32)), .val (.int (0 : Int32)), .val (.int pz), .val (.ref b70), .val (.ref b72), .val (.ref b74), .val (.ref b76), .unset, .unset, .unset]) rfl tk) ?_
        obtain ⟨T78, h78, X78, e78, E78, A78, D78, -, st78⟩ := newO X77 hx hZ hown (gw hw 20 rfl) (gw hw 21 rfl) (gw hw 22 rfl) rfl (g := (mkF m 106 #[.val (.int x0), .val (.int x1), .val (.int x2), .val (.int x3), .val (.int (2 : Int32)), .val (.int (0 : Int32)), .val (.int pz), .val (.ref b70), .val (.ref b72), .val (.ref b74), .val (.ref b76), .unset, .unset, .unset] [])) rfl (hb hby at_106) (by decide) (by decide)
        obtain ⟨b78, gq78⟩ : ∃ z, z = T77.heap.size := ⟨_, rfl⟩
        rw [← gq78] at A78 st78 D78
        have g_b78 : n0 ≤ b78 := by rw [gq78]; exact Z0
        have ne_d_b78 : d ≠ b78 := by rw [gq78]; exact Nat.ne_of_lt V_d.lt
        have ne_nl_b78 : nl ≠ b78 := by rw [gq78]; exact Nat.ne_of_lt A_nl.lt
        have ne_ea_b78 : ea ≠ b78 := by rw [gq78]; exact Nat.ne_of_lt V_ea.lt
        have ne_em_b78 : em ≠ b78 := by rw [gq78]; exact Nat.ne_of_lt A_em.lt
        have ne_no_b78 : no ≠ b78 := by rw [gq78]; exact Nat.ne_of_lt A_no.lt
        have ne_b70_b78 : b70 ≠ b78 := by rw [gq78]; exact Nat.ne_of_lt A_b70.lt
        have ne_b72_b78 : b72 ≠ b78 := by rw [gq78]; exact Nat.ne_of_lt A_b72.lt
        have ne_b74_b78 : b74 ≠ b78 := by rw [gq78]; exact Nat.ne_of_lt A_b74.lt
        have ne_b76_b78 : b76 ≠ b78 := by rw [gq78]; exact Nat.ne_of_lt A_b76.lt
        replace S_DEFAULTCAPACITY_EMPTY_ELEMENTDATA := S_DEFAULTCAPACITY_EMPTY_ELEMENTDATA.ext E78
        replace V_d := V_d.ext E78
        replace A_nl := A_nl.ext E78
        replace F_elements_nl := F_elements_nl.ext E78
        replace V_ea := V_ea.ext E78
        replace S_EMPTY := S_EMPTY.ext E78
        replace A_em := A_em.ext E78
        replace A_no := A_no.ext E78
        replace A_b70 := A_b70.ext E78
        replace A_b72 := A_b72.ext E78
        replace A_b74 := A_b74.ext E78
        replace F_index_b74 := F_index_b74.ext E78
        replace F_holders_b74 := F_holders_b74.ext E78
        replace A_b76 := A_b76.ext E78
        replace F_index_b76 := F_index_b76.ext E78
        replace Z0 : n0 ≤ h78.size := Nat.le_trans Z0 E78.1
        have A_b78 : Exa Z h78 b78 "java/util/ArrayList" := A78
        have F_modCount_b78 : Fld Z h78 b78 "java/util/AbstractList" "modCount" "I" (.int (0 : Int32)) := D78 (Or.inl (gw hw 40 rfl)) (ty := .int) (by decide)
        have F_elementData_b78 : Fld Z h78 b78 "java/util/ArrayList" "elementData" "[Ljava/lang/Object;" .null := D78 (Or.inl (gw hw 43 rfl)) (ty := (.array (.object "java/lang/Object"))) (by decide)
        have F_size_b78 : Fld Z h78 b78 "java/util/ArrayList" "size" "I" (.int (0 : Int32)) := D78 (Or.inl (gw hw 75 rfl)) (ty := .int) (by decide)
        refine Gs st78 ?_
        show Goes _ _ _ _ _ (T78.setTop (mkF m 109 #[.val (.int x0), .val (.int x1), .val (.int x2), .val (.int x3), .val (.int (2 : Int32)), .val (.int (0 : Int32)), .val (.int pz), .val (.ref b70), .val (.ref b72), .val (.ref b74), .val (.ref b76), .unset, .unset, .unset] [(.ref b78)]))
        refine Gs (fun _ tk => XS.dup X78.here hx rfl (hb hby at_109) rfl rfl tk) ?_
        obtain ⟨_, _, ⟨T79, L79, k79, n79⟩, -, X79, ⟨Lc79, hQ79, l79, y79, z79⟩, st79⟩ := X78.specialBack hx (y := mN6) rfl hown (mvT hZ (gw hw 23 rfl)) (mvT hZ (gw hw 24 rfl)) (mvT hZ (gw hw 25 rfl)) (by decide) (backOf (W := 1) (rm_alinit l Z a0 hw [] b78 d h78 n0 Z0 A_b78 F_modCount_b78 F_elementData_b78 F_size_b78 S_DEFAULTCAPACITY_EMPTY_ELEMENTDATA g_b78) hZ (gw hw 25 rfl) (gw hw 22 rfl) (by decide) (by decide)) (g := (mkF m 110 #[.val (.int x0), .val (.int x1), .val (.int x2), .val (.int x3), .val (.int (2 : Int32)), .val (.int (0 : Int32)), .val (.int pz), .val (.ref b70), .val (.ref b72), .val (.ref b74), .val (.ref b76), .unset, .unset, .unset] [(.ref b78), (.ref b78)])) rfl (by rw [hml]; rfl) (Steps.refl _) (a := b78) (argsL := []) (rest := [(.ref b78)]) (lenOf own_pd0 rfl) rfl (w0 (Nat.le_of_eq rfl)) (hb hby at_110) (fun _ _ => ⟨rfl, e78, (by decide : 5 + 0 ≤ _), (by decide : 21 + 0 ≤ _)⟩)
        dsimp only [Pt.U, Pt.locs, Pt.cells, Pt.slots] at X79 l79 y79 z79 st79 hQ79
        subst l79 y79 z79
        obtain ⟨rfl, N79q, K79, F_modCount_b78_79', F_elementData_b78_79', F_size_b78_79'⟩ := hQ79
        have N79 := Fr.app N77 N79q
        replace S_DEFAULTCAPACITY_EMPTY_ELEMENTDATA := own_staK S_DEFAULTCAPACITY_EMPTY_ELEMENTDATA K79 (allS (own_obE A_b78) all0)
        replace S_EMPTY := own_staK S_EMPTY K79 (allS (own_obE A_b78) all0)
        replace V_d := V_d.keep K79 (ninS ne_d_b78 nin0)
        replace A_nl := A_nl.keep K79
        replace F_elements_nl := F_elements_nl.keep K79 (ninS ne_nl_b78 nin0)
        replace V_ea := V_ea.keep K79 (ninS ne_ea_b78 nin0)
        replace A_em := A_em.keep K79
        replace A_no := A_no.keep K79
        replace A_b70 := A_b70.keep K79
        replace A_b72 := A_b72.keep K79
        replace A_b74 := A_b74.keep K79
        replace F_index_b74 := F_index_b74.keep K79 (ninS ne_b74_b78 nin0)
        replace F_holders_b74 := F_holders_b74.keep K79 (ninS ne_b74_b78 nin0)
        replace A_b76 := A_b76.keep K79
        replace F_index_b76 := F_index_b76.keep K79 (ninS ne_b76_b78 nin0)
        replace A_b78 := A_b78.keep K79
        replace Z0 := Nat.le_trans Z0 K79.1
        have F_modCount_b78 := F_modCount_b78_79'
        have F_elementData_b78 := F_elementData_b78_79'
        have F_size_b78 := F_size_b78_79'
        refine Gs (fun _ tk => st79.trans tk) ?_
        show Goes _ _ _ _ _ (T79.setTop (mkF m 113 #[.val (.int x0), .val (.int x1), .val (.int x2), .val (.int x3), .val (.int (2 : Int32)), .val (.int (0 : Int32)), .val (.int pz), .val (.ref b70), .val (.ref b72), .val (.ref b74), .val (.ref b76), .unset, .unset, .unset] [(.ref b78)]))
        refine Gs (fun _ tk => XS.astore X79.here hx rfl (hb hby at_113) rfl rfl (l' := #[.val (.int x0), .val (.int x1), .val (.int x2), .val (.int x3), .val (.int (2 : Int32)), .val (.int (0 : Int32)), .val (.int pz), .val (.ref b70), .val (.ref b72), .val (.ref b74), .val (.ref b76), .val (.ref b78), .unset, .unset]) rfl tk) ?_
        refine Gs (fun _ tk => XS.iload X79.here hx rfl (hb hby at_115) rfl tk) ?_
        refine Gs (fun _ tk => XS.iconst X79.here hx rfl (hb hby at_117) tk) ?_
        refine Gs (fun _ tk => XS.icmpNo X79.here hx rfl (hb hby at_118) rfl (flt (by decide : ¬ ((2 : Int32) < (1 : Int32)))).1 tk) ?_
        refine Gs (fun _ tk => XS.aload X79.here hx rfl (hb hby at_121) rfl rfl tk) ?_
        refine Gs (fun _ tk => XS.aload X79.here hx rfl (hb hby at_123) rfl rfl tk) ?_
        show Goes _ _ _ _ _ (T79.setTop (mkF m 125 #[.val (.int x0), .val (.int x1), .val (.int x2), .val (.int x3), .val (.int (2 : Int32)), .val (.int (0 : Int32)), .val (.int pz), .val (.ref b70), .val (.ref b72), .val (.ref b74), .val (.ref b76), .val (.ref b78), .unset, .unset] [(.ref b74), (.ref b78)]))
        have ltc80_d : d < T79.heap.size := V_d.lt
        have ltc80_nl : nl < T79.heap.size := A_nl.lt
        have ltc80_ea : ea < T79.heap.size := V_ea.lt
        have ltc80_em : em < T79.heap.size := A_em.lt
        have ltc80_no : no < T79.heap.size := A_no.lt
        have ltc80_b70 : b70 < T79.heap.size := A_b70.lt
        have ltc80_b72 : b72 < T79.heap.size := A_b72.lt
        have ltc80_b74 : b74 < T79.heap.size := A_b74.lt
        have ltc80_b76 : b76 < T79.heap.size := A_b76.lt
        have ltc80_b78 : b78 < T79.heap.size := A_b78.lt
        obtain ⟨cq80, kq80, q80a, q80b, q80c⟩ := isOf hZ rfl A_b78
        obtain ⟨_, _, ⟨T80, L80, k80, n80⟩, -, X80, ⟨Lc80, hQ80, l80, y80, z80⟩, st80⟩ := X79.interfaceBack hx (xi := mN49) (y := mN12) hown (mvT hZ (gw hw 113 rfl)) (mvT hZ (gw hw 114 rfl)) (mvT hZ (gw hw 115 rfl)) (mvT hZ (gw hw 116 rfl)) (mvT hZ (gw hw 117 rfl)) (mvT hZ (gw hw 118 rfl)) (mvT hZ (gw hw 119 rfl)) (mvT hZ (gw hw 102 rfl)) (by decide) (backOf (W := 0) (rm_add0 l Z a0 hw [] b78 b74 (0 : Int32) d kd T79.heap n0 Z0 A_b78 F_modCount_b78 F_elementData_b78 F_size_b78 S_DEFAULTCAPACITY_EMPTY_ELEMENTDATA V_d g_b78 ne_d_b78 (Ins.of_exa A_b74 (gw hw 208 rfl))) hZ (gw hw 120 rfl) (gw hw 22 rfl) (by decide) (by decide)) q80a q80b q80c (g := (mkF m 125 #[.val (.int x0), .val (.int x1), .val (.int x2), .val (.int x3), .val (.int (2 : Int32)), .val (.int (0 : Int32)), .val (.int pz), .val (.ref b70), .val (.ref b72), .val (.ref b74), .val (.ref b76), .val (.ref b78), .unset, .unset] [(.ref b74), (.ref b78)])) rfl (by rw [hml]; rfl) (Steps.refl _) (argsL := [(.ref b74)]) (rest := []) (lenOf own_pd23 rfl) rfl (w0 (Nat.le_of_eq rfl)) (hb hby at_125) (fun _ _ => ⟨rfl, rfl, (by decide : 5 + 1 ≤ _), (by decide : 21 + 10 ≤ _)⟩)
        dsimp only [Pt.U, Pt.locs, Pt.cells, Pt.slots] at X80 l80 y80 z80 st80 hQ80
        subst l80 y80 z80
        obtain ⟨b80, kb80, rfl, N80q, K80, F_modCount_b78_80', F_elementData_b78_80', F_size_b78_80', V_b80_80', A_b80_80', Ov_80', g_b80_80', sz_b80_80'⟩ := hQ80
        have N80 := Fr.app N79 N80q
        replace S_DEFAULTCAPACITY_EMPTY_ELEMENTDATA := own_staK S_DEFAULTCAPACITY_EMPTY_ELEMENTDATA K80 (allS (own_obE A_b78) all0)
        replace S_EMPTY := own_staK S_EMPTY K80 (allS (own_obE A_b78) all0)
        replace V_d := V_d.keep K80 (ninS ne_d_b78 nin0)
        replace A_nl := A_nl.keep K80
        replace F_elements_nl := F_elements_nl.keep K80 (ninS ne_nl_b78 nin0)
        replace V_ea := V_ea.keep K80 (ninS ne_ea_b78 nin0)
        replace A_em := A_em.keep K80
        replace A_no := A_no.keep K80
        replace A_b70 := A_b70.keep K80
        replace A_b72 := A_b72.keep K80
        replace A_b74 := A_b74.keep K80
        replace F_index_b74 := F_index_b74.keep K80 (ninS ne_b74_b78 nin0)
        replace F_holders_b74 := F_holders_b74.keep K80 (ninS ne_b74_b78 nin0)
        replace A_b76 := A_b76.keep K80
        replace F_index_b76 := F_index_b76.keep K80 (ninS ne_b76_b78 nin0)
        replace A_b78 := A_b78.keep K80
        replace Z0 := Nat.le_trans Z0 K80.1
        have F_modCount_b78 := F_modCount_b78_80'
        have F_elementData_b78 := F_elementData_b78_80'
        have F_size_b78 := F_size_b78_80'
        have V_b80 := V_b80_80'
        have A_b80 := A_b80_80'
        have Ov80 := Ov_80'
        have g_b80 := g_b80_80'
        have szc_b80 := sz_b80_80'
        have ne_d_b80 : d ≠ b80 := Nat.ne_of_lt (Nat.lt_of_lt_of_le ltc80_d szc_b80)
        have ne_nl_b80 : nl ≠ b80 := Nat.ne_of_lt (Nat.lt_of_lt_of_le ltc80_nl szc_b80)
        have ne_ea_b80 : ea ≠ b80 := Nat.ne_of_lt (Nat.lt_of_lt_of_le ltc80_ea szc_b80)
        have ne_em_b80 : em ≠ b80 := Nat.ne_of_lt (Nat.lt_of_lt_of_le ltc80_em szc_b80)
        have ne_no_b80 : no ≠ b80 := Nat.ne_of_lt (Nat.lt_of_lt_of_le ltc80_no szc_b80)
        have ne_b70_b80 : b70 ≠ b80 := Nat.ne_of_lt (Nat.lt_of_lt_of_le ltc80_b70 szc_b80)
        have ne_b72_b80 : b72 ≠ b80 := Nat.ne_of_lt (Nat.lt_of_lt_of_le ltc80_b72 szc_b80)
        have ne_b74_b80 : b74 ≠ b80 := Nat.ne_of_lt (Nat.lt_of_lt_of_le ltc80_b74 szc_b80)
        have ne_b76_b80 : b76 ≠ b80 := Nat.ne_of_lt (Nat.lt_of_lt_of_le ltc80_b76 szc_b80)
        have ne_b78_b80 : b78 ≠ b80 := Nat.ne_of_lt (Nat.lt_of_lt_of_le ltc80_b78 szc_b80)
        refine Gs (fun _ tk => st80.trans tk) ?_
        show Goes _ _ _ _ _ (T80.setTop (mkF m 130 #[.val (.int x0), .val (.int x1), .val (.int x2), .val (.int x3), .val (.int (2 : Int32)), .val (.int (0 : Int32)), .val (.int pz), .val (.ref b70), .val (.ref b72), .val (.ref b74), .val (.ref b76), .val (.ref b78), .unset, .unset] [(.int (1 : Int32))]))
        refine Gs (fun _ tk => XS.pop X80.here hx rfl (hb hby at_130) rfl rfl tk) ?_
        refine Gs (fun _ tk => XS.iload X80.here hx rfl (hb hby at_131) rfl tk) ?_
        refine Gs (fun _ tk => XS.iconst X80.here hx rfl (hb hby at_133) tk) ?_
        refine Gs (fun _ tk => XS.icmpNo X80.here hx rfl (hb hby at_134) rfl (flt (by decide : ¬ ((2 : Int32) < (2 : Int32)))).1 tk) ?_
        refine Gs (fun _ tk => XS.aload X80.here hx rfl (hb hby at_137) rfl rfl tk) ?_
        refine Gs (fun _ tk => XS.aload X80.here hx rfl (hb hby at_139) rfl rfl tk) ?_
        show Goes _ _ _ _ _ (T80.setTop (mkF m 141 #[.val (.int x0), .val (.int x1), .val (.int x2), .val (.int x3), .val (.int (2 : Int32)), .val (.int (0 : Int32)), .val (.int pz), .val (.ref b70), .val (.ref b72), .val (.ref b74), .val (.ref b76), .val (.ref b78), .unset, .unset] [(.ref b76), (.ref b78)]))
        obtain ⟨cq81, kq81, q81a, q81b, q81c⟩ := isOf hZ rfl A_b78
        obtain ⟨_, _, ⟨T81, L81, k81, n81⟩, -, X81, ⟨Lc81, hQ81, l81, y81, z81⟩, st81⟩ := X80.interfaceBack hx (xi := mN49) (y := mN12) hown (mvT hZ (gw hw 113 rfl)) (mvT hZ (gw hw 114 rfl)) (mvT hZ (gw hw 115 rfl)) (mvT hZ (gw hw 116 rfl)) (mvT hZ (gw hw 117 rfl)) (mvT hZ (gw hw 118 rfl)) (mvT hZ (gw hw 119 rfl)) (mvT hZ (gw hw 102 rfl)) (by decide) (backOf (W := 0) (rm_add1 l Z a0 hw [] b78 b74 b76 ((0 : Int32) + (1 : Int32)) b80 kb80 T80.heap n0 Z0 A_b78 F_modCount_b78 F_elementData_b78 F_size_b78 V_b80 A_b80 Ov80 g_b80 g_b78 (Ne.symm ne_b78_b80) (Ins.of_exa A_b76 (gw hw 208 rfl))) hZ (gw hw 120 rfl) (gw hw 22 rfl) (by decide) (by decide)) q81a q81b q81c (g := (mkF m 141 #[.val (.int x0), .val (.int x1), .val (.int x2), .val (.int x3), .val (.int (2 : Int32)), .val (.int (0 : Int32)), .val (.int pz), .val (.ref b70), .val (.ref b72), .val (.ref b74), .val (.ref b76), .val (.ref b78), .unset, .unset] [(.ref b76), (.ref b78)])) rfl (by rw [hml]; rfl) (Steps.refl _) (argsL := [(.ref b76)]) (rest := []) (lenOf own_pd23 rfl) rfl (w0 (Nat.le_of_eq rfl)) (hb hby at_141) (fun _ _ => ⟨rfl, rfl, (by decide : 6 + 0 ≤ _), (by decide : 31 + 0 ≤ _)⟩)
        dsimp only [Pt.U, Pt.locs, Pt.cells, Pt.slots] at X81 l81 y81 z81 st81 hQ81
        subst l81 y81 z81
        obtain ⟨rfl, N81q, K81, F_modCount_b78_81', F_elementData_b78_81', F_size_b78_81', V_b80_81'⟩ := hQ81
        have N81 := Fr.app N80 N81q
        replace S_DEFAULTCAPACITY_EMPTY_ELEMENTDATA := own_staK S_DEFAULTCAPACITY_EMPTY_ELEMENTDATA K81 (allS (own_obE A_b78) (allS (own_obA V_b80) all0))
        replace S_EMPTY := own_staK S_EMPTY K81 (allS (own_obE A_b78) (allS (own_obA V_b80) all0))
        replace V_d := V_d.keep K81 (ninS ne_d_b78 (ninS ne_d_b80 nin0))
        replace A_nl := A_nl.keep K81
        replace F_elements_nl := F_elements_nl.keep K81 (ninS ne_nl_b78 (ninS ne_nl_b80 nin0))
        replace V_ea := V_ea.keep K81 (ninS ne_ea_b78 (ninS ne_ea_b80 nin0))
        replace A_em := A_em.keep K81
        replace A_no := A_no.keep K81
        replace A_b70 := A_b70.keep K81
        replace A_b72 := A_b72.keep K81
        replace A_b74 := A_b74.keep K81
        replace F_index_b74 := F_index_b74.keep K81 (ninS ne_b74_b78 (ninS ne_b74_b80 nin0))
        replace F_holders_b74 := F_holders_b74.keep K81 (ninS ne_b74_b78 (ninS ne_b74_b80 nin0))
        replace A_b76 := A_b76.keep K81
        replace F_index_b76 := F_index_b76.keep K81 (ninS ne_b76_b78 (ninS ne_b76_b80 nin0))
        replace A_b78 := A_b78.keep K81
        replace A_b80 := A_b80.keep K81
        replace Z0 := Nat.le_trans Z0 K81.1
        have F_elementData_b78 := F_elementData_b78_81'
        have F_size_b78 := F_size_b78_81'
        have V_b80 := V_b80_81'
        refine Gs (fun _ tk => st81.trans tk) ?_
        show Goes _ _ _ _ _ (T81.setTop (mkF m 146 #[.val (.int x0), .val (.int x1), .val (.int x2), .val (.int x3), .val (.int (2 : Int32)), .val (.int (0 : Int32)), .val (.int pz), .val (.ref b70), .val (.ref b72), .val (.ref b74), .val (.ref b76), .val (.ref b78), .unset, .unset] [(.int (1 : Int32))]))
        refine Gs (fun _ tk => XS.pop X81.here hx rfl (hb hby at_146) rfl rfl tk) ?_
        refine Gs (fun _ tk => XS.aload X81.here hx rfl (hb hby at_147) rfl rfl tk) ?_
        have ne_b76_em : b76 ≠ em := ne_exa A_b76 A_em (by decide)
        have ltc82_d : d < T81.heap.size := V_d.lt
        have ltc82_nl : nl < T81.heap.size := A_nl.lt
        have ltc82_ea : ea < T81.heap.size := V_ea.lt
        have ltc82_em : em < T81.heap.size := A_em.lt
        have ltc82_no : no < T81.heap.size := A_no.lt
        have ltc82_b70 : b70 < T81.heap.size := A_b70.lt
        have ltc82_b72 : b72 < T81.heap.size := A_b72.lt
        have ltc82_b74 : b74 < T81.heap.size := A_b74.lt
        have ltc82_b76 : b76 < T81.heap.size := A_b76.lt
        have ltc82_b78 : b78 < T81.heap.size := A_b78.lt
        have ltc82_b80 : b80 < T81.heap.size := A_b80.lt
        obtain ⟨_, _, ⟨T82, L82, k82, n82⟩, -, X82, ⟨Lc82, hQ82, l82, y82, z82⟩, st82⟩ := Jvm.LawKit.callS X81 hx (y := mN35) hown (mvT hZ (gw hw 93 rfl)) (mvT hZ (gw hw 94 rfl)) (mvT hZ (gw hw 95 rfl)) (mvT hZ (gw hw 96 rfl)) (by decide) (backOf (W := 0) (rm_bsof2 l Z a0 hw [] b78 b74 b76 b80 kb80 mr em T81.heap n0 Z0 A_b78 F_elementData_b78 F_size_b78 V_b80 A_b80 (Ins.of_exa A_b74 (gw hw 208 rfl)) (Ins.of_exa A_b76 (gw hw 208 rfl)) (by first | assumption | decide) S_EMPTY ne_b76_em) hZ (gw hw 96 rfl) (gw hw 95 rfl) (by decide) (by decide)) (g := (mkF m 149 #[.val (.int x0), .val (.int x1), .val (.int x2), .val (.int x3), .val (.int (2 : Int32)), .val (.int (0 : Int32)), .val (.int pz), .val (.ref b70), .val (.ref b72), .val (.ref b74), .val (.ref b76), .val (.ref b78), .unset, .unset] [(.ref b78)])) rfl (by rw [hml]; rfl) (argsL := [(.ref b78)]) (rest := []) (lenOf own_pd22 rfl) rfl (w0 (Nat.le_of_eq rfl)) (hb hby at_149) (fun _ _ => ⟨rfl, rfl, (by decide : 6 + 4 ≤ _), (by decide : 31 + 10 ≤ _)⟩)
        dsimp only [Pt.U, Pt.locs, Pt.cells, Pt.slots] at X82 l82 y82 z82 st82 hQ82
        subst l82 y82 z82
        obtain ⟨bo82, ro82, u82, rfl, N82q, K82, A_bo82_82', F_source_bo82_82', F_places_bo82_82', F_first_bo82_82', F_size_bo82_82', A_ro82_82', F_records_ro82_82', A_u82_82', F_e0_u82_82', F_e1_u82_82', g_bo82_82', sz_bo82_82', sz_ro82_82', sz_u82_82'⟩ := hQ82
        have N82 := Fr.app N81 N82q
        replace S_DEFAULTCAPACITY_EMPTY_ELEMENTDATA := own_staK S_DEFAULTCAPACITY_EMPTY_ELEMENTDATA K82 all0
        replace S_EMPTY := own_staK S_EMPTY K82 all0
        replace V_d := V_d.keep K82 nin0
        replace A_nl := A_nl.keep K82
        replace F_elements_nl := F_elements_nl.keep K82 nin0
        replace V_ea := V_ea.keep K82 nin0
        replace A_em := A_em.keep K82
        replace A_no := A_no.keep K82
        replace A_b74 := A_b74.keep K82
        replace F_index_b74 := F_index_b74.keep K82 nin0
        replace F_holders_b74 := F_holders_b74.keep K82 nin0
        replace A_b76 := A_b76.keep K82
        replace F_index_b76 := F_index_b76.keep K82 nin0
        replace Z0 := Nat.le_trans Z0 K82.1
        have A_bo82 := A_bo82_82'
        have F_source_bo82 := F_source_bo82_82'
        have F_places_bo82 := F_places_bo82_82'
        have F_first_bo82 := F_first_bo82_82'
        have F_size_bo82 := F_size_bo82_82'
        have A_ro82 := A_ro82_82'
        have F_records_ro82 := F_records_ro82_82'
        have A_u82 := A_u82_82'
        have F_e0_u82 := F_e0_u82_82'
        have F_e1_u82 := F_e1_u82_82'
        have g_bo82 := g_bo82_82'
        have szc_bo82 := sz_bo82_82'
        have ne_d_bo82 : d ≠ bo82 := Nat.ne_of_lt (Nat.lt_of_lt_of_le ltc82_d szc_bo82)
        have ne_nl_bo82 : nl ≠ bo82 := Nat.ne_of_lt (Nat.lt_of_lt_of_le ltc82_nl szc_bo82)
        have ne_ea_bo82 : ea ≠ bo82 := Nat.ne_of_lt (Nat.lt_of_lt_of_le ltc82_ea szc_bo82)
        have ne_em_bo82 : em ≠ bo82 := Nat.ne_of_lt (Nat.lt_of_lt_of_le ltc82_em szc_bo82)
        have ne_no_bo82 : no ≠ bo82 := Nat.ne_of_lt (Nat.lt_of_lt_of_le ltc82_no szc_bo82)
        have ne_b70_bo82 : b70 ≠ bo82 := Nat.ne_of_lt (Nat.lt_of_lt_of_le ltc82_b70 szc_bo82)
        have ne_b72_bo82 : b72 ≠ bo82 := Nat.ne_of_lt (Nat.lt_of_lt_of_le ltc82_b72 szc_bo82)
        have ne_b74_bo82 : b74 ≠ bo82 := Nat.ne_of_lt (Nat.lt_of_lt_of_le ltc82_b74 szc_bo82)
        have ne_b76_bo82 : b76 ≠ bo82 := Nat.ne_of_lt (Nat.lt_of_lt_of_le ltc82_b76 szc_bo82)
        have ne_b78_bo82 : b78 ≠ bo82 := Nat.ne_of_lt (Nat.lt_of_lt_of_le ltc82_b78 szc_bo82)
        have ne_b80_bo82 : b80 ≠ bo82 := Nat.ne_of_lt (Nat.lt_of_lt_of_le ltc82_b80 szc_bo82)
        have szc_ro82 := sz_ro82_82'
        have ne_d_ro82 : d ≠ ro82 := Nat.ne_of_lt (Nat.lt_of_lt_of_le ltc82_d szc_ro82)
        have ne_nl_ro82 : nl ≠ ro82 := Nat.ne_of_lt (Nat.lt_of_lt_of_le ltc82_nl szc_ro82)
        have ne_ea_ro82 : ea ≠ ro82 := Nat.ne_of_lt (Nat.lt_of_lt_of_le ltc82_ea szc_ro82)
        have ne_em_ro82 : em ≠ ro82 := Nat.ne_of_lt (Nat.lt_of_lt_of_le ltc82_em szc_ro82)
        have ne_no_ro82 : no ≠ ro82 := Nat.ne_of_lt (Nat.lt_of_lt_of_le ltc82_no szc_ro82)
        have ne_b70_ro82 : b70 ≠ ro82 := Nat.ne_of_lt (Nat.lt_of_lt_of_le ltc82_b70 szc_ro82)
        have ne_b72_ro82 : b72 ≠ ro82 := Nat.ne_of_lt (Nat.lt_of_lt_of_le ltc82_b72 szc_ro82)
        have ne_b74_ro82 : b74 ≠ ro82 := Nat.ne_of_lt (Nat.lt_of_lt_of_le ltc82_b74 szc_ro82)
        have ne_b76_ro82 : b76 ≠ ro82 := Nat.ne_of_lt (Nat.lt_of_lt_of_le ltc82_b76 szc_ro82)
        have ne_b78_ro82 : b78 ≠ ro82 := Nat.ne_of_lt (Nat.lt_of_lt_of_le ltc82_b78 szc_ro82)
        have ne_b80_ro82 : b80 ≠ ro82 := Nat.ne_of_lt (Nat.lt_of_lt_of_le ltc82_b80 szc_ro82)
        have szc_u82 := sz_u82_82'
        have ne_d_u82 : d ≠ u82 := Nat.ne_of_lt (Nat.lt_of_lt_of_le ltc82_d szc_u82)
        have ne_nl_u82 : nl ≠ u82 := Nat.ne_of_lt (Nat.lt_of_lt_of_le ltc82_nl szc_u82)
        have ne_ea_u82 : ea ≠ u82 := Nat.ne_of_lt (Nat.lt_of_lt_of_le ltc82_ea szc_u82)
        have ne_em_u82 : em ≠ u82 := Nat.ne_of_lt (Nat.lt_of_lt_of_le ltc82_em szc_u82)
        have ne_no_u82 : no ≠ u82 := Nat.ne_of_lt (Nat.lt_of_lt_of_le ltc82_no szc_u82)
        have ne_b70_u82 : b70 ≠ u82 := Nat.ne_of_lt (Nat.lt_of_lt_of_le ltc82_b70 szc_u82)
        have ne_b72_u82 : b72 ≠ u82 := Nat.ne_of_lt (Nat.lt_of_lt_of_le ltc82_b72 szc_u82)
        have ne_b74_u82 : b74 ≠ u82 := Nat.ne_of_lt (Nat.lt_of_lt_of_le ltc82_b74 szc_u82)
        have ne_b76_u82 : b76 ≠ u82 := Nat.ne_of_lt (Nat.lt_of_lt_of_le ltc82_b76 szc_u82)
        have ne_b78_u82 : b78 ≠ u82 := Nat.ne_of_lt (Nat.lt_of_lt_of_le ltc82_b78 szc_u82)
        have ne_b80_u82 : b80 ≠ u82 := Nat.ne_of_lt (Nat.lt_of_lt_of_le ltc82_b80 szc_u82)
        refine Gs st82 ?_
        show Goes _ _ _ _ _ (T82.setTop (mkF m 152 #[.val (.int x0), .val (.int x1), .val (.int x2), .val (.int x3), .val (.int (2 : Int32)), .val (.int (0 : Int32)), .val (.int pz), .val (.ref b70), .val (.ref b72), .val (.ref b74), .val (.ref b76), .val (.ref b78), .unset, .unset] [(.ref bo82)]))
        refine Gs (fun _ tk => XS.astore X82.here hx rfl (hb hby at_152) rfl rfl (l' := #[.val (.int x0), .val (.int x1), .val (.int x2), .val (.int x3), .val (.int (2 : Int32)), .val (.int (0 : Int32)), .val (.int pz), .val (.ref b70), .val (.ref b72), .val (.ref b74), .val (.ref b76), .val (.ref b78), .val (.ref bo82), .unset]) rfl tk) ?_
        refine Gs (fun _ tk => XS.aload X82.here hx rfl (hb hby at_154) rfl rfl tk) ?_
        obtain ⟨cq83, kq83, q83a, q83b, q83c⟩ := isOf hZ rfl A_bo82
        obtain ⟨_, _, ⟨T83, L83, k83, n83⟩, -, X83, ⟨Lc83, hQ83, l83, y83, z83⟩, st83⟩ := X82.virtualBack hx (y := mN37) (z := mN37) hown (mvT hZ (gw hw 105 rfl)) (mvT hZ (gw hw 106 rfl)) (notFace_of_selects (args := #[]) (mvT hZ (gw hw 108 rfl))) (mvT hZ (gw hw 108 rfl)) (mvT hZ (gw hw 107 rfl)) (by decide) (backOf (W := 0) (rm_bssz l Z a0 hw [] bo82 (2 : Int32) T82.heap n0 Z0 F_size_bo82) hZ (gw hw 109 rfl) (gw hw 95 rfl) (by decide) (by decide)) q83a q83c (g := (mkF m 156 #[.val (.int x0), .val (.int x1), .val (.int x2), .val (.int x3), .val (.int (2 : Int32)), .val (.int (0 : Int32)), .val (.int pz), .val (.ref b70), .val (.ref b72), .val (.ref b74), .val (.ref b76), .val (.ref b78), .val (.ref bo82), .unset] [(.ref bo82)])) rfl (by rw [hml]; rfl) (Steps.refl _) (argsL := []) (rest := []) (lenOf own_pd15 rfl) rfl (w0 (Nat.le_of_eq rfl)) (hb hby at_156) (fun _ _ => ⟨rfl, rfl, (by decide : 10 + 0 ≤ _), (by decide : 41 + 0 ≤ _)⟩)
        dsimp only [Pt.U, Pt.locs, Pt.cells, Pt.slots] at X83 l83 y83 z83 st83 hQ83
        subst l83 y83 z83
        obtain ⟨rfl, N83q, e83⟩ := hQ83
        have N83 := Fr.app N82 N83q
        refine Gs (fun _ tk => st83.trans tk) ?_
        show Goes _ _ _ _ _ (T83.setTop (mkF m 159 #[.val (.int x0), .val (.int x1), .val (.int x2), .val (.int x3), .val (.int (2 : Int32)), .val (.int (0 : Int32)), .val (.int pz), .val (.ref b70), .val (.ref b72), .val (.ref b74), .val (.ref b76), .val (.ref b78), .val (.ref bo82), .unset] [(.int (2 : Int32))]))
        refine Gs (fun _ tk => XS.iload X83.here hx rfl (hb hby at_159) rfl tk) ?_
        refine Gs (fun _ tk => XS.icmpNo X83.here hx rfl (hb hby at_161) rfl (teq (by decide : ((2 : Int32) = (2 : Int32)))).2 tk) ?_
        refine Gs (fun _ tk => XS.iconst X83.here hx rfl (hb hby at_164) tk) ?_
        refine Gs (fun _ tk => XS.goto X83.here hx rfl (pc0 := 165) (pc' := 169) rfl (hb hby at_165) (by decide) (by decide) tk) ?_
        refine Gs (fun _ tk => XS.istore X83.here hx rfl (hb hby at_169) rfl (l' := #[.val (.int x0), .val (.int x1), .val (.int x2), .val (.int x3), .val (.int (2 : Int32)), .val (.int (0 : Int32)), .val (.int pz), .val (.ref b70), .val (.ref b72), .val (.ref b74), .val (.ref b76), .val (.ref b78), .val (.ref bo82), .val (.int (1 : Int32))]) rfl tk) ?_
        refine Gs (fun _ tk => XS.iload X83.here hx rfl (hb hby at_171) rfl tk) ?_
        show Goes _ _ _ _ _ (T83.setTop (mkF m 173 #[.val (.int x0), .val (.int x1), .val (.int x2), .val (.int x3), .val (.int (2 : Int32)), .val (.int (0 : Int32)), .val (.int pz), .val (.ref b70), .val (.ref b72), .val (.ref b74), .val (.ref b76), .val (.ref b78), .val (.ref bo82), .val (.int (1 : Int32))] [(.int (1 : Int32))]))
        refine Gs (fun _ tk => XS.ifNo X83.here hx rfl (hb hby at_173) rfl ((if0 _ _).trans (feq (by decide : ¬ ((1 : Int32) = (0 : Int32)))).1) tk) ?_
        refine Gs (fun _ tk => XS.iload X83.here hx rfl (hb hby at_176) rfl tk) ?_
        refine Gs (fun _ tk => XS.iconst X83.here hx rfl (hb hby at_178) tk) ?_
        refine Gs (fun _ tk => XS.icmpNo X83.here hx rfl (hb hby at_179) rfl (flt (by decide : ¬ ((2 : Int32) < (1 : Int32)))).1 tk) ?_
        refine Gs (fun _ tk => XS.aload X83.here hx rfl (hb hby at_182) rfl rfl tk) ?_
        refine Gs (fun _ tk => XS.iconst X83.here hx rfl (hb hby at_184) tk) ?_
        show Goes _ _ _ _ _ (T83.setTop (mkF m 185 #[.val (.int x0), .val (.int x1), .val (.int x2), .val (.int x3), .val (.int (2 : Int32)), .val (.int (0 : Int32)), .val (.int pz), .val (.ref b70), .val (.ref b72), .val (.ref b74), .val (.ref b76), .val (.ref b78), .val (.ref bo82), .val (.int (1 : Int32))] [(.int (0 : Int32)), (.ref bo82)]))
        obtain ⟨cq84, kq84, q84a, q84b, q84c⟩ := isOf hZ e83 A_bo82
        obtain ⟨_, _, ⟨T84, L84, k84, n84⟩, -, X84, ⟨Lc84, hQ84, l84, y84, z84⟩, st84⟩ := X83.virtualBack hx (y := mN44) (z := mN44) hown (mvT hZ (gw hw 244 rfl)) (mvT hZ (gw hw 245 rfl)) (notFace_of_selects (args := #[]) (mvT hZ (gw hw 247 rfl))) (mvT hZ (gw hw 247 rfl)) (mvT hZ (gw hw 246 rfl)) (by decide) (backOf (W := 0) (rm_bget02 l Z a0 hw [] bo82 ro82 u82 b74 T82.heap n0 Z0 F_source_bo82 F_places_bo82 F_first_bo82 F_size_bo82 A_bo82 A_ro82 F_records_ro82 A_u82 F_e0_u82 A_b74) hZ (gw hw 248 rfl) (gw hw 95 rfl) (by decide) (by decide)) q84a q84c (g := (mkF m 185 #[.val (.int x0), .val (.int x1), .val (.int x2), .val (.int x3), .val (.int (2 : Int32)), .val (.int (0 : Int32)), .val (.int pz), .val (.ref b70), .val (.ref b72), .val (.ref b74), .val (.ref b76), .val (.ref b78), .val (.ref bo82), .val (.int (1 : Int32))] [(.int (0 : Int32)), (.ref bo82)])) rfl (by rw [hml]; rfl) (Steps.refl _) (argsL := [(.int (0 : Int32))]) (rest := []) (lenOf own_pd19 rfl) rfl (w0 (Nat.le_of_eq rfl)) (hb hby at_185) (fun _ _ => ⟨rfl, e83, (by decide : 10 + 0 ≤ _), (by decide : 41 + 0 ≤ _)⟩)
        dsimp only [Pt.U, Pt.locs, Pt.cells, Pt.slots] at X84 l84 y84 z84 st84 hQ84
        subst l84 y84 z84
        obtain ⟨rfl, N84q, e84⟩ := hQ84
        have N84 := Fr.app N83 N84q
        refine Gs (fun _ tk => st84.trans tk) ?_
        show Goes _ _ _ _ _ (T84.setTop (mkF m 188 #[.val (.int x0), .val (.int x1), .val (.int x2), .val (.int x3), .val (.int (2 : Int32)), .val (.int (0 : Int32)), .val (.int pz), .val (.ref b70), .val (.ref b72), .val (.ref b74), .val (.ref b76), .val (.ref b78), .val (.ref bo82), .val (.int (1 : Int32))] [(.ref b74)]))
        refine Gs (fun _ tk => XS.aload X84.here hx rfl (hb hby at_188) rfl rfl tk) ?_
        refine Gs (fun _ tk => Jvm.RoadKit.acmp (g := (mkF m 190 #[.val (.int x0), .val (.int x1), .val (.int x2), .val (.int x3), .val (.int (2 : Int32)), .val (.int (0 : Int32)), .val (.int pz), .val (.ref b70), .val (.ref b72), .val (.ref b74), .val (.ref b76), .val (.ref b78), .val (.ref bo82), .val (.int (1 : Int32))] [(.ref b74), (.ref b74)])) X84 hx rfl rfl rfl (pc0 := 190) (pc' := 193) (same := true) rfl (hb hby at_190) rfl (decide_eq_true (congrArg Value.ref rfl)) (by decide) (by decide) tk) ?_
        refine Gs (fun _ tk => XS.aload X84.here hx rfl (hb hby at_193) rfl rfl tk) ?_
        refine Gs (fun _ tk => XS.iconst X84.here hx rfl (hb hby at_195) tk) ?_
        obtain ⟨cq85, kq85, q85a, q85b, q85c⟩ := isOf hZ e84 A_bo82
        obtain ⟨_, _, ⟨T85, L85, k85, n85⟩, -, X85, ⟨Lc85, hQ85, l85, y85, z85⟩, st85⟩ := X84.virtualBack hx (y := mN46) (z := mN46) hown (mvT hZ (gw hw 272 rfl)) (mvT hZ (gw hw 273 rfl)) (notFace_of_selects (args := #[]) (mvT hZ (gw hw 275 rfl))) (mvT hZ (gw hw 275 rfl)) (mvT hZ (gw hw 274 rfl)) (by decide) (backOf (W := 0) (rm_bix02 l Z a0 hw [] bo82 ro82 u82 b74 x1 T82.heap n0 Z0 F_source_bo82 F_places_bo82 F_first_bo82 F_size_bo82 A_bo82 A_ro82 F_records_ro82 A_u82 F_e0_u82 A_b74 F_index_b74) hZ (gw hw 276 rfl) (gw hw 95 rfl) (by decide) (by decide)) q85a q85c (g := (mkF m 196 #[.val (.int x0), .val (.int x1), .val (.int x2), .val (.int x3), .val (.int (2 : Int32)), .val (.int (0 : Int32)), .val (.int pz), .val (.ref b70), .val (.ref b72), .val (.ref b74), .val (.ref b76), .val (.ref b78), .val (.ref bo82), .val (.int (1 : Int32))] [(.int (0 : Int32)), (.ref bo82)])) rfl (by rw [hml]; rfl) (Steps.refl _) (argsL := [(.int (0 : Int32))]) (rest := []) (lenOf own_pd18 rfl) rfl (w0 (Nat.le_of_eq rfl)) (hb hby at_196) (fun _ _ => ⟨rfl, e84, (by decide : 10 + 0 ≤ _), (by decide : 41 + 0 ≤ _)⟩)
        dsimp only [Pt.U, Pt.locs, Pt.cells, Pt.slots] at X85 l85 y85 z85 st85 hQ85
        subst l85 y85 z85
        obtain ⟨rfl, N85q, e85⟩ := hQ85
        have N85 := Fr.app N84 N85q
        refine Gs (fun _ tk => st85.trans tk) ?_
        show Goes _ _ _ _ _ (T85.setTop (mkF m 199 #[.val (.int x0), .val (.int x1), .val (.int x2), .val (.int x3), .val (.int (2 : Int32)), .val (.int (0 : Int32)), .val (.int pz), .val (.ref b70), .val (.ref b72), .val (.ref b74), .val (.ref b76), .val (.ref b78), .val (.ref bo82), .val (.int (1 : Int32))] [(.int x1)]))
        refine Gs (fun _ tk => XS.iloadN X85.here hx rfl (hb hby at_199) rfl tk) ?_
        refine Gs (fun _ tk => XS.icmpNo X85.here hx rfl (hb hby at_200) rfl (teq (rfl : x1 = x1)).2 tk) ?_
        refine Gs (fun _ tk => XS.aload X85.here hx rfl (hb hby at_203) rfl rfl tk) ?_
        refine Gs (fun _ tk => XS.iconst X85.here hx rfl (hb hby at_205) tk) ?_
        obtain ⟨cq86, kq86, q86a, q86b, q86c⟩ := isOf hZ e85 A_bo82
        obtain ⟨_, _, ⟨T86, L86, k86, n86⟩, -, X86, ⟨Lc86, hQ86, l86, y86, z86⟩, st86⟩ := X85.virtualBack hx (y := mN48) (z := mN48) hown (mvT hZ (gw hw 290 rfl)) (mvT hZ (gw hw 291 rfl)) (notFace_of_selects (args := #[]) (mvT hZ (gw hw 293 rfl))) (mvT hZ (gw hw 293 rfl)) (mvT hZ (gw hw 292 rfl)) (by decide) (backOf (W := 0) (rm_bhc20 l Z a0 hw [] bo82 ro82 u82 b74 nl ea ke T82.heap n0 Z0 F_source_bo82 F_places_bo82 F_first_bo82 F_size_bo82 A_bo82 A_ro82 F_records_ro82 A_u82 F_e0_u82 A_b74 F_holders_b74 A_nl F_elements_nl V_ea) hZ (gw hw 294 rfl) (gw hw 95 rfl) (by decide) (by decide)) q86a q86c (g := (mkF m 206 #[.val (.int x0), .val (.int x1), .val (.int x2), .val (.int x3), .val (.int (2 : Int32)), .val (.int (0 : Int32)), .val (.int pz), .val (.ref b70), .val (.ref b72), .val (.ref b74), .val (.ref b76), .val (.ref b78), .val (.ref bo82), .val (.int (1 : Int32))] [(.int (0 : Int32)), (.ref bo82)])) rfl (by rw [hml]; rfl) (Steps.refl _) (argsL := [(.int (0 : Int32))]) (rest := []) (lenOf own_pd18 rfl) rfl (w0 (Nat.le_of_eq rfl)) (hb hby at_206) (fun _ _ => ⟨rfl, e85, (by decide : 10 + 0 ≤ _), (by decide : 41 + 0 ≤ _)⟩)
        dsimp only [Pt.U, Pt.locs, Pt.cells, Pt.slots] at X86 l86 y86 z86 st86 hQ86
        subst l86 y86 z86
        obtain ⟨rfl, N86q, e86⟩ := hQ86
        have N86 := Fr.app N85 N86q
        refine Gs (fun _ tk => st86.trans tk) ?_
        show Goes _ _ _ _ _ (T86.setTop (mkF m 209 #[.val (.int x0), .val (.int x1), .val (.int x2), .val (.int x3), .val (.int (2 : Int32)), .val (.int (0 : Int32)), .val (.int pz), .val (.ref b70), .val (.ref b72), .val (.ref b74), .val (.ref b76), .val (.ref b78), .val (.ref bo82), .val (.int (1 : Int32))] [(.int (0 : Int32))]))
        refine Gs (fun _ tk => XS.iload X86.here hx rfl (hb hby at_209) rfl tk) ?_
        refine Gs (fun _ tk => XS.ifYes X86.here hx rfl (pc0 := 211) (pc' := 218) rfl (hb hby at_211) rfl ((if0 _ _).trans (teq (by decide : ((0 : Int32) = (0 : Int32)))).1) (by decide) (by decide) tk) ?_
        refine Gs (fun _ tk => XS.iconst X86.here hx rfl (hb hby at_218) tk) ?_
        refine Gs (fun _ tk => XS.icmpNo X86.here hx rfl (hb hby at_219) rfl (teq (by decide : ((0 : Int32) = (0 : Int32)))).2 tk) ?_
        refine Gs (fun _ tk => XS.iconst X86.here hx rfl (hb hby at_222) tk) ?_
        refine Gs (fun _ tk => XS.goto X86.here hx rfl (pc0 := 223) (pc' := 227) rfl (hb hby at_223) (by decide) (by decide) tk) ?_
        show Goes _ _ _ _ _ (T86.setTop (mkF m 227 #[.val (.int x0), .val (.int x1), .val (.int x2), .val (.int x3), .val (.int (2 : Int32)), .val (.int (0 : Int32)), .val (.int pz), .val (.ref b70), .val (.ref b72), .val (.ref b74), .val (.ref b76), .val (.ref b78), .val (.ref bo82), .val (.int (1 : Int32))] [(.int (1 : Int32))]))
        refine Gs (fun _ tk => XS.istore X86.here hx rfl (hb hby at_227) rfl (l' := #[.val (.int x0), .val (.int x1), .val (.int x2), .val (.int x3), .val (.int (2 : Int32)), .val (.int (0 : Int32)), .val (.int pz), .val (.ref b70), .val (.ref b72), .val (.ref b74), .val (.ref b76), .val (.ref b78), .val (.ref bo82), .val (.int (1 : Int32))]) rfl tk) ?_
        refine Gs (fun _ tk => XS.iload X86.here hx rfl (hb hby at_229) rfl tk) ?_
        refine Gs (fun _ tk => XS.ifNo X86.here hx rfl (hb hby at_231) rfl ((if0 _ _).trans (feq (by decide : ¬ ((1 : Int32) = (0 : Int32)))).1) tk) ?_
        refine Gs (fun _ tk => XS.iload X86.here hx rfl (hb hby at_234) rfl tk) ?_
        refine Gs (fun _ tk => XS.iconst X86.here hx rfl (hb hby at_236) tk) ?_
        refine Gs (fun _ tk => XS.icmpNo X86.here hx rfl (hb hby at_237) rfl (flt (by decide : ¬ ((2 : Int32) < (2 : Int32)))).1 tk) ?_
        show Goes _ _ _ _ _ (T86.setTop (mkF m 240 #[.val (.int x0), .val (.int x1), .val (.int x2), .val (.int x3), .val (.int (2 : Int32)), .val (.int (0 : Int32)), .val (.int pz), .val (.ref b70), .val (.ref b72), .val (.ref b74), .val (.ref b76), .val (.ref b78), .val (.ref bo82), .val (.int (1 : Int32))] []))
        refine Gs (fun _ tk => XS.aload X86.here hx rfl (hb hby at_240) rfl rfl tk) ?_
        refine Gs (fun _ tk => XS.iconst X86.here hx rfl (hb hby at_242) tk) ?_
        obtain ⟨cq87, kq87, q87a, q87b, q87c⟩ := isOf hZ e86 A_bo82
        obtain ⟨_, _, ⟨T87, L87, k87, n87⟩, -, X87, ⟨Lc87, hQ87, l87, y87, z87⟩, st87⟩ := X86.virtualBack hx (y := mN44) (z := mN44) hown (mvT hZ (gw hw 244 rfl)) (mvT hZ (gw hw 245 rfl)) (notFace_of_selects (args := #[]) (mvT hZ (gw hw 247 rfl))) (mvT hZ (gw hw 247 rfl)) (mvT hZ (gw hw 246 rfl)) (by decide) (backOf (W := 0) (rm_bget12 l Z a0 hw [] bo82 ro82 u82 b76 em T82.heap n0 Z0 F_source_bo82 F_places_bo82 F_first_bo82 F_size_bo82 A_bo82 A_ro82 F_records_ro82 A_u82 F_e1_u82 A_b76 S_EMPTY ne_b76_em) hZ (gw hw 248 rfl) (gw hw 95 rfl) (by decide) (by decide)) q87a q87c (g := (mkF m 243 #[.val (.int x0), .val (.int x1), .val (.int x2), .val (.int x3), .val (.int (2 : Int32)), .val (.int (0 : Int32)), .val (.int pz), .val (.ref b70), .val (.ref b72), .val (.ref b74), .val (.ref b76), .val (.ref b78), .val (.ref bo82), .val (.int (1 : Int32))] [(.int (1 : Int32)), (.ref bo82)])) rfl (by rw [hml]; rfl) (Steps.refl _) (argsL := [(.int (1 : Int32))]) (rest := []) (lenOf own_pd19 rfl) rfl (w0 (Nat.le_of_eq rfl)) (hb hby at_243) (fun _ _ => ⟨rfl, e86, (by decide : 10 + 0 ≤ _), (by decide : 41 + 0 ≤ _)⟩)
        dsimp only [Pt.U, Pt.locs, Pt.cells, Pt.slots] at X87 l87 y87 z87 st87 hQ87
        subst l87 y87 z87
        obtain ⟨rfl, N87q, e87⟩ := hQ87
        have N87 := Fr.app N86 N87q
        refine Gs (fun _ tk => st87.trans tk) ?_
        show Goes _ _ _ _ _ (T87.setTop (mkF m 246 #[.val (.int x0), .val (.int x1), .val (.int x2), .val (.int x3), .val (.int (2 : Int32)), .val (.int (0 : Int32)), .val (.int pz), .val (.ref b70), .val (.ref b72), .val (.ref b74), .val (.ref b76), .val (.ref b78), .val (.ref bo82), .val (.int (1 : Int32))] [(.ref b76)]))
        refine Gs (fun _ tk => XS.aload X87.here hx rfl (hb hby at_246) rfl rfl tk) ?_
        refine Gs (fun _ tk => Jvm.RoadKit.acmp (g := (mkF m 248 #[.val (.int x0), .val (.int x1), .val (.int x2), .val (.int x3), .val (.int (2 : Int32)), .val (.int (0 : Int32)), .val (.int pz), .val (.ref b70), .val (.ref b72), .val (.ref b74), .val (.ref b76), .val (.ref b78), .val (.ref bo82), .val (.int (1 : Int32))] [(.ref b76), (.ref b76)])) X87 hx rfl rfl rfl (pc0 := 248) (pc' := 251) (same := true) rfl (hb hby at_248) rfl (decide_eq_true (congrArg Value.ref rfl)) (by decide) (by decide) tk) ?_
        refine Gs (fun _ tk => XS.aload X87.here hx rfl (hb hby at_251) rfl rfl tk) ?_
        refine Gs (fun _ tk => XS.iconst X87.here hx rfl (hb hby at_253) tk) ?_
        obtain ⟨cq88, kq88, q88a, q88b, q88c⟩ := isOf hZ e87 A_bo82
        obtain ⟨_, _, ⟨T88, L88, k88, n88⟩, -, X88, ⟨Lc88, hQ88, l88, y88, z88⟩, st88⟩ := X87.virtualBack hx (y := mN46) (z := mN46) hown (mvT hZ (gw hw 272 rfl)) (mvT hZ (gw hw 273 rfl)) (notFace_of_selects (args := #[]) (mvT hZ (gw hw 275 rfl))) (mvT hZ (gw hw 275 rfl)) (mvT hZ (gw hw 274 rfl)) (by decide) (backOf (W := 0) (rm_bix12 l Z a0 hw [] bo82 ro82 u82 b76 em x2 T82.heap n0 Z0 F_source_bo82 F_places_bo82 F_first_bo82 F_size_bo82 A_bo82 A_ro82 F_records_ro82 A_u82 F_e1_u82 A_b76 S_EMPTY ne_b76_em F_index_b76) hZ (gw hw 276 rfl) (gw hw 95 rfl) (by decide) (by decide)) q88a q88c (g := (mkF m 254 #[.val (.int x0), .val (.int x1), .val (.int x2), .val (.int x3), .val (.int (2 : Int32)), .val (.int (0 : Int32)), .val (.int pz), .val (.ref b70), .val (.ref b72), .val (.ref b74), .val (.ref b76), .val (.ref b78), .val (.ref bo82), .val (.int (1 : Int32))] [(.int (1 : Int32)), (.ref bo82)])) rfl (by rw [hml]; rfl) (Steps.refl _) (argsL := [(.int (1 : Int32))]) (rest := []) (lenOf own_pd18 rfl) rfl (w0 (Nat.le_of_eq rfl)) (hb hby at_254) (fun _ _ => ⟨rfl, e87, (by decide : 10 + 0 ≤ _), (by decide : 41 + 0 ≤ _)⟩)
        dsimp only [Pt.U, Pt.locs, Pt.cells, Pt.slots] at X88 l88 y88 z88 st88 hQ88
        subst l88 y88 z88
        obtain ⟨rfl, N88q, e88⟩ := hQ88
        have N88 := Fr.app N87 N88q
        refine Gs (fun _ tk => st88.trans tk) ?_
        show Goes _ _ _ _ _ (T88.setTop (mkF m 257 #[.val (.int x0), .val (.int x1), .val (.int x2), .val (.int x3), .val (.int (2 : Int32)), .val (.int (0 : Int32)), .val (.int pz), .val (.ref b70), .val (.ref b72), .val (.ref b74), .val (.ref b76), .val (.ref b78), .val (.ref bo82), .val (.int (1 : Int32))] [(.int x2)]))
        refine Gs (fun _ tk => XS.iloadN X88.here hx rfl (hb hby at_257) rfl tk) ?_
        refine Gs (fun _ tk => XS.icmpNo X88.here hx rfl (hb hby at_258) rfl (teq (rfl : x2 = x2)).2 tk) ?_
        refine Gs (fun _ tk => XS.iconst X88.here hx rfl (hb hby at_261) tk) ?_
        refine Gs (fun _ tk => XS.goto X88.here hx rfl (pc0 := 262) (pc' := 266) rfl (hb hby at_262) (by decide) (by decide) tk) ?_
        refine Gs (fun _ tk => XS.istore X88.here hx rfl (hb hby at_266) rfl (l' := #[.val (.int x0), .val (.int x1), .val (.int x2), .val (.int x3), .val (.int (2 : Int32)), .val (.int (0 : Int32)), .val (.int pz), .val (.ref b70), .val (.ref b72), .val (.ref b74), .val (.ref b76), .val (.ref b78), .val (.ref bo82), .val (.int (1 : Int32))]) rfl tk) ?_
        refine Gs (fun _ tk => XS.iload X88.here hx rfl (hb hby at_268) rfl tk) ?_
        show Goes _ _ _ _ _ (T88.setTop (mkF m 270 #[.val (.int x0), .val (.int x1), .val (.int x2), .val (.int x3), .val (.int (2 : Int32)), .val (.int (0 : Int32)), .val (.int pz), .val (.ref b70), .val (.ref b72), .val (.ref b74), .val (.ref b76), .val (.ref b78), .val (.ref bo82), .val (.int (1 : Int32))] [(.int (1 : Int32))]))
        refine Gs (fun _ tk => XS.ifNo X88.here hx rfl (hb hby at_270) rfl ((if0 _ _).trans (feq (by decide : ¬ ((1 : Int32) = (0 : Int32)))).1) tk) ?_
        refine Gs (fun _ tk => XS.aload X88.here hx rfl (hb hby at_273) rfl rfl tk) ?_
        obtain ⟨_, _, ⟨T89, L89, k89, n89⟩, -, X89, ⟨Lc89, hQ89, l89, y89, z89⟩, st89⟩ := Jvm.LawKit.callS X88 hx (y := mN35) hown (mvT hZ (gw hw 93 rfl)) (mvT hZ (gw hw 94 rfl)) (mvT hZ (gw hw 95 rfl)) (mvT hZ (gw hw 96 rfl)) (by decide) (backOf (W := 0) (rm_bsofS l Z a0 hw [] bo82 T82.heap n0 Z0 A_bo82) hZ (gw hw 96 rfl) (gw hw 95 rfl) (by decide) (by decide)) (g := (mkF m 275 #[.val (.int x0), .val (.int x1), .val (.int x2), .val (.int x3), .val (.int (2 : Int32)), .val (.int (0 : Int32)), .val (.int pz), .val (.ref b70), .val (.ref b72), .val (.ref b74), .val (.ref b76), .val (.ref b78), .val (.ref bo82), .val (.int (1 : Int32))] [(.ref bo82)])) rfl (by rw [hml]; rfl) (argsL := [(.ref bo82)]) (rest := []) (lenOf own_pd22 rfl) rfl (w0 (Nat.le_of_eq rfl)) (hb hby at_275) (fun _ _ => ⟨rfl, e88, (by decide : 10 + 0 ≤ _), (by decide : 41 + 0 ≤ _)⟩)
        dsimp only [Pt.U, Pt.locs, Pt.cells, Pt.slots] at X89 l89 y89 z89 st89 hQ89
        subst l89 y89 z89
        obtain ⟨rfl, N89q, e89⟩ := hQ89
        have N89 := Fr.app N88 N89q
        refine Gs st89 ?_
        show Goes _ _ _ _ _ (T89.setTop (mkF m 278 #[.val (.int x0), .val (.int x1), .val (.int x2), .val (.int x3), .val (.int (2 : Int32)), .val (.int (0 : Int32)), .val (.int pz), .val (.ref b70), .val (.ref b72), .val (.ref b74), .val (.ref b76), .val (.ref b78), .val (.ref bo82), .val (.int (1 : Int32))] [(.ref bo82)]))
        refine Gs (fun _ tk => XS.aload X89.here hx rfl (hb hby at_278) rfl rfl tk) ?_
        refine Gs (fun _ tk => Jvm.RoadKit.acmp (g := (mkF m 280 #[.val (.int x0), .val (.int x1), .val (.int x2), .val (.int x3), .val (.int (2 : Int32)), .val (.int (0 : Int32)), .val (.int pz), .val (.ref b70), .val (.ref b72), .val (.ref b74), .val (.ref b76), .val (.ref b78), .val (.ref bo82), .val (.int (1 : Int32))] [(.ref bo82), (.ref bo82)])) X89 hx rfl rfl rfl (pc0 := 280) (pc' := 283) (same := true) rfl (hb hby at_280) rfl (decide_eq_true (congrArg Value.ref rfl)) (by decide) (by decide) tk) ?_
        refine Gs (fun _ tk => XS.iconst X89.here hx rfl (hb hby at_283) tk) ?_
        refine Gs (fun _ tk => XS.goto X89.here hx rfl (pc0 := 284) (pc' := 288) rfl (hb hby at_284) (by decide) (by decide) tk) ?_
        refine Gs (fun _ tk => XS.istore X89.here hx rfl (hb hby at_288) rfl (l' := #[.val (.int x0), .val (.int x1), .val (.int x2), .val (.int x3), .val (.int (2 : Int32)), .val (.int (0 : Int32)), .val (.int pz), .val (.ref b70), .val (.ref b72), .val (.ref b74), .val (.ref b76), .val (.ref b78), .val (.ref bo82), .val (.int (1 : Int32))]) rfl tk) ?_
        refine Gs (fun _ tk => XS.iload X89.here hx rfl (hb hby at_290) rfl tk) ?_
        show Goes _ _ _ _ _ (T89.setTop (mkF m 292 #[.val (.int x0), .val (.int x1), .val (.int x2), .val (.int x3), .val (.int (2 : Int32)), .val (.int (0 : Int32)), .val (.int pz), .val (.ref b70), .val (.ref b72), .val (.ref b74), .val (.ref b76), .val (.ref b78), .val (.ref bo82), .val (.int (1 : Int32))] [(.int (1 : Int32))]))
        refine Goes.ret X89 (some (.int (1 : Int32))) (fun h => by rw [hret] at h; cases h) hlk (by decide) (by decide) ?_ (fun fs hr => ?_)
        · exact ⟨rfl, N89⟩
        · exact own_retN X89 hx (t := .boolean) hret (by simp) rfl (hb hby at_292) hr
      by_cases hc25_90 : (x0 &&& (16 : Int32)) = (0 : Int32)
      · refine Gs (fun _ tk => XS.ifYes X0.here hx rfl (pc0 := 25) (pc' := 32) rfl (hb hby at_25) rfl ((if0 _ _).trans (teq hc25_90).1) (by decide) (by decide) tk) ?_
        refine Gs (fun _ tk => XS.iconst X0.here hx rfl (hb hby at_32) tk) ?_
        exact J33 (0 : Int32)
      · refine Gs (fun _ tk => XS.ifNo X0.here hx rfl (hb hby at_25) rfl ((if0 _ _).trans (feq hc25_90).1) tk) ?_
        refine Gs (fun _ tk => XS.iconst X0.here hx rfl (hb hby at_28) tk) ?_
        refine Gs (fun _ tk => XS.goto X0.here hx rfl (pc0 := 29) (pc' := 33) rfl (hb hby at_29) (by decide) (by decide) tk) ?_
        exact J33 (1 : Int32)
    · refine Gs (fun _ tk => XS.ifNo X0.here hx rfl (hb hby at_11) rfl ((if0 _ _).trans (feq hc11_69).1) tk) ?_
      refine Gs (fun _ tk => XS.iconst X0.here hx rfl (hb hby at_14) tk) ?_
      refine Gs (fun _ tk => XS.goto X0.here hx rfl (pc0 := 15) (pc' := 19) rfl (hb hby at_15) (by decide) (by decide) tk) ?_
      refine Gs (fun _ tk => XS.istore X0.here hx rfl (hb hby at_19) rfl (l' := #[.val (.int x0), .val (.int x1), .val (.int x2), .val (.int x3), .val (.int (2 : Int32)), .val (.int (1 : Int32)), .unset, .unset, .unset, .unset, .unset, .unset, .unset, .unset]) rfl tk) ?_
      refine Gs (fun _ tk => XS.iloadN X0.here hx rfl (hb hby at_21) rfl tk) ?_
      refine Gs (fun _ tk => XS.bipush X0.here hx rfl (hb hby at_22) tk) ?_
      show Goes _ _ _ _ _ (s₁.setTop (mkF m 24 #[.val (.int x0), .val (.int x1), .val (.int x2), .val (.int x3), .val (.int (2 : Int32)), .val (.int (1 : Int32)), .unset, .unset, .unset, .unset, .unset, .unset, .unset, .unset] [(.int (16 : Int32)), (.int x0)]))
      refine Gs (fun _ tk => XS.iand X0.here hx rfl (hb hby at_24) rfl tk) ?_
      show Goes _ _ _ _ _ (s₁.setTop (mkF m 25 #[.val (.int x0), .val (.int x1), .val (.int x2), .val (.int x3), .val (.int (2 : Int32)), .val (.int (1 : Int32)), .unset, .unset, .unset, .unset, .unset, .unset, .unset, .unset] [(.int (x0 &&& (16 : Int32)))]))
      have J33 : ∀ pz : Int32, Goes p e below (fun o u L => FrameEnd s o u L room_1.cells room_1.slots) (Q_rm_law Z x0 x1 x2 x3 d kd nl ea ke em no mr h0 n0) (s₁.setTop (mkF m 33 #[.val (.int x0), .val (.int x1), .val (.int x2), .val (.int x3), .val (.int (2 : Int32)), .val (.int (1 : Int32)), .unset, .unset, .unset, .unset, .unset, .unset, .unset, .unset] [(.int pz)])) := by
        intro pz
        refine Gs (fun _ tk => XS.istore X0.here hx rfl (hb hby at_33) rfl (l' := #[.val (.int x0), .val (.int x1), .val (.int x2), .val (.int x3), .val (.int (2 : Int32)), .val (.int (1 : Int32)), .val (.int pz), .unset, .unset, .unset, .unset, .unset, .unset, .unset]) rfl tk) ?_
        obtain ⟨T91, h91, X91, e91, E91, A91, D91, -, st91⟩ := newO X0 hx hZ hown (gw hw 0 rfl) (gw hw 1 rfl) (gw hw 2 rfl) e0 (g := (mkF m 35 #[.val (.int x0), .val (.int x1), .val (.int x2), .val (.int x3), .val (.int (2 : Int32)), .val (.int (1 : Int32)), .val (.int pz), .unset, .unset, .unset, .unset, .unset, .unset, .unset] [])) rfl (hb hby at_35) (by decide) (by decide)
        obtain ⟨b91, gq91⟩ : ∃ z, z = h0.size := ⟨_, rfl⟩
        rw [← gq91] at A91 st91 D91
        have g_b91 : n0 ≤ b91 := by rw [gq91]; exact Z0
        have ne_d_b91 : d ≠ b91 := by rw [gq91]; exact Nat.ne_of_lt V_d.lt
        have ne_nl_b91 : nl ≠ b91 := by rw [gq91]; exact Nat.ne_of_lt A_nl.lt
        have ne_ea_b91 : ea ≠ b91 := by rw [gq91]; exact Nat.ne_of_lt V_ea.lt
        have ne_em_b91 : em ≠ b91 := by rw [gq91]; exact Nat.ne_of_lt A_em.lt
        have ne_no_b91 : no ≠ b91 := by rw [gq91]; exact Nat.ne_of_lt A_no.lt
        replace S_DEFAULTCAPACITY_EMPTY_ELEMENTDATA := S_DEFAULTCAPACITY_EMPTY_ELEMENTDATA.ext E91
        replace V_d := V_d.ext E91
        replace A_nl := A_nl.ext E91
        replace V_ea := V_ea.ext E91
        replace S_EMPTY := S_EMPTY.ext E91
        replace A_em := A_em.ext E91
        replace A_no := A_no.ext E91
        replace Z0 : n0 ≤ h91.size := Nat.le_trans Z0 E91.1
        have A_b91 : Exa Z h91 b91 "org/stripeward/scenario/Node" := A91
        have F_index_b91 : Fld Z h91 b91 "org/stripeward/scenario/Node" "index" "I" (.int (0 : Int32)) := D91 (Or.inr (gw hw 15 rfl)) (ty := .int) (by decide)
        have F_name_b91 : Fld Z h91 b91 "org/stripeward/scenario/Node" "name" "Ljava/lang/String;" .null := D91 (Or.inr (gw hw 17 rfl)) (ty := (.object "java/lang/String")) (by decide)
        have F_rack_b91 : Fld Z h91 b91 "org/stripeward/scenario/Node" "rack" "Lorg/stripeward/scenario/Rack;" .null := D91 (Or.inr (gw hw 19 rfl)) (ty := (.object "org/stripeward/scenario/Rack")) (by decide)
        refine Gs st91 ?_
        show Goes _ _ _ _ _ (T91.setTop (mkF m 38 #[.val (.int x0), .val (.int x1), .val (.int x2), .val (.int x3), .val (.int (2 : Int32)), .val (.int (1 : Int32)), .val (.int pz), .unset, .unset, .unset, .unset, .unset, .unset, .unset] [(.ref b91)]))
        refine Gs (fun _ tk => XS.dup X91.here hx rfl (hb hby at_38) rfl rfl tk) ?_
        refine Gs (fun _ tk => XS.iloadN X91.here hx rfl (hb hby at_39) rfl tk) ?_
        refine Gs (fun _ tk => XS.aconstNull X91.here hx rfl (hb hby at_40) tk) ?_
        refine Gs (fun _ tk => XS.aconstNull X91.here hx rfl (hb hby at_41) tk) ?_
        obtain ⟨_, _, ⟨T92, L92, k92, n92⟩, -, X92, ⟨Lc92, hQ92, l92, y92, z92⟩, st92⟩ := X91.specialBack hx (y := mN25) rfl hown (mvT hZ (gw hw 3 rfl)) (mvT hZ (gw hw 4 rfl)) (mvT hZ (gw hw 5 rfl)) (by decide) (backOf (W := 1) (rm_node l Z a0 hw [] b91 x3 h91 n0 Z0 A_b91 F_index_b91 F_name_b91 F_rack_b91 g_b91) hZ (gw hw 5 rfl) (gw hw 2 rfl) (by decide) (by decide)) (g := (mkF m 42 #[.val (.int x0), .val (.int x1), .val (.int x2), .val (.int x3), .val (.int (2 : Int32)), .val (.int (1 : Int32)), .val (.int pz), .unset, .unset, .unset, .unset, .unset, .unset, .unset] [.null, .null, (.int x3), (.ref b91), (.ref b91)])) rfl (by rw [hml]; rfl) (Steps.refl _) (a := b91) (argsL := [(.int x3), .null, .null]) (rest := [(.ref b91)]) (lenOf own_pd20 rfl) rfl (w0 (Nat.le_of_eq rfl)) (hb hby at_42) (fun _ _ => ⟨rfl, e91, (by decide : 1 + 0 ≤ _), (by decide : 3 + 0 ≤ _)⟩)
        dsimp only [Pt.U, Pt.locs, Pt.cells, Pt.slots] at X92 l92 y92 z92 st92 hQ92
        subst l92 y92 z92
        obtain ⟨rfl, N92q, K92⟩ := hQ92
        have N92 := Fr.app N0 N92q
        replace S_DEFAULTCAPACITY_EMPTY_ELEMENTDATA := own_staK S_DEFAULTCAPACITY_EMPTY_ELEMENTDATA K92 (allS (own_obE A_b91) all0)
        replace S_EMPTY := own_staK S_EMPTY K92 (allS (own_obE A_b91) all0)
        replace V_d := V_d.keep K92 (ninS ne_d_b91 nin0)
        replace A_nl := A_nl.keep K92
        replace V_ea := V_ea.keep K92 (ninS ne_ea_b91 nin0)
        replace A_em := A_em.keep K92
        replace A_no := A_no.keep K92
        replace A_b91 := A_b91.keep K92
        replace Z0 := Nat.le_trans Z0 K92.1
        refine Gs (fun _ tk => st92.trans tk) ?_
        show Goes _ _ _ _ _ (T92.setTop (mkF m 45 #[.val (.int x0), .val (.int x1), .val (.int x2), .val (.int x3), .val (.int (2 : Int32)), .val (.int (1 : Int32)), .val (.int pz), .unset, .unset, .unset, .unset, .unset, .unset, .unset] [(.ref b91)]))
        refine Gs (fun _ tk => XS.astore X92.here hx rfl (hb hby at_45) rfl rfl (l' := #[.val (.int x0), .val (.int x1), .val (.int x2), .val (.int x3), .val (.int (2 : Int32)), .val (.int (1 : Int32)), .val (.int pz), .val (.ref b91), .unset, .unset, .unset, .unset, .unset, .unset]) rfl tk) ?_
        obtain ⟨T93, h93, X93, e93, E93, A93, D93, -, st93⟩ := newO X92 hx hZ hown (gw hw 20 rfl) (gw hw 21 rfl) (gw hw 22 rfl) rfl (g := (mkF m 47 #[.val (.int x0), .val (.int x1), .val (.int x2), .val (.int x3), .val (.int (2 : Int32)), .val (.int (1 : Int32)), .val (.int pz), .val (.ref b91), .unset, .unset, .unset, .unset, .unset, .unset] [])) rfl (hb hby at_47) (by decide) (by decide)
        obtain ⟨b93, gq93⟩ : ∃ z, z = T92.heap.size := ⟨_, rfl⟩
        rw [← gq93] at A93 st93 D93
        have g_b93 : n0 ≤ b93 := by rw [gq93]; exact Z0
        have ne_d_b93 : d ≠ b93 := by rw [gq93]; exact Nat.ne_of_lt V_d.lt
        have ne_nl_b93 : nl ≠ b93 := by rw [gq93]; exact Nat.ne_of_lt A_nl.lt
        have ne_ea_b93 : ea ≠ b93 := by rw [gq93]; exact Nat.ne_of_lt V_ea.lt
        have ne_em_b93 : em ≠ b93 := by rw [gq93]; exact Nat.ne_of_lt A_em.lt
        have ne_no_b93 : no ≠ b93 := by rw [gq93]; exact Nat.ne_of_lt A_no.lt
        have ne_b91_b93 : b91 ≠ b93 := by rw [gq93]; exact Nat.ne_of_lt A_b91.lt
        replace S_DEFAULTCAPACITY_EMPTY_ELEMENTDATA := S_DEFAULTCAPACITY_EMPTY_ELEMENTDATA.ext E93
        replace V_d := V_d.ext E93
        replace A_nl := A_nl.ext E93
        replace V_ea := V_ea.ext E93
        replace S_EMPTY := S_EMPTY.ext E93
        replace A_em := A_em.ext E93
        replace A_no := A_no.ext E93
        replace A_b91 := A_b91.ext E93
        replace Z0 : n0 ≤ h93.size := Nat.le_trans Z0 E93.1
        have A_b93 : Exa Z h93 b93 "java/util/ArrayList" := A93
        have F_modCount_b93 : Fld Z h93 b93 "java/util/AbstractList" "modCount" "I" (.int (0 : Int32)) := D93 (Or.inl (gw hw 40 rfl)) (ty := .int) (by decide)
        have F_elementData_b93 : Fld Z h93 b93 "java/util/ArrayList" "elementData" "[Ljava/lang/Object;" .null := D93 (Or.inl (gw hw 43 rfl)) (ty := (.array (.object "java/lang/Object"))) (by decide)
        have F_size_b93 : Fld Z h93 b93 "java/util/ArrayList" "size" "I" (.int (0 : Int32)) := D93 (Or.inl (gw hw 75 rfl)) (ty := .int) (by decide)
        refine Gs st93 ?_
        show Goes _ _ _ _ _ (T93.setTop (mkF m 50 #[.val (.int x0), .val (.int x1), .val (.int x2), .val (.int x3), .val (.int (2 : Int32)), .val (.int (1 : Int32)), .val (.int pz), .val (.ref b91), .unset, .unset, .unset, .unset, .unset, .unset] [(.ref b93)]))
        refine Gs (fun _ tk => XS.dup X93.here hx rfl (hb hby at_50) rfl rfl tk) ?_
        obtain ⟨_, _, ⟨T94, L94, k94, n94⟩, -, X94, ⟨Lc94, hQ94, l94, y94, z94⟩, st94⟩ := X93.specialBack hx (y := mN6) rfl hown (mvT hZ (gw hw 23 rfl)) (mvT hZ (gw hw 24 rfl)) (mvT hZ (gw hw 25 rfl)) (by decide) (backOf (W := 1) (rm_alinit l Z a0 hw [] b93 d h93 n0 Z0 A_b93 F_modCount_b93 F_elementData_b93 F_size_b93 S_DEFAULTCAPACITY_EMPTY_ELEMENTDATA g_b93) hZ (gw hw 25 rfl) (gw hw 22 rfl) (by decide) (by decide)) (g := (mkF m 51 #[.val (.int x0), .val (.int x1), .val (.int x2), .val (.int x3), .val (.int (2 : Int32)), .val (.int (1 : Int32)), .val (.int pz), .val (.ref b91), .unset, .unset, .unset, .unset, .unset, .unset] [(.ref b93), (.ref b93)])) rfl (by rw [hml]; rfl) (Steps.refl _) (a := b93) (argsL := []) (rest := [(.ref b93)]) (lenOf own_pd0 rfl) rfl (w0 (Nat.le_of_eq rfl)) (hb hby at_51) (fun _ _ => ⟨rfl, e93, (by decide : 2 + 0 ≤ _), (by decide : 6 + 0 ≤ _)⟩)
        dsimp only [Pt.U, Pt.locs, Pt.cells, Pt.slots] at X94 l94 y94 z94 st94 hQ94
        subst l94 y94 z94
        obtain ⟨rfl, N94q, K94, F_modCount_b93_94', F_elementData_b93_94', F_size_b93_94'⟩ := hQ94
        have N94 := Fr.app N92 N94q
        replace S_DEFAULTCAPACITY_EMPTY_ELEMENTDATA := own_staK S_DEFAULTCAPACITY_EMPTY_ELEMENTDATA K94 (allS (own_obE A_b93) all0)
        replace S_EMPTY := own_staK S_EMPTY K94 (allS (own_obE A_b93) all0)
        replace V_d := V_d.keep K94 (ninS ne_d_b93 nin0)
        replace A_nl := A_nl.keep K94
        replace V_ea := V_ea.keep K94 (ninS ne_ea_b93 nin0)
        replace A_em := A_em.keep K94
        replace A_no := A_no.keep K94
        replace A_b91 := A_b91.keep K94
        replace A_b93 := A_b93.keep K94
        replace Z0 := Nat.le_trans Z0 K94.1
        have F_modCount_b93 := F_modCount_b93_94'
        have F_elementData_b93 := F_elementData_b93_94'
        have F_size_b93 := F_size_b93_94'
        refine Gs (fun _ tk => st94.trans tk) ?_
        show Goes _ _ _ _ _ (T94.setTop (mkF m 54 #[.val (.int x0), .val (.int x1), .val (.int x2), .val (.int x3), .val (.int (2 : Int32)), .val (.int (1 : Int32)), .val (.int pz), .val (.ref b91), .unset, .unset, .unset, .unset, .unset, .unset] [(.ref b93)]))
        refine Gs (fun _ tk => XS.astore X94.here hx rfl (hb hby at_54) rfl rfl (l' := #[.val (.int x0), .val (.int x1), .val (.int x2), .val (.int x3), .val (.int (2 : Int32)), .val (.int (1 : Int32)), .val (.int pz), .val (.ref b91), .val (.ref b93), .unset, .unset, .unset, .unset, .unset]) rfl tk) ?_
        refine Gs (fun _ tk => XS.iload X94.here hx rfl (hb hby at_56) rfl tk) ?_
        refine Gs (fun _ tk => XS.ifNo X94.here hx rfl (hb hby at_58) rfl ((if0 _ _).trans (feq (by decide : ¬ ((1 : Int32) = (0 : Int32)))).1) tk) ?_
        refine Gs (fun _ tk => XS.aload X94.here hx rfl (hb hby at_61) rfl rfl tk) ?_
        refine Gs (fun _ tk => XS.aload X94.here hx rfl (hb hby at_63) rfl rfl tk) ?_
        have ltc95_d : d < T94.heap.size := V_d.lt
        have ltc95_nl : nl < T94.heap.size := A_nl.lt
        have ltc95_ea : ea < T94.heap.size := V_ea.lt
        have ltc95_em : em < T94.heap.size := A_em.lt
        have ltc95_no : no < T94.heap.size := A_no.lt
        have ltc95_b91 : b91 < T94.heap.size := A_b91.lt
        have ltc95_b93 : b93 < T94.heap.size := A_b93.lt
        obtain ⟨cq95, kq95, q95a, q95b, q95c⟩ := isOf hZ rfl A_b93
        obtain ⟨_, _, ⟨T95, L95, k95, n95⟩, -, X95, ⟨Lc95, hQ95, l95, y95, z95⟩, st95⟩ := X94.interfaceBack hx (xi := mN49) (y := mN12) hown (mvT hZ (gw hw 113 rfl)) (mvT hZ (gw hw 114 rfl)) (mvT hZ (gw hw 115 rfl)) (mvT hZ (gw hw 116 rfl)) (mvT hZ (gw hw 117 rfl)) (mvT hZ (gw hw 118 rfl)) (mvT hZ (gw hw 119 rfl)) (mvT hZ (gw hw 102 rfl)) (by decide) (backOf (W := 0) (rm_add0 l Z a0 hw [] b93 b91 (0 : Int32) d kd T94.heap n0 Z0 A_b93 F_modCount_b93 F_elementData_b93 F_size_b93 S_DEFAULTCAPACITY_EMPTY_ELEMENTDATA V_d g_b93 ne_d_b93 (Ins.of_exa A_b91 (gw hw 144 rfl))) hZ (gw hw 120 rfl) (gw hw 22 rfl) (by decide) (by decide)) q95a q95b q95c (g := (mkF m 65 #[.val (.int x0), .val (.int x1), .val (.int x2), .val (.int x3), .val (.int (2 : Int32)), .val (.int (1 : Int32)), .val (.int pz), .val (.ref b91), .val (.ref b93), .unset, .unset, .unset, .unset, .unset] [(.ref b91), (.ref b93)])) rfl (by rw [hml]; rfl) (Steps.refl _) (argsL := [(.ref b91)]) (rest := []) (lenOf own_pd23 rfl) rfl (w0 (Nat.le_of_eq rfl)) (hb hby at_65) (fun _ _ => ⟨rfl, rfl, (by decide : 2 + 1 ≤ _), (by decide : 6 + 10 ≤ _)⟩)
        dsimp only [Pt.U, Pt.locs, Pt.cells, Pt.slots] at X95 l95 y95 z95 st95 hQ95
        subst l95 y95 z95
        obtain ⟨b95, kb95, rfl, N95q, K95, F_modCount_b93_95', F_elementData_b93_95', F_size_b93_95', V_b95_95', A_b95_95', Ov_95', g_b95_95', sz_b95_95'⟩ := hQ95
        have N95 := Fr.app N94 N95q
        replace S_DEFAULTCAPACITY_EMPTY_ELEMENTDATA := own_staK S_DEFAULTCAPACITY_EMPTY_ELEMENTDATA K95 (allS (own_obE A_b93) all0)
        replace S_EMPTY := own_staK S_EMPTY K95 (allS (own_obE A_b93) all0)
        replace V_d := V_d.keep K95 (ninS ne_d_b93 nin0)
        replace A_nl := A_nl.keep K95
        replace V_ea := V_ea.keep K95 (ninS ne_ea_b93 nin0)
        replace A_em := A_em.keep K95
        replace A_no := A_no.keep K95
        replace A_b91 := A_b91.keep K95
        replace A_b93 := A_b93.keep K95
        replace Z0 := Nat.le_trans Z0 K95.1
        have F_elementData_b93 := F_elementData_b93_95'
        have F_size_b93 := F_size_b93_95'
        have V_b95 := V_b95_95'
        have A_b95 := A_b95_95'
        have g_b95 := g_b95_95'
        have szc_b95 := sz_b95_95'
        have ne_d_b95 : d ≠ b95 := Nat.ne_of_lt (Nat.lt_of_lt_of_le ltc95_d szc_b95)
        have ne_nl_b95 : nl ≠ b95 := Nat.ne_of_lt (Nat.lt_of_lt_of_le ltc95_nl szc_b95)
        have ne_ea_b95 : ea ≠ b95 := Nat.ne_of_lt (Nat.lt_of_lt_of_le ltc95_ea szc_b95)
        have ne_em_b95 : em ≠ b95 := Nat.ne_of_lt (Nat.lt_of_lt_of_le ltc95_em szc_b95)
        have ne_no_b95 : no ≠ b95 := Nat.ne_of_lt (Nat.lt_of_lt_of_le ltc95_no szc_b95)
        have ne_b91_b95 : b91 ≠ b95 := Nat.ne_of_lt (Nat.lt_of_lt_of_le ltc95_b91 szc_b95)
        have ne_b93_b95 : b93 ≠ b95 := Nat.ne_of_lt (Nat.lt_of_lt_of_le ltc95_b93 szc_b95)
        refine Gs (fun _ tk => st95.trans tk) ?_
        show Goes _ _ _ _ _ (T95.setTop (mkF m 70 #[.val (.int x0), .val (.int x1), .val (.int x2), .val (.int x3), .val (.int (2 : Int32)), .val (.int (1 : Int32)), .val (.int pz), .val (.ref b91), .val (.ref b93), .unset, .unset, .unset, .unset, .unset] [(.int (1 : Int32))]))
        refine Gs (fun _ tk => XS.pop X95.here hx rfl (hb hby at_70) rfl rfl tk) ?_
        obtain ⟨T96, h96, X96, e96, E96, A96, D96, -, st96⟩ := newO X95 hx hZ hown (gw hw 44 rfl) (gw hw 45 rfl) (gw hw 46 rfl) rfl (g := (mkF m 71 #[.val (.int x0), .val (.int x1), .val (.int x2), .val (.int x3), .val (.int (2 : Int32)), .val (.int (1 : Int32)), .val (.int pz), .val (.ref b91), .val (.ref b93), .unset, .unset, .unset, .unset, .unset] [])) rfl (hb hby at_71) (by decide) (by decide)
        obtain ⟨b96, gq96⟩ : ∃ z, z = T95.heap.size := ⟨_, rfl⟩
        rw [← gq96] at A96 st96 D96
        have g_b96 : n0 ≤ b96 := by rw [gq96]; exact Z0
        have ne_d_b96 : d ≠ b96 := by rw [gq96]; exact Nat.ne_of_lt V_d.lt
        have ne_nl_b96 : nl ≠ b96 := by rw [gq96]; exact Nat.ne_of_lt A_nl.lt
        have ne_ea_b96 : ea ≠ b96 := by rw [gq96]; exact Nat.ne_of_lt V_ea.lt
        have ne_em_b96 : em ≠ b96 := by rw [gq96]; exact Nat.ne_of_lt A_em.lt
        have ne_no_b96 : no ≠ b96 := by rw [gq96]; exact Nat.ne_of_lt A_no.lt
        have ne_b91_b96 : b91 ≠ b96 := by rw [gq96]; exact Nat.ne_of_lt A_b91.lt
        have ne_b93_b96 : b93 ≠ b96 := by rw [gq96]; exact Nat.ne_of_lt A_b93.lt
        have ne_b95_b96 : b95 ≠ b96 := by rw [gq96]; exact Nat.ne_of_lt V_b95.lt
        replace S_DEFAULTCAPACITY_EMPTY_ELEMENTDATA := S_DEFAULTCAPACITY_EMPTY_ELEMENTDATA.ext E96
        replace V_d := V_d.ext E96
        replace A_nl := A_nl.ext E96
        replace V_ea := V_ea.ext E96
        replace S_EMPTY := S_EMPTY.ext E96
        replace A_em := A_em.ext E96
        replace A_no := A_no.ext E96
        replace A_b91 := A_b91.ext E96
        replace A_b93 := A_b93.ext E96
        replace F_elementData_b93 := F_elementData_b93.ext E96
        replace F_size_b93 := F_size_b93.ext E96
        replace V_b95 := V_b95.ext E96
        replace A_b95 := A_b95.ext E96
        replace Z0 : n0 ≤ h96.size := Nat.le_trans Z0 E96.1
        have A_b96 : Exa Z h96 b96 "org/stripeward/scenario/Block" := A96
        have F_index_b96 : Fld Z h96 b96 "org/stripeward/scenario/Block" "index" "I" (.int (0 : Int32)) := D96 (Or.inr (gw hw 81 rfl)) (ty := .int) (by decide)
        have F_name_b96 : Fld Z h96 b96 "org/stripeward/scenario/Block" "name" "Ljava/lang/String;" .null := D96 (Or.inr (gw hw 83 rfl)) (ty := (.object "java/lang/String")) (by decide)
        have F_holders_b96 : Fld Z h96 b96 "org/stripeward/scenario/Block" "holders" "Ljava/util/List;" .null := D96 (Or.inr (gw hw 85 rfl)) (ty := (.object "java/util/List")) (by decide)
        have F_stripe_b96 : Fld Z h96 b96 "org/stripeward/scenario/Block" "stripe" "Lorg/stripeward/scenario/Stripe;" .null := D96 (Or.inr (gw hw 87 rfl)) (ty := (.object "org/stripeward/scenario/Stripe")) (by decide)
        have F_parity_b96 : Fld Z h96 b96 "org/stripeward/scenario/Block" "parity" "Z" (.int (0 : Int32)) := D96 (Or.inr (gw hw 89 rfl)) (ty := .boolean) (by decide)
        have F_sizeMiB_b96 : Fld Z h96 b96 "org/stripeward/scenario/Block" "sizeMiB" "D" (.double (0 : UInt64)) := D96 (Or.inr (gw hw 91 rfl)) (ty := .double) (by decide)
        refine Gs st96 ?_
        show Goes _ _ _ _ _ (T96.setTop (mkF m 74 #[.val (.int x0), .val (.int x1), .val (.int x2), .val (.int x3), .val (.int (2 : Int32)), .val (.int (1 : Int32)), .val (.int pz), .val (.ref b91), .val (.ref b93), .unset, .unset, .unset, .unset, .unset] [(.ref b96)]))
        refine Gs (fun _ tk => XS.dup X96.here hx rfl (hb hby at_74) rfl rfl tk) ?_
        refine Gs (fun _ tk => XS.iloadN X96.here hx rfl (hb hby at_75) rfl tk) ?_
        refine Gs (fun _ tk => XS.aconstNull X96.here hx rfl (hb hby at_76) tk) ?_
        refine Gs (fun _ tk => XS.aload X96.here hx rfl (hb hby at_77) rfl rfl tk) ?_
        refine Gs (fun _ tk => XS.aconstNull X96.here hx rfl (hb hby at_79) tk) ?_
        refine Gs (fun _ tk => XS.iload X96.here hx rfl (hb hby at_80) rfl tk) ?_
        show Goes _ _ _ _ _ (T96.setTop (mkF m 82 #[.val (.int x0), .val (.int x1), .val (.int x2), .val (.int x3), .val (.int (2 : Int32)), .val (.int (1 : Int32)), .val (.int pz), .val (.ref b91), .val (.ref b93), .unset, .unset, .unset, .unset, .unset] [(.int pz), .null, (.ref b93), .null, (.int x1), (.ref b96), (.ref b96)]))
        refine Gs (fun _ tk => XS.dconst1 X96.here hx rfl (hb hby at_82) rfl tk) ?_
        have ltc97_d : d < h96.size := V_d.lt
        have ltc97_nl : nl < h96.size := A_nl.lt
        have ltc97_ea : ea < h96.size := V_ea.lt
        have ltc97_em : em < h96.size := A_em.lt
        have ltc97_no : no < h96.size := A_no.lt
        have ltc97_b91 : b91 < h96.size := A_b91.lt
        have ltc97_b93 : b93 < h96.size := A_b93.lt
        have ltc97_b95 : b95 < h96.size := V_b95.lt
        have ltc97_b96 : b96 < h96.size := A_b96.lt
        obtain ⟨_, _, ⟨T97, L97, k97, n97⟩, -, X97, ⟨Lc97, hQ97, l97, y97, z97⟩, st97⟩ := X96.specialBack hx (y := mN26) rfl hown (mvT hZ (gw hw 47 rfl)) (mvT hZ (gw hw 48 rfl)) (mvT hZ (gw hw 49 rfl)) (by decide) (backOf (W := 1) (rm_block1 l Z a0 hw [] b96 x1 b93 pz FP.dconst1 b91 b95 kb95 mr em h96 n0 Z0 A_b96 F_index_b96 F_name_b96 F_holders_b96 F_stripe_b96 F_parity_b96 F_sizeMiB_b96 g_b96 A_b93 F_elementData_b93 F_size_b93 V_b95 A_b95 (Ins.of_exa A_b91 (gw hw 144 rfl)) (by first | assumption | decide) S_EMPTY ne_b93_b96 ne_b95_b96) hZ (gw hw 49 rfl) (gw hw 46 rfl) (by decide) (by decide)) (g := (mkF m 83 #[.val (.int x0), .val (.int x1), .val (.int x2), .val (.int x3), .val (.int (2 : Int32)), .val (.int (1 : Int32)), .val (.int pz), .val (.ref b91), .val (.ref b93), .unset, .unset, .unset, .unset, .unset] [(.double FP.dconst1), (.int pz), .null, (.ref b93), .null, (.int x1), (.ref b96), (.ref b96)])) rfl (by rw [hml]; rfl) (Steps.refl _) (a := b96) (argsL := [(.int x1), .null, (.ref b93), .null, (.int pz), (.double FP.dconst1)]) (rest := [(.ref b96)]) (lenOf own_pd21 rfl) rfl (w0 (Nat.le_of_eq rfl)) (hb hby at_83) (fun _ _ => ⟨rfl, e96, (by decide : 4 + 2 ≤ _), (by decide : 22 + 3 ≤ _)⟩)
        dsimp only [Pt.U, Pt.locs, Pt.cells, Pt.slots] at X97 l97 y97 z97 st97 hQ97
        subst l97 y97 z97
        obtain ⟨u97, rfl, N97q, K97, F_index_b96_97', F_holders_b96_97', A_u97_97', F_e0_u97_97', F_e1_u97_97', g_u97_97', sz_u97_97'⟩ := hQ97
        have N97 := Fr.app N95 N97q
        replace S_DEFAULTCAPACITY_EMPTY_ELEMENTDATA := own_staK S_DEFAULTCAPACITY_EMPTY_ELEMENTDATA K97 (allS (own_obE A_b96) all0)
        replace S_EMPTY := own_staK S_EMPTY K97 (allS (own_obE A_b96) all0)
        replace V_d := V_d.keep K97 (ninS ne_d_b96 nin0)
        replace A_nl := A_nl.keep K97
        replace V_ea := V_ea.keep K97 (ninS ne_ea_b96 nin0)
        replace A_em := A_em.keep K97
        replace A_no := A_no.keep K97
        replace A_b91 := A_b91.keep K97
        replace A_b93 := A_b93.keep K97
        replace F_elementData_b93 := F_elementData_b93.keep K97 (ninS ne_b93_b96 nin0)
        replace F_size_b93 := F_size_b93.keep K97 (ninS ne_b93_b96 nin0)
        replace V_b95 := V_b95.keep K97 (ninS ne_b95_b96 nin0)
        replace A_b95 := A_b95.keep K97
        replace A_b96 := A_b96.keep K97
        replace Z0 := Nat.le_trans Z0 K97.1
        have F_index_b96 := F_index_b96_97'
        have F_holders_b96 := F_holders_b96_97'
        have A_u97 := A_u97_97'
        have F_e1_u97 := F_e1_u97_97'
        have g_u97 := g_u97_97'
        have szc_u97 := sz_u97_97'
        have ne_d_u97 : d ≠ u97 := Nat.ne_of_lt (Nat.lt_of_lt_of_le ltc97_d szc_u97)
        have ne_nl_u97 : nl ≠ u97 := Nat.ne_of_lt (Nat.lt_of_lt_of_le ltc97_nl szc_u97)
        have ne_ea_u97 : ea ≠ u97 := Nat.ne_of_lt (Nat.lt_of_lt_of_le ltc97_ea szc_u97)
        have ne_em_u97 : em ≠ u97 := Nat.ne_of_lt (Nat.lt_of_lt_of_le ltc97_em szc_u97)
        have ne_no_u97 : no ≠ u97 := Nat.ne_of_lt (Nat.lt_of_lt_of_le ltc97_no szc_u97)
        have ne_b91_u97 : b91 ≠ u97 := Nat.ne_of_lt (Nat.lt_of_lt_of_le ltc97_b91 szc_u97)
        have ne_b93_u97 : b93 ≠ u97 := Nat.ne_of_lt (Nat.lt_of_lt_of_le ltc97_b93 szc_u97)
        have ne_b95_u97 : b95 ≠ u97 := Nat.ne_of_lt (Nat.lt_of_lt_of_le ltc97_b95 szc_u97)
        have ne_b96_u97 : b96 ≠ u97 := Nat.ne_of_lt (Nat.lt_of_lt_of_le ltc97_b96 szc_u97)
        refine Gs (fun _ tk => st97.trans tk) ?_
        show Goes _ _ _ _ _ (T97.setTop (mkF m 86 #[.val (.int x0), .val (.int x1), .val (.int x2), .val (.int x3), .val (.int (2 : Int32)), .val (.int (1 : Int32)), .val (.int pz), .val (.ref b91), .val (.ref b93), .unset, .unset, .unset, .unset, .unset] [(.ref b96)]))
        refine Gs (fun _ tk => XS.astore X97.here hx rfl (hb hby at_86) rfl rfl (l' := #[.val (.int x0), .val (.int x1), .val (.int x2), .val (.int x3), .val (.int (2 : Int32)), .val (.int (1 : Int32)), .val (.int pz), .val (.ref b91), .val (.ref b93), .val (.ref b96), .unset, .unset, .unset, .unset]) rfl tk) ?_
        obtain ⟨T98, h98, X98, e98, E98, A98, D98, -, st98⟩ := newO X97 hx hZ hown (gw hw 44 rfl) (gw hw 45 rfl) (gw hw 46 rfl) rfl (g := (mkF m 88 #[.val (.int x0), .val (.int x1), .val (.int x2), .val (.int x3), .val (.int (2 : Int32)), .val (.int (1 : Int32)), .val (.int pz), .val (.ref b91), .val (.ref b93), .val (.ref b96), .unset, .unset, .unset, .unset] [])) rfl (hb hby at_88) (by decide) (by decide)
        obtain ⟨b98, gq98⟩ : ∃ z, z = T97.heap.size := ⟨_, rfl⟩
        rw [← gq98] at A98 st98 D98
        have g_b98 : n0 ≤ b98 := by rw [gq98]; exact Z0
        have ne_d_b98 : d ≠ b98 := by rw [gq98]; exact Nat.ne_of_lt V_d.lt
        have ne_nl_b98 : nl ≠ b98 := by rw [gq98]; exact Nat.ne_of_lt A_nl.lt
        have ne_ea_b98 : ea ≠ b98 := by rw [gq98]; exact Nat.ne_of_lt V_ea.lt
        have ne_em_b98 : em ≠ b98 := by rw [gq98]; exact Nat.ne_of_lt A_em.lt
        have ne_no_b98 : no ≠ b98 := by rw [gq98]; exact Nat.ne_of_lt A_no.lt
        have ne_b91_b98 : b91 ≠ b98 := by rw [gq98]; exact Nat.ne_of_lt A_b91.lt
        have ne_b93_b98 : b93 ≠ b98 := by rw [gq98]; exact Nat.ne_of_lt A_b93.lt
        have ne_b95_b98 : b95 ≠ b98 := by rw [gq98]; exact Nat.ne_of_lt V_b95.lt
        have ne_b96_b98 : b96 ≠ b98 := by rw [gq98]; exact Nat.ne_of_lt A_b96.lt
        have ne_u97_b98 : u97 ≠ b98 := by rw [gq98]; exact Nat.ne_of_lt A_u97.lt
        replace S_DEFAULTCAPACITY_EMPTY_ELEMENTDATA := S_DEFAULTCAPACITY_EMPTY_ELEMENTDATA.ext E98
        replace V_d := V_d.ext E98
        replace A_nl := A_nl.ext E98
        replace V_ea := V_ea.ext E98
        replace S_EMPTY := S_EMPTY.ext E98
        replace A_em := A_em.ext E98
        replace A_no := A_no.ext E98
        replace A_b91 := A_b91.ext E98
        replace A_b93 := A_b93.ext E98
        replace F_elementData_b93 := F_elementData_b93.ext E98
        replace F_size_b93 := F_size_b93.ext E98
        replace V_b95 := V_b95.ext E98
        replace A_b95 := A_b95.ext E98
        replace A_b96 := A_b96.ext E98
        replace F_index_b96 := F_index_b96.ext E98
        replace F_holders_b96 := F_holders_b96.ext E98
        replace A_u97 := A_u97.ext E98
        replace F_e1_u97 := F_e1_u97.ext E98
        replace Z0 : n0 ≤ h98.size := Nat.le_trans Z0 E98.1
        have A_b98 : Exa Z h98 b98 "org/stripeward/scenario/Block" := A98
        have F_index_b98 : Fld Z h98 b98 "org/stripeward/scenario/Block" "index" "I" (.int (0 : Int32)) := D98 (Or.inr (gw hw 81 rfl)) (ty := .int) (by decide)
        have F_name_b98 : Fld Z h98 b98 "org/stripeward/scenario/Block" "name" "Ljava/lang/String;" .null := D98 (Or.inr (gw hw 83 rfl)) (ty := (.object "java/lang/String")) (by decide)
        have F_holders_b98 : Fld Z h98 b98 "org/stripeward/scenario/Block" "holders" "Ljava/util/List;" .null := D98 (Or.inr (gw hw 85 rfl)) (ty := (.object "java/util/List")) (by decide)
        have F_stripe_b98 : Fld Z h98 b98 "org/stripeward/scenario/Block" "stripe" "Lorg/stripeward/scenario/Stripe;" .null := D98 (Or.inr (gw hw 87 rfl)) (ty := (.object "org/stripeward/scenario/Stripe")) (by decide)
        have F_parity_b98 : Fld Z h98 b98 "org/stripeward/scenario/Block" "parity" "Z" (.int (0 : Int32)) := D98 (Or.inr (gw hw 89 rfl)) (ty := .boolean) (by decide)
        have F_sizeMiB_b98 : Fld Z h98 b98 "org/stripeward/scenario/Block" "sizeMiB" "D" (.double (0 : UInt64)) := D98 (Or.inr (gw hw 91 rfl)) (ty := .double) (by decide)
        refine Gs st98 ?_
        show Goes _ _ _ _ _ (T98.setTop (mkF m 91 #[.val (.int x0), .val (.int x1), .val (.int x2), .val (.int x3), .val (.int (2 : Int32)), .val (.int (1 : Int32)), .val (.int pz), .val (.ref b91), .val (.ref b93), .val (.ref b96), .unset, .unset, .unset, .unset] [(.ref b98)]))
        refine Gs (fun _ tk => XS.dup X98.here hx rfl (hb hby at_91) rfl rfl tk) ?_
        refine Gs (fun _ tk => XS.iloadN X98.here hx rfl (hb hby at_92) rfl tk) ?_
        refine Gs (fun _ tk => XS.aconstNull X98.here hx rfl (hb hby at_93) tk) ?_
        refine Gs (fun _ tk => XS.aload X98.here hx rfl (hb hby at_94) rfl rfl tk) ?_
        refine Gs (fun _ tk => XS.aconstNull X98.here hx rfl (hb hby at_96) tk) ?_
        refine Gs (fun _ tk => XS.iconst X98.here hx rfl (hb hby at_97) tk) ?_
        show Goes _ _ _ _ _ (T98.setTop (mkF m 98 #[.val (.int x0), .val (.int x1), .val (.int x2), .val (.int x3), .val (.int (2 : Int32)), .val (.int (1 : Int32)), .val (.int pz), .val (.ref b91), .val (.ref b93), .val (.ref b96), .unset, .unset, .unset, .unset] [(.int (0 : Int32)), .null, (.ref b93), .null, (.int x2), (.ref b98), (.ref b98)]))
        refine Gs (fun _ tk => X98.ldc2DoubleC hx hown (mvT hZ (gw hw 92 rfl)) (g := (mkF m 98 #[.val (.int x0), .val (.int x1), .val (.int x2), .val (.int x3), .val (.int (2 : Int32)), .val (.int (1 : Int32)), .val (.int pz), .val (.ref b91), .val (.ref b93), .val (.ref b96), .unset, .unset, .unset, .unset] [(.int (0 : Int32)), .null, (.ref b93), .null, (.int x2), (.ref b98), (.ref b98)])) rfl (hb hby at_98) _ tk) ?_
        show Goes _ _ _ _ _ (T98.setTop (mkF m 101 #[.val (.int x0), .val (.int x1), .val (.int x2), .val (.int x3), .val (.int (2 : Int32)), .val (.int (1 : Int32)), .val (.int pz), .val (.ref b91), .val (.ref b93), .val (.ref b96), .unset, .unset, .unset, .unset] [(.double (4611686018427387904 : UInt64)), (.int (0 : Int32)), .null, (.ref b93), .null, (.int x2), (.ref b98), (.ref b98)]))
        have ltc99_d : d < h98.size := V_d.lt
        have ltc99_nl : nl < h98.size := A_nl.lt
        have ltc99_ea : ea < h98.size := V_ea.lt
        have ltc99_em : em < h98.size := A_em.lt
        have ltc99_no : no < h98.size := A_no.lt
        have ltc99_b91 : b91 < h98.size := A_b91.lt
        have ltc99_b93 : b93 < h98.size := A_b93.lt
        have ltc99_b95 : b95 < h98.size := V_b95.lt
        have ltc99_b96 : b96 < h98.size := A_b96.lt
        have ltc99_u97 : u97 < h98.size := A_u97.lt
        have ltc99_b98 : b98 < h98.size := A_b98.lt
        obtain ⟨_, _, ⟨T99, L99, k99, n99⟩, -, X99, ⟨Lc99, hQ99, l99, y99, z99⟩, st99⟩ := X98.specialBack hx (y := mN26) rfl hown (mvT hZ (gw hw 47 rfl)) (mvT hZ (gw hw 48 rfl)) (mvT hZ (gw hw 49 rfl)) (by decide) (backOf (W := 1) (rm_block1 l Z a0 hw [] b98 x2 b93 (0 : Int32) (4611686018427387904 : UInt64) b91 b95 kb95 mr em h98 n0 Z0 A_b98 F_index_b98 F_name_b98 F_holders_b98 F_stripe_b98 F_parity_b98 F_sizeMiB_b98 g_b98 A_b93 F_elementData_b93 F_size_b93 V_b95 A_b95 (Ins.of_exa A_b91 (gw hw 144 rfl)) (by first | assumption | decide) S_EMPTY ne_b93_b98 ne_b95_b98) hZ (gw hw 49 rfl) (gw hw 46 rfl) (by decide) (by decide)) (g := (mkF m 101 #[.val (.int x0), .val (.int x1), .val (.int x2), .val (.int x3), .val (.int (2 : Int32)), .val (.int (1 : Int32)), .val (.int pz), .val (.ref b91), .val (.ref b93), .val (.ref b96), .unset, .unset, .unset, .unset] [(.double (4611686018427387904 : UInt64)), (.int (0 : Int32)), .null, (.ref b93), .null, (.int x2), (.ref b98), (.ref b98)])) rfl (by rw [hml]; rfl) (Steps.refl _) (a := b98) (argsL := [(.int x2), .null, (.ref b93), .null, (.int (0 : Int32)), (.double (4611686018427387904 : UInt64))]) (rest := [(.ref b98)]) (lenOf own_pd21 rfl) rfl (w0 (Nat.le_of_eq rfl)) (hb hby at_101) (fun _ _ => ⟨rfl, e98, (by decide : 7 + 2 ≤ _), (by decide : 31 + 3 ≤ _)⟩)
        dsimp only [Pt.U, Pt.locs, Pt.cells, Pt.slots] at X99 l99 y99 z99 st99 hQ99
        subst l99 y99 z99
        obtain ⟨u99, rfl, N99q, K99, F_index_b98_99', F_holders_b98_99', A_u99_99', F_e0_u99_99', F_e1_u99_99', g_u99_99', sz_u99_99'⟩ := hQ99
        have N99 := Fr.app N97 N99q
        replace S_DEFAULTCAPACITY_EMPTY_ELEMENTDATA := own_staK S_DEFAULTCAPACITY_EMPTY_ELEMENTDATA K99 (allS (own_obE A_b98) all0)
        replace S_EMPTY := own_staK S_EMPTY K99 (allS (own_obE A_b98) all0)
        replace V_d := V_d.keep K99 (ninS ne_d_b98 nin0)
        replace A_nl := A_nl.keep K99
        replace V_ea := V_ea.keep K99 (ninS ne_ea_b98 nin0)
        replace A_em := A_em.keep K99
        replace A_no := A_no.keep K99
        replace A_b91 := A_b91.keep K99
        replace A_b93 := A_b93.keep K99
        replace V_b95 := V_b95.keep K99 (ninS ne_b95_b98 nin0)
        replace A_b96 := A_b96.keep K99
        replace F_index_b96 := F_index_b96.keep K99 (ninS ne_b96_b98 nin0)
        replace F_holders_b96 := F_holders_b96.keep K99 (ninS ne_b96_b98 nin0)
        replace A_u97 := A_u97.keep K99
        replace F_e1_u97 := F_e1_u97.keep K99 (ninS ne_u97_b98 nin0)
        replace A_b98 := A_b98.keep K99
        replace Z0 := Nat.le_trans Z0 K99.1
        have F_index_b98 := F_index_b98_99'
        have A_u99 := A_u99_99'
        have g_u99 := g_u99_99'
        have szc_u99 := sz_u99_99'
        have ne_d_u99 : d ≠ u99 := Nat.ne_of_lt (Nat.lt_of_lt_of_le ltc99_d szc_u99)
        have ne_nl_u99 : nl ≠ u99 := Nat.ne_of_lt (Nat.lt_of_lt_of_le ltc99_nl szc_u99)
        have ne_ea_u99 : ea ≠ u99 := Nat.ne_of_lt (Nat.lt_of_lt_of_le ltc99_ea szc_u99)
        have ne_em_u99 : em ≠ u99 := Nat.ne_of_lt (Nat.lt_of_lt_of_le ltc99_em szc_u99)
        have ne_no_u99 : no ≠ u99 := Nat.ne_of_lt (Nat.lt_of_lt_of_le ltc99_no szc_u99)
        have ne_b91_u99 : b91 ≠ u99 := Nat.ne_of_lt (Nat.lt_of_lt_of_le ltc99_b91 szc_u99)
        have ne_b93_u99 : b93 ≠ u99 := Nat.ne_of_lt (Nat.lt_of_lt_of_le ltc99_b93 szc_u99)
        have ne_b95_u99 : b95 ≠ u99 := Nat.ne_of_lt (Nat.lt_of_lt_of_le ltc99_b95 szc_u99)
        have ne_b96_u99 : b96 ≠ u99 := Nat.ne_of_lt (Nat.lt_of_lt_of_le ltc99_b96 szc_u99)
        have ne_u97_u99 : u97 ≠ u99 := Nat.ne_of_lt (Nat.lt_of_lt_of_le ltc99_u97 szc_u99)
        have ne_b98_u99 : b98 ≠ u99 := Nat.ne_of_lt (Nat.lt_of_lt_of_le ltc99_b98 szc_u99)
        refine Gs (fun _ tk => st99.trans tk) ?_
        show Goes _ _ _ _ _ (T99.setTop (mkF m 104 #[.val (.int x0), .val (.int x1), .val (.int x2), .val (.int x3), .val (.int (2 : Int32)), .val (.int (1 : Int32)), .val (.int pz), .val (.ref b91), .val (.ref b93), .val (.ref b96), .unset, .unset, .unset, .unset] [(.ref b98)]))
        refine Gs (fun _ tk => XS.astore X99.here hx rfl (hb hby at_104) rfl rfl (l' := #[.val (.int x0), .val (.int x1), .val (.int x2), .val (.int x3), .val (.int (2 : Int32)), .val (.int (1 : Int32)), .val (.int pz), .val (.ref b91), .val (.ref b93), .val (.ref b96), .val (.ref b98), .unset, .unset, .unset]) rfl tk) ?_
        obtain ⟨T100, h100, X100, e100, E100, A100, D100, -, st100⟩ := newO X99 hx hZ hown (gw hw 20 rfl) (gw hw 21 rfl) (gw hw 22 rfl) rfl (g := (mkF m 106 #[.val (.int x0), .val (.int x1), .val (.int x2), .val (.int x3), .val (.int (2 : Int32)), .val (.int (1 : Int32)), .val (.int pz), .val (.ref b91), .val (.ref b93), .val (.ref b96), .val (.ref b98), .unset, .unset, .unset] [])) rfl (hb hby at_106) (by decide) (by decide)
        obtain ⟨b100, gq100⟩ : ∃ z, z = T99.heap.size := ⟨_, rfl⟩
        rw [← gq100] at A100 st100 D100
        have g_b100 : n0 ≤ b100 := by rw [gq100]; exact Z0
        have ne_d_b100 : d ≠ b100 := by rw [gq100]; exact Nat.ne_of_lt V_d.lt
        have ne_nl_b100 : nl ≠ b100 := by rw [gq100]; exact Nat.ne_of_lt A_nl.lt
        have ne_ea_b100 : ea ≠ b100 := by rw [gq100]; exact Nat.ne_of_lt V_ea.lt
        have ne_em_b100 : em ≠ b100 := by rw [gq100]; exact Nat.ne_of_lt A_em.lt
        have ne_no_b100 : no ≠ b100 := by rw [gq100]; exact Nat.ne_of_lt A_no.lt
        have ne_b91_b100 : b91 ≠ b100 := by rw [gq100]; exact Nat.ne_of_lt A_b91.lt
        have ne_b93_b100 : b93 ≠ b100 := by rw [gq100]; exact Nat.ne_of_lt A_b93.lt
        have ne_b95_b100 : b95 ≠ b100 := by rw [gq100]; exact Nat.ne_of_lt V_b95.lt
        have ne_b96_b100 : b96 ≠ b100 := by rw [gq100]; exact Nat.ne_of_lt A_b96.lt
        have ne_u97_b100 : u97 ≠ b100 := by rw [gq100]; exact Nat.ne_of_lt A_u97.lt
        have ne_b98_b100 : b98 ≠ b100 := by rw [gq100]; exact Nat.ne_of_lt A_b98.lt
        have ne_u99_b100 : u99 ≠ b100 := by rw [gq100]; exact Nat.ne_of_lt A_u99.lt
        replace S_DEFAULTCAPACITY_EMPTY_ELEMENTDATA := S_DEFAULTCAPACITY_EMPTY_ELEMENTDATA.ext E100
        replace V_d := V_d.ext E100
        replace A_nl := A_nl.ext E100
        replace V_ea := V_ea.ext E100
        replace S_EMPTY := S_EMPTY.ext E100
        replace A_em := A_em.ext E100
        replace A_no := A_no.ext E100
        replace A_b91 := A_b91.ext E100
        replace A_b93 := A_b93.ext E100
        replace V_b95 := V_b95.ext E100
        replace A_b96 := A_b96.ext E100
        replace F_index_b96 := F_index_b96.ext E100
        replace F_holders_b96 := F_holders_b96.ext E100
        replace A_u97 := A_u97.ext E100
        replace F_e1_u97 := F_e1_u97.ext E100
        replace A_b98 := A_b98.ext E100
        replace F_index_b98 := F_index_b98.ext E100
        replace A_u99 := A_u99.ext E100
        replace Z0 : n0 ≤ h100.size := Nat.le_trans Z0 E100.1
        have A_b100 : Exa Z h100 b100 "java/util/ArrayList" := A100
        have F_modCount_b100 : Fld Z h100 b100 "java/util/AbstractList" "modCount" "I" (.int (0 : Int32)) := D100 (Or.inl (gw hw 40 rfl)) (ty := .int) (by decide)
        have F_elementData_b100 : Fld Z h100 b100 "java/util/ArrayList" "elementData" "[Ljava/lang/Object;" .null := D100 (Or.inl (gw hw 43 rfl)) (ty := (.array (.object "java/lang/Object"))) (by decide)
        have F_size_b100 : Fld Z h100 b100 "java/util/ArrayList" "size" "I" (.int (0 : Int32)) := D100 (Or.inl (gw hw 75 rfl)) (ty := .int) (by decide)
        refine Gs st100 ?_
        show Goes _ _ _ _ _ (T100.setTop (mkF m 109 #[.val (.int x0), .val (.int x1), .val (.int x2), .val (.int x3), .val (.int (2 : Int32)), .val (.int (1 : Int32)), .val (.int pz), .val (.ref b91), .val (.ref b93), .val (.ref b96), .val (.ref b98), .unset, .unset, .unset] [(.ref b100)]))
        refine Gs (fun _ tk => XS.dup X100.here hx rfl (hb hby at_109) rfl rfl tk) ?_
        obtain ⟨_, _, ⟨T101, L101, k101, n101⟩, -, X101, ⟨Lc101, hQ101, l101, y101, z101⟩, st101⟩ := X100.specialBack hx (y := mN6) rfl hown (mvT hZ (gw hw 23 rfl)) (mvT hZ (gw hw 24 rfl)) (mvT hZ (gw hw 25 rfl)) (by decide) (backOf (W := 1) (rm_alinit l Z a0 hw [] b100 d h100 n0 Z0 A_b100 F_modCount_b100 F_elementData_b100 F_size_b100 S_DEFAULTCAPACITY_EMPTY_ELEMENTDATA g_b100) hZ (gw hw 25 rfl) (gw hw 22 rfl) (by decide) (by decide)) (g := (mkF m 110 #[.val (.int x0), .val (.int x1), .val (.int x2), .val (.int x3), .val (.int (2 : Int32)), .val (.int (1 : Int32)), .val (.int pz), .val (.ref b91), .val (.ref b93), .val (.ref b96), .val (.ref b98), .unset, .unset, .unset] [(.ref b100), (.ref b100)])) rfl (by rw [hml]; rfl) (Steps.refl _) (a := b100) (argsL := []) (rest := [(.ref b100)]) (lenOf own_pd0 rfl) rfl (w0 (Nat.le_of_eq rfl)) (hb hby at_110) (fun _ _ => ⟨rfl, e100, (by decide : 10 + 0 ≤ _), (by decide : 37 + 0 ≤ _)⟩)
        dsimp only [Pt.U, Pt.locs, Pt.cells, Pt.slots] at X101 l101 y101 z101 st101 hQ101
        subst l101 y101 z101
        obtain ⟨rfl, N101q, K101, F_modCount_b100_101', F_elementData_b100_101', F_size_b100_101'⟩ := hQ101
        have N101 := Fr.app N99 N101q
        replace S_DEFAULTCAPACITY_EMPTY_ELEMENTDATA := own_staK S_DEFAULTCAPACITY_EMPTY_ELEMENTDATA K101 (allS (own_obE A_b100) all0)
        replace S_EMPTY := own_staK S_EMPTY K101 (allS (own_obE A_b100) all0)
        replace V_d := V_d.keep K101 (ninS ne_d_b100 nin0)
        replace A_nl := A_nl.keep K101
        replace V_ea := V_ea.keep K101 (ninS ne_ea_b100 nin0)
        replace A_em := A_em.keep K101
        replace A_no := A_no.keep K101
        replace A_b91 := A_b91.keep K101
        replace A_b93 := A_b93.keep K101
        replace V_b95 := V_b95.keep K101 (ninS ne_b95_b100 nin0)
        replace A_b96 := A_b96.keep K101
        replace F_index_b96 := F_index_b96.keep K101 (ninS ne_b96_b100 nin0)
        replace F_holders_b96 := F_holders_b96.keep K101 (ninS ne_b96_b100 nin0)
        replace A_u97 := A_u97.keep K101
        replace F_e1_u97 := F_e1_u97.keep K101 (ninS ne_u97_b100 nin0)
        replace A_b98 := A_b98.keep K101
        replace F_index_b98 := F_index_b98.keep K101 (ninS ne_b98_b100 nin0)
        replace A_u99 := A_u99.keep K101
        replace A_b100 := A_b100.keep K101
        replace Z0 := Nat.le_trans Z0 K101.1
        have F_modCount_b100 := F_modCount_b100_101'
        have F_elementData_b100 := F_elementData_b100_101'
        have F_size_b100 := F_size_b100_101'
        refine Gs (fun _ tk => st101.trans tk) ?_
        show Goes _ _ _ _ _ (T101.setTop (mkF m 113 #[.val (.int x0), .val (.int x1), .val (.int x2), .val (.int x3), .val (.int (2 : Int32)), .val (.int (1 : Int32)), .val (.int pz), .val (.ref b91), .val (.ref b93), .val (.ref b96), .val (.ref b98), .unset, .unset, .unset] [(.ref b100)]))
        refine Gs (fun _ tk => XS.astore X101.here hx rfl (hb hby at_113) rfl rfl (l' := #[.val (.int x0), .val (.int x1), .val (.int x2), .val (.int x3), .val (.int (2 : Int32)), .val (.int (1 : Int32)), .val (.int pz), .val (.ref b91), .val (.ref b93), .val (.ref b96), .val (.ref b98), .val (.ref b100), .unset, .unset]) rfl tk) ?_
        refine Gs (fun _ tk => XS.iload X101.here hx rfl (hb hby at_115) rfl tk) ?_
        refine Gs (fun _ tk => XS.iconst X101.here hx rfl (hb hby at_117) tk) ?_
        refine Gs (fun _ tk => XS.icmpNo X101.here hx rfl (hb hby at_118) rfl (flt (by decide : ¬ ((2 : Int32) < (1 : Int32)))).1 tk) ?_
        refine Gs (fun _ tk => XS.aload X101.here hx rfl (hb hby at_121) rfl rfl tk) ?_
        refine Gs (fun _ tk => XS.aload X101.here hx rfl (hb hby at_123) rfl rfl tk) ?_
        show Goes _ _ _ _ _ (T101.setTop (mkF m 125 #[.val (.int x0), .val (.int x1), .val (.int x2), .val (.int x3), .val (.int (2 : Int32)), .val (.int (1 : Int32)), .val (.int pz), .val (.ref b91), .val (.ref b93), .val (.ref b96), .val (.ref b98), .val (.ref b100), .unset, .unset] [(.ref b96), (.ref b100)]))
        have ltc102_d : d < T101.heap.size := V_d.lt
        have ltc102_nl : nl < T101.heap.size := A_nl.lt
        have ltc102_ea : ea < T101.heap.size := V_ea.lt
        have ltc102_em : em < T101.heap.size := A_em.lt
        have ltc102_no : no < T101.heap.size := A_no.lt
        have ltc102_b91 : b91 < T101.heap.size := A_b91.lt
        have ltc102_b93 : b93 < T101.heap.size := A_b93.lt
        have ltc102_b95 : b95 < T101.heap.size := V_b95.lt
        have ltc102_b96 : b96 < T101.heap.size := A_b96.lt
        have ltc102_u97 : u97 < T101.heap.size := A_u97.lt
        have ltc102_b98 : b98 < T101.heap.size := A_b98.lt
        have ltc102_u99 : u99 < T101.heap.size := A_u99.lt
        have ltc102_b100 : b100 < T101.heap.size := A_b100.lt
        obtain ⟨cq102, kq102, q102a, q102b, q102c⟩ := isOf hZ rfl A_b100
        obtain ⟨_, _, ⟨T102, L102, k102, n102⟩, -, X102, ⟨Lc102, hQ102, l102, y102, z102⟩, st102⟩ := X101.interfaceBack hx (xi := mN49) (y := mN12) hown (mvT hZ (gw hw 113 rfl)) (mvT hZ (gw hw 114 rfl)) (mvT hZ (gw hw 115 rfl)) (mvT hZ (gw hw 116 rfl)) (mvT hZ (gw hw 117 rfl)) (mvT hZ (gw hw 118 rfl)) (mvT hZ (gw hw 119 rfl)) (mvT hZ (gw hw 102 rfl)) (by decide) (backOf (W := 0) (rm_add0 l Z a0 hw [] b100 b96 (0 : Int32) d kd T101.heap n0 Z0 A_b100 F_modCount_b100 F_elementData_b100 F_size_b100 S_DEFAULTCAPACITY_EMPTY_ELEMENTDATA V_d g_b100 ne_d_b100 (Ins.of_exa A_b96 (gw hw 208 rfl))) hZ (gw hw 120 rfl) (gw hw 22 rfl) (by decide) (by decide)) q102a q102b q102c (g := (mkF m 125 #[.val (.int x0), .val (.int x1), .val (.int x2), .val (.int x3), .val (.int (2 : Int32)), .val (.int (1 : Int32)), .val (.int pz), .val (.ref b91), .val (.ref b93), .val (.ref b96), .val (.ref b98), .val (.ref b100), .unset, .unset] [(.ref b96), (.ref b100)])) rfl (by rw [hml]; rfl) (Steps.refl _) (argsL := [(.ref b96)]) (rest := []) (lenOf own_pd23 rfl) rfl (w0 (Nat.le_of_eq rfl)) (hb hby at_125) (fun _ _ => ⟨rfl, rfl, (by decide : 10 + 1 ≤ _), (by decide : 37 + 10 ≤ _)⟩)
        dsimp only [Pt.U, Pt.locs, Pt.cells, Pt.slots] at X102 l102 y102 z102 st102 hQ102
        subst l102 y102 z102
        obtain ⟨b102, kb102, rfl, N102q, K102, F_modCount_b100_102', F_elementData_b100_102', F_size_b100_102', V_b102_102', A_b102_102', Ov_102', g_b102_102', sz_b102_102'⟩ := hQ102
        have N102 := Fr.app N101 N102q
        replace S_EMPTY := own_staK S_EMPTY K102 (allS (own_obE A_b100) all0)
        replace V_d := V_d.keep K102 (ninS ne_d_b100 nin0)
        replace A_nl := A_nl.keep K102
        replace V_ea := V_ea.keep K102 (ninS ne_ea_b100 nin0)
        replace A_em := A_em.keep K102
        replace A_no := A_no.keep K102
        replace A_b91 := A_b91.keep K102
        replace A_b93 := A_b93.keep K102
        replace V_b95 := V_b95.keep K102 (ninS ne_b95_b100 nin0)
        replace A_b96 := A_b96.keep K102
        replace F_index_b96 := F_index_b96.keep K102 (ninS ne_b96_b100 nin0)
        replace F_holders_b96 := F_holders_b96.keep K102 (ninS ne_b96_b100 nin0)
        replace A_u97 := A_u97.keep K102
        replace F_e1_u97 := F_e1_u97.keep K102 (ninS ne_u97_b100 nin0)
        replace A_b98 := A_b98.keep K102
        replace F_index_b98 := F_index_b98.keep K102 (ninS ne_b98_b100 nin0)
        replace A_u99 := A_u99.keep K102
        replace A_b100 := A_b100.keep K102
        replace Z0 := Nat.le_trans Z0 K102.1
        have F_modCount_b100 := F_modCount_b100_102'
        have F_elementData_b100 := F_elementData_b100_102'
        have F_size_b100 := F_size_b100_102'
        have V_b102 := V_b102_102'
        have A_b102 := A_b102_102'
        have Ov102 := Ov_102'
        have g_b102 := g_b102_102'
        have szc_b102 := sz_b102_102'
        have ne_d_b102 : d ≠ b102 := Nat.ne_of_lt (Nat.lt_of_lt_of_le ltc102_d szc_b102)
        have ne_nl_b102 : nl ≠ b102 := Nat.ne_of_lt (Nat.lt_of_lt_of_le ltc102_nl szc_b102)
        have ne_ea_b102 : ea ≠ b102 := Nat.ne_of_lt (Nat.lt_of_lt_of_le ltc102_ea szc_b102)
        have ne_em_b102 : em ≠ b102 := Nat.ne_of_lt (Nat.lt_of_lt_of_le ltc102_em szc_b102)
        have ne_no_b102 : no ≠ b102 := Nat.ne_of_lt (Nat.lt_of_lt_of_le ltc102_no szc_b102)
        have ne_b91_b102 : b91 ≠ b102 := Nat.ne_of_lt (Nat.lt_of_lt_of_le ltc102_b91 szc_b102)
        have ne_b93_b102 : b93 ≠ b102 := Nat.ne_of_lt (Nat.lt_of_lt_of_le ltc102_b93 szc_b102)
        have ne_b95_b102 : b95 ≠ b102 := Nat.ne_of_lt (Nat.lt_of_lt_of_le ltc102_b95 szc_b102)
        have ne_b96_b102 : b96 ≠ b102 := Nat.ne_of_lt (Nat.lt_of_lt_of_le ltc102_b96 szc_b102)
        have ne_u97_b102 : u97 ≠ b102 := Nat.ne_of_lt (Nat.lt_of_lt_of_le ltc102_u97 szc_b102)
        have ne_b98_b102 : b98 ≠ b102 := Nat.ne_of_lt (Nat.lt_of_lt_of_le ltc102_b98 szc_b102)
        have ne_u99_b102 : u99 ≠ b102 := Nat.ne_of_lt (Nat.lt_of_lt_of_le ltc102_u99 szc_b102)
        have ne_b100_b102 : b100 ≠ b102 := Nat.ne_of_lt (Nat.lt_of_lt_of_le ltc102_b100 szc_b102)
        refine Gs (fun _ tk => st102.trans tk) ?_
        show Goes _ _ _ _ _ (T102.setTop (mkF m 130 #[.val (.int x0), .val (.int x1), .val (.int x2), .val (.int x3), .val (.int (2 : Int32)), .val (.int (1 : Int32)), .val (.int pz), .val (.ref b91), .val (.ref b93), .val (.ref b96), .val (.ref b98), .val (.ref b100), .unset, .unset] [(.int (1 : Int32))]))
        refine Gs (fun _ tk => XS.pop X102.here hx rfl (hb hby at_130) rfl rfl tk) ?_
        refine Gs (fun _ tk => XS.iload X102.here hx rfl (hb hby at_131) rfl tk) ?_
        refine Gs (fun _ tk => XS.iconst X102.here hx rfl (hb hby at_133) tk) ?_
        refine Gs (fun _ tk => XS.icmpNo X102.here hx rfl (hb hby at_134) rfl (flt (by decide : ¬ ((2 : Int32) < (2 : Int32)))).1 tk) ?_
        refine Gs (fun _ tk => XS.aload X102.here hx rfl (hb hby at_137) rfl rfl tk) ?_
        refine Gs (fun _ tk => XS.aload X102.here hx rfl (hb hby at_139) rfl rfl tk) ?_
        show Goes _ _ _ _ _ (T102.setTop (mkF m 141 #[.val (.int x0), .val (.int x1), .val (.int x2), .val (.int x3), .val (.int (2 : Int32)), .val (.int (1 : Int32)), .val (.int pz), .val (.ref b91), .val (.ref b93), .val (.ref b96), .val (.ref b98), .val (.ref b100), .unset, .unset] [(.ref b98), (.ref b100)]))
        obtain ⟨cq103, kq103, q103a, q103b, q103c⟩ := isOf hZ rfl A_b100
        obtain ⟨_, _, ⟨T103, L103, k103, n103⟩, -, X103, ⟨Lc103, hQ103, l103, y103, z103⟩, st103⟩ := X102.interfaceBack hx (xi := mN49) (y := mN12) hown (mvT hZ (gw hw 113 rfl)) (mvT hZ (gw hw 114 rfl)) (mvT hZ (gw hw 115 rfl)) (mvT hZ (gw hw 116 rfl)) (mvT hZ (gw hw 117 rfl)) (mvT hZ (gw hw 118 rfl)) (mvT hZ (gw hw 119 rfl)) (mvT hZ (gw hw 102 rfl)) (by decide) (backOf (W := 0) (rm_add1 l Z a0 hw [] b100 b96 b98 ((0 : Int32) + (1 : Int32)) b102 kb102 T102.heap n0 Z0 A_b100 F_modCount_b100 F_elementData_b100 F_size_b100 V_b102 A_b102 Ov102 g_b102 g_b100 (Ne.symm ne_b100_b102) (Ins.of_exa A_b98 (gw hw 208 rfl))) hZ (gw hw 120 rfl) (gw hw 22 rfl) (by decide) (by decide)) q103a q103b q103c (g := (mkF m 141 #[.val (.int x0), .val (.int x1), .val (.int x2), .val (.int x3), .val (.int (2 : Int32)), .val (.int (1 : Int32)), .val (.int pz), .val (.ref b91), .val (.ref b93), .val (.ref b96), .val (.ref b98), .val (.ref b100), .unset, .unset] [(.ref b98), (.ref b100)])) rfl (by rw [hml]; rfl) (Steps.refl _) (argsL := [(.ref b98)]) (rest := []) (lenOf own_pd23 rfl) rfl (w0 (Nat.le_of_eq rfl)) (hb hby at_141) (fun _ _ => ⟨rfl, rfl, (by decide : 11 + 0 ≤ _), (by decide : 47 + 0 ≤ _)⟩)
        dsimp only [Pt.U, Pt.locs, Pt.cells, Pt.slots] at X103 l103 y103 z103 st103 hQ103
        subst l103 y103 z103
        obtain ⟨rfl, N103q, K103, F_modCount_b100_103', F_elementData_b100_103', F_size_b100_103', V_b102_103'⟩ := hQ103
        have N103 := Fr.app N102 N103q
        replace S_EMPTY := own_staK S_EMPTY K103 (allS (own_obE A_b100) (allS (own_obA V_b102) all0))
        replace V_d := V_d.keep K103 (ninS ne_d_b100 (ninS ne_d_b102 nin0))
        replace A_nl := A_nl.keep K103
        replace V_ea := V_ea.keep K103 (ninS ne_ea_b100 (ninS ne_ea_b102 nin0))
        replace A_em := A_em.keep K103
        replace A_no := A_no.keep K103
        replace A_b91 := A_b91.keep K103
        replace A_b93 := A_b93.keep K103
        replace V_b95 := V_b95.keep K103 (ninS ne_b95_b100 (ninS ne_b95_b102 nin0))
        replace A_b96 := A_b96.keep K103
        replace F_index_b96 := F_index_b96.keep K103 (ninS ne_b96_b100 (ninS ne_b96_b102 nin0))
        replace F_holders_b96 := F_holders_b96.keep K103 (ninS ne_b96_b100 (ninS ne_b96_b102 nin0))
        replace A_u97 := A_u97.keep K103
        replace F_e1_u97 := F_e1_u97.keep K103 (ninS ne_u97_b100 (ninS ne_u97_b102 nin0))
        replace A_b98 := A_b98.keep K103
        replace F_index_b98 := F_index_b98.keep K103 (ninS ne_b98_b100 (ninS ne_b98_b102 nin0))
        replace A_u99 := A_u99.keep K103
        replace A_b100 := A_b100.keep K103
        replace A_b102 := A_b102.keep K103
        replace Z0 := Nat.le_trans Z0 K103.1
        have F_elementData_b100 := F_elementData_b100_103'
        have F_size_b100 := F_size_b100_103'
        have V_b102 := V_b102_103'
        refine Gs (fun _ tk => st103.trans tk) ?_
        show Goes _ _ _ _ _ (T103.setTop (mkF m 146 #[.val (.int x0), .val (.int x1), .val (.int x2), .val (.int x3), .val (.int (2 : Int32)), .val (.int (1 : Int32)), .val (.int pz), .val (.ref b91), .val (.ref b93), .val (.ref b96), .val (.ref b98), .val (.ref b100), .unset, .unset] [(.int (1 : Int32))]))
        refine Gs (fun _ tk => XS.pop X103.here hx rfl (hb hby at_146) rfl rfl tk) ?_
        refine Gs (fun _ tk => XS.aload X103.here hx rfl (hb hby at_147) rfl rfl tk) ?_
        have ne_b98_em : b98 ≠ em := ne_exa A_b98 A_em (by decide)
        have ltc104_d : d < T103.heap.size := V_d.lt
        have ltc104_nl : nl < T103.heap.size := A_nl.lt
        have ltc104_ea : ea < T103.heap.size := V_ea.lt
        have ltc104_em : em < T103.heap.size := A_em.lt
        have ltc104_no : no < T103.heap.size := A_no.lt
        have ltc104_b91 : b91 < T103.heap.size := A_b91.lt
        have ltc104_b93 : b93 < T103.heap.size := A_b93.lt
        have ltc104_b95 : b95 < T103.heap.size := V_b95.lt
        have ltc104_b96 : b96 < T103.heap.size := A_b96.lt
        have ltc104_u97 : u97 < T103.heap.size := A_u97.lt
        have ltc104_b98 : b98 < T103.heap.size := A_b98.lt
        have ltc104_u99 : u99 < T103.heap.size := A_u99.lt
        have ltc104_b100 : b100 < T103.heap.size := A_b100.lt
        have ltc104_b102 : b102 < T103.heap.size := A_b102.lt
        obtain ⟨_, _, ⟨T104, L104, k104, n104⟩, -, X104, ⟨Lc104, hQ104, l104, y104, z104⟩, st104⟩ := Jvm.LawKit.callS X103 hx (y := mN35) hown (mvT hZ (gw hw 93 rfl)) (mvT hZ (gw hw 94 rfl)) (mvT hZ (gw hw 95 rfl)) (mvT hZ (gw hw 96 rfl)) (by decide) (backOf (W := 0) (rm_bsof2 l Z a0 hw [] b100 b96 b98 b102 kb102 mr em T103.heap n0 Z0 A_b100 F_elementData_b100 F_size_b100 V_b102 A_b102 (Ins.of_exa A_b96 (gw hw 208 rfl)) (Ins.of_exa A_b98 (gw hw 208 rfl)) (by first | assumption | decide) S_EMPTY ne_b98_em) hZ (gw hw 96 rfl) (gw hw 95 rfl) (by decide) (by decide)) (g := (mkF m 149 #[.val (.int x0), .val (.int x1), .val (.int x2), .val (.int x3), .val (.int (2 : Int32)), .val (.int (1 : Int32)), .val (.int pz), .val (.ref b91), .val (.ref b93), .val (.ref b96), .val (.ref b98), .val (.ref b100), .unset, .unset] [(.ref b100)])) rfl (by rw [hml]; rfl) (argsL := [(.ref b100)]) (rest := []) (lenOf own_pd22 rfl) rfl (w0 (Nat.le_of_eq rfl)) (hb hby at_149) (fun _ _ => ⟨rfl, rfl, (by decide : 11 + 4 ≤ _), (by decide : 47 + 10 ≤ _)⟩)
        dsimp only [Pt.U, Pt.locs, Pt.cells, Pt.slots] at X104 l104 y104 z104 st104 hQ104
        subst l104 y104 z104
        obtain ⟨bo104, ro104, u104, rfl, N104q, K104, A_bo104_104', F_source_bo104_104', F_places_bo104_104', F_first_bo104_104', F_size_bo104_104', A_ro104_104', F_records_ro104_104', A_u104_104', F_e0_u104_104', F_e1_u104_104', g_bo104_104', sz_bo104_104', sz_ro104_104', sz_u104_104'⟩ := hQ104
        have N104 := Fr.app N103 N104q
        replace S_EMPTY := own_staK S_EMPTY K104 all0
        replace A_b96 := A_b96.keep K104
        replace F_index_b96 := F_index_b96.keep K104 nin0
        replace F_holders_b96 := F_holders_b96.keep K104 nin0
        replace A_u97 := A_u97.keep K104
        replace F_e1_u97 := F_e1_u97.keep K104 nin0
        replace A_b98 := A_b98.keep K104
        replace F_index_b98 := F_index_b98.keep K104 nin0
        replace Z0 := Nat.le_trans Z0 K104.1
        have A_bo104 := A_bo104_104'
        have F_source_bo104 := F_source_bo104_104'
        have F_places_bo104 := F_places_bo104_104'
        have F_first_bo104 := F_first_bo104_104'
        have F_size_bo104 := F_size_bo104_104'
        have A_ro104 := A_ro104_104'
        have F_records_ro104 := F_records_ro104_104'
        have A_u104 := A_u104_104'
        have F_e0_u104 := F_e0_u104_104'
        have F_e1_u104 := F_e1_u104_104'
        have g_bo104 := g_bo104_104'
        have szc_bo104 := sz_bo104_104'
        have ne_d_bo104 : d ≠ bo104 := Nat.ne_of_lt (Nat.lt_of_lt_of_le ltc104_d szc_bo104)
        have ne_nl_bo104 : nl ≠ bo104 := Nat.ne_of_lt (Nat.lt_of_lt_of_le ltc104_nl szc_bo104)
        have ne_ea_bo104 : ea ≠ bo104 := Nat.ne_of_lt (Nat.lt_of_lt_of_le ltc104_ea szc_bo104)
        have ne_em_bo104 : em ≠ bo104 := Nat.ne_of_lt (Nat.lt_of_lt_of_le ltc104_em szc_bo104)
        have ne_no_bo104 : no ≠ bo104 := Nat.ne_of_lt (Nat.lt_of_lt_of_le ltc104_no szc_bo104)
        have ne_b91_bo104 : b91 ≠ bo104 := Nat.ne_of_lt (Nat.lt_of_lt_of_le ltc104_b91 szc_bo104)
        have ne_b93_bo104 : b93 ≠ bo104 := Nat.ne_of_lt (Nat.lt_of_lt_of_le ltc104_b93 szc_bo104)
        have ne_b95_bo104 : b95 ≠ bo104 := Nat.ne_of_lt (Nat.lt_of_lt_of_le ltc104_b95 szc_bo104)
        have ne_b96_bo104 : b96 ≠ bo104 := Nat.ne_of_lt (Nat.lt_of_lt_of_le ltc104_b96 szc_bo104)
        have ne_u97_bo104 : u97 ≠ bo104 := Nat.ne_of_lt (Nat.lt_of_lt_of_le ltc104_u97 szc_bo104)
        have ne_b98_bo104 : b98 ≠ bo104 := Nat.ne_of_lt (Nat.lt_of_lt_of_le ltc104_b98 szc_bo104)
        have ne_u99_bo104 : u99 ≠ bo104 := Nat.ne_of_lt (Nat.lt_of_lt_of_le ltc104_u99 szc_bo104)
        have ne_b100_bo104 : b100 ≠ bo104 := Nat.ne_of_lt (Nat.lt_of_lt_of_le ltc104_b100 szc_bo104)
        have ne_b102_bo104 : b102 ≠ bo104 := Nat.ne_of_lt (Nat.lt_of_lt_of_le ltc104_b102 szc_bo104)
        have szc_ro104 := sz_ro104_104'
        have ne_d_ro104 : d ≠ ro104 := Nat.ne_of_lt (Nat.lt_of_lt_of_le ltc104_d szc_ro104)
        have ne_nl_ro104 : nl ≠ ro104 := Nat.ne_of_lt (Nat.lt_of_lt_of_le ltc104_nl szc_ro104)
        have ne_ea_ro104 : ea ≠ ro104 := Nat.ne_of_lt (Nat.lt_of_lt_of_le ltc104_ea szc_ro104)
        have ne_em_ro104 : em ≠ ro104 := Nat.ne_of_lt (Nat.lt_of_lt_of_le ltc104_em szc_ro104)
        have ne_no_ro104 : no ≠ ro104 := Nat.ne_of_lt (Nat.lt_of_lt_of_le ltc104_no szc_ro104)
        have ne_b91_ro104 : b91 ≠ ro104 := Nat.ne_of_lt (Nat.lt_of_lt_of_le ltc104_b91 szc_ro104)
        have ne_b93_ro104 : b93 ≠ ro104 := Nat.ne_of_lt (Nat.lt_of_lt_of_le ltc104_b93 szc_ro104)
        have ne_b95_ro104 : b95 ≠ ro104 := Nat.ne_of_lt (Nat.lt_of_lt_of_le ltc104_b95 szc_ro104)
        have ne_b96_ro104 : b96 ≠ ro104 := Nat.ne_of_lt (Nat.lt_of_lt_of_le ltc104_b96 szc_ro104)
        have ne_u97_ro104 : u97 ≠ ro104 := Nat.ne_of_lt (Nat.lt_of_lt_of_le ltc104_u97 szc_ro104)
        have ne_b98_ro104 : b98 ≠ ro104 := Nat.ne_of_lt (Nat.lt_of_lt_of_le ltc104_b98 szc_ro104)
        have ne_u99_ro104 : u99 ≠ ro104 := Nat.ne_of_lt (Nat.lt_of_lt_of_le ltc104_u99 szc_ro104)
        have ne_b100_ro104 : b100 ≠ ro104 := Nat.ne_of_lt (Nat.lt_of_lt_of_le ltc104_b100 szc_ro104)
        have ne_b102_ro104 : b102 ≠ ro104 := Nat.ne_of_lt (Nat.lt_of_lt_of_le ltc104_b102 szc_ro104)
        have szc_u104 := sz_u104_104'
        have ne_d_u104 : d ≠ u104 := Nat.ne_of_lt (Nat.lt_of_lt_of_le ltc104_d szc_u104)
        have ne_nl_u104 : nl ≠ u104 := Nat.ne_of_lt (Nat.lt_of_lt_of_le ltc104_nl szc_u104)
        have ne_ea_u104 : ea ≠ u104 := Nat.ne_of_lt (Nat.lt_of_lt_of_le ltc104_ea szc_u104)
        have ne_em_u104 : em ≠ u104 := Nat.ne_of_lt (Nat.lt_of_lt_of_le ltc104_em szc_u104)
        have ne_no_u104 : no ≠ u104 := Nat.ne_of_lt (Nat.lt_of_lt_of_le ltc104_no szc_u104)
        have ne_b91_u104 : b91 ≠ u104 := Nat.ne_of_lt (Nat.lt_of_lt_of_le ltc104_b91 szc_u104)
        have ne_b93_u104 : b93 ≠ u104 := Nat.ne_of_lt (Nat.lt_of_lt_of_le ltc104_b93 szc_u104)
        have ne_b95_u104 : b95 ≠ u104 := Nat.ne_of_lt (Nat.lt_of_lt_of_le ltc104_b95 szc_u104)
        have ne_b96_u104 : b96 ≠ u104 := Nat.ne_of_lt (Nat.lt_of_lt_of_le ltc104_b96 szc_u104)
        have ne_u97_u104 : u97 ≠ u104 := Nat.ne_of_lt (Nat.lt_of_lt_of_le ltc104_u97 szc_u104)
        have ne_b98_u104 : b98 ≠ u104 := Nat.ne_of_lt (Nat.lt_of_lt_of_le ltc104_b98 szc_u104)
        have ne_u99_u104 : u99 ≠ u104 := Nat.ne_of_lt (Nat.lt_of_lt_of_le ltc104_u99 szc_u104)
        have ne_b100_u104 : b100 ≠ u104 := Nat.ne_of_lt (Nat.lt_of_lt_of_le ltc104_b100 szc_u104)
        have ne_b102_u104 : b102 ≠ u104 := Nat.ne_of_lt (Nat.lt_of_lt_of_le ltc104_b102 szc_u104)
        refine Gs st104 ?_
        show Goes _ _ _ _ _ (T104.setTop (mkF m 152 #[.val (.int x0), .val (.int x1), .val (.int x2), .val (.int x3), .val (.int (2 : Int32)), .val (.int (1 : Int32)), .val (.int pz), .val (.ref b91), .val (.ref b93), .val (.ref b96), .val (.ref b98), .val (.ref b100), .unset, .unset] [(.ref bo104)]))
        refine Gs (fun _ tk => XS.astore X104.here hx rfl (hb hby at_152) rfl rfl (l' := #[.val (.int x0), .val (.int x1), .val (.int x2), .val (.int x3), .val (.int (2 : Int32)), .val (.int (1 : Int32)), .val (.int pz), .val (.ref b91), .val (.ref b93), .val (.ref b96), .val (.ref b98), .val (.ref b100), .val (.ref bo104), .unset]) rfl tk) ?_
        refine Gs (fun _ tk => XS.aload X104.here hx rfl (hb hby at_154) rfl rfl tk) ?_
        obtain ⟨cq105, kq105, q105a, q105b, q105c⟩ := isOf hZ rfl A_bo104
        obtain ⟨_, _, ⟨T105, L105, k105, n105⟩, -, X105, ⟨Lc105, hQ105, l105, y105, z105⟩, st105⟩ := X104.virtualBack hx (y := mN37) (z := mN37) hown (mvT hZ (gw hw 105 rfl)) (mvT hZ (gw hw 106 rfl)) (notFace_of_selects (args := #[]) (mvT hZ (gw hw 108 rfl))) (mvT hZ (gw hw 108 rfl)) (mvT hZ (gw hw 107 rfl)) (by decide) (backOf (W := 0) (rm_bssz l Z a0 hw [] bo104 (2 : Int32) T104.heap n0 Z0 F_size_bo104) hZ (gw hw 109 rfl) (gw hw 95 rfl) (by decide) (by decide)) q105a q105c (g := (mkF m 156 #[.val (.int x0), .val (.int x1), .val (.int x2), .val (.int x3), .val (.int (2 : Int32)), .val (.int (1 : Int32)), .val (.int pz), .val (.ref b91), .val (.ref b93), .val (.ref b96), .val (.ref b98), .val (.ref b100), .val (.ref bo104), .unset] [(.ref bo104)])) rfl (by rw [hml]; rfl) (Steps.refl _) (argsL := []) (rest := []) (lenOf own_pd15 rfl) rfl (w0 (Nat.le_of_eq rfl)) (hb hby at_156) (fun _ _ => ⟨rfl, rfl, (by decide : 15 + 0 ≤ _), (by decide : 57 + 0 ≤ _)⟩)
        dsimp only [Pt.U, Pt.locs, Pt.cells, Pt.slots] at X105 l105 y105 z105 st105 hQ105
        subst l105 y105 z105
        obtain ⟨rfl, N105q, e105⟩ := hQ105
        have N105 := Fr.app N104 N105q
        refine Gs (fun _ tk => st105.trans tk) ?_
        show Goes _ _ _ _ _ (T105.setTop (mkF m 159 #[.val (.int x0), .val (.int x1), .val (.int x2), .val (.int x3), .val (.int (2 : Int32)), .val (.int (1 : Int32)), .val (.int pz), .val (.ref b91), .val (.ref b93), .val (.ref b96), .val (.ref b98), .val (.ref b100), .val (.ref bo104), .unset] [(.int (2 : Int32))]))
        refine Gs (fun _ tk => XS.iload X105.here hx rfl (hb hby at_159) rfl tk) ?_
        refine Gs (fun _ tk => XS.icmpNo X105.here hx rfl (hb hby at_161) rfl (teq (by decide : ((2 : Int32) = (2 : Int32)))).2 tk) ?_
        refine Gs (fun _ tk => XS.iconst X105.here hx rfl (hb hby at_164) tk) ?_
        refine Gs (fun _ tk => XS.goto X105.here hx rfl (pc0 := 165) (pc' := 169) rfl (hb hby at_165) (by decide) (by decide) tk) ?_
        refine Gs (fun _ tk => XS.istore X105.here hx rfl (hb hby at_169) rfl (l' := #[.val (.int x0), .val (.int x1), .val (.int x2), .val (.int x3), .val (.int (2 : Int32)), .val (.int (1 : Int32)), .val (.int pz), .val (.ref b91), .val (.ref b93), .val (.ref b96), .val (.ref b98), .val (.ref b100), .val (.ref bo104), .val (.int (1 : Int32))]) rfl tk) ?_
        refine Gs (fun _ tk => XS.iload X105.here hx rfl (hb hby at_171) rfl tk) ?_
        show Goes _ _ _ _ _ (T105.setTop (mkF m 173 #[.val (.int x0), .val (.int x1), .val (.int x2), .val (.int x3), .val (.int (2 : Int32)), .val (.int (1 : Int32)), .val (.int pz), .val (.ref b91), .val (.ref b93), .val (.ref b96), .val (.ref b98), .val (.ref b100), .val (.ref bo104), .val (.int (1 : Int32))] [(.int (1 : Int32))]))
        refine Gs (fun _ tk => XS.ifNo X105.here hx rfl (hb hby at_173) rfl ((if0 _ _).trans (feq (by decide : ¬ ((1 : Int32) = (0 : Int32)))).1) tk) ?_
        refine Gs (fun _ tk => XS.iload X105.here hx rfl (hb hby at_176) rfl tk) ?_
        refine Gs (fun _ tk => XS.iconst X105.here hx rfl (hb hby at_178) tk) ?_
        refine Gs (fun _ tk => XS.icmpNo X105.here hx rfl (hb hby at_179) rfl (flt (by decide : ¬ ((2 : Int32) < (1 : Int32)))).1 tk) ?_
        refine Gs (fun _ tk => XS.aload X105.here hx rfl (hb hby at_182) rfl rfl tk) ?_
        refine Gs (fun _ tk => XS.iconst X105.here hx rfl (hb hby at_184) tk) ?_
        show Goes _ _ _ _ _ (T105.setTop (mkF m 185 #[.val (.int x0), .val (.int x1), .val (.int x2), .val (.int x3), .val (.int (2 : Int32)), .val (.int (1 : Int32)), .val (.int pz), .val (.ref b91), .val (.ref b93), .val (.ref b96), .val (.ref b98), .val (.ref b100), .val (.ref bo104), .val (.int (1 : Int32))] [(.int (0 : Int32)), (.ref bo104)]))
        obtain ⟨cq106, kq106, q106a, q106b, q106c⟩ := isOf hZ e105 A_bo104
        obtain ⟨_, _, ⟨T106, L106, k106, n106⟩, -, X106, ⟨Lc106, hQ106, l106, y106, z106⟩, st106⟩ := X105.virtualBack hx (y := mN44) (z := mN44) hown (mvT hZ (gw hw 244 rfl)) (mvT hZ (gw hw 245 rfl)) (notFace_of_selects (args := #[]) (mvT hZ (gw hw 247 rfl))) (mvT hZ (gw hw 247 rfl)) (mvT hZ (gw hw 246 rfl)) (by decide) (backOf (W := 0) (rm_bget02 l Z a0 hw [] bo104 ro104 u104 b96 T104.heap n0 Z0 F_source_bo104 F_places_bo104 F_first_bo104 F_size_bo104 A_bo104 A_ro104 F_records_ro104 A_u104 F_e0_u104 A_b96) hZ (gw hw 248 rfl) (gw hw 95 rfl) (by decide) (by decide)) q106a q106c (g := (mkF m 185 #[.val (.int x0), .val (.int x1), .val (.int x2), .val (.int x3), .val (.int (2 : Int32)), .val (.int (1 : Int32)), .val (.int pz), .val (.ref b91), .val (.ref b93), .val (.ref b96), .val (.ref b98), .val (.ref b100), .val (.ref bo104), .val (.int (1 : Int32))] [(.int (0 : Int32)), (.ref bo104)])) rfl (by rw [hml]; rfl) (Steps.refl _) (argsL := [(.int (0 : Int32))]) (rest := []) (lenOf own_pd19 rfl) rfl (w0 (Nat.le_of_eq rfl)) (hb hby at_185) (fun _ _ => ⟨rfl, e105, (by decide : 15 + 0 ≤ _), (by decide : 57 + 0 ≤ _)⟩)
        dsimp only [Pt.U, Pt.locs, Pt.cells, Pt.slots] at X106 l106 y106 z106 st106 hQ106
        subst l106 y106 z106
        obtain ⟨rfl, N106q, e106⟩ := hQ106
        have N106 := Fr.app N105 N106q
        refine Gs (fun _ tk => st106.trans tk) ?_
        show Goes _ _ _ _ _ (T106.setTop (mkF m 188 #[.val (.int x0), .val (.int x1), .val (.int x2), .val (.int x3), .val (.int (2 : Int32)), .val (.int (1 : Int32)), .val (.int pz), .val (.ref b91), .val (.ref b93), .val (.ref b96), .val (.ref b98), .val (.ref b100), .val (.ref bo104), .val (.int (1 : Int32))] [(.ref b96)]))
        refine Gs (fun _ tk => XS.aload X106.here hx rfl (hb hby at_188) rfl rfl tk) ?_
        refine Gs (fun _ tk => Jvm.RoadKit.acmp (g := (mkF m 190 #[.val (.int x0), .val (.int x1), .val (.int x2), .val (.int x3), .val (.int (2 : Int32)), .val (.int (1 : Int32)), .val (.int pz), .val (.ref b91), .val (.ref b93), .val (.ref b96), .val (.ref b98), .val (.ref b100), .val (.ref bo104), .val (.int (1 : Int32))] [(.ref b96), (.ref b96)])) X106 hx rfl rfl rfl (pc0 := 190) (pc' := 193) (same := true) rfl (hb hby at_190) rfl (decide_eq_true (congrArg Value.ref rfl)) (by decide) (by decide) tk) ?_
        refine Gs (fun _ tk => XS.aload X106.here hx rfl (hb hby at_193) rfl rfl tk) ?_
        refine Gs (fun _ tk => XS.iconst X106.here hx rfl (hb hby at_195) tk) ?_
        obtain ⟨cq107, kq107, q107a, q107b, q107c⟩ := isOf hZ e106 A_bo104
        obtain ⟨_, _, ⟨T107, L107, k107, n107⟩, -, X107, ⟨Lc107, hQ107, l107, y107, z107⟩, st107⟩ := X106.virtualBack hx (y := mN46) (z := mN46) hown (mvT hZ (gw hw 272 rfl)) (mvT hZ (gw hw 273 rfl)) (notFace_of_selects (args := #[]) (mvT hZ (gw hw 275 rfl))) (mvT hZ (gw hw 275 rfl)) (mvT hZ (gw hw 274 rfl)) (by decide) (backOf (W := 0) (rm_bix02 l Z a0 hw [] bo104 ro104 u104 b96 x1 T104.heap n0 Z0 F_source_bo104 F_places_bo104 F_first_bo104 F_size_bo104 A_bo104 A_ro104 F_records_ro104 A_u104 F_e0_u104 A_b96 F_index_b96) hZ (gw hw 276 rfl) (gw hw 95 rfl) (by decide) (by decide)) q107a q107c (g := (mkF m 196 #[.val (.int x0), .val (.int x1), .val (.int x2), .val (.int x3), .val (.int (2 : Int32)), .val (.int (1 : Int32)), .val (.int pz), .val (.ref b91), .val (.ref b93), .val (.ref b96), .val (.ref b98), .val (.ref b100), .val (.ref bo104), .val (.int (1 : Int32))] [(.int (0 : Int32)), (.ref bo104)])) rfl (by rw [hml]; rfl) (Steps.refl _) (argsL := [(.int (0 : Int32))]) (rest := []) (lenOf own_pd18 rfl) rfl (w0 (Nat.le_of_eq rfl)) (hb hby at_196) (fun _ _ => ⟨rfl, e106, (by decide : 15 + 0 ≤ _), (by decide : 57 + 0 ≤ _)⟩)
        dsimp only [Pt.U, Pt.locs, Pt.cells, Pt.slots] at X107 l107 y107 z107 st107 hQ107
        subst l107 y107 z107
        obtain ⟨rfl, N107q, e107⟩ := hQ107
        have N107 := Fr.app N106 N107q
        refine Gs (fun _ tk => st107.trans tk) ?_
        show Goes _ _ _ _ _ (T107.setTop (mkF m 199 #[.val (.int x0), .val (.int x1), .val (.int x2), .val (.int x3), .val (.int (2 : Int32)), .val (.int (1 : Int32)), .val (.int pz), .val (.ref b91), .val (.ref b93), .val (.ref b96), .val (.ref b98), .val (.ref b100), .val (.ref bo104), .val (.int (1 : Int32))] [(.int x1)]))
        refine Gs (fun _ tk => XS.iloadN X107.here hx rfl (hb hby at_199) rfl tk) ?_
        refine Gs (fun _ tk => XS.icmpNo X107.here hx rfl (hb hby at_200) rfl (teq (rfl : x1 = x1)).2 tk) ?_
        refine Gs (fun _ tk => XS.aload X107.here hx rfl (hb hby at_203) rfl rfl tk) ?_
        refine Gs (fun _ tk => XS.iconst X107.here hx rfl (hb hby at_205) tk) ?_
        obtain ⟨cq108, kq108, q108a, q108b, q108c⟩ := isOf hZ e107 A_bo104
        obtain ⟨_, _, ⟨T108, L108, k108, n108⟩, -, X108, ⟨Lc108, hQ108, l108, y108, z108⟩, st108⟩ := X107.virtualBack hx (y := mN48) (z := mN48) hown (mvT hZ (gw hw 290 rfl)) (mvT hZ (gw hw 291 rfl)) (notFace_of_selects (args := #[]) (mvT hZ (gw hw 293 rfl))) (mvT hZ (gw hw 293 rfl)) (mvT hZ (gw hw 292 rfl)) (by decide) (backOf (W := 0) (rm_bhc21 l Z a0 hw [] bo104 ro104 u104 b96 u97 em T104.heap n0 Z0 F_source_bo104 F_places_bo104 F_first_bo104 F_size_bo104 A_bo104 A_ro104 F_records_ro104 A_u104 F_e0_u104 A_b96 F_holders_b96 A_u97 F_e1_u97 S_EMPTY) hZ (gw hw 294 rfl) (gw hw 95 rfl) (by decide) (by decide)) q108a q108c (g := (mkF m 206 #[.val (.int x0), .val (.int x1), .val (.int x2), .val (.int x3), .val (.int (2 : Int32)), .val (.int (1 : Int32)), .val (.int pz), .val (.ref b91), .val (.ref b93), .val (.ref b96), .val (.ref b98), .val (.ref b100), .val (.ref bo104), .val (.int (1 : Int32))] [(.int (0 : Int32)), (.ref bo104)])) rfl (by rw [hml]; rfl) (Steps.refl _) (argsL := [(.int (0 : Int32))]) (rest := []) (lenOf own_pd18 rfl) rfl (w0 (Nat.le_of_eq rfl)) (hb hby at_206) (fun _ _ => ⟨rfl, e107, (by decide : 15 + 0 ≤ _), (by decide : 57 + 0 ≤ _)⟩)
        dsimp only [Pt.U, Pt.locs, Pt.cells, Pt.slots] at X108 l108 y108 z108 st108 hQ108
        subst l108 y108 z108
        obtain ⟨rfl, N108q, e108⟩ := hQ108
        have N108 := Fr.app N107 N108q
        refine Gs (fun _ tk => st108.trans tk) ?_
        show Goes _ _ _ _ _ (T108.setTop (mkF m 209 #[.val (.int x0), .val (.int x1), .val (.int x2), .val (.int x3), .val (.int (2 : Int32)), .val (.int (1 : Int32)), .val (.int pz), .val (.ref b91), .val (.ref b93), .val (.ref b96), .val (.ref b98), .val (.ref b100), .val (.ref bo104), .val (.int (1 : Int32))] [(.int (1 : Int32))]))
        refine Gs (fun _ tk => XS.iload X108.here hx rfl (hb hby at_209) rfl tk) ?_
        refine Gs (fun _ tk => XS.ifNo X108.here hx rfl (hb hby at_211) rfl ((if0 _ _).trans (feq (by decide : ¬ ((1 : Int32) = (0 : Int32)))).1) tk) ?_
        refine Gs (fun _ tk => XS.iconst X108.here hx rfl (hb hby at_214) tk) ?_
        refine Gs (fun _ tk => XS.goto X108.here hx rfl (pc0 := 215) (pc' := 219) rfl (hb hby at_215) (by decide) (by decide) tk) ?_
        refine Gs (fun _ tk => XS.icmpNo X108.here hx rfl (hb hby at_219) rfl (teq (by decide : ((1 : Int32) = (1 : Int32)))).2 tk) ?_
        refine Gs (fun _ tk => XS.iconst X108.here hx rfl (hb hby at_222) tk) ?_
        show Goes _ _ _ _ _ (T108.setTop (mkF m 223 #[.val (.int x0), .val (.int x1), .val (.int x2), .val (.int x3), .val (.int (2 : Int32)), .val (.int (1 : Int32)), .val (.int pz), .val (.ref b91), .val (.ref b93), .val (.ref b96), .val (.ref b98), .val (.ref b100), .val (.ref bo104), .val (.int (1 : Int32))] [(.int (1 : Int32))]))
        refine Gs (fun _ tk => XS.goto X108.here hx rfl (pc0 := 223) (pc' := 227) rfl (hb hby at_223) (by decide) (by decide) tk) ?_
        refine Gs (fun _ tk => XS.istore X108.here hx rfl (hb hby at_227) rfl (l' := #[.val (.int x0), .val (.int x1), .val (.int x2), .val (.int x3), .val (.int (2 : Int32)), .val (.int (1 : Int32)), .val (.int pz), .val (.ref b91), .val (.ref b93), .val (.ref b96), .val (.ref b98), .val (.ref b100), .val (.ref bo104), .val (.int (1 : Int32))]) rfl tk) ?_
        refine Gs (fun _ tk => XS.iload X108.here hx rfl (hb hby at_229) rfl tk) ?_
        refine Gs (fun _ tk => XS.ifNo X108.here hx rfl (hb hby at_231) rfl ((if0 _ _).trans (feq (by decide : ¬ ((1 : Int32) = (0 : Int32)))).1) tk) ?_
        refine Gs (fun _ tk => XS.iload X108.here hx rfl (hb hby at_234) rfl tk) ?_
        refine Gs (fun _ tk => XS.iconst X108.here hx rfl (hb hby at_236) tk) ?_
        show Goes _ _ _ _ _ (T108.setTop (mkF m 237 #[.val (.int x0), .val (.int x1), .val (.int x2), .val (.int x3), .val (.int (2 : Int32)), .val (.int (1 : Int32)), .val (.int pz), .val (.ref b91), .val (.ref b93), .val (.ref b96), .val (.ref b98), .val (.ref b100), .val (.ref bo104), .val (.int (1 : Int32))] [(.int (2 : Int32)), (.int (2 : Int32))]))
        refine Gs (fun _ tk => XS.icmpNo X108.here hx rfl (hb hby at_237) rfl (flt (by decide : ¬ ((2 : Int32) < (2 : Int32)))).1 tk) ?_
        refine Gs (fun _ tk => XS.aload X108.here hx rfl (hb hby at_240) rfl rfl tk) ?_
        refine Gs (fun _ tk => XS.iconst X108.here hx rfl (hb hby at_242) tk) ?_
        obtain ⟨cq109, kq109, q109a, q109b, q109c⟩ := isOf hZ e108 A_bo104
        obtain ⟨_, _, ⟨T109, L109, k109, n109⟩, -, X109, ⟨Lc109, hQ109, l109, y109, z109⟩, st109⟩ := X108.virtualBack hx (y := mN44) (z := mN44) hown (mvT hZ (gw hw 244 rfl)) (mvT hZ (gw hw 245 rfl)) (notFace_of_selects (args := #[]) (mvT hZ (gw hw 247 rfl))) (mvT hZ (gw hw 247 rfl)) (mvT hZ (gw hw 246 rfl)) (by decide) (backOf (W := 0) (rm_bget12 l Z a0 hw [] bo104 ro104 u104 b98 em T104.heap n0 Z0 F_source_bo104 F_places_bo104 F_first_bo104 F_size_bo104 A_bo104 A_ro104 F_records_ro104 A_u104 F_e1_u104 A_b98 S_EMPTY ne_b98_em) hZ (gw hw 248 rfl) (gw hw 95 rfl) (by decide) (by decide)) q109a q109c (g := (mkF m 243 #[.val (.int x0), .val (.int x1), .val (.int x2), .val (.int x3), .val (.int (2 : Int32)), .val (.int (1 : Int32)), .val (.int pz), .val (.ref b91), .val (.ref b93), .val (.ref b96), .val (.ref b98), .val (.ref b100), .val (.ref bo104), .val (.int (1 : Int32))] [(.int (1 : Int32)), (.ref bo104)])) rfl (by rw [hml]; rfl) (Steps.refl _) (argsL := [(.int (1 : Int32))]) (rest := []) (lenOf own_pd19 rfl) rfl (w0 (Nat.le_of_eq rfl)) (hb hby at_243) (fun _ _ => ⟨rfl, e108, (by decide : 15 + 0 ≤ _), (by decide : 57 + 0 ≤ _)⟩)
        dsimp only [Pt.U, Pt.locs, Pt.cells, Pt.slots] at X109 l109 y109 z109 st109 hQ109
        subst l109 y109 z109
        obtain ⟨rfl, N109q, e109⟩ := hQ109
        have N109 := Fr.app N108 N109q
        refine Gs (fun _ tk => st109.trans tk) ?_
        show Goes _ _ _ _ _ (T109.setTop (mkF m 246 #[.val (.int x0), .val (.int x1), .val (.int x2), .val (.int x3), .val (.int (2 : Int32)), .val (.int (1 : Int32)), .val (.int pz), .val (.ref b91), .val (.ref b93), .val (.ref b96), .val (.ref b98), .val (.ref b100), .val (.ref bo104), .val (.int (1 : Int32))] [(.ref b98)]))
        refine Gs (fun _ tk => XS.aload X109.here hx rfl (hb hby at_246) rfl rfl tk) ?_
        refine Gs (fun _ tk => Jvm.RoadKit.acmp (g := (mkF m 248 #[.val (.int x0), .val (.int x1), .val (.int x2), .val (.int x3), .val (.int (2 : Int32)), .val (.int (1 : Int32)), .val (.int pz), .val (.ref b91), .val (.ref b93), .val (.ref b96), .val (.ref b98), .val (.ref b100), .val (.ref bo104), .val (.int (1 : Int32))] [(.ref b98), (.ref b98)])) X109 hx rfl rfl rfl (pc0 := 248) (pc' := 251) (same := true) rfl (hb hby at_248) rfl (decide_eq_true (congrArg Value.ref rfl)) (by decide) (by decide) tk) ?_
        refine Gs (fun _ tk => XS.aload X109.here hx rfl (hb hby at_251) rfl rfl tk) ?_
        refine Gs (fun _ tk => XS.iconst X109.here hx rfl (hb hby at_253) tk) ?_
        obtain ⟨cq110, kq110, q110a, q110b, q110c⟩ := isOf hZ e109 A_bo104
        obtain ⟨_, _, ⟨T110, L110, k110, n110⟩, -, X110, ⟨Lc110, hQ110, l110, y110, z110⟩, st110⟩ := X109.virtualBack hx (y := mN46) (z := mN46) hown (mvT hZ (gw hw 272 rfl)) (mvT hZ (gw hw 273 rfl)) (notFace_of_selects (args := #[]) (mvT hZ (gw hw 275 rfl))) (mvT hZ (gw hw 275 rfl)) (mvT hZ (gw hw 274 rfl)) (by decide) (backOf (W := 0) (rm_bix12 l Z a0 hw [] bo104 ro104 u104 b98 em x2 T104.heap n0 Z0 F_source_bo104 F_places_bo104 F_first_bo104 F_size_bo104 A_bo104 A_ro104 F_records_ro104 A_u104 F_e1_u104 A_b98 S_EMPTY ne_b98_em F_index_b98) hZ (gw hw 276 rfl) (gw hw 95 rfl) (by decide) (by decide)) q110a q110c (g := (mkF m 254 #[.val (.int x0), .val (.int x1), .val (.int x2), .val (.int x3), .val (.int (2 : Int32)), .val (.int (1 : Int32)), .val (.int pz), .val (.ref b91), .val (.ref b93), .val (.ref b96), .val (.ref b98), .val (.ref b100), .val (.ref bo104), .val (.int (1 : Int32))] [(.int (1 : Int32)), (.ref bo104)])) rfl (by rw [hml]; rfl) (Steps.refl _) (argsL := [(.int (1 : Int32))]) (rest := []) (lenOf own_pd18 rfl) rfl (w0 (Nat.le_of_eq rfl)) (hb hby at_254) (fun _ _ => ⟨rfl, e109, (by decide : 15 + 0 ≤ _), (by decide : 57 + 0 ≤ _)⟩)
        dsimp only [Pt.U, Pt.locs, Pt.cells, Pt.slots] at X110 l110 y110 z110 st110 hQ110
        subst l110 y110 z110
        obtain ⟨rfl, N110q, e110⟩ := hQ110
        have N110 := Fr.app N109 N110q
        refine Gs (fun _ tk => st110.trans tk) ?_
        show Goes _ _ _ _ _ (T110.setTop (mkF m 257 #[.val (.int x0), .val (.int x1), .val (.int x2), .val (.int x3), .val (.int (2 : Int32)), .val (.int (1 : Int32)), .val (.int pz), .val (.ref b91), .val (.ref b93), .val (.ref b96), .val (.ref b98), .val (.ref b100), .val (.ref bo104), .val (.int (1 : Int32))] [(.int x2)]))
        refine Gs (fun _ tk => XS.iloadN X110.here hx rfl (hb hby at_257) rfl tk) ?_
        refine Gs (fun _ tk => XS.icmpNo X110.here hx rfl (hb hby at_258) rfl (teq (rfl : x2 = x2)).2 tk) ?_
        refine Gs (fun _ tk => XS.iconst X110.here hx rfl (hb hby at_261) tk) ?_
        refine Gs (fun _ tk => XS.goto X110.here hx rfl (pc0 := 262) (pc' := 266) rfl (hb hby at_262) (by decide) (by decide) tk) ?_
        refine Gs (fun _ tk => XS.istore X110.here hx rfl (hb hby at_266) rfl (l' := #[.val (.int x0), .val (.int x1), .val (.int x2), .val (.int x3), .val (.int (2 : Int32)), .val (.int (1 : Int32)), .val (.int pz), .val (.ref b91), .val (.ref b93), .val (.ref b96), .val (.ref b98), .val (.ref b100), .val (.ref bo104), .val (.int (1 : Int32))]) rfl tk) ?_
        refine Gs (fun _ tk => XS.iload X110.here hx rfl (hb hby at_268) rfl tk) ?_
        show Goes _ _ _ _ _ (T110.setTop (mkF m 270 #[.val (.int x0), .val (.int x1), .val (.int x2), .val (.int x3), .val (.int (2 : Int32)), .val (.int (1 : Int32)), .val (.int pz), .val (.ref b91), .val (.ref b93), .val (.ref b96), .val (.ref b98), .val (.ref b100), .val (.ref bo104), .val (.int (1 : Int32))] [(.int (1 : Int32))]))
        refine Gs (fun _ tk => XS.ifNo X110.here hx rfl (hb hby at_270) rfl ((if0 _ _).trans (feq (by decide : ¬ ((1 : Int32) = (0 : Int32)))).1) tk) ?_
        refine Gs (fun _ tk => XS.aload X110.here hx rfl (hb hby at_273) rfl rfl tk) ?_
        obtain ⟨_, _, ⟨T111, L111, k111, n111⟩, -, X111, ⟨Lc111, hQ111, l111, y111, z111⟩, st111⟩ := Jvm.LawKit.callS X110 hx (y := mN35) hown (mvT hZ (gw hw 93 rfl)) (mvT hZ (gw hw 94 rfl)) (mvT hZ (gw hw 95 rfl)) (mvT hZ (gw hw 96 rfl)) (by decide) (backOf (W := 0) (rm_bsofS l Z a0 hw [] bo104 T104.heap n0 Z0 A_bo104) hZ (gw hw 96 rfl) (gw hw 95 rfl) (by decide) (by decide)) (g := (mkF m 275 #[.val (.int x0), .val (.int x1), .val (.int x2), .val (.int x3), .val (.int (2 : Int32)), .val (.int (1 : Int32)), .val (.int pz), .val (.ref b91), .val (.ref b93), .val (.ref b96), .val (.ref b98), .val (.ref b100), .val (.ref bo104), .val (.int (1 : Int32))] [(.ref bo104)])) rfl (by rw [hml]; rfl) (argsL := [(.ref bo104)]) (rest := []) (lenOf own_pd22 rfl) rfl (w0 (Nat.le_of_eq rfl)) (hb hby at_275) (fun _ _ => ⟨rfl, e110, (by decide : 15 + 0 ≤ _), (by decide : 57 + 0 ≤ _)⟩)
        dsimp only [Pt.U, Pt.locs, Pt.cells, Pt.slots] at X111 l111 y111 z111 st111 hQ111
        subst l111 y111 z111
        obtain ⟨rfl, N111q, e111⟩ := hQ111
        have N111 := Fr.app N110 N111q
        refine Gs st111 ?_
        show Goes _ _ _ _ _ (T111.setTop (mkF m 278 #[.val (.int x0), .val (.int x1), .val (.int x2), .val (.int x3), .val (.int (2 : Int32)), .val (.int (1 : Int32)), .val (.int pz), .val (.ref b91), .val (.ref b93), .val (.ref b96), .val (.ref b98), .val (.ref b100), .val (.ref bo104), .val (.int (1 : Int32))] [(.ref bo104)]))
        refine Gs (fun _ tk => XS.aload X111.here hx rfl (hb hby at_278) rfl rfl tk) ?_
        refine Gs (fun _ tk => Jvm.RoadKit.acmp (g := (mkF m 280 #[.val (.int x0), .val (.int x1), .val (.int x2), .val (.int x3), .val (.int (2 : Int32)), .val (.int (1 : Int32)), .val (.int pz), .val (.ref b91), .val (.ref b93), .val (.ref b96), .val (.ref b98), .val (.ref b100), .val (.ref bo104), .val (.int (1 : Int32))] [(.ref bo104), (.ref bo104)])) X111 hx rfl rfl rfl (pc0 := 280) (pc' := 283) (same := true) rfl (hb hby at_280) rfl (decide_eq_true (congrArg Value.ref rfl)) (by decide) (by decide) tk) ?_
        refine Gs (fun _ tk => XS.iconst X111.here hx rfl (hb hby at_283) tk) ?_
        refine Gs (fun _ tk => XS.goto X111.here hx rfl (pc0 := 284) (pc' := 288) rfl (hb hby at_284) (by decide) (by decide) tk) ?_
        refine Gs (fun _ tk => XS.istore X111.here hx rfl (hb hby at_288) rfl (l' := #[.val (.int x0), .val (.int x1), .val (.int x2), .val (.int x3), .val (.int (2 : Int32)), .val (.int (1 : Int32)), .val (.int pz), .val (.ref b91), .val (.ref b93), .val (.ref b96), .val (.ref b98), .val (.ref b100), .val (.ref bo104), .val (.int (1 : Int32))]) rfl tk) ?_
        refine Gs (fun _ tk => XS.iload X111.here hx rfl (hb hby at_290) rfl tk) ?_
        show Goes _ _ _ _ _ (T111.setTop (mkF m 292 #[.val (.int x0), .val (.int x1), .val (.int x2), .val (.int x3), .val (.int (2 : Int32)), .val (.int (1 : Int32)), .val (.int pz), .val (.ref b91), .val (.ref b93), .val (.ref b96), .val (.ref b98), .val (.ref b100), .val (.ref bo104), .val (.int (1 : Int32))] [(.int (1 : Int32))]))
        refine Goes.ret X111 (some (.int (1 : Int32))) (fun h => by rw [hret] at h; cases h) hlk (by decide) (by decide) ?_ (fun fs hr => ?_)
        · exact ⟨rfl, N111⟩
        · exact own_retN X111 hx (t := .boolean) hret (by simp) rfl (hb hby at_292) hr
      by_cases hc25_112 : (x0 &&& (16 : Int32)) = (0 : Int32)
      · refine Gs (fun _ tk => XS.ifYes X0.here hx rfl (pc0 := 25) (pc' := 32) rfl (hb hby at_25) rfl ((if0 _ _).trans (teq hc25_112).1) (by decide) (by decide) tk) ?_
        refine Gs (fun _ tk => XS.iconst X0.here hx rfl (hb hby at_32) tk) ?_
        exact J33 (0 : Int32)
      · refine Gs (fun _ tk => XS.ifNo X0.here hx rfl (hb hby at_25) rfl ((if0 _ _).trans (feq hc25_112).1) tk) ?_
        refine Gs (fun _ tk => XS.iconst X0.here hx rfl (hb hby at_28) tk) ?_
        refine Gs (fun _ tk => XS.goto X0.here hx rfl (pc0 := 29) (pc' := 33) rfl (hb hby at_29) (by decide) (by decide) tk) ?_
        exact J33 (1 : Int32)
set_option maxRecDepth 65536 in
set_option maxHeartbeats 40000000 in
theorem comes_1 {Post : Tables → Env → Array Value → State → Outcome → State → Prop} (hpost : ∀ tb e args s v u, (limb_1_1.after args s (.returned v) u = true ∧ limb_1_2.after args s (.returned v) u = true ∧ True) → FrameEnd s (.returned v) u (Jvm.fieldLocs frame_1_writes args s ++ Jvm.arrayLocs frame_1_arrays args s ++ Jvm.staticLocs frame_1_statics s) 40 192 → Post tb e args s (.returned v) u) :
    ArmFor flags0 classFile x code maxLocals ret World_1 tables_1 room_1 Calls_1 rest_1 Pre_1 Post := by
  intro l hfl _ _ p e ha hc hk s m args below hf hA hF happ hP
  obtain ⟨hcalls, hrest, hpre⟩ := hP
  obtain ⟨-, -, -, hnamed, -, -, -, hat⟩ := (Spec.applies_iff hf).mp happ
  obtain ⟨hg, hn⟩ := and_e (Cond.before_iff.mp (show (Jvm.Cond.and given_1 narrow_1).before args s = true from hpre))
  obtain ⟨g0, hg0⟩ := and_e hg
  obtain ⟨ga0, hg0'⟩ := and_e hg0
  obtain ⟨ga1, hg0''⟩ := and_e hg0'
  obtain ⟨ga2, hg0'''⟩ := and_e hg0''
  obtain ⟨w0, w1, w2, w3, rfl⟩ : ∃ w0 w1 w2 w3 : Value, args = #[w0, w1, w2, w3] := by
    have hs : args.size = 4 := by simpa [Cond.value, given_1] using g0
    obtain ⟨L⟩ := args
    match L, hs with
    | [w0, w1, w2, w3], _ => exact ⟨w0, w1, w2, w3, rfl⟩
  have hw := fun d (hd : d ∈ tables_1) => atoms_spec (ws := Jvm.Cond.code x code maxLocals ret :: tables_1) hat d (List.mem_cons_of_mem _ hd)
  have hfit : Fit s := fun {y c} hc i hi => by
    obtain ⟨ha, rfl⟩ := Array.getElem?_eq_some_iff.mp hc
    have q := List.all_eq_true.mp ((Array.all_eq_true_iff_forall_mem.mp hF) _ (Array.getElem_mem ha)) i (List.mem_range.mpr hi)
    simpa [Array.getElem?_eq_getElem hi] using q
  obtain ⟨hsets, hown0⟩ := atoms_of _ (rest_1_c_eq ▸ (show rest_1_c.before _ s = true from hrest))
  have hr0 := Cond.before_iff.mp hown0
  obtain ⟨i0, ei0⟩ := is_v ga0
  obtain rfl : w0 = (.int i0) := Option.some.inj ei0
  obtain ⟨i1, ei1⟩ := is_v ga1
  obtain rfl : w1 = (.int i1) := Option.some.inj ei1
  obtain ⟨i2, ei2⟩ := is_v ga2
  obtain rfl : w2 = (.int i2) := Option.some.inj ei2
  obtain ⟨i3, ei3⟩ := is_v hg0'''
  obtain rfl : w3 = (.int i3) := Option.some.inj ei3
  obtain ⟨cno, csz⟩ := and_e hn
  obtain ⟨no, evn⟩ := exa_v cno
  have S_NONE := Sta.start evn (Or.inr ⟨(gw hw 95 rfl), (gw hw 104 rfl)⟩)
  have A_no := Exa.start evn cno
  have F_no := own_fld evn csz
  obtain ⟨d, evd⟩ := arr_v (Cond.before_iff.mp (hsets _ (List.mem_of_getElem? (i := 6) rfl)))
  have S_D := Sta.start evd (Or.inr ⟨(gw hw 22 rfl), (hsets _ (List.mem_of_getElem? (i := 2) rfl))⟩)
  obtain ⟨cld, Ard⟩ := Arr.start evd (Cond.before_iff.mp (hsets _ (List.mem_of_getElem? (i := 6) rfl)))
  have V_d := own_arr0 Ard evd (Cond.before_iff.mp (hsets _ (List.mem_of_getElem? (i := 8) rfl)))
  obtain ⟨nl, evl⟩ := exa_v (Cond.before_iff.mp (hsets _ (List.mem_of_getElem? (i := 11) rfl)))
  have S_L := Sta.start evl (Or.inl (hsets _ (List.mem_of_getElem? (i := 10) rfl)))
  have A_nl := Exa.start evl (Cond.before_iff.mp (hsets _ (List.mem_of_getElem? (i := 11) rfl)))
  obtain ⟨ea, eve⟩ := arr_v (Cond.before_iff.mp (hsets _ (List.mem_of_getElem? (i := 12) rfl)))
  have F_el := own_fldR evl eve
  obtain ⟨cle, Are⟩ := Arr.start eve (Cond.before_iff.mp (hsets _ (List.mem_of_getElem? (i := 12) rfl)))
  have V_ea := own_arr0 Are eve (Cond.before_iff.mp (hsets _ (List.mem_of_getElem? (i := 14) rfl)))
  obtain ⟨em, evm⟩ := exa_v (Cond.before_iff.mp (hsets _ (List.mem_of_getElem? (i := 18) rfl)))
  have S_E := Sta.start evm (Or.inl (hsets _ (List.mem_of_getElem? (i := 17) rfl)))
  have A_em := Exa.start evm (Cond.before_iff.mp (hsets _ (List.mem_of_getElem? (i := 18) rfl)))
  obtain ⟨cm, km, mr, hm⟩ := hcalls.1
  have hmr : Mir s "[Ljava/lang/Object;" mr := ⟨cm, km, hm⟩
  obtain ⟨n, o, h1, h2, h3, _, L, rfl, ⟨rfl, N⟩, hq⟩ := rm_law l s _ hw tables_1 i0 i1 i2 i3 d cld.cls nl ea cle.cls em no mr s.heap s.heap.size (Nat.le_refl _) S_D V_d S_L A_nl F_el V_ea S_E A_em S_NONE A_no F_no hmr p e ha hc hk s m _ below hf ((Spec.applies_iff_loose hf).mp happ).1 ⟨rfl, State.Warmed39.refl s, rfl⟩ trivial
  refine ⟨n, _, h1, h2, h3, hpost _ _ _ _ _ _ ⟨Cond.after_iff.mpr rfl, Cond.after_iff.mpr (eq_i res_at (Term.int_eval (1)) rfl), trivial⟩ ⟨hq.1, hq.2.1, (hq.2.2.sift fun y hy => Or.inr (N y hy)).mono (by decide) (by decide)⟩⟩
theorem main_1_1 : Claimed_1_1 := comes_1 fun _ _ _ _ _ _ h hF => ⟨h.1, hF⟩
theorem main_1_2 : Claimed_1_2 := comes_1 fun _ _ _ _ _ _ h hF => ⟨h.2.1, hF⟩
end Jvm.Pilot.@@N@@
namespace Jvm.Pilot.@@N@@
open Jvm Jvm.ClassFile Sem Op Lib Jvm.Free Jvm.Stand Jvm.Pilot.@@N@@.Jvm.D
/-! MADE BY PROGRAM (witnessworld.py) out of the Statement's table words and the real class files: 33 classes; the members and pool entries that the words name. The judged class is class 1, her method 1. -/
namespace start1
open Jvm.ClassFile
def u (s : String) : CpInfo := .utf8 (stringToUtf16 s)
/-- a pool by its gaps: so many unusable entries, then the entry; so many at the end -/
def gap : Nat → List CpInfo → List CpInfo
  | 0, r => r
  | n + 1, r => .unusable :: gap n r
def poolList (es : List (Nat × CpInfo)) (last : Nat) : List CpInfo := es.foldr (fun e r => gap e.1 (e.2 :: r)) (gap last [])
def pool (es : List (Nat × CpInfo)) (last : Nat) : Array CpInfo := ⟨poolList es last⟩
def fileOf (pool : Array CpInfo) (this : Nat) (attrs : Array Attribute := #[]) (ms : Array MethodInfo := #[]) (fl : Nat := 33) (sup : Nat := 0) (ifs : Array Nat := #[]) (fds : Array FieldInfo := #[]) : ClassFile where
  minorVersion := 0
  majorVersion := 65
  constantPool := pool
  accessFlags := fl
  thisClass := this
  superClass := sup
  interfaces := ifs
  fields := fds
  methods := ms
  attributes := attrs
def plain (name : String) (sup : Option ClassId) : Class where
  name := name
  kind := .ordinary
  loader := none
  accessFlags := 33
  super := sup
  interfaces := #[]
  cf := none
  fields := #[]
  methods := #[]
  instanceTypes := #[]
  staticTypes := #[]
  resolved := #[]
  callSites := []
  init := .initialized
  statics := none
  mirror := none

def pool0 : Array CpInfo := pool [(5, u "<init>"), (0, u "()V"), (1, .class_ 10), (1, u "java/lang/Object"), (0, u "getClass"), (0, u "()Ljava/lang/Class;")] 111

def k0c0 : Code := { maxStack := 0, maxLocals := 1, code := object_method_1_code, exceptionTable := #[], attributes := #[] }
def k0m0 : Method := { name := "<init>", desc := "()V", sig := { parameters := [], returnType := none }, accessFlags := 1, code := some k0c0 }
def k0m1 : Method := { name := "getClass", desc := "()Ljava/lang/Class;", sig := { parameters := [], returnType := some (.object "java/lang/Class") }, accessFlags := 273, code := none }
/-- java/lang/Object -/
def k0 : Class := { plain "java/lang/Object" none with
  accessFlags := 33
  interfaces := #[]
  cf := some (fileOf pool0 8 #[] #[{ accessFlags := 1, nameIndex := 5, descriptorIndex := 6, attributes := #[] }, { accessFlags := 273, nameIndex := 11, descriptorIndex := 12, attributes := #[] }] 33 0 #[] #[])
  fields := #[]
  methods := #[k0m0, k0m1]
  instanceTypes := #[]
  staticTypes := #[]
  resolved := Array.replicate 124 none
  statics := none }

def pool1 : Array CpInfo := pool [(2, .class_ 4), (0, .nameAndType 5 6), (0, u "java/lang/Object"), (0, u "<init>"), (0, u "()V"), (0, .class_ 8), (0, u "org/stripeward/scenario/Node"), (0, .methodref 7 10), (0, .nameAndType 5 11), (0, u "(ILjava/lang/String;Lorg/stripeward/scenario/Rack;)V"), (0, .class_ 13), (0, u "java/util/ArrayList"), (0, .methodref 12 3), (0, .interfaceMethodref 16 17), (0, .class_ 18), (0, .nameAndType 19 20), (0, u "java/util/List"), (0, u "add"), (0, u "(Ljava/lang/Object;)Z"), (0, .class_ 22), (0, u "org/stripeward/scenario/Block"), (0, .methodref 21 24), (0, .nameAndType 5 25), (0, u "(ILjava/lang/String;Ljava/util/List;Lorg/stripeward/scenario/Stripe;ZD)V"), (0, .double 4611686018427387904), (1, .methodref 29 30), (0, .class_ 31), (0, .nameAndType 32 33), (0, u "org/stripeward/scenario/Blocks"), (0, u "of"), (0, u "(Ljava/util/List;)Lorg/stripeward/scenario/Blocks;"), (0, .methodref 29 35), (0, .nameAndType 36 37), (0, u "size"), (0, u "()I"), (0, .methodref 29 39), (0, .nameAndType 40 41), (0, u "get"), (0, u "(I)Lorg/stripeward/scenario/Block;"), (0, .methodref 29 43), (0, .nameAndType 44 45), (0, u "index"), (0, u "(I)I"), (0, .methodref 29 47), (0, .nameAndType 48 45), (0, u "holderCount"), (0, .class_ 50), (0, u "org/stripeward/scenario/BlocksOfPinLaw"), (2, u "law"), (0, u "(IIII)Z")] 3

def k1m0 : Method := { name := "<init>", desc := "()V", sig := { parameters := [], returnType := none }, accessFlags := 1, code := none }
def k1c1 : Code := { maxStack := 9, maxLocals := 14, code := code, exceptionTable := #[], attributes := #[] }
def k1m1 : Method := { name := "law", desc := "(IIII)Z", sig := { parameters := [.int, .int, .int, .int], returnType := some .boolean }, accessFlags := 9, code := some k1c1 }
/-- org/stripeward/scenario/BlocksOfPinLaw -/
def k1 : Class := { plain "org/stripeward/scenario/BlocksOfPinLaw" (some 0) with
  accessFlags := 49
  interfaces := #[]
  cf := some (fileOf pool1 49 #[] #[{ accessFlags := 1, nameIndex := 5, descriptorIndex := 6, attributes := #[] }, { accessFlags := 9, nameIndex := 53, descriptorIndex := 54, attributes := #[] }] 49 2 #[] #[])
  fields := #[]
  methods := #[k1m0, k1m1]
  instanceTypes := #[]
  staticTypes := #[]
  resolved := Array.replicate 58 none
  statics := none }

def pool2 : Array CpInfo := pool [(1, .methodref 2 3), (0, .class_ 4), (0, .nameAndType 5 6), (0, u "java/lang/Object"), (0, u "<init>"), (0, u "()V"), (0, .class_ 8), (0, u "java/lang/Record")] 13

def k2c0 : Code := { maxStack := 1, maxLocals := 1, code := jdk_30_method_1_code, exceptionTable := #[], attributes := #[] }
def k2m0 : Method := { name := "<init>", desc := "()V", sig := { parameters := [], returnType := none }, accessFlags := 4, code := some k2c0 }
/-- java/lang/Record -/
def k2 : Class := { plain "java/lang/Record" (some 0) with
  accessFlags := 1057
  interfaces := #[]
  cf := some (fileOf pool2 7 #[] #[{ accessFlags := 4, nameIndex := 5, descriptorIndex := 6, attributes := #[] }] 1057 2 #[] #[])
  fields := #[]
  methods := #[k2m0]
  instanceTypes := #[]
  staticTypes := #[]
  resolved := Array.replicate 22 none
  statics := none }

def pool3 : Array CpInfo := pool [(1, .methodref 2 3), (0, .class_ 4), (0, .nameAndType 5 6), (0, u "java/lang/Record"), (0, u "<init>"), (0, u "()V"), (0, .fieldref 8 9), (0, .class_ 10), (0, .nameAndType 11 12), (0, u "org/stripeward/scenario/Node"), (0, u "index"), (0, u "I"), (0, .fieldref 8 14), (0, .nameAndType 15 16), (0, u "name"), (0, u "Ljava/lang/String;"), (0, .fieldref 8 18), (0, .nameAndType 19 20), (0, u "rack"), (0, u "Lorg/stripeward/scenario/Rack;"), (12, u "(ILjava/lang/String;Lorg/stripeward/scenario/Rack;)V")] 29

def k3c0 : Code := { maxStack := 2, maxLocals := 4, code := prog_14_method_1_code, exceptionTable := #[], attributes := #[] }
def k3m0 : Method := { name := "<init>", desc := "(ILjava/lang/String;Lorg/stripeward/scenario/Rack;)V", sig := { parameters := [.int, (.object "java/lang/String"), (.object "org/stripeward/scenario/Rack")], returnType := none }, accessFlags := 1, code := some k3c0 }
/-- org/stripeward/scenario/Node -/
def k3 : Class := { plain "org/stripeward/scenario/Node" (some 2) with
  accessFlags := 49
  interfaces := #[]
  cf := some (fileOf pool3 8 #[] #[{ accessFlags := 1, nameIndex := 5, descriptorIndex := 33, attributes := #[] }] 49 2 #[] #[{ accessFlags := 18, nameIndex := 11, descriptorIndex := 12, attributes := #[] }, { accessFlags := 18, nameIndex := 15, descriptorIndex := 16, attributes := #[] }, { accessFlags := 18, nameIndex := 19, descriptorIndex := 20, attributes := #[] }])
  fields := #[{ name := "index", type := .int, accessFlags := 18, slot := 0, constantValue := 0 }, { name := "name", type := (.object "java/lang/String"), accessFlags := 18, slot := 1, constantValue := 0 }, { name := "rack", type := (.object "org/stripeward/scenario/Rack"), accessFlags := 18, slot := 2, constantValue := 0 }]
  methods := #[k3m0]
  instanceTypes := #[.int, (.object "java/lang/String"), (.object "org/stripeward/scenario/Rack")]
  staticTypes := #[]
  resolved := Array.replicate 63 none
  statics := none }

def pool4 : Array CpInfo := pool [(8, .class_ 10), (1, u "java/lang/Iterable"), (24, .class_ 36), (0, u "java/lang/Object")] 25

/-- java/lang/Iterable -/
def k4 : Class := { plain "java/lang/Iterable" (some 0) with
  accessFlags := 1537
  interfaces := #[]
  cf := some (fileOf pool4 8 #[] #[] 1537 35 #[] #[])
  fields := #[]
  methods := #[]
  instanceTypes := #[]
  staticTypes := #[]
  resolved := Array.replicate 62 none
  statics := none }

def pool5 : Array CpInfo := pool [(10, .class_ 12), (1, u "java/util/Collection"), (0, u "toArray"), (16, u "()Z"), (29, .class_ 61), (0, u "java/lang/Object"), (0, .class_ 63), (0, u "java/lang/Iterable"), (2, u "isEmpty"), (3, u "()[Ljava/lang/Object;")] 44

def k5m0 : Method := { name := "isEmpty", desc := "()Z", sig := { parameters := [], returnType := some .boolean }, accessFlags := 1025, code := none }
def k5m1 : Method := { name := "toArray", desc := "()[Ljava/lang/Object;", sig := { parameters := [], returnType := some (.array (.object "java/lang/Object")) }, accessFlags := 1025, code := none }
/-- java/util/Collection -/
def k5 : Class := { plain "java/util/Collection" (some 0) with
  accessFlags := 1537
  interfaces := #[4]
  cf := some (fileOf pool5 10 #[] #[{ accessFlags := 1025, nameIndex := 66, descriptorIndex := 30, attributes := #[] }, { accessFlags := 1025, nameIndex := 13, descriptorIndex := 70, attributes := #[] }] 1537 60 #[62] #[])
  fields := #[]
  methods := #[k5m0, k5m1]
  instanceTypes := #[]
  staticTypes := #[]
  resolved := Array.replicate 115 none
  statics := none }

def pool6 : Array CpInfo := pool [(1, .methodref 2 3), (0, .class_ 4), (0, .nameAndType 5 6), (0, u "java/lang/Object"), (0, u "<init>"), (0, u "()V"), (1, .class_ 10), (1, u "java/util/AbstractCollection"), (66, .class_ 78), (0, u "java/util/Collection")] 81

def k6c0 : Code := { maxStack := 1, maxLocals := 1, code := jdk_22_method_1_code, exceptionTable := #[], attributes := #[] }
def k6m0 : Method := { name := "<init>", desc := "()V", sig := { parameters := [], returnType := none }, accessFlags := 4, code := some k6c0 }
/-- java/util/AbstractCollection -/
def k6 : Class := { plain "java/util/AbstractCollection" (some 0) with
  accessFlags := 1057
  interfaces := #[5]
  cf := some (fileOf pool6 8 #[] #[{ accessFlags := 4, nameIndex := 5, descriptorIndex := 6, attributes := #[] }] 1057 2 #[77] #[])
  fields := #[]
  methods := #[k6m0]
  instanceTypes := #[]
  staticTypes := #[]
  resolved := Array.replicate 160 none
  statics := none }

def pool7 : Array CpInfo := pool [(8, .class_ 10), (1, u "java/util/SequencedCollection"), (15, .class_ 27), (0, u "java/lang/Object"), (0, .class_ 29), (0, u "java/util/Collection")] 27

/-- java/util/SequencedCollection -/
def k7 : Class := { plain "java/util/SequencedCollection" (some 0) with
  accessFlags := 1537
  interfaces := #[5]
  cf := some (fileOf pool7 8 #[] #[] 1537 26 #[28] #[])
  fields := #[]
  methods := #[]
  instanceTypes := #[]
  staticTypes := #[]
  resolved := Array.replicate 57 none
  statics := none }

def pool8 : Array CpInfo := pool [(8, .class_ 10), (1, u "java/util/List"), (7, u "()Z"), (12, u "(Ljava/lang/Object;)V"), (16, u "<init>"), (11, u "add"), (3, u "(Ljava/lang/Object;)Z"), (2, u "isEmpty"), (7, u "get"), (0, u "(I)Ljava/lang/Object;"), (2, u "size"), (0, u "()I"), (7, u "of"), (1, .fieldref 91 92), (0, .class_ 93), (0, .nameAndType 94 95), (0, u "java/util/ImmutableCollections"), (0, u "EMPTY_LIST"), (0, u "Ljava/util/ImmutableCollections$ListN;"), (0, .class_ 97), (0, u "java/util/ImmutableCollections$List12"), (0, .methodref 96 99), (0, .nameAndType 48 31), (0, .methodref 96 101), (0, .nameAndType 48 102), (0, u "(Ljava/lang/Object;Ljava/lang/Object;)V"), (0, .class_ 104), (0, u "java/lang/Object"), (3, u "([Ljava/lang/Object;)Ljava/util/List;"), (3, .methodref 91 113), (0, .nameAndType 114 115), (0, u "listCopy"), (0, u "(Ljava/util/Collection;)Ljava/util/List;"), (3, u "()Ljava/util/List;"), (0, .class_ 121), (0, u "java/util/SequencedCollection"), (112, u "copyOf")] 16

def k8m0 : Method := { name := "size", desc := "()I", sig := { parameters := [], returnType := some .int }, accessFlags := 1025, code := none }
def k8m1 : Method := { name := "isEmpty", desc := "()Z", sig := { parameters := [], returnType := some .boolean }, accessFlags := 1025, code := none }
def k8m2 : Method := { name := "add", desc := "(Ljava/lang/Object;)Z", sig := { parameters := [(.object "java/lang/Object")], returnType := some .boolean }, accessFlags := 1025, code := none }
def k8m3 : Method := { name := "get", desc := "(I)Ljava/lang/Object;", sig := { parameters := [.int], returnType := some (.object "java/lang/Object") }, accessFlags := 1025, code := none }
def k8c4 : Code := { maxStack := 1, maxLocals := 0, code := jdk_40_method_36_code, exceptionTable := #[], attributes := #[] }
def k8m4 : Method := { name := "of", desc := "()Ljava/util/List;", sig := { parameters := [], returnType := some (.object "java/util/List") }, accessFlags := 9, code := some k8c4 }
def k8c5 : Code := { maxStack := 5, maxLocals := 2, code := jdk_40_method_47_code, exceptionTable := #[], attributes := #[] }
def k8m5 : Method := { name := "of", desc := "([Ljava/lang/Object;)Ljava/util/List;", sig := { parameters := [(.array (.object "java/lang/Object"))], returnType := some (.object "java/util/List") }, accessFlags := 137, code := some k8c5 }
def k8c6 : Code := { maxStack := 1, maxLocals := 1, code := jdk_40_method_48_code, exceptionTable := #[], attributes := #[] }
def k8m6 : Method := { name := "copyOf", desc := "(Ljava/util/Collection;)Ljava/util/List;", sig := { parameters := [(.object "java/util/Collection")], returnType := some (.object "java/util/List") }, accessFlags := 9, code := some k8c6 }
/-- java/util/List -/
def k8 : Class := { plain "java/util/List" (some 0) with
  accessFlags := 1537
  interfaces := #[7]
  cf := some (fileOf pool8 8 #[] #[{ accessFlags := 1025, nameIndex := 79, descriptorIndex := 80, attributes := #[] }, { accessFlags := 1025, nameIndex := 67, descriptorIndex := 18, attributes := #[] }, { accessFlags := 1025, nameIndex := 60, descriptorIndex := 64, attributes := #[] }, { accessFlags := 1025, nameIndex := 75, descriptorIndex := 76, attributes := #[] }, { accessFlags := 9, nameIndex := 88, descriptorIndex := 119, attributes := #[] }, { accessFlags := 137, nameIndex := 88, descriptorIndex := 108, attributes := #[] }, { accessFlags := 9, nameIndex := 234, descriptorIndex := 115, attributes := #[] }] 1537 103 #[120] #[])
  fields := #[]
  methods := #[k8m0, k8m1, k8m2, k8m3, k8m4, k8m5, k8m6]
  instanceTypes := #[]
  staticTypes := #[]
  resolved := Array.replicate 251 none
  statics := none }

def pool9 : Array CpInfo := pool [(1, .methodref 2 3), (0, .class_ 4), (0, .nameAndType 5 6), (0, u "java/util/AbstractCollection"), (0, u "<init>"), (0, u "()V"), (0, .fieldref 8 9), (0, .class_ 10), (0, .nameAndType 11 12), (0, u "java/util/AbstractList"), (0, u "modCount"), (0, u "I"), (64, .class_ 78), (0, u "java/util/AbstractList$Itr"), (3, .class_ 83), (0, u "java/util/AbstractList$ListItr"), (9, .class_ 94), (0, u "java/util/AbstractList$RandomAccessSubList"), (3, .class_ 99), (0, u "java/util/AbstractList$SubList"), (33, .class_ 134), (0, u "java/util/List"), (73, .class_ 209), (0, u "java/util/AbstractList$SubList$1"), (0, .class_ 211), (0, u "java/util/AbstractList$RandomAccessSpliterator")] 6

def k9c0 : Code := { maxStack := 2, maxLocals := 1, code := jdk_39_method_1_code, exceptionTable := #[], attributes := #[] }
def k9m0 : Method := { name := "<init>", desc := "()V", sig := { parameters := [], returnType := none }, accessFlags := 4, code := some k9c0 }
/-- java/util/AbstractList -/
def k9 : Class := { plain "java/util/AbstractList" (some 6) with
  accessFlags := 1057
  interfaces := #[8]
  cf := some (fileOf pool9 8 #[.nestMembers #[93, 98, 208, 210, 82, 77]] #[{ accessFlags := 4, nameIndex := 5, descriptorIndex := 6, attributes := #[] }] 1057 2 #[133] #[{ accessFlags := 132, nameIndex := 11, descriptorIndex := 12, attributes := #[] }])
  fields := #[{ name := "modCount", type := .int, accessFlags := 132, slot := 0, constantValue := 0 }]
  methods := #[k9m0]
  instanceTypes := #[.int]
  staticTypes := #[]
  resolved := Array.replicate 218 none
  statics := none }

def pool10 : Array CpInfo := pool [(1, .class_ 2), (0, u "java/util/RandomAccess"), (0, .class_ 4), (0, u "java/lang/Object")] 2

/-- java/util/RandomAccess -/
def k10 : Class := { plain "java/util/RandomAccess" (some 0) with
  accessFlags := 1537
  interfaces := #[]
  cf := some (fileOf pool10 1 #[] #[] 1537 3 #[] #[])
  fields := #[]
  methods := #[]
  instanceTypes := #[]
  staticTypes := #[]
  resolved := Array.replicate 7 none
  statics := none }

def pool11 : Array CpInfo := pool [(1, .class_ 2), (0, u "java/lang/Cloneable"), (0, .class_ 4), (0, u "java/lang/Object")] 2

/-- java/lang/Cloneable -/
def k11 : Class := { plain "java/lang/Cloneable" (some 0) with
  accessFlags := 1537
  interfaces := #[]
  cf := some (fileOf pool11 1 #[] #[] 1537 3 #[] #[])
  fields := #[]
  methods := #[]
  instanceTypes := #[]
  staticTypes := #[]
  resolved := Array.replicate 7 none
  statics := none }

def pool12 : Array CpInfo := pool [(1, .class_ 2), (0, u "java/io/Serializable"), (0, .class_ 4), (0, u "java/lang/Object")] 2

/-- java/io/Serializable -/
def k12 : Class := { plain "java/io/Serializable" (some 0) with
  accessFlags := 1537
  interfaces := #[]
  cf := some (fileOf pool12 1 #[] #[] 1537 3 #[] #[])
  fields := #[]
  methods := #[]
  instanceTypes := #[]
  staticTypes := #[]
  resolved := Array.replicate 7 none
  statics := none }

def pool13 : Array CpInfo := pool [(1, .methodref 2 3), (0, .class_ 4), (0, .nameAndType 5 6), (0, u "java/util/AbstractList"), (0, u "<init>"), (0, u "()V"), (0, .class_ 8), (0, u "java/lang/Object"), (0, .fieldref 10 11), (0, .class_ 12), (0, .nameAndType 13 14), (0, u "java/util/ArrayList"), (0, u "elementData"), (0, u "[Ljava/lang/Object;"), (2, u "EMPTY_ELEMENTDATA"), (21, .fieldref 10 40), (0, .nameAndType 41 14), (0, u "DEFAULTCAPACITY_EMPTY_ELEMENTDATA"), (4, u "toArray"), (0, u "()[Ljava/lang/Object;"), (0, .fieldref 10 49), (0, .nameAndType 50 51), (0, u "size"), (0, u "I"), (6, .class_ 60), (1, u "java/util/Arrays"), (0, u "copyOf"), (1, .fieldref 10 64), (0, .nameAndType 65 51), (0, u "modCount"), (0, .methodref 58 67), (0, .nameAndType 61 68), (0, u "([Ljava/lang/Object;I)[Ljava/lang/Object;"), (0, .methodref 10 70), (0, .nameAndType 71 72), (0, u "grow"), (0, u "(I)[Ljava/lang/Object;"), (6, .methodref 80 81), (0, .class_ 82), (0, .nameAndType 83 84), (0, u "java/lang/Math"), (0, u "max"), (0, u "(II)I"), (11, u "(Ljava/lang/Object;)Z"), (32, .methodref 10 130), (0, .nameAndType 71 47), (0, .methodref 10 132), (0, .nameAndType 133 134), (0, u "add"), (0, u "(Ljava/lang/Object;[Ljava/lang/Object;I)V"), (13, .class_ 149), (0, u "java/util/List"), (23, u "()Z"), (88, .class_ 263), (0, u "java/util/ArrayList$ListItr"), (3, .class_ 268), (0, u "java/util/ArrayList$Itr"), (7, .class_ 277), (0, u "java/util/ArrayList$SubList"), (12, .class_ 291), (0, u "java/util/ArrayList$ArrayListSpliterator"), (37, .class_ 330), (0, u "java/util/RandomAccess"), (0, .class_ 332), (0, u "java/lang/Cloneable"), (0, .class_ 334), (0, u "java/io/Serializable"), (0, u "serialVersionUID"), (0, u "J"), (3, u "DEFAULT_CAPACITY"), (22, u "isEmpty"), (136, .class_ 501), (0, u "java/util/ArrayList$SubList$2"), (0, .class_ 503), (0, u "java/util/ArrayList$SubList$1")] 5

def k13c0 : Code := { maxStack := 2, maxLocals := 1, code := jdk_38_method_2_code, exceptionTable := #[], attributes := #[] }
def k13m0 : Method := { name := "<init>", desc := "()V", sig := { parameters := [], returnType := none }, accessFlags := 1, code := some k13c0 }
def k13c1 : Code := { maxStack := 4, maxLocals := 4, code := jdk_38_method_6_code, exceptionTable := #[], attributes := #[] }
def k13m1 : Method := { name := "grow", desc := "(I)[Ljava/lang/Object;", sig := { parameters := [.int], returnType := some (.array (.object "java/lang/Object")) }, accessFlags := 2, code := some k13c1 }
def k13c2 : Code := { maxStack := 3, maxLocals := 1, code := jdk_38_method_7_code, exceptionTable := #[], attributes := #[] }
def k13m2 : Method := { name := "grow", desc := "()[Ljava/lang/Object;", sig := { parameters := [], returnType := some (.array (.object "java/lang/Object")) }, accessFlags := 2, code := some k13c2 }
def k13c3 : Code := { maxStack := 1, maxLocals := 1, code := jdk_38_method_9_code, exceptionTable := #[], attributes := #[] }
def k13m3 : Method := { name := "isEmpty", desc := "()Z", sig := { parameters := [], returnType := some .boolean }, accessFlags := 1, code := some k13c3 }
def k13c4 : Code := { maxStack := 2, maxLocals := 1, code := jdk_38_method_16_code, exceptionTable := #[], attributes := #[] }
def k13m4 : Method := { name := "toArray", desc := "()[Ljava/lang/Object;", sig := { parameters := [], returnType := some (.array (.object "java/lang/Object")) }, accessFlags := 1, code := some k13c4 }
def k13c5 : Code := { maxStack := 3, maxLocals := 4, code := jdk_38_method_24_code, exceptionTable := #[], attributes := #[] }
def k13m5 : Method := { name := "add", desc := "(Ljava/lang/Object;[Ljava/lang/Object;I)V", sig := { parameters := [(.object "java/lang/Object"), (.array (.object "java/lang/Object")), .int], returnType := none }, accessFlags := 2, code := some k13c5 }
def k13c6 : Code := { maxStack := 4, maxLocals := 2, code := jdk_38_method_25_code, exceptionTable := #[], attributes := #[] }
def k13m6 : Method := { name := "add", desc := "(Ljava/lang/Object;)Z", sig := { parameters := [(.object "java/lang/Object")], returnType := some .boolean }, accessFlags := 1, code := some k13c6 }
/-- java/util/ArrayList -/
def k13 : Class := { plain "java/util/ArrayList" (some 9) with
  accessFlags := 33
  interfaces := #[8, 10, 11, 12]
  cf := some (fileOf pool13 10 #[.nestMembers #[290, 276, 500, 502, 262, 267]] #[{ accessFlags := 1, nameIndex := 5, descriptorIndex := 6, attributes := #[] }, { accessFlags := 2, nameIndex := 71, descriptorIndex := 72, attributes := #[] }, { accessFlags := 2, nameIndex := 71, descriptorIndex := 47, attributes := #[] }, { accessFlags := 1, nameIndex := 363, descriptorIndex := 173, attributes := #[] }, { accessFlags := 1, nameIndex := 46, descriptorIndex := 47, attributes := #[] }, { accessFlags := 2, nameIndex := 133, descriptorIndex := 134, attributes := #[] }, { accessFlags := 1, nameIndex := 133, descriptorIndex := 96, attributes := #[] }] 33 2 #[148, 329, 331, 333] #[{ accessFlags := 26, nameIndex := 335, descriptorIndex := 336, attributes := #[] }, { accessFlags := 26, nameIndex := 340, descriptorIndex := 51, attributes := #[] }, { accessFlags := 26, nameIndex := 17, descriptorIndex := 14, attributes := #[] }, { accessFlags := 26, nameIndex := 41, descriptorIndex := 14, attributes := #[] }, { accessFlags := 128, nameIndex := 13, descriptorIndex := 14, attributes := #[] }, { accessFlags := 2, nameIndex := 50, descriptorIndex := 51, attributes := #[] }])
  fields := #[{ name := "serialVersionUID", type := .long, accessFlags := 26, slot := 0, constantValue := 0 }, { name := "DEFAULT_CAPACITY", type := .int, accessFlags := 26, slot := 1, constantValue := 0 }, { name := "EMPTY_ELEMENTDATA", type := (.array (.object "java/lang/Object")), accessFlags := 26, slot := 2, constantValue := 0 }, { name := "DEFAULTCAPACITY_EMPTY_ELEMENTDATA", type := (.array (.object "java/lang/Object")), accessFlags := 26, slot := 3, constantValue := 0 }, { name := "elementData", type := (.array (.object "java/lang/Object")), accessFlags := 128, slot := 1, constantValue := 0 }, { name := "size", type := .int, accessFlags := 2, slot := 2, constantValue := 0 }]
  methods := #[k13m0, k13m1, k13m2, k13m3, k13m4, k13m5, k13m6]
  instanceTypes := #[.int, (.array (.object "java/lang/Object")), .int]
  staticTypes := #[.long, .int, (.array (.object "java/lang/Object")), (.array (.object "java/lang/Object"))]
  resolved := Array.replicate 509 none
  statics := some 0 }

def pool14 : Array CpInfo := pool [(1, .methodref 2 3), (0, .class_ 4), (0, .nameAndType 5 6), (0, u "java/lang/Record"), (0, u "<init>"), (0, u "()V"), (0, .interfaceMethodref 8 9), (0, .class_ 10), (0, .nameAndType 11 12), (0, u "java/util/List"), (0, u "copyOf"), (0, u "(Ljava/util/Collection;)Ljava/util/List;"), (0, .fieldref 14 15), (0, .class_ 16), (0, .nameAndType 17 18), (0, u "org/stripeward/scenario/Block"), (0, u "index"), (0, u "I"), (0, .fieldref 14 20), (0, .nameAndType 21 22), (0, u "name"), (0, u "Ljava/lang/String;"), (0, .fieldref 14 24), (0, .nameAndType 25 26), (0, u "holders"), (0, u "Ljava/util/List;"), (0, .fieldref 14 28), (0, .nameAndType 29 30), (0, u "stripe"), (0, u "Lorg/stripeward/scenario/Stripe;"), (0, .fieldref 14 32), (0, .nameAndType 33 34), (0, u "parity"), (0, u "Z"), (0, .fieldref 14 36), (0, .nameAndType 37 38), (0, u "sizeMiB"), (0, u "D"), (18, u "()I"), (14, u "(ILjava/lang/String;Ljava/util/List;Lorg/stripeward/scenario/Stripe;ZD)V"), (9, u "()Ljava/util/List;")] 28

def k14c0 : Code := { maxStack := 3, maxLocals := 8, code := prog_2_method_1_code, exceptionTable := #[], attributes := #[] }
def k14m0 : Method := { name := "<init>", desc := "(ILjava/lang/String;Ljava/util/List;Lorg/stripeward/scenario/Stripe;ZD)V", sig := { parameters := [.int, (.object "java/lang/String"), (.object "java/util/List"), (.object "org/stripeward/scenario/Stripe"), .boolean, .double], returnType := none }, accessFlags := 1, code := some k14c0 }
def k14c1 : Code := { maxStack := 1, maxLocals := 1, code := prog_2_method_6_code, exceptionTable := #[], attributes := #[] }
def k14m1 : Method := { name := "index", desc := "()I", sig := { parameters := [], returnType := some .int }, accessFlags := 1, code := some k14c1 }
def k14c2 : Code := { maxStack := 1, maxLocals := 1, code := prog_2_method_8_code, exceptionTable := #[], attributes := #[] }
def k14m2 : Method := { name := "holders", desc := "()Ljava/util/List;", sig := { parameters := [], returnType := some (.object "java/util/List") }, accessFlags := 1, code := some k14c2 }
/-- org/stripeward/scenario/Block -/
def k14 : Class := { plain "org/stripeward/scenario/Block" (some 2) with
  accessFlags := 49
  interfaces := #[]
  cf := some (fileOf pool14 14 #[] #[{ accessFlags := 1, nameIndex := 5, descriptorIndex := 72, attributes := #[] }, { accessFlags := 1, nameIndex := 17, descriptorIndex := 57, attributes := #[] }, { accessFlags := 1, nameIndex := 25, descriptorIndex := 82, attributes := #[] }] 49 2 #[] #[{ accessFlags := 18, nameIndex := 17, descriptorIndex := 18, attributes := #[] }, { accessFlags := 18, nameIndex := 21, descriptorIndex := 22, attributes := #[] }, { accessFlags := 18, nameIndex := 25, descriptorIndex := 26, attributes := #[] }, { accessFlags := 18, nameIndex := 29, descriptorIndex := 30, attributes := #[] }, { accessFlags := 18, nameIndex := 33, descriptorIndex := 34, attributes := #[] }, { accessFlags := 18, nameIndex := 37, descriptorIndex := 38, attributes := #[] }])
  fields := #[{ name := "index", type := .int, accessFlags := 18, slot := 0, constantValue := 0 }, { name := "name", type := (.object "java/lang/String"), accessFlags := 18, slot := 1, constantValue := 0 }, { name := "holders", type := (.object "java/util/List"), accessFlags := 18, slot := 2, constantValue := 0 }, { name := "stripe", type := (.object "org/stripeward/scenario/Stripe"), accessFlags := 18, slot := 3, constantValue := 0 }, { name := "parity", type := .boolean, accessFlags := 18, slot := 4, constantValue := 0 }, { name := "sizeMiB", type := .double, accessFlags := 18, slot := 5, constantValue := 0 }]
  methods := #[k14m0, k14m1, k14m2]
  instanceTypes := #[.int, (.object "java/lang/String"), (.object "java/util/List"), (.object "org/stripeward/scenario/Stripe"), .boolean, .double]
  staticTypes := #[]
  resolved := Array.replicate 111 none
  statics := none }

def pool15 : Array CpInfo := pool [(2, .class_ 4), (1, u "java/lang/Object"), (0, u "<init>"), (0, u "()V"), (3, .class_ 11), (0, u "java/util/ImmutableCollections$List12"), (0, .class_ 13), (0, u "java/util/ImmutableCollections$ListN"), (3, u "Z"), (0, .class_ 19), (0, u "java/util/List"), (0, .interfaceMethodref 21 22), (0, .class_ 23), (0, .nameAndType 24 25), (0, u "java/util/Collection"), (0, u "isEmpty"), (0, u "()Z"), (0, .interfaceMethodref 18 27), (0, .nameAndType 28 29), (0, u "of"), (0, u "()Ljava/util/List;"), (0, .interfaceMethodref 21 31), (0, .nameAndType 32 33), (0, u "toArray"), (0, u "()[Ljava/lang/Object;"), (0, .interfaceMethodref 18 35), (0, .nameAndType 28 36), (0, u "([Ljava/lang/Object;)Ljava/util/List;"), (10, .class_ 49), (1, u "java/util/ImmutableCollections"), (0, u "$assertionsDisabled"), (5, u "[Ljava/lang/Object;"), (5, u "EMPTY_LIST"), (0, u "Ljava/util/ImmutableCollections$ListN;"), (8, u "EMPTY_LIST_NULLS"), (22, u "SALT32L"), (0, u "J"), (2, u "REVERSE"), (6, u "archivedObjects"), (2, u "EMPTY"), (0, u "Ljava/lang/Object;"), (0, .class_ 112), (0, u "java/util/ImmutableCollections$SetN"), (5, u "EMPTY_SET"), (0, u "Ljava/util/ImmutableCollections$SetN;"), (0, .class_ 121), (0, u "java/util/ImmutableCollections$MapN"), (3, u "EMPTY_MAP"), (0, u "Ljava/util/ImmutableCollections$MapN;"), (4, u "EXPAND_FACTOR"), (0, u "I"), (9, u "listCopy"), (0, u "(Ljava/util/Collection;)Ljava/util/List;"), (25, .class_ 170), (0, u "java/util/ImmutableCollections$MapN$MapNIterator"), (0, .class_ 172), (0, u "java/util/ImmutableCollections$MapN$1"), (0, .class_ 174), (0, u "java/util/ImmutableCollections$Map1"), (0, .class_ 176), (0, u "java/util/ImmutableCollections$AbstractImmutableMap"), (0, .class_ 178), (0, u "java/util/ImmutableCollections$SetN$SetNIterator"), (0, .class_ 180), (0, u "java/util/ImmutableCollections$Set12"), (0, .class_ 182), (0, u "java/util/ImmutableCollections$Set12$1"), (0, .class_ 184), (0, u "java/util/ImmutableCollections$AbstractImmutableSet"), (0, .class_ 186), (0, u "java/util/ImmutableCollections$SubList"), (0, .class_ 188), (0, u "java/util/ImmutableCollections$ListItr"), (0, .class_ 190), (0, u "java/util/ImmutableCollections$AbstractImmutableList"), (0, .class_ 192), (0, u "java/util/ImmutableCollections$AbstractImmutableCollection"), (0, .class_ 194), (0, u "java/util/ImmutableCollections$Access"), (0, .class_ 196), (0, u "java/util/ImmutableCollections$Access$1")] 16

def k15m0 : Method := { name := "<init>", desc := "()V", sig := { parameters := [], returnType := none }, accessFlags := 2, code := none }
def k15c1 : Code := { maxStack := 1, maxLocals := 2, code := jdk_56_method_3_code, exceptionTable := #[], attributes := #[] }
def k15m1 : Method := { name := "listCopy", desc := "(Ljava/util/Collection;)Ljava/util/List;", sig := { parameters := [(.object "java/util/Collection")], returnType := some (.object "java/util/List") }, accessFlags := 8, code := some k15c1 }
/-- java/util/ImmutableCollections -/
def k15 : Class := { plain "java/util/ImmutableCollections" (some 0) with
  accessFlags := 32
  interfaces := #[]
  cf := some (fileOf pool15 47 #[.nestMembers #[120, 169, 171, 173, 175, 111, 177, 179, 181, 183, 12, 10, 185, 187, 189, 191, 193, 195]] #[{ accessFlags := 2, nameIndex := 5, descriptorIndex := 6, attributes := #[] }, { accessFlags := 8, nameIndex := 142, descriptorIndex := 143, attributes := #[] }] 32 2 #[] #[{ accessFlags := 26, nameIndex := 95, descriptorIndex := 96, attributes := #[] }, { accessFlags := 26, nameIndex := 99, descriptorIndex := 17, attributes := #[] }, { accessFlags := 10, nameIndex := 106, descriptorIndex := 56, attributes := #[] }, { accessFlags := 26, nameIndex := 109, descriptorIndex := 110, attributes := #[] }, { accessFlags := 24, nameIndex := 62, descriptorIndex := 63, attributes := #[] }, { accessFlags := 24, nameIndex := 72, descriptorIndex := 63, attributes := #[] }, { accessFlags := 24, nameIndex := 118, descriptorIndex := 119, attributes := #[] }, { accessFlags := 24, nameIndex := 125, descriptorIndex := 126, attributes := #[] }, { accessFlags := 24, nameIndex := 131, descriptorIndex := 132, attributes := #[] }, { accessFlags := 4120, nameIndex := 50, descriptorIndex := 17, attributes := #[] }])
  fields := #[{ name := "SALT32L", type := .long, accessFlags := 26, slot := 0, constantValue := 0 }, { name := "REVERSE", type := .boolean, accessFlags := 26, slot := 1, constantValue := 0 }, { name := "archivedObjects", type := (.array (.object "java/lang/Object")), accessFlags := 10, slot := 2, constantValue := 0 }, { name := "EMPTY", type := (.object "java/lang/Object"), accessFlags := 26, slot := 3, constantValue := 0 }, { name := "EMPTY_LIST", type := (.object "java/util/ImmutableCollections$ListN"), accessFlags := 24, slot := 4, constantValue := 0 }, { name := "EMPTY_LIST_NULLS", type := (.object "java/util/ImmutableCollections$ListN"), accessFlags := 24, slot := 5, constantValue := 0 }, { name := "EMPTY_SET", type := (.object "java/util/ImmutableCollections$SetN"), accessFlags := 24, slot := 6, constantValue := 0 }, { name := "EMPTY_MAP", type := (.object "java/util/ImmutableCollections$MapN"), accessFlags := 24, slot := 7, constantValue := 0 }, { name := "EXPAND_FACTOR", type := .int, accessFlags := 24, slot := 8, constantValue := 0 }, { name := "$assertionsDisabled", type := .boolean, accessFlags := 4120, slot := 9, constantValue := 0 }]
  methods := #[k15m0, k15m1]
  instanceTypes := #[]
  staticTypes := #[.long, .boolean, (.array (.object "java/lang/Object")), (.object "java/lang/Object"), (.object "java/util/ImmutableCollections$ListN"), (.object "java/util/ImmutableCollections$ListN"), (.object "java/util/ImmutableCollections$SetN"), (.object "java/util/ImmutableCollections$MapN"), .int, .boolean]
  resolved := Array.replicate 213 none
  statics := some 1 }

def pool16 : Array CpInfo := pool [(1, .methodref 2 3), (0, .class_ 4), (0, .nameAndType 5 6), (0, u "java/util/AbstractCollection"), (0, u "<init>"), (0, u "()V"), (1, .class_ 10), (1, u "java/util/ImmutableCollections"), (2, .class_ 14), (0, u "java/util/ImmutableCollections$AbstractImmutableCollection")] 41

def k16c0 : Code := { maxStack := 1, maxLocals := 1, code := jdk_47_method_1_code, exceptionTable := #[], attributes := #[] }
def k16m0 : Method := { name := "<init>", desc := "()V", sig := { parameters := [], returnType := none }, accessFlags := 0, code := some k16c0 }
/-- java/util/ImmutableCollections$AbstractImmutableCollection -/
def k16 : Class := { plain "java/util/ImmutableCollections$AbstractImmutableCollection" (some 6) with
  accessFlags := 1056
  interfaces := #[]
  cf := some (fileOf pool16 13 #[.nestHost 8] #[{ accessFlags := 0, nameIndex := 5, descriptorIndex := 6, attributes := #[] }] 1056 2 #[] #[])
  fields := #[]
  methods := #[k16m0]
  instanceTypes := #[]
  staticTypes := #[]
  resolved := Array.replicate 56 none
  statics := none }

def pool17 : Array CpInfo := pool [(1, .methodref 2 3), (0, .class_ 4), (0, .nameAndType 5 6), (0, u "java/util/ImmutableCollections$AbstractImmutableCollection"), (0, u "<init>"), (0, u "()V"), (1, .class_ 10), (1, u "java/util/ImmutableCollections"), (3, .class_ 16), (1, u "java/util/ImmutableCollections$AbstractImmutableList"), (60, .class_ 78), (0, u "java/util/List"), (45, .class_ 125), (0, u "java/util/RandomAccess")] 70

def k17c0 : Code := { maxStack := 1, maxLocals := 1, code := jdk_46_method_1_code, exceptionTable := #[], attributes := #[] }
def k17m0 : Method := { name := "<init>", desc := "()V", sig := { parameters := [], returnType := none }, accessFlags := 0, code := some k17c0 }
/-- java/util/ImmutableCollections$AbstractImmutableList -/
def k17 : Class := { plain "java/util/ImmutableCollections$AbstractImmutableList" (some 16) with
  accessFlags := 1056
  interfaces := #[8, 10]
  cf := some (fileOf pool17 14 #[.nestHost 8] #[{ accessFlags := 0, nameIndex := 5, descriptorIndex := 6, attributes := #[] }] 1056 2 #[77, 124] #[])
  fields := #[]
  methods := #[k17m0]
  instanceTypes := #[]
  staticTypes := #[]
  resolved := Array.replicate 196 none
  statics := none }

def pool18 : Array CpInfo := pool [(1, .methodref 2 3), (0, .class_ 4), (0, .nameAndType 5 6), (0, u "java/util/ImmutableCollections$AbstractImmutableList"), (0, u "<init>"), (0, u "()V"), (0, .methodref 8 9), (0, .class_ 10), (0, .nameAndType 11 12), (0, u "java/util/Objects"), (0, u "requireNonNull"), (0, u "(Ljava/lang/Object;)Ljava/lang/Object;"), (0, .fieldref 14 15), (0, .class_ 16), (0, .nameAndType 17 18), (0, u "java/util/ImmutableCollections$List12"), (0, u "e0"), (0, u "Ljava/lang/Object;"), (0, .fieldref 20 21), (0, .class_ 22), (0, .nameAndType 23 18), (0, u "java/util/ImmutableCollections"), (0, u "EMPTY"), (0, .fieldref 14 25), (0, .nameAndType 26 18), (0, u "e1"), (24, u "size"), (0, u "()I"), (17, .class_ 71), (0, u "java/io/Serializable"), (4, u "(Ljava/lang/Object;)V"), (8, u "(Ljava/lang/Object;Ljava/lang/Object;)V"), (4, u "get"), (0, u "(I)Ljava/lang/Object;")] 33

def k18c0 : Code := { maxStack := 2, maxLocals := 2, code := jdk_44_method_1_code, exceptionTable := #[], attributes := #[] }
def k18m0 : Method := { name := "<init>", desc := "(Ljava/lang/Object;)V", sig := { parameters := [(.object "java/lang/Object")], returnType := none }, accessFlags := 0, code := some k18c0 }
def k18c1 : Code := { maxStack := 2, maxLocals := 3, code := jdk_44_method_2_code, exceptionTable := #[], attributes := #[] }
def k18m1 : Method := { name := "<init>", desc := "(Ljava/lang/Object;Ljava/lang/Object;)V", sig := { parameters := [(.object "java/lang/Object"), (.object "java/lang/Object")], returnType := none }, accessFlags := 0, code := some k18c1 }
def k18c2 : Code := { maxStack := 2, maxLocals := 1, code := jdk_44_method_3_code, exceptionTable := #[], attributes := #[] }
def k18m2 : Method := { name := "size", desc := "()I", sig := { parameters := [], returnType := some .int }, accessFlags := 1, code := some k18c2 }
def k18c3 : Code := { maxStack := 2, maxLocals := 2, code := jdk_44_method_5_code, exceptionTable := #[], attributes := #[] }
def k18m3 : Method := { name := "get", desc := "(I)Ljava/lang/Object;", sig := { parameters := [.int], returnType := some (.object "java/lang/Object") }, accessFlags := 1, code := some k18c3 }
/-- java/util/ImmutableCollections$List12 -/
def k18 : Class := { plain "java/util/ImmutableCollections$List12" (some 17) with
  accessFlags := 48
  interfaces := #[12]
  cf := some (fileOf pool18 14 #[.nestHost 20] #[{ accessFlags := 0, nameIndex := 5, descriptorIndex := 76, attributes := #[] }, { accessFlags := 0, nameIndex := 5, descriptorIndex := 85, attributes := #[] }, { accessFlags := 1, nameIndex := 51, descriptorIndex := 52, attributes := #[] }, { accessFlags := 1, nameIndex := 90, descriptorIndex := 91, attributes := #[] }] 48 2 #[70] #[{ accessFlags := 18, nameIndex := 17, descriptorIndex := 18, attributes := #[] }, { accessFlags := 18, nameIndex := 26, descriptorIndex := 18, attributes := #[] }])
  fields := #[{ name := "e0", type := (.object "java/lang/Object"), accessFlags := 18, slot := 0, constantValue := 0 }, { name := "e1", type := (.object "java/lang/Object"), accessFlags := 18, slot := 1, constantValue := 0 }]
  methods := #[k18m0, k18m1, k18m2, k18m3]
  instanceTypes := #[(.object "java/lang/Object"), (.object "java/lang/Object")]
  staticTypes := #[]
  resolved := Array.replicate 125 none
  statics := none }

def pool19 : Array CpInfo := pool [(2, .class_ 4), (1, u "java/util/ImmutableCollections$AbstractImmutableList"), (2, .fieldref 8 9), (0, .class_ 10), (0, .nameAndType 11 12), (0, u "java/util/ImmutableCollections$ListN"), (0, u "elements"), (0, u "[Ljava/lang/Object;"), (2, u "allowNulls"), (0, u "Z"), (42, .class_ 60), (0, u "java/io/Serializable"), (16, u "size"), (0, u "()I"), (35, .class_ 115), (0, u "java/util/ImmutableCollections")] 3

def k19c0 : Code := { maxStack := 1, maxLocals := 1, code := jdk_45_method_3_code, exceptionTable := #[], attributes := #[] }
def k19m0 : Method := { name := "size", desc := "()I", sig := { parameters := [], returnType := some .int }, accessFlags := 1, code := some k19c0 }
/-- java/util/ImmutableCollections$ListN -/
def k19 : Class := { plain "java/util/ImmutableCollections$ListN" (some 17) with
  accessFlags := 48
  interfaces := #[12]
  cf := some (fileOf pool19 8 #[.nestHost 114] #[{ accessFlags := 1, nameIndex := 77, descriptorIndex := 78, attributes := #[] }] 48 2 #[59] #[{ accessFlags := 18, nameIndex := 11, descriptorIndex := 12, attributes := #[] }, { accessFlags := 18, nameIndex := 15, descriptorIndex := 16, attributes := #[] }])
  fields := #[{ name := "elements", type := (.array (.object "java/lang/Object")), accessFlags := 18, slot := 0, constantValue := 0 }, { name := "allowNulls", type := .boolean, accessFlags := 18, slot := 1, constantValue := 0 }]
  methods := #[k19m0]
  instanceTypes := #[(.array (.object "java/lang/Object")), .boolean]
  staticTypes := #[]
  resolved := Array.replicate 119 none
  statics := none }

def pool20 : Array CpInfo := pool [(1, .methodref 2 3), (0, .class_ 4), (0, .nameAndType 5 6), (0, u "java/util/AbstractList"), (0, u "<init>"), (0, u "()V"), (0, .fieldref 8 9), (0, .class_ 10), (0, .nameAndType 11 12), (0, u "org/stripeward/scenario/Blocks"), (0, u "source"), (0, u "Lorg/stripeward/scenario/Blocks$Source;"), (0, .fieldref 8 14), (0, .nameAndType 15 16), (0, u "places"), (0, u "[I"), (0, .fieldref 8 18), (0, .nameAndType 19 20), (0, u "first"), (0, u "I"), (0, .fieldref 8 22), (0, .nameAndType 23 20), (0, u "size"), (0, .interfaceMethodref 25 26), (0, .class_ 27), (0, .nameAndType 28 29), (0, u "java/util/List"), (0, u "isEmpty"), (0, u "()Z"), (0, .fieldref 8 31), (0, .nameAndType 32 33), (0, u "NONE"), (0, u "Lorg/stripeward/scenario/Blocks;"), (0, .interfaceMethodref 25 35), (0, .nameAndType 36 37), (0, u "copyOf"), (0, u "(Ljava/util/Collection;)Ljava/util/List;"), (0, .class_ 39), (0, u "org/stripeward/scenario/Blocks$Records"), (0, .methodref 38 41), (0, .nameAndType 5 42), (0, u "(Ljava/util/List;)V"), (0, .interfaceMethodref 25 44), (0, .nameAndType 23 45), (0, u "()I"), (0, .methodref 8 47), (0, .nameAndType 5 48), (0, u "(Lorg/stripeward/scenario/Blocks$Source;[III)V"), (1, .class_ 51), (0, u "org/stripeward/scenario/Blocks$Source"), (15, .methodref 8 68), (0, .nameAndType 69 70), (0, u "place"), (0, u "(I)I"), (0, .interfaceMethodref 50 72), (0, .nameAndType 73 74), (0, u "block"), (0, u "(I)Lorg/stripeward/scenario/Block;"), (0, .interfaceMethodref 50 76), (0, .nameAndType 77 70), (0, u "index"), (0, .interfaceMethodref 50 79), (0, .nameAndType 80 70), (0, u "holderCount"), (17, u "get"), (2, u "of"), (1, .class_ 104), (0, u "java/util/RandomAccess"), (2, u "(Ljava/util/List;)Lorg/stripeward/scenario/Blocks;")] 35

def k20c0 : Code := { maxStack := 2, maxLocals := 5, code := prog_3_method_1_code, exceptionTable := #[], attributes := #[] }
def k20m0 : Method := { name := "<init>", desc := "(Lorg/stripeward/scenario/Blocks$Source;[III)V", sig := { parameters := [(.object "org/stripeward/scenario/Blocks$Source"), (.array .int), .int, .int], returnType := none }, accessFlags := 2, code := some k20c0 }
def k20c1 : Code := { maxStack := 6, maxLocals := 2, code := prog_3_method_2_code, exceptionTable := #[], attributes := #[] }
def k20m1 : Method := { name := "of", desc := "(Ljava/util/List;)Lorg/stripeward/scenario/Blocks;", sig := { parameters := [(.object "java/util/List")], returnType := some (.object "org/stripeward/scenario/Blocks") }, accessFlags := 9, code := some k20c1 }
def k20c2 : Code := { maxStack := 3, maxLocals := 2, code := prog_3_method_6_code, exceptionTable := #[], attributes := #[] }
def k20m2 : Method := { name := "get", desc := "(I)Lorg/stripeward/scenario/Block;", sig := { parameters := [.int], returnType := some (.object "org/stripeward/scenario/Block") }, accessFlags := 1, code := some k20c2 }
def k20c3 : Code := { maxStack := 1, maxLocals := 1, code := prog_3_method_7_code, exceptionTable := #[], attributes := #[] }
def k20m3 : Method := { name := "size", desc := "()I", sig := { parameters := [], returnType := some .int }, accessFlags := 1, code := some k20c3 }
def k20c4 : Code := { maxStack := 3, maxLocals := 2, code := prog_3_method_8_code, exceptionTable := #[], attributes := #[] }
def k20m4 : Method := { name := "index", desc := "(I)I", sig := { parameters := [.int], returnType := some .int }, accessFlags := 1, code := some k20c4 }
def k20c5 : Code := { maxStack := 3, maxLocals := 2, code := prog_3_method_9_code, exceptionTable := #[], attributes := #[] }
def k20m5 : Method := { name := "holderCount", desc := "(I)I", sig := { parameters := [.int], returnType := some .int }, accessFlags := 1, code := some k20c5 }
def k20c6 : Code := { maxStack := 3, maxLocals := 2, code := prog_3_method_13_code, exceptionTable := #[], attributes := #[] }
def k20m6 : Method := { name := "place", desc := "(I)I", sig := { parameters := [.int], returnType := some .int }, accessFlags := 2, code := some k20c6 }
/-- org/stripeward/scenario/Blocks -/
def k20 : Class := { plain "org/stripeward/scenario/Blocks" (some 9) with
  accessFlags := 49
  interfaces := #[10]
  cf := some (fileOf pool20 8 #[.nestMembers #[38, 50]] #[{ accessFlags := 2, nameIndex := 5, descriptorIndex := 48, attributes := #[] }, { accessFlags := 9, nameIndex := 101, descriptorIndex := 107, attributes := #[] }, { accessFlags := 1, nameIndex := 98, descriptorIndex := 74, attributes := #[] }, { accessFlags := 1, nameIndex := 23, descriptorIndex := 45, attributes := #[] }, { accessFlags := 1, nameIndex := 77, descriptorIndex := 70, attributes := #[] }, { accessFlags := 1, nameIndex := 80, descriptorIndex := 70, attributes := #[] }, { accessFlags := 2, nameIndex := 69, descriptorIndex := 70, attributes := #[] }] 49 2 #[103] #[{ accessFlags := 26, nameIndex := 32, descriptorIndex := 33, attributes := #[] }, { accessFlags := 18, nameIndex := 11, descriptorIndex := 12, attributes := #[] }, { accessFlags := 18, nameIndex := 15, descriptorIndex := 16, attributes := #[] }, { accessFlags := 18, nameIndex := 19, descriptorIndex := 20, attributes := #[] }, { accessFlags := 18, nameIndex := 23, descriptorIndex := 20, attributes := #[] }])
  fields := #[{ name := "NONE", type := (.object "org/stripeward/scenario/Blocks"), accessFlags := 26, slot := 0, constantValue := 0 }, { name := "source", type := (.object "org/stripeward/scenario/Blocks$Source"), accessFlags := 18, slot := 1, constantValue := 0 }, { name := "places", type := (.array .int), accessFlags := 18, slot := 2, constantValue := 0 }, { name := "first", type := .int, accessFlags := 18, slot := 3, constantValue := 0 }, { name := "size", type := .int, accessFlags := 18, slot := 4, constantValue := 0 }]
  methods := #[k20m0, k20m1, k20m2, k20m3, k20m4, k20m5, k20m6]
  instanceTypes := #[.int, (.object "org/stripeward/scenario/Blocks$Source"), (.array .int), .int, .int]
  staticTypes := #[(.object "org/stripeward/scenario/Blocks")]
  resolved := Array.replicate 143 none
  statics := some 2 }

def pool21 : Array CpInfo := pool [(1, .class_ 2), (0, u "java/lang/Math"), (1, .class_ 6), (1, u "java/lang/Object"), (0, u "<init>"), (0, u "()V"), (89, .class_ 100), (1, u "java/lang/Math$RandomNumberGeneratorHolder"), (71, u "negativeZeroFloatBits"), (0, u "J"), (2, u "negativeZeroDoubleBits"), (21, u "max"), (2, u "min"), (43, u "$assertionsDisabled"), (0, u "Z"), (88, u "(II)I"), (2, u "twoToTheDoubleScaleDown"), (0, u "D"), (4, u "twoToTheDoubleScaleUp"), (9, u "E"), (3, u "PI"), (2, u "TAU"), (2, u "DEGREES_TO_RADIANS"), (0, u "RADIANS_TO_DEGREES")] 94

def k21m0 : Method := { name := "<init>", desc := "()V", sig := { parameters := [], returnType := none }, accessFlags := 2, code := none }
def k21c1 : Code := { maxStack := 2, maxLocals := 2, code := jdk_29_method_65_code, exceptionTable := #[], attributes := #[] }
def k21m1 : Method := { name := "max", desc := "(II)I", sig := { parameters := [.int, .int], returnType := some .int }, accessFlags := 9, code := some k21c1 }
def k21c2 : Code := { maxStack := 2, maxLocals := 2, code := jdk_29_method_69_code, exceptionTable := #[], attributes := #[] }
def k21m2 : Method := { name := "min", desc := "(II)I", sig := { parameters := [.int, .int], returnType := some .int }, accessFlags := 9, code := some k21c2 }
/-- java/lang/Math -/
def k21 : Class := { plain "java/lang/Math" (some 0) with
  accessFlags := 49
  interfaces := #[]
  cf := some (fileOf pool21 1 #[.nestMembers #[98]] #[{ accessFlags := 2, nameIndex := 7, descriptorIndex := 8, attributes := #[] }, { accessFlags := 9, nameIndex := 198, descriptorIndex := 335, attributes := #[] }, { accessFlags := 9, nameIndex := 201, descriptorIndex := 335, attributes := #[] }] 49 4 #[] #[{ accessFlags := 25, nameIndex := 354, descriptorIndex := 339, attributes := #[] }, { accessFlags := 25, nameIndex := 358, descriptorIndex := 339, attributes := #[] }, { accessFlags := 25, nameIndex := 361, descriptorIndex := 339, attributes := #[] }, { accessFlags := 26, nameIndex := 364, descriptorIndex := 339, attributes := #[] }, { accessFlags := 26, nameIndex := 365, descriptorIndex := 339, attributes := #[] }, { accessFlags := 26, nameIndex := 172, descriptorIndex := 173, attributes := #[] }, { accessFlags := 26, nameIndex := 176, descriptorIndex := 173, attributes := #[] }, { accessFlags := 8, nameIndex := 344, descriptorIndex := 339, attributes := #[] }, { accessFlags := 8, nameIndex := 338, descriptorIndex := 339, attributes := #[] }, { accessFlags := 4120, nameIndex := 245, descriptorIndex := 246, attributes := #[] }])
  fields := #[{ name := "E", type := .double, accessFlags := 25, slot := 0, constantValue := 0 }, { name := "PI", type := .double, accessFlags := 25, slot := 1, constantValue := 0 }, { name := "TAU", type := .double, accessFlags := 25, slot := 2, constantValue := 0 }, { name := "DEGREES_TO_RADIANS", type := .double, accessFlags := 26, slot := 3, constantValue := 0 }, { name := "RADIANS_TO_DEGREES", type := .double, accessFlags := 26, slot := 4, constantValue := 0 }, { name := "negativeZeroFloatBits", type := .long, accessFlags := 26, slot := 5, constantValue := 0 }, { name := "negativeZeroDoubleBits", type := .long, accessFlags := 26, slot := 6, constantValue := 0 }, { name := "twoToTheDoubleScaleUp", type := .double, accessFlags := 8, slot := 7, constantValue := 0 }, { name := "twoToTheDoubleScaleDown", type := .double, accessFlags := 8, slot := 8, constantValue := 0 }, { name := "$assertionsDisabled", type := .boolean, accessFlags := 4120, slot := 9, constantValue := 0 }]
  methods := #[k21m0, k21m1, k21m2]
  instanceTypes := #[]
  staticTypes := #[.double, .double, .double, .double, .double, .long, .long, .double, .double, .boolean]
  resolved := Array.replicate 460 none
  statics := none }

def pool22 : Array CpInfo := pool [(2, .class_ 4), (1, u "java/lang/Object"), (0, u "<init>"), (0, u "()V"), (7, .class_ 16), (1, u "java/util/Arrays"), (57, .class_ 76), (1, u "java/util/Arrays$NaturalOrder"), (9, .methodref 2 87), (0, .nameAndType 88 89), (0, u "getClass"), (0, u "()Ljava/lang/Class;"), (20, .class_ 111), (0, u "[Ljava/lang/Object;"), (1, .class_ 115), (1, u "java/util/Arrays$LegacyMergeSort"), (1, u "Z"), (32, .methodref 151 152), (0, .class_ 153), (0, .nameAndType 154 155), (0, u "java/lang/System"), (0, u "arraycopy"), (0, u "(Ljava/lang/Object;ILjava/lang/Object;II)V"), (144, .methodref 14 301), (0, .nameAndType 302 303), (0, u "copyOf"), (0, u "([Ljava/lang/Object;ILjava/lang/Class;)[Ljava/lang/Object;"), (0, .methodref 305 306), (0, .class_ 307), (0, .nameAndType 308 309), (0, u "java/lang/Math"), (0, u "min"), (0, u "(II)I"), (65, .class_ 376), (0, u "java/util/Arrays$ArrayList"), (68, u "$assertionsDisabled"), (269, u "MIN_ARRAY_SORT_GRAN"), (0, u "I"), (2, u "INSERTIONSORT_THRESHOLD"), (140, u "([Ljava/lang/Object;I)[Ljava/lang/Object;"), (114, .class_ 976), (0, u "java/util/Arrays$ArrayItr")] 52

def k22m0 : Method := { name := "<init>", desc := "()V", sig := { parameters := [], returnType := none }, accessFlags := 2, code := none }
def k22c1 : Code := { maxStack := 3, maxLocals := 2, code := jdk_65_method_119_code, exceptionTable := #[], attributes := #[] }
def k22m1 : Method := { name := "copyOf", desc := "([Ljava/lang/Object;I)[Ljava/lang/Object;", sig := { parameters := [(.array (.object "java/lang/Object")), .int], returnType := some (.array (.object "java/lang/Object")) }, accessFlags := 9, code := some k22c1 }
def k22c2 : Code := { maxStack := 6, maxLocals := 4, code := jdk_65_method_120_code, exceptionTable := #[], attributes := #[] }
def k22m2 : Method := { name := "copyOf", desc := "([Ljava/lang/Object;ILjava/lang/Class;)[Ljava/lang/Object;", sig := { parameters := [(.array (.object "java/lang/Object")), .int, (.object "java/lang/Class")], returnType := some (.array (.object "java/lang/Object")) }, accessFlags := 9, code := some k22c2 }
/-- java/util/Arrays -/
def k22 : Class := { plain "java/util/Arrays" (some 0) with
  accessFlags := 49
  interfaces := #[]
  cf := some (fileOf pool22 14 #[.nestMembers #[975, 375, 113, 74]] #[{ accessFlags := 2, nameIndex := 5, descriptorIndex := 6, attributes := #[] }, { accessFlags := 9, nameIndex := 302, descriptorIndex := 860, attributes := #[] }, { accessFlags := 9, nameIndex := 302, descriptorIndex := 303, attributes := #[] }] 49 2 #[] #[{ accessFlags := 26, nameIndex := 715, descriptorIndex := 716, attributes := #[] }, { accessFlags := 26, nameIndex := 719, descriptorIndex := 716, attributes := #[] }, { accessFlags := 4120, nameIndex := 445, descriptorIndex := 117, attributes := #[] }])
  fields := #[{ name := "MIN_ARRAY_SORT_GRAN", type := .int, accessFlags := 26, slot := 0, constantValue := 0 }, { name := "INSERTIONSORT_THRESHOLD", type := .int, accessFlags := 26, slot := 1, constantValue := 0 }, { name := "$assertionsDisabled", type := .boolean, accessFlags := 4120, slot := 2, constantValue := 0 }]
  methods := #[k22m0, k22m1, k22m2]
  instanceTypes := #[]
  staticTypes := #[.int, .int, .boolean]
  resolved := Array.replicate 1029 none
  statics := none }

def pool23 : Array CpInfo := pool [(2, .class_ 4), (1, u "java/lang/Object"), (0, u "<init>"), (0, u "()V"), (1, .class_ 10), (1, u "java/lang/System"), (0, u "allowSecurityManager"), (0, u "I"), (16, u "cons"), (0, u "Ljava/io/Console;"), (77, .class_ 110), (1, u "java/lang/System$CallersHolder"), (43, u "initialErrStream"), (0, u "Ljava/io/PrintStream;"), (19, u "security"), (0, u "Ljava/lang/SecurityManager;"), (31, .class_ 209), (0, u "java/lang/System$1"), (7, u "props"), (0, u "Ljava/util/Properties;"), (2, u "lineSeparator"), (0, u "Ljava/lang/String;"), (96, .class_ 321), (1, u "java/lang/System$LoggerFinder"), (5, .class_ 328), (0, u "java/lang/System$Logger"), (67, u "err"), (2, u "out"), (91, u "notSupportedJnuEncoding"), (15, u "in"), (17, u "initialIn"), (0, u "Ljava/io/InputStream;"), (35, u "bootLayer"), (0, u "Ljava/lang/ModuleLayer;"), (99, .class_ 664), (0, u "java/lang/System$2"), (9, u "NEVER"), (2, u "MAYBE"), (49, u "arraycopy"), (0, u "(Ljava/lang/Object;ILjava/lang/Object;II)V"), (72, .class_ 802), (0, u "java/lang/System$Logger$Level")] 31

def k23m0 : Method := { name := "<init>", desc := "()V", sig := { parameters := [], returnType := none }, accessFlags := 2, code := none }
def k23m1 : Method := { name := "arraycopy", desc := "(Ljava/lang/Object;ILjava/lang/Object;II)V", sig := { parameters := [(.object "java/lang/Object"), .int, (.object "java/lang/Object"), .int, .int], returnType := none }, accessFlags := 265, code := none }
/-- java/lang/System -/
def k23 : Class := { plain "java/lang/System" (some 0) with
  accessFlags := 49
  interfaces := #[]
  cf := some (fileOf pool23 8 #[.nestMembers #[319, 327, 801, 108, 663, 208]] #[{ accessFlags := 2, nameIndex := 5, descriptorIndex := 6, attributes := #[] }, { accessFlags := 265, nameIndex := 727, descriptorIndex := 728, attributes := #[] }] 49 2 #[] #[{ accessFlags := 25, nameIndex := 507, descriptorIndex := 526, attributes := #[] }, { accessFlags := 25, nameIndex := 399, descriptorIndex := 155, attributes := #[] }, { accessFlags := 25, nameIndex := 396, descriptorIndex := 155, attributes := #[] }, { accessFlags := 10, nameIndex := 525, descriptorIndex := 526, attributes := #[] }, { accessFlags := 26, nameIndex := 674, descriptorIndex := 12, attributes := #[] }, { accessFlags := 26, nameIndex := 677, descriptorIndex := 12, attributes := #[] }, { accessFlags := 10, nameIndex := 11, descriptorIndex := 12, attributes := #[] }, { accessFlags := 74, nameIndex := 175, descriptorIndex := 176, attributes := #[] }, { accessFlags := 10, nameIndex := 491, descriptorIndex := 222, attributes := #[] }, { accessFlags := 74, nameIndex := 29, descriptorIndex := 30, attributes := #[] }, { accessFlags := 74, nameIndex := 154, descriptorIndex := 155, attributes := #[] }, { accessFlags := 10, nameIndex := 217, descriptorIndex := 218, attributes := #[] }, { accessFlags := 10, nameIndex := 221, descriptorIndex := 222, attributes := #[] }, { accessFlags := 8, nameIndex := 562, descriptorIndex := 563, attributes := #[] }])
  fields := #[{ name := "in", type := (.object "java/io/InputStream"), accessFlags := 25, slot := 0, constantValue := 0 }, { name := "out", type := (.object "java/io/PrintStream"), accessFlags := 25, slot := 1, constantValue := 0 }, { name := "err", type := (.object "java/io/PrintStream"), accessFlags := 25, slot := 2, constantValue := 0 }, { name := "initialIn", type := (.object "java/io/InputStream"), accessFlags := 10, slot := 3, constantValue := 0 }, { name := "NEVER", type := .int, accessFlags := 26, slot := 4, constantValue := 0 }, { name := "MAYBE", type := .int, accessFlags := 26, slot := 5, constantValue := 0 }, { name := "allowSecurityManager", type := .int, accessFlags := 10, slot := 6, constantValue := 0 }, { name := "security", type := (.object "java/lang/SecurityManager"), accessFlags := 74, slot := 7, constantValue := 0 }, { name := "notSupportedJnuEncoding", type := (.object "java/lang/String"), accessFlags := 10, slot := 8, constantValue := 0 }, { name := "cons", type := (.object "java/io/Console"), accessFlags := 74, slot := 9, constantValue := 0 }, { name := "initialErrStream", type := (.object "java/io/PrintStream"), accessFlags := 74, slot := 10, constantValue := 0 }, { name := "props", type := (.object "java/util/Properties"), accessFlags := 10, slot := 11, constantValue := 0 }, { name := "lineSeparator", type := (.object "java/lang/String"), accessFlags := 10, slot := 12, constantValue := 0 }, { name := "bootLayer", type := (.object "java/lang/ModuleLayer"), accessFlags := 8, slot := 13, constantValue := 0 }]
  methods := #[k23m0, k23m1]
  instanceTypes := #[]
  staticTypes := #[(.object "java/io/InputStream"), (.object "java/io/PrintStream"), (.object "java/io/PrintStream"), (.object "java/io/InputStream"), .int, .int, .int, (.object "java/lang/SecurityManager"), (.object "java/lang/String"), (.object "java/io/Console"), (.object "java/io/PrintStream"), (.object "java/util/Properties"), (.object "java/lang/String"), (.object "java/lang/ModuleLayer")]
  resolved := Array.replicate 834 none
  statics := none }

def pool24 : Array CpInfo := pool [(2, .class_ 4), (1, u "java/lang/Object"), (0, u "<init>"), (0, u "()V"), (35, .class_ 44), (1, u "java/util/Objects"), (0, u "requireNonNull"), (0, u "(Ljava/lang/Object;)Ljava/lang/Object;")] 137

def k24m0 : Method := { name := "<init>", desc := "()V", sig := { parameters := [], returnType := none }, accessFlags := 2, code := none }
def k24c1 : Code := { maxStack := 2, maxLocals := 1, code := jdk_31_method_10_code, exceptionTable := #[], attributes := #[] }
def k24m1 : Method := { name := "requireNonNull", desc := "(Ljava/lang/Object;)Ljava/lang/Object;", sig := { parameters := [(.object "java/lang/Object")], returnType := some (.object "java/lang/Object") }, accessFlags := 9, code := some k24c1 }
/-- java/util/Objects -/
def k24 : Class := { plain "java/util/Objects" (some 0) with
  accessFlags := 49
  interfaces := #[]
  cf := some (fileOf pool24 42 #[] #[{ accessFlags := 2, nameIndex := 5, descriptorIndex := 6, attributes := #[] }, { accessFlags := 9, nameIndex := 45, descriptorIndex := 46, attributes := #[] }] 49 2 #[] #[])
  fields := #[]
  methods := #[k24m0, k24m1]
  instanceTypes := #[]
  staticTypes := #[]
  resolved := Array.replicate 184 none
  statics := none }

def pool25 : Array CpInfo := pool [(1, .class_ 2), (0, u "org/stripeward/scenario/Blocks$Source"), (0, .class_ 4), (0, u "java/lang/Object"), (2, u "index"), (0, u "(I)I"), (0, u "block"), (0, u "(I)Lorg/stripeward/scenario/Block;"), (0, u "holderCount"), (7, .class_ 20), (0, u "org/stripeward/scenario/Blocks")] 2

def k25m0 : Method := { name := "index", desc := "(I)I", sig := { parameters := [.int], returnType := some .int }, accessFlags := 1025, code := none }
def k25m1 : Method := { name := "block", desc := "(I)Lorg/stripeward/scenario/Block;", sig := { parameters := [.int], returnType := some (.object "org/stripeward/scenario/Block") }, accessFlags := 1025, code := none }
def k25m2 : Method := { name := "holderCount", desc := "(I)I", sig := { parameters := [.int], returnType := some .int }, accessFlags := 1025, code := none }
/-- org/stripeward/scenario/Blocks$Source -/
def k25 : Class := { plain "org/stripeward/scenario/Blocks$Source" (some 0) with
  accessFlags := 1536
  interfaces := #[]
  cf := some (fileOf pool25 1 #[.nestHost 19] #[{ accessFlags := 1025, nameIndex := 7, descriptorIndex := 8, attributes := #[] }, { accessFlags := 1025, nameIndex := 9, descriptorIndex := 10, attributes := #[] }, { accessFlags := 1025, nameIndex := 11, descriptorIndex := 8, attributes := #[] }] 1536 3 #[] #[])
  fields := #[]
  methods := #[k25m0, k25m1, k25m2]
  instanceTypes := #[]
  staticTypes := #[]
  resolved := Array.replicate 23 none
  statics := none }

def pool26 : Array CpInfo := pool [(1, .methodref 2 3), (0, .class_ 4), (0, .nameAndType 5 6), (0, u "java/lang/Object"), (0, u "<init>"), (0, u "()V"), (0, .fieldref 8 9), (0, .class_ 10), (0, .nameAndType 11 12), (0, u "org/stripeward/scenario/Blocks$Records"), (0, u "records"), (0, u "Ljava/util/List;"), (0, .interfaceMethodref 14 15), (0, .class_ 16), (0, .nameAndType 17 18), (0, u "java/util/List"), (0, u "size"), (0, u "()I"), (0, .interfaceMethodref 14 20), (0, .nameAndType 21 22), (0, u "get"), (0, u "(I)Ljava/lang/Object;"), (0, .class_ 24), (0, u "org/stripeward/scenario/Block"), (0, .methodref 23 26), (0, .nameAndType 27 18), (0, u "index"), (0, .methodref 23 29), (0, .nameAndType 30 31), (0, u "holders"), (0, u "()Ljava/util/List;"), (6, .class_ 39), (0, u "org/stripeward/scenario/Blocks$Source"), (2, u "(Ljava/util/List;)V"), (3, u "(I)I"), (0, u "block"), (0, u "(I)Lorg/stripeward/scenario/Block;"), (0, u "holderCount"), (6, .class_ 57), (0, u "org/stripeward/scenario/Blocks")] 3

def k26c0 : Code := { maxStack := 2, maxLocals := 2, code := prog_4_method_1_code, exceptionTable := #[], attributes := #[] }
def k26m0 : Method := { name := "<init>", desc := "(Ljava/util/List;)V", sig := { parameters := [(.object "java/util/List")], returnType := none }, accessFlags := 0, code := some k26c0 }
def k26c1 : Code := { maxStack := 2, maxLocals := 2, code := prog_4_method_3_code, exceptionTable := #[], attributes := #[] }
def k26m1 : Method := { name := "index", desc := "(I)I", sig := { parameters := [.int], returnType := some .int }, accessFlags := 1, code := some k26c1 }
def k26c2 : Code := { maxStack := 2, maxLocals := 2, code := prog_4_method_4_code, exceptionTable := #[], attributes := #[] }
def k26m2 : Method := { name := "block", desc := "(I)Lorg/stripeward/scenario/Block;", sig := { parameters := [.int], returnType := some (.object "org/stripeward/scenario/Block") }, accessFlags := 1, code := some k26c2 }
def k26c3 : Code := { maxStack := 2, maxLocals := 2, code := prog_4_method_5_code, exceptionTable := #[], attributes := #[] }
def k26m3 : Method := { name := "holderCount", desc := "(I)I", sig := { parameters := [.int], returnType := some .int }, accessFlags := 1, code := some k26c3 }
/-- org/stripeward/scenario/Blocks$Records -/
def k26 : Class := { plain "org/stripeward/scenario/Blocks$Records" (some 0) with
  accessFlags := 48
  interfaces := #[25]
  cf := some (fileOf pool26 8 #[.nestHost 56] #[{ accessFlags := 0, nameIndex := 5, descriptorIndex := 42, attributes := #[] }, { accessFlags := 1, nameIndex := 27, descriptorIndex := 46, attributes := #[] }, { accessFlags := 1, nameIndex := 47, descriptorIndex := 48, attributes := #[] }, { accessFlags := 1, nameIndex := 49, descriptorIndex := 46, attributes := #[] }] 48 2 #[38] #[{ accessFlags := 18, nameIndex := 11, descriptorIndex := 12, attributes := #[] }])
  fields := #[{ name := "records", type := (.object "java/util/List"), accessFlags := 18, slot := 0, constantValue := 0 }]
  methods := #[k26m0, k26m1, k26m2, k26m3]
  instanceTypes := #[(.object "java/util/List")]
  staticTypes := #[]
  resolved := Array.replicate 61 none
  statics := none }

def pool27 : Array CpInfo := pool [(1, u "java/lang/Class"), (0, .class_ 1), (0, u "java/lang/Object"), (0, .class_ 3)] 0

/-- java/lang/Class -/
def k27 : Class := { plain "java/lang/Class" (some 0) with
  accessFlags := 49
  interfaces := #[]
  cf := some (fileOf pool27 2 #[] #[] 49 4 #[] #[])
  fields := #[]
  methods := #[]
  instanceTypes := #[]
  staticTypes := #[]
  resolved := Array.replicate 5 none
  statics := none }

/-- the primitive byte -/
def k28 : Class := { plain "byte" none with kind := .primitive 'B', accessFlags := 0x411 }
/-- [B -/
def k29 : Class := { plain "[B" (some 0) with kind := .array 28 .byte, interfaces := #[11, 12], accessFlags := 1041 }

/-- the primitive int -/
def k30 : Class := { plain "int" none with kind := .primitive 'I', accessFlags := 0x411 }
/-- [I -/
def k31 : Class := { plain "[I" (some 0) with kind := .array 30 .int, interfaces := #[11, 12], accessFlags := 1041 }

/-- [Ljava/lang/Object; -/
def k32 : Class := { plain "[Ljava/lang/Object;" (some 0) with kind := .array 0 (.object "java/lang/Object"), interfaces := #[11, 12], accessFlags := 1041, mirror := some 3 }

def heap : Heap := #[{ cls := 13, slots := #[.long 0, .int 0, .ref 7, .ref 8], vm := .statics 13 },
  { cls := 15, slots := #[.long 0, .int 0, .null, .ref 9, .ref 5, .null, .null, .null, .int 0, .int 1], vm := .statics 15 },
  { cls := 20, slots := #[.ref 6], vm := .statics 20 },
  { cls := 27, slots := #[], vm := .mirror 32 },
  { cls := 32, slots := #[], vm := .none },
  { cls := 19, slots := #[.ref 4, .int 0], vm := .none },
  { cls := 20, slots := #[.int 0, .null, .null, .int 0, .int 0], vm := .none },
  { cls := 32, slots := #[], vm := .none },
  { cls := 32, slots := #[], vm := .none },
  { cls := 0, slots := #[], vm := .none }]
def classes : Array Class := #[k0, k1, k2, k3, k4, k5, k6, k7, k8, k9, k10, k11, k12, k13, k14, k15, k16, k17, k18, k19, k20, k21, k22, k23, k24, k25, k26, k27, k28, k29, k30, k31, k32]
def interned : List (Array UInt16 × Addr) := []
def slotsUsed : Nat := 22
def theMethod : MethodId := ⟨1, 1⟩
def args0 : Array Value := #[.int 27, .int 5, .int 6, .int 7]
def aboutOver (below : List Frame) : State where
  vm := { classes := classes, interned := interned.toArray }
  heap := heap
  slotsUsed := slotsUsed
  threads := #[{ frames := .invoking theMethod args0 :: below }]
def below0 : List Frame := [.native { method := ⟨0, 0⟩, args := #[] }]
def about1 : State := aboutOver below0
def p0 : Program := .bare "" "" ""
def e0 : Env := launch0.env 0 0 0
theorem w_frames : about1.frames = Frame.invoking theMethod args0 :: below0 := rfl
set_option maxRecDepth 65536 in
theorem w_args : argsFit about1.vm theMethod args0 = true := by decide +kernel
set_option maxRecDepth 65536 in
theorem w_heap : heapFits about1 = true := by decide +kernel
set_option maxRecDepth 65536 in
theorem w_runnable : about1.curStatus? = some .runnable := by decide +kernel
set_option maxRecDepth 65536 in
theorem w_alone : about1.alone = true := by decide +kernel
set_option maxRecDepth 65536 in
theorem w_named : about1.methodNamed? x = some theMethod := by decide +kernel
set_option maxRecDepth 65536 in
theorem w_hears : about1.hears theMethod below0 = true := by decide +kernel
set_option maxRecDepth 65536 in
theorem w_ripe : about1.ripe theMethod args0 below0 = true := by decide +kernel
theorem w_running : about1.status = .running := rfl
set_option maxRecDepth 65536 in
theorem w_room : about1.hasRoom e0.platform room_1 = true :=
  launch0.hasRoom_least _ room_1 (by decide +kernel) (by decide +kernel) (by decide +kernel) (by decide +kernel) (by decide +kernel) (by decide +kernel)
theorem allAtoms_all (ts : List Jvm.Cond) (a : Array Jvm.Value) (st : Jvm.State) : (allAtoms ts).before a st = ts.all (fun c => c.before a st) := by
  induction ts with
  | nil => rfl
  | cons c t ih =>
    show (Jvm.Cond.and c (allAtoms t)).before a st = _
    rw [Jvm.Cond.before_and, ih, List.all_cons]
def words1 : List Jvm.Cond := Jvm.Cond.code x code maxLocals ret :: tables_1
/-- a 'code' word, met by the world's own term for the bytes: nothing is compared byte by byte -/
theorem code_word {y : MethodName} {bytes : ByteArray} {mx : Nat} {rt : Option FieldType} {a : Array Value} {s : State} {m : MethodId} {meth : Method} {c : Code} (h1 : s.methodNamed? y = some m) (h2 : s.vm.method? m = some meth) (h3 : meth.code = some c) (h4 : c.code = bytes)
    (h5 : (c.maxLocals == mx && c.exceptionTable.isEmpty && decide (c.maxStack ≤ mostOperands) && decide (meth.sig.returnType = rt) && !meth.locks && decide (parseMethodDescriptor y.desc = some meth.sig)) = true) : (Jvm.Cond.code y bytes mx rt).before a s = true := by
  simp only [Bool.and_eq_true, beq_iff_eq, Bool.not_eq_true', decide_eq_true_eq] at h5
  obtain ⟨⟨⟨⟨⟨g1, g2⟩, g3⟩, g4⟩, g5⟩, g6⟩ := h5
  simp [Cond.before, Cond.holds, Cond.value, h1, h2, h3, h4, g1, g2, g3, g4, g5, g6]
def isCode : Jvm.Cond → Bool
  | .code _ _ _ _ => true
  | _ => false
theorem all_split {L : List Jvm.Cond} {P : Jvm.Cond → Bool} (h1 : L.all (fun c => isCode c || P c) = true) (h2 : ∀ c ∈ L.filter isCode, P c = true) : L.all P = true := by
  refine List.all_eq_true.mpr fun c hc => ?_
  have h := List.all_eq_true.mp h1 c hc
  rcases Bool.eq_false_or_eq_true (isCode c) with hi | hi
  · exact h2 c (List.mem_filter.mpr ⟨hc, hi⟩)
  · simpa [hi] using h
set_option maxRecDepth 65536 in
theorem w_c0 : (Jvm.Cond.code x code maxLocals ret).before args0 about1 = true := code_word (m := ⟨1, 1⟩) (meth := k1m1) (c := k1c1) (by decide +kernel) rfl rfl rfl (by decide +kernel)
set_option maxRecDepth 65536 in
theorem w_c1 : (Jvm.Cond.code ({ cls := "org/stripeward/scenario/Node", name := "<init>", desc := "(ILjava/lang/String;Lorg/stripeward/scenario/Rack;)V" } : Jvm.MethodName) prog_14_method_1_code (4 : Nat) (Option.none : Option Jvm.ClassFile.FieldType)).before args0 about1 = true := code_word (m := ⟨3, 0⟩) (meth := k3m0) (c := k3c0) (by decide +kernel) rfl rfl rfl (by decide +kernel)
set_option maxRecDepth 65536 in
theorem w_c2 : (Jvm.Cond.code ({ cls := "java/lang/Record", name := "<init>", desc := "()V" } : Jvm.MethodName) jdk_30_method_1_code (1 : Nat) (Option.none : Option Jvm.ClassFile.FieldType)).before args0 about1 = true := code_word (m := ⟨2, 0⟩) (meth := k2m0) (c := k2c0) (by decide +kernel) rfl rfl rfl (by decide +kernel)
set_option maxRecDepth 65536 in
theorem w_c3 : (Jvm.Cond.code ({ cls := "java/lang/Object", name := "<init>", desc := "()V" } : Jvm.MethodName) object_method_1_code (1 : Nat) (Option.none : Option Jvm.ClassFile.FieldType)).before args0 about1 = true := code_word (m := ⟨0, 0⟩) (meth := k0m0) (c := k0c0) (by decide +kernel) rfl rfl rfl (by decide +kernel)
set_option maxRecDepth 65536 in
theorem w_c4 : (Jvm.Cond.code ({ cls := "java/util/ArrayList", name := "<init>", desc := "()V" } : Jvm.MethodName) jdk_38_method_2_code (1 : Nat) (Option.none : Option Jvm.ClassFile.FieldType)).before args0 about1 = true := code_word (m := ⟨13, 0⟩) (meth := k13m0) (c := k13c0) (by decide +kernel) rfl rfl rfl (by decide +kernel)
set_option maxRecDepth 65536 in
theorem w_c5 : (Jvm.Cond.code ({ cls := "java/util/AbstractList", name := "<init>", desc := "()V" } : Jvm.MethodName) jdk_39_method_1_code (1 : Nat) (Option.none : Option Jvm.ClassFile.FieldType)).before args0 about1 = true := code_word (m := ⟨9, 0⟩) (meth := k9m0) (c := k9c0) (by decide +kernel) rfl rfl rfl (by decide +kernel)
set_option maxRecDepth 65536 in
theorem w_c6 : (Jvm.Cond.code ({ cls := "java/util/AbstractCollection", name := "<init>", desc := "()V" } : Jvm.MethodName) jdk_22_method_1_code (1 : Nat) (Option.none : Option Jvm.ClassFile.FieldType)).before args0 about1 = true := code_word (m := ⟨6, 0⟩) (meth := k6m0) (c := k6c0) (by decide +kernel) rfl rfl rfl (by decide +kernel)
set_option maxRecDepth 65536 in
theorem w_c7 : (Jvm.Cond.code ({ cls := "org/stripeward/scenario/Block", name := "<init>", desc := "(ILjava/lang/String;Ljava/util/List;Lorg/stripeward/scenario/Stripe;ZD)V" } : Jvm.MethodName) prog_2_method_1_code (8 : Nat) (Option.none : Option Jvm.ClassFile.FieldType)).before args0 about1 = true := code_word (m := ⟨14, 0⟩) (meth := k14m0) (c := k14c0) (by decide +kernel) rfl rfl rfl (by decide +kernel)
set_option maxRecDepth 65536 in
theorem w_c8 : (Jvm.Cond.code ({ cls := "java/util/List", name := "copyOf", desc := "(Ljava/util/Collection;)Ljava/util/List;" } : Jvm.MethodName) jdk_40_method_48_code (1 : Nat) (Option.some (Jvm.ClassFile.FieldType.object "java/util/List"))).before args0 about1 = true := code_word (m := ⟨8, 6⟩) (meth := k8m6) (c := k8c6) (by decide +kernel) rfl rfl rfl (by decide +kernel)
set_option maxRecDepth 65536 in
theorem w_c9 : (Jvm.Cond.code ({ cls := "java/util/ImmutableCollections", name := "listCopy", desc := "(Ljava/util/Collection;)Ljava/util/List;" } : Jvm.MethodName) jdk_56_method_3_code (2 : Nat) (Option.some (Jvm.ClassFile.FieldType.object "java/util/List"))).before args0 about1 = true := code_word (m := ⟨15, 1⟩) (meth := k15m1) (c := k15c1) (by decide +kernel) rfl rfl rfl (by decide +kernel)
set_option maxRecDepth 65536 in
theorem w_c10 : (Jvm.Cond.code ({ cls := "java/util/ArrayList", name := "isEmpty", desc := "()Z" } : Jvm.MethodName) jdk_38_method_9_code (1 : Nat) (Option.some Jvm.ClassFile.FieldType.boolean)).before args0 about1 = true := code_word (m := ⟨13, 3⟩) (meth := k13m3) (c := k13c3) (by decide +kernel) rfl rfl rfl (by decide +kernel)
set_option maxRecDepth 65536 in
theorem w_c11 : (Jvm.Cond.code ({ cls := "java/util/List", name := "of", desc := "()Ljava/util/List;" } : Jvm.MethodName) jdk_40_method_36_code (0 : Nat) (Option.some (Jvm.ClassFile.FieldType.object "java/util/List"))).before args0 about1 = true := code_word (m := ⟨8, 4⟩) (meth := k8m4) (c := k8c4) (by decide +kernel) rfl rfl rfl (by decide +kernel)
set_option maxRecDepth 65536 in
theorem w_c12 : (Jvm.Cond.code ({ cls := "org/stripeward/scenario/Blocks", name := "of", desc := "(Ljava/util/List;)Lorg/stripeward/scenario/Blocks;" } : Jvm.MethodName) prog_3_method_2_code (2 : Nat) (Option.some (Jvm.ClassFile.FieldType.object "org/stripeward/scenario/Blocks"))).before args0 about1 = true := code_word (m := ⟨20, 1⟩) (meth := k20m1) (c := k20c1) (by decide +kernel) rfl rfl rfl (by decide +kernel)
set_option maxRecDepth 65536 in
theorem w_c13 : (Jvm.Cond.code ({ cls := "org/stripeward/scenario/Blocks", name := "size", desc := "()I" } : Jvm.MethodName) prog_3_method_7_code (1 : Nat) (Option.some Jvm.ClassFile.FieldType.int)).before args0 about1 = true := code_word (m := ⟨20, 3⟩) (meth := k20m3) (c := k20c3) (by decide +kernel) rfl rfl rfl (by decide +kernel)
set_option maxRecDepth 65536 in
theorem w_c14 : (Jvm.Cond.code ({ cls := "java/util/ArrayList", name := "add", desc := "(Ljava/lang/Object;)Z" } : Jvm.MethodName) jdk_38_method_25_code (2 : Nat) (Option.some Jvm.ClassFile.FieldType.boolean)).before args0 about1 = true := code_word (m := ⟨13, 6⟩) (meth := k13m6) (c := k13c6) (by decide +kernel) rfl rfl rfl (by decide +kernel)
set_option maxRecDepth 65536 in
theorem w_c15 : (Jvm.Cond.code ({ cls := "java/util/ArrayList", name := "add", desc := "(Ljava/lang/Object;[Ljava/lang/Object;I)V" } : Jvm.MethodName) jdk_38_method_24_code (4 : Nat) (Option.none : Option Jvm.ClassFile.FieldType)).before args0 about1 = true := code_word (m := ⟨13, 5⟩) (meth := k13m5) (c := k13c5) (by decide +kernel) rfl rfl rfl (by decide +kernel)
set_option maxRecDepth 65536 in
theorem w_c16 : (Jvm.Cond.code ({ cls := "java/util/ArrayList", name := "grow", desc := "()[Ljava/lang/Object;" } : Jvm.MethodName) jdk_38_method_7_code (1 : Nat) (Option.some (Jvm.ClassFile.FieldType.array (Jvm.ClassFile.FieldType.object "java/lang/Object")))).before args0 about1 = true := code_word (m := ⟨13, 2⟩) (meth := k13m2) (c := k13c2) (by decide +kernel) rfl rfl rfl (by decide +kernel)
set_option maxRecDepth 65536 in
theorem w_c17 : (Jvm.Cond.code ({ cls := "java/util/ArrayList", name := "grow", desc := "(I)[Ljava/lang/Object;" } : Jvm.MethodName) jdk_38_method_6_code (4 : Nat) (Option.some (Jvm.ClassFile.FieldType.array (Jvm.ClassFile.FieldType.object "java/lang/Object")))).before args0 about1 = true := code_word (m := ⟨13, 1⟩) (meth := k13m1) (c := k13c1) (by decide +kernel) rfl rfl rfl (by decide +kernel)
set_option maxRecDepth 65536 in
theorem w_c18 : (Jvm.Cond.code ({ cls := "java/lang/Math", name := "max", desc := "(II)I" } : Jvm.MethodName) jdk_29_method_65_code (2 : Nat) (Option.some Jvm.ClassFile.FieldType.int)).before args0 about1 = true := code_word (m := ⟨21, 1⟩) (meth := k21m1) (c := k21c1) (by decide +kernel) rfl rfl rfl (by decide +kernel)
set_option maxRecDepth 65536 in
theorem w_c19 : (Jvm.Cond.code ({ cls := "java/util/ArrayList", name := "toArray", desc := "()[Ljava/lang/Object;" } : Jvm.MethodName) jdk_38_method_16_code (1 : Nat) (Option.some (Jvm.ClassFile.FieldType.array (Jvm.ClassFile.FieldType.object "java/lang/Object")))).before args0 about1 = true := code_word (m := ⟨13, 4⟩) (meth := k13m4) (c := k13c4) (by decide +kernel) rfl rfl rfl (by decide +kernel)
set_option maxRecDepth 65536 in
theorem w_c20 : (Jvm.Cond.code ({ cls := "java/util/Arrays", name := "copyOf", desc := "([Ljava/lang/Object;I)[Ljava/lang/Object;" } : Jvm.MethodName) jdk_65_method_119_code (2 : Nat) (Option.some (Jvm.ClassFile.FieldType.array (Jvm.ClassFile.FieldType.object "java/lang/Object")))).before args0 about1 = true := code_word (m := ⟨22, 1⟩) (meth := k22m1) (c := k22c1) (by decide +kernel) rfl rfl rfl (by decide +kernel)
set_option maxRecDepth 65536 in
theorem w_c21 : (Jvm.Cond.code ({ cls := "java/util/Arrays", name := "copyOf", desc := "([Ljava/lang/Object;ILjava/lang/Class;)[Ljava/lang/Object;" } : Jvm.MethodName) jdk_65_method_120_code (4 : Nat) (Option.some (Jvm.ClassFile.FieldType.array (Jvm.ClassFile.FieldType.object "java/lang/Object")))).before args0 about1 = true := code_word (m := ⟨22, 2⟩) (meth := k22m2) (c := k22c2) (by decide +kernel) rfl rfl rfl (by decide +kernel)
set_option maxRecDepth 65536 in
theorem w_c22 : (Jvm.Cond.code ({ cls := "java/lang/Math", name := "min", desc := "(II)I" } : Jvm.MethodName) jdk_29_method_69_code (2 : Nat) (Option.some Jvm.ClassFile.FieldType.int)).before args0 about1 = true := code_word (m := ⟨21, 2⟩) (meth := k21m2) (c := k21c2) (by decide +kernel) rfl rfl rfl (by decide +kernel)
set_option maxRecDepth 65536 in
theorem w_c23 : (Jvm.Cond.code ({ cls := "java/util/List", name := "of", desc := "([Ljava/lang/Object;)Ljava/util/List;" } : Jvm.MethodName) jdk_40_method_47_code (2 : Nat) (Option.some (Jvm.ClassFile.FieldType.object "java/util/List"))).before args0 about1 = true := code_word (m := ⟨8, 5⟩) (meth := k8m5) (c := k8c5) (by decide +kernel) rfl rfl rfl (by decide +kernel)
set_option maxRecDepth 65536 in
theorem w_c24 : (Jvm.Cond.code ({ cls := "java/util/ImmutableCollections$List12", name := "<init>", desc := "(Ljava/lang/Object;)V" } : Jvm.MethodName) jdk_44_method_1_code (2 : Nat) (Option.none : Option Jvm.ClassFile.FieldType)).before args0 about1 = true := code_word (m := ⟨18, 0⟩) (meth := k18m0) (c := k18c0) (by decide +kernel) rfl rfl rfl (by decide +kernel)
set_option maxRecDepth 65536 in
theorem w_c25 : (Jvm.Cond.code ({ cls := "java/util/ImmutableCollections$AbstractImmutableList", name := "<init>", desc := "()V" } : Jvm.MethodName) jdk_46_method_1_code (1 : Nat) (Option.none : Option Jvm.ClassFile.FieldType)).before args0 about1 = true := code_word (m := ⟨17, 0⟩) (meth := k17m0) (c := k17c0) (by decide +kernel) rfl rfl rfl (by decide +kernel)
set_option maxRecDepth 65536 in
theorem w_c26 : (Jvm.Cond.code ({ cls := "java/util/ImmutableCollections$AbstractImmutableCollection", name := "<init>", desc := "()V" } : Jvm.MethodName) jdk_47_method_1_code (1 : Nat) (Option.none : Option Jvm.ClassFile.FieldType)).before args0 about1 = true := code_word (m := ⟨16, 0⟩) (meth := k16m0) (c := k16c0) (by decide +kernel) rfl rfl rfl (by decide +kernel)
set_option maxRecDepth 65536 in
theorem w_c27 : (Jvm.Cond.code ({ cls := "java/util/Objects", name := "requireNonNull", desc := "(Ljava/lang/Object;)Ljava/lang/Object;" } : Jvm.MethodName) jdk_31_method_10_code (1 : Nat) (Option.some (Jvm.ClassFile.FieldType.object "java/lang/Object"))).before args0 about1 = true := code_word (m := ⟨24, 1⟩) (meth := k24m1) (c := k24c1) (by decide +kernel) rfl rfl rfl (by decide +kernel)
set_option maxRecDepth 65536 in
theorem w_c28 : (Jvm.Cond.code ({ cls := "java/util/ImmutableCollections$List12", name := "<init>", desc := "(Ljava/lang/Object;Ljava/lang/Object;)V" } : Jvm.MethodName) jdk_44_method_2_code (3 : Nat) (Option.none : Option Jvm.ClassFile.FieldType)).before args0 about1 = true := code_word (m := ⟨18, 1⟩) (meth := k18m1) (c := k18c1) (by decide +kernel) rfl rfl rfl (by decide +kernel)
set_option maxRecDepth 65536 in
theorem w_c29 : (Jvm.Cond.code ({ cls := "org/stripeward/scenario/Blocks$Records", name := "<init>", desc := "(Ljava/util/List;)V" } : Jvm.MethodName) prog_4_method_1_code (2 : Nat) (Option.none : Option Jvm.ClassFile.FieldType)).before args0 about1 = true := code_word (m := ⟨26, 0⟩) (meth := k26m0) (c := k26c0) (by decide +kernel) rfl rfl rfl (by decide +kernel)
set_option maxRecDepth 65536 in
theorem w_c30 : (Jvm.Cond.code ({ cls := "java/util/ImmutableCollections$List12", name := "size", desc := "()I" } : Jvm.MethodName) jdk_44_method_3_code (1 : Nat) (Option.some Jvm.ClassFile.FieldType.int)).before args0 about1 = true := code_word (m := ⟨18, 2⟩) (meth := k18m2) (c := k18c2) (by decide +kernel) rfl rfl rfl (by decide +kernel)
set_option maxRecDepth 65536 in
theorem w_c31 : (Jvm.Cond.code ({ cls := "org/stripeward/scenario/Blocks", name := "<init>", desc := "(Lorg/stripeward/scenario/Blocks$Source;[III)V" } : Jvm.MethodName) prog_3_method_1_code (5 : Nat) (Option.none : Option Jvm.ClassFile.FieldType)).before args0 about1 = true := code_word (m := ⟨20, 0⟩) (meth := k20m0) (c := k20c0) (by decide +kernel) rfl rfl rfl (by decide +kernel)
set_option maxRecDepth 65536 in
theorem w_c32 : (Jvm.Cond.code ({ cls := "org/stripeward/scenario/Blocks", name := "get", desc := "(I)Lorg/stripeward/scenario/Block;" } : Jvm.MethodName) prog_3_method_6_code (2 : Nat) (Option.some (Jvm.ClassFile.FieldType.object "org/stripeward/scenario/Block"))).before args0 about1 = true := code_word (m := ⟨20, 2⟩) (meth := k20m2) (c := k20c2) (by decide +kernel) rfl rfl rfl (by decide +kernel)
set_option maxRecDepth 65536 in
theorem w_c33 : (Jvm.Cond.code ({ cls := "org/stripeward/scenario/Blocks", name := "place", desc := "(I)I" } : Jvm.MethodName) prog_3_method_13_code (2 : Nat) (Option.some Jvm.ClassFile.FieldType.int)).before args0 about1 = true := code_word (m := ⟨20, 6⟩) (meth := k20m6) (c := k20c6) (by decide +kernel) rfl rfl rfl (by decide +kernel)
set_option maxRecDepth 65536 in
theorem w_c34 : (Jvm.Cond.code ({ cls := "org/stripeward/scenario/Blocks$Records", name := "block", desc := "(I)Lorg/stripeward/scenario/Block;" } : Jvm.MethodName) prog_4_method_4_code (2 : Nat) (Option.some (Jvm.ClassFile.FieldType.object "org/stripeward/scenario/Block"))).before args0 about1 = true := code_word (m := ⟨26, 2⟩) (meth := k26m2) (c := k26c2) (by decide +kernel) rfl rfl rfl (by decide +kernel)
set_option maxRecDepth 65536 in
theorem w_c35 : (Jvm.Cond.code ({ cls := "java/util/ImmutableCollections$List12", name := "get", desc := "(I)Ljava/lang/Object;" } : Jvm.MethodName) jdk_44_method_5_code (2 : Nat) (Option.some (Jvm.ClassFile.FieldType.object "java/lang/Object"))).before args0 about1 = true := code_word (m := ⟨18, 3⟩) (meth := k18m3) (c := k18c3) (by decide +kernel) rfl rfl rfl (by decide +kernel)
set_option maxRecDepth 65536 in
theorem w_c36 : (Jvm.Cond.code ({ cls := "org/stripeward/scenario/Blocks", name := "index", desc := "(I)I" } : Jvm.MethodName) prog_3_method_8_code (2 : Nat) (Option.some Jvm.ClassFile.FieldType.int)).before args0 about1 = true := code_word (m := ⟨20, 4⟩) (meth := k20m4) (c := k20c4) (by decide +kernel) rfl rfl rfl (by decide +kernel)
set_option maxRecDepth 65536 in
theorem w_c37 : (Jvm.Cond.code ({ cls := "org/stripeward/scenario/Blocks$Records", name := "index", desc := "(I)I" } : Jvm.MethodName) prog_4_method_3_code (2 : Nat) (Option.some Jvm.ClassFile.FieldType.int)).before args0 about1 = true := code_word (m := ⟨26, 1⟩) (meth := k26m1) (c := k26c1) (by decide +kernel) rfl rfl rfl (by decide +kernel)
set_option maxRecDepth 65536 in
theorem w_c38 : (Jvm.Cond.code ({ cls := "org/stripeward/scenario/Block", name := "index", desc := "()I" } : Jvm.MethodName) prog_2_method_6_code (1 : Nat) (Option.some Jvm.ClassFile.FieldType.int)).before args0 about1 = true := code_word (m := ⟨14, 1⟩) (meth := k14m1) (c := k14c1) (by decide +kernel) rfl rfl rfl (by decide +kernel)
set_option maxRecDepth 65536 in
theorem w_c39 : (Jvm.Cond.code ({ cls := "org/stripeward/scenario/Blocks", name := "holderCount", desc := "(I)I" } : Jvm.MethodName) prog_3_method_9_code (2 : Nat) (Option.some Jvm.ClassFile.FieldType.int)).before args0 about1 = true := code_word (m := ⟨20, 5⟩) (meth := k20m5) (c := k20c5) (by decide +kernel) rfl rfl rfl (by decide +kernel)
set_option maxRecDepth 65536 in
theorem w_c40 : (Jvm.Cond.code ({ cls := "org/stripeward/scenario/Blocks$Records", name := "holderCount", desc := "(I)I" } : Jvm.MethodName) prog_4_method_5_code (2 : Nat) (Option.some Jvm.ClassFile.FieldType.int)).before args0 about1 = true := code_word (m := ⟨26, 3⟩) (meth := k26m3) (c := k26c3) (by decide +kernel) rfl rfl rfl (by decide +kernel)
set_option maxRecDepth 65536 in
theorem w_c41 : (Jvm.Cond.code ({ cls := "org/stripeward/scenario/Block", name := "holders", desc := "()Ljava/util/List;" } : Jvm.MethodName) prog_2_method_8_code (1 : Nat) (Option.some (Jvm.ClassFile.FieldType.object "java/util/List"))).before args0 about1 = true := code_word (m := ⟨14, 2⟩) (meth := k14m2) (c := k14c2) (by decide +kernel) rfl rfl rfl (by decide +kernel)
set_option maxRecDepth 65536 in
theorem w_c42 : (Jvm.Cond.code ({ cls := "java/util/ImmutableCollections$ListN", name := "size", desc := "()I" } : Jvm.MethodName) jdk_45_method_3_code (1 : Nat) (Option.some Jvm.ClassFile.FieldType.int)).before args0 about1 = true := code_word (m := ⟨19, 0⟩) (meth := k19m0) (c := k19c0) (by decide +kernel) rfl rfl rfl (by decide +kernel)
def codes1 : List Jvm.Cond := [Jvm.Cond.code x code maxLocals ret, Jvm.Cond.code ({ cls := "org/stripeward/scenario/Node", name := "<init>", desc := "(ILjava/lang/String;Lorg/stripeward/scenario/Rack;)V" } : Jvm.MethodName) prog_14_method_1_code (4 : Nat) (Option.none : Option Jvm.ClassFile.FieldType), Jvm.Cond.code ({ cls := "java/lang/Record", name := "<init>", desc := "()V" } : Jvm.MethodName) jdk_30_method_1_code (1 : Nat) (Option.none : Option Jvm.ClassFile.FieldType), Jvm.Cond.code ({ cls := "java/lang/Object", name := "<init>", desc := "()V" } : Jvm.MethodName) object_method_1_code (1 : Nat) (Option.none : Option Jvm.ClassFile.FieldType), Jvm.Cond.code ({ cls := "java/util/ArrayList", name := "<init>", desc := "()V" } : Jvm.MethodName) jdk_38_method_2_code (1 : Nat) (Option.none : Option Jvm.ClassFile.FieldType), Jvm.Cond.code ({ cls := "java/util/AbstractList", name := "<init>", desc := "()V" } : Jvm.MethodName) jdk_39_method_1_code (1 : Nat) (Option.none : Option Jvm.ClassFile.FieldType), Jvm.Cond.code ({ cls := "java/util/AbstractCollection", name := "<init>", desc := "()V" } : Jvm.MethodName) jdk_22_method_1_code (1 : Nat) (Option.none : Option Jvm.ClassFile.FieldType), Jvm.Cond.code ({ cls := "org/stripeward/scenario/Block", name := "<init>", desc := "(ILjava/lang/String;Ljava/util/List;Lorg/stripeward/scenario/Stripe;ZD)V" } : Jvm.MethodName) prog_2_method_1_code (8 : Nat) (Option.none : Option Jvm.ClassFile.FieldType), Jvm.Cond.code ({ cls := "java/util/List", name := "copyOf", desc := "(Ljava/util/Collection;)Ljava/util/List;" } : Jvm.MethodName) jdk_40_method_48_code (1 : Nat) (Option.some (Jvm.ClassFile.FieldType.object "java/util/List")), Jvm.Cond.code ({ cls := "java/util/ImmutableCollections", name := "listCopy", desc := "(Ljava/util/Collection;)Ljava/util/List;" } : Jvm.MethodName) jdk_56_method_3_code (2 : Nat) (Option.some (Jvm.ClassFile.FieldType.object "java/util/List")), Jvm.Cond.code ({ cls := "java/util/ArrayList", name := "isEmpty", desc := "()Z" } : Jvm.MethodName) jdk_38_method_9_code (1 : Nat) (Option.some Jvm.ClassFile.FieldType.boolean), Jvm.Cond.code ({ cls := "java/util/List", name := "of", desc := "()Ljava/util/List;" } : Jvm.MethodName) jdk_40_method_36_code (0 : Nat) (Option.some (Jvm.ClassFile.FieldType.object "java/util/List")), Jvm.Cond.code ({ cls := "org/stripeward/scenario/Blocks", name := "of", desc := "(Ljava/util/List;)Lorg/stripeward/scenario/Blocks;" } : Jvm.MethodName) prog_3_method_2_code (2 : Nat) (Option.some (Jvm.ClassFile.FieldType.object "org/stripeward/scenario/Blocks")), Jvm.Cond.code ({ cls := "org/stripeward/scenario/Blocks", name := "size", desc := "()I" } : Jvm.MethodName) prog_3_method_7_code (1 : Nat) (Option.some Jvm.ClassFile.FieldType.int), Jvm.Cond.code ({ cls := "java/util/ArrayList", name := "add", desc := "(Ljava/lang/Object;)Z" } : Jvm.MethodName) jdk_38_method_25_code (2 : Nat) (Option.some Jvm.ClassFile.FieldType.boolean), Jvm.Cond.code ({ cls := "java/util/ArrayList", name := "add", desc := "(Ljava/lang/Object;[Ljava/lang/Object;I)V" } : Jvm.MethodName) jdk_38_method_24_code (4 : Nat) (Option.none : Option Jvm.ClassFile.FieldType), Jvm.Cond.code ({ cls := "java/util/ArrayList", name := "grow", desc := "()[Ljava/lang/Object;" } : Jvm.MethodName) jdk_38_method_7_code (1 : Nat) (Option.some (Jvm.ClassFile.FieldType.array (Jvm.ClassFile.FieldType.object "java/lang/Object"))), Jvm.Cond.code ({ cls := "java/util/ArrayList", name := "grow", desc := "(I)[Ljava/lang/Object;" } : Jvm.MethodName) jdk_38_method_6_code (4 : Nat) (Option.some (Jvm.ClassFile.FieldType.array (Jvm.ClassFile.FieldType.object "java/lang/Object"))), Jvm.Cond.code ({ cls := "java/lang/Math", name := "max", desc := "(II)I" } : Jvm.MethodName) jdk_29_method_65_code (2 : Nat) (Option.some Jvm.ClassFile.FieldType.int), Jvm.Cond.code ({ cls := "java/util/ArrayList", name := "toArray", desc := "()[Ljava/lang/Object;" } : Jvm.MethodName) jdk_38_method_16_code (1 : Nat) (Option.some (Jvm.ClassFile.FieldType.array (Jvm.ClassFile.FieldType.object "java/lang/Object"))), Jvm.Cond.code ({ cls := "java/util/Arrays", name := "copyOf", desc := "([Ljava/lang/Object;I)[Ljava/lang/Object;" } : Jvm.MethodName) jdk_65_method_119_code (2 : Nat) (Option.some (Jvm.ClassFile.FieldType.array (Jvm.ClassFile.FieldType.object "java/lang/Object"))), Jvm.Cond.code ({ cls := "java/util/Arrays", name := "copyOf", desc := "([Ljava/lang/Object;ILjava/lang/Class;)[Ljava/lang/Object;" } : Jvm.MethodName) jdk_65_method_120_code (4 : Nat) (Option.some (Jvm.ClassFile.FieldType.array (Jvm.ClassFile.FieldType.object "java/lang/Object"))), Jvm.Cond.code ({ cls := "java/lang/Math", name := "min", desc := "(II)I" } : Jvm.MethodName) jdk_29_method_69_code (2 : Nat) (Option.some Jvm.ClassFile.FieldType.int), Jvm.Cond.code ({ cls := "java/util/List", name := "of", desc := "([Ljava/lang/Object;)Ljava/util/List;" } : Jvm.MethodName) jdk_40_method_47_code (2 : Nat) (Option.some (Jvm.ClassFile.FieldType.object "java/util/List")), Jvm.Cond.code ({ cls := "java/util/ImmutableCollections$List12", name := "<init>", desc := "(Ljava/lang/Object;)V" } : Jvm.MethodName) jdk_44_method_1_code (2 : Nat) (Option.none : Option Jvm.ClassFile.FieldType), Jvm.Cond.code ({ cls := "java/util/ImmutableCollections$AbstractImmutableList", name := "<init>", desc := "()V" } : Jvm.MethodName) jdk_46_method_1_code (1 : Nat) (Option.none : Option Jvm.ClassFile.FieldType), Jvm.Cond.code ({ cls := "java/util/ImmutableCollections$AbstractImmutableCollection", name := "<init>", desc := "()V" } : Jvm.MethodName) jdk_47_method_1_code (1 : Nat) (Option.none : Option Jvm.ClassFile.FieldType), Jvm.Cond.code ({ cls := "java/util/Objects", name := "requireNonNull", desc := "(Ljava/lang/Object;)Ljava/lang/Object;" } : Jvm.MethodName) jdk_31_method_10_code (1 : Nat) (Option.some (Jvm.ClassFile.FieldType.object "java/lang/Object")), Jvm.Cond.code ({ cls := "java/util/ImmutableCollections$List12", name := "<init>", desc := "(Ljava/lang/Object;Ljava/lang/Object;)V" } : Jvm.MethodName) jdk_44_method_2_code (3 : Nat) (Option.none : Option Jvm.ClassFile.FieldType), Jvm.Cond.code ({ cls := "org/stripeward/scenario/Blocks$Records", name := "<init>", desc := "(Ljava/util/List;)V" } : Jvm.MethodName) prog_4_method_1_code (2 : Nat) (Option.none : Option Jvm.ClassFile.FieldType), Jvm.Cond.code ({ cls := "java/util/ImmutableCollections$List12", name := "size", desc := "()I" } : Jvm.MethodName) jdk_44_method_3_code (1 : Nat) (Option.some Jvm.ClassFile.FieldType.int), Jvm.Cond.code ({ cls := "org/stripeward/scenario/Blocks", name := "<init>", desc := "(Lorg/stripeward/scenario/Blocks$Source;[III)V" } : Jvm.MethodName) prog_3_method_1_code (5 : Nat) (Option.none : Option Jvm.ClassFile.FieldType), Jvm.Cond.code ({ cls := "org/stripeward/scenario/Blocks", name := "get", desc := "(I)Lorg/stripeward/scenario/Block;" } : Jvm.MethodName) prog_3_method_6_code (2 : Nat) (Option.some (Jvm.ClassFile.FieldType.object "org/stripeward/scenario/Block")), Jvm.Cond.code ({ cls := "org/stripeward/scenario/Blocks", name := "place", desc := "(I)I" } : Jvm.MethodName) prog_3_method_13_code (2 : Nat) (Option.some Jvm.ClassFile.FieldType.int), Jvm.Cond.code ({ cls := "org/stripeward/scenario/Blocks$Records", name := "block", desc := "(I)Lorg/stripeward/scenario/Block;" } : Jvm.MethodName) prog_4_method_4_code (2 : Nat) (Option.some (Jvm.ClassFile.FieldType.object "org/stripeward/scenario/Block")), Jvm.Cond.code ({ cls := "java/util/ImmutableCollections$List12", name := "get", desc := "(I)Ljava/lang/Object;" } : Jvm.MethodName) jdk_44_method_5_code (2 : Nat) (Option.some (Jvm.ClassFile.FieldType.object "java/lang/Object")), Jvm.Cond.code ({ cls := "org/stripeward/scenario/Blocks", name := "index", desc := "(I)I" } : Jvm.MethodName) prog_3_method_8_code (2 : Nat) (Option.some Jvm.ClassFile.FieldType.int), Jvm.Cond.code ({ cls := "org/stripeward/scenario/Blocks$Records", name := "index", desc := "(I)I" } : Jvm.MethodName) prog_4_method_3_code (2 : Nat) (Option.some Jvm.ClassFile.FieldType.int), Jvm.Cond.code ({ cls := "org/stripeward/scenario/Block", name := "index", desc := "()I" } : Jvm.MethodName) prog_2_method_6_code (1 : Nat) (Option.some Jvm.ClassFile.FieldType.int), Jvm.Cond.code ({ cls := "org/stripeward/scenario/Blocks", name := "holderCount", desc := "(I)I" } : Jvm.MethodName) prog_3_method_9_code (2 : Nat) (Option.some Jvm.ClassFile.FieldType.int), Jvm.Cond.code ({ cls := "org/stripeward/scenario/Blocks$Records", name := "holderCount", desc := "(I)I" } : Jvm.MethodName) prog_4_method_5_code (2 : Nat) (Option.some Jvm.ClassFile.FieldType.int), Jvm.Cond.code ({ cls := "org/stripeward/scenario/Block", name := "holders", desc := "()Ljava/util/List;" } : Jvm.MethodName) prog_2_method_8_code (1 : Nat) (Option.some (Jvm.ClassFile.FieldType.object "java/util/List")), Jvm.Cond.code ({ cls := "java/util/ImmutableCollections$ListN", name := "size", desc := "()I" } : Jvm.MethodName) jdk_45_method_3_code (1 : Nat) (Option.some Jvm.ClassFile.FieldType.int)]
set_option maxRecDepth 65536 in
theorem codes_eq : words1.filter isCode = codes1 := rfl
theorem w_codes : ∀ c ∈ words1.filter isCode, c.before args0 about1 = true := by
  rw [codes_eq]
  intro c hc
  simp only [codes1, List.mem_cons, List.not_mem_nil, or_false] at hc
  rcases hc with rfl | rfl | rfl | rfl | rfl | rfl | rfl | rfl | rfl | rfl | rfl | rfl | rfl | rfl | rfl | rfl | rfl | rfl | rfl | rfl | rfl | rfl | rfl | rfl | rfl | rfl | rfl | rfl | rfl | rfl | rfl | rfl | rfl | rfl | rfl | rfl | rfl | rfl | rfl | rfl | rfl | rfl | rfl
  · exact w_c0
  · exact w_c1
  · exact w_c2
  · exact w_c3
  · exact w_c4
  · exact w_c5
  · exact w_c6
  · exact w_c7
  · exact w_c8
  · exact w_c9
  · exact w_c10
  · exact w_c11
  · exact w_c12
  · exact w_c13
  · exact w_c14
  · exact w_c15
  · exact w_c16
  · exact w_c17
  · exact w_c18
  · exact w_c19
  · exact w_c20
  · exact w_c21
  · exact w_c22
  · exact w_c23
  · exact w_c24
  · exact w_c25
  · exact w_c26
  · exact w_c27
  · exact w_c28
  · exact w_c29
  · exact w_c30
  · exact w_c31
  · exact w_c32
  · exact w_c33
  · exact w_c34
  · exact w_c35
  · exact w_c36
  · exact w_c37
  · exact w_c38
  · exact w_c39
  · exact w_c40
  · exact w_c41
  · exact w_c42
set_option maxRecDepth 65536 in
theorem w_t1 : (words1.take 24).all (fun c => isCode c || c.before args0 about1) = true := by decide +kernel
set_option maxRecDepth 65536 in
theorem w_t2 : ((words1.drop 24).take 24).all (fun c => isCode c || c.before args0 about1) = true := by decide +kernel
set_option maxRecDepth 65536 in
theorem w_t3 : (((words1.drop 24).drop 24).take 24).all (fun c => isCode c || c.before args0 about1) = true := by decide +kernel
set_option maxRecDepth 65536 in
theorem w_t4 : ((((words1.drop 24).drop 24).drop 24).take 24).all (fun c => isCode c || c.before args0 about1) = true := by decide +kernel
set_option maxRecDepth 65536 in
theorem w_t5 : (((((words1.drop 24).drop 24).drop 24).drop 24).take 24).all (fun c => isCode c || c.before args0 about1) = true := by decide +kernel
set_option maxRecDepth 65536 in
theorem w_t6 : ((((((words1.drop 24).drop 24).drop 24).drop 24).drop 24).take 24).all (fun c => isCode c || c.before args0 about1) = true := by decide +kernel
set_option maxRecDepth 65536 in
theorem w_t7 : (((((((words1.drop 24).drop 24).drop 24).drop 24).drop 24).drop 24).take 24).all (fun c => isCode c || c.before args0 about1) = true := by decide +kernel
set_option maxRecDepth 65536 in
theorem w_t8 : ((((((((words1.drop 24).drop 24).drop 24).drop 24).drop 24).drop 24).drop 24).take 24).all (fun c => isCode c || c.before args0 about1) = true := by decide +kernel
set_option maxRecDepth 65536 in
theorem w_t9 : (((((((((words1.drop 24).drop 24).drop 24).drop 24).drop 24).drop 24).drop 24).drop 24).take 24).all (fun c => isCode c || c.before args0 about1) = true := by decide +kernel
set_option maxRecDepth 65536 in
theorem w_t10 : ((((((((((words1.drop 24).drop 24).drop 24).drop 24).drop 24).drop 24).drop 24).drop 24).drop 24).take 24).all (fun c => isCode c || c.before args0 about1) = true := by decide +kernel
set_option maxRecDepth 65536 in
theorem w_t11 : (((((((((((words1.drop 24).drop 24).drop 24).drop 24).drop 24).drop 24).drop 24).drop 24).drop 24).drop 24).take 24).all (fun c => isCode c || c.before args0 about1) = true := by decide +kernel
set_option maxRecDepth 65536 in
theorem w_t12 : ((((((((((((words1.drop 24).drop 24).drop 24).drop 24).drop 24).drop 24).drop 24).drop 24).drop 24).drop 24).drop 24).take 24).all (fun c => isCode c || c.before args0 about1) = true := by decide +kernel
set_option maxRecDepth 65536 in
theorem w_t13 : (((((((((((((words1.drop 24).drop 24).drop 24).drop 24).drop 24).drop 24).drop 24).drop 24).drop 24).drop 24).drop 24).drop 24).take 24).all (fun c => isCode c || c.before args0 about1) = true := by decide +kernel
set_option maxRecDepth 65536 in
theorem w_t14 : (((((((((((((words1.drop 24).drop 24).drop 24).drop 24).drop 24).drop 24).drop 24).drop 24).drop 24).drop 24).drop 24).drop 24).drop 24).all (fun c => isCode c || c.before args0 about1) = true := by decide +kernel
theorem w_tables : (allAtoms (Jvm.Cond.code x code maxLocals ret :: tables_1)).before args0 about1 = true := by
  rw [allAtoms_all]
  show words1.all (fun c => c.before args0 about1) = true
  refine all_split ?_ w_codes
  rw [← List.take_append_drop 24 words1, List.all_append, w_t1, ← List.take_append_drop 24 (words1.drop 24), List.all_append, w_t2, ← List.take_append_drop 24 ((words1.drop 24).drop 24), List.all_append, w_t3, ← List.take_append_drop 24 (((words1.drop 24).drop 24).drop 24), List.all_append, w_t4, ← List.take_append_drop 24 ((((words1.drop 24).drop 24).drop 24).drop 24), List.all_append, w_t5, ← List.take_append_drop 24 (((((words1.drop 24).drop 24).drop 24).drop 24).drop 24), List.all_append, w_t6, ← List.take_append_drop 24 ((((((words1.drop 24).drop 24).drop 24).drop 24).drop 24).drop 24), List.all_append, w_t7, ← List.take_append_drop 24 (((((((words1.drop 24).drop 24).drop 24).drop 24).drop 24).drop 24).drop 24), List.all_append, w_t8, ← List.take_append_drop 24 ((((((((words1.drop 24).drop 24).drop 24).drop 24).drop 24).drop 24).drop 24).drop 24), List.all_append, w_t9, ← List.take_append_drop 24 (((((((((words1.drop 24).drop 24).drop 24).drop 24).drop 24).drop 24).drop 24).drop 24).drop 24), List.all_append, w_t10, ← List.take_append_drop 24 ((((((((((words1.drop 24).drop 24).drop 24).drop 24).drop 24).drop 24).drop 24).drop 24).drop 24).drop 24), List.all_append, w_t11, ← List.take_append_drop 24 (((((((((((words1.drop 24).drop 24).drop 24).drop 24).drop 24).drop 24).drop 24).drop 24).drop 24).drop 24).drop 24), List.all_append, w_t12, ← List.take_append_drop 24 ((((((((((((words1.drop 24).drop 24).drop 24).drop 24).drop 24).drop 24).drop 24).drop 24).drop 24).drop 24).drop 24).drop 24), List.all_append, w_t13, w_t14]
  rfl
set_option maxRecDepth 65536 in
theorem w_rest : rest_1_c.before args0 about1 = true := by decide +kernel
set_option maxRecDepth 65536 in
theorem w_case : (Jvm.Cond.and given_1 narrow_1).before args0 about1 = true := by decide +kernel
theorem w_applies : (headSpec (Jvm.Cond.code x code maxLocals ret :: tables_1) room_1).applies x e0.platform about1 = true :=
  (Spec.applies_iff w_frames).mpr ⟨w_running, w_runnable, w_alone, w_named, w_hears, w_ripe, w_room, w_tables⟩
theorem atStart : AtStart classFile x code maxLocals ret World_1 tables_1 room_1 Calls_1 rest_1 Pre_1 launch0 p0 e0 about1 theMethod args0 below0 :=
  ⟨lists_1, trivial, launch0.admits_env _ _ _, launch0.least_env, fairChoices_fair.cas, fairChoices_fair.clock, w_frames, w_args, w_heap, w_applies, ⟨⟨32, k32, 3, by decide +kernel, rfl, rfl, _, rfl, rfl⟩, trivial⟩, w_rest, w_case⟩
end start1
theorem witness_1 : WitnessClaimed_1 := ⟨start1.p0, start1.e0, start1.about1, start1.theMethod, start1.args0, start1.below0, start1.atStart⟩
end Jvm.Pilot.@@N@@
