import JvmDerived
import JvmDerived.Pilot.@@N@@Statement
import JvmDerived.Pilot.@@N@@Code
set_option linter.unusedVariables false
set_option linter.unusedSimpArgs false
namespace Jvm.RoadKit
open Sem ClassFile Op Lib Jvm.Stand Jvm.Free Jvm.LawKit
section New
variable {p : Program} {l : Launch} {e : Env} {R : Room} {s : State} {m : MethodId} {args : Array Value} {below : List Frame} {meth : Method} {c : Code} {T : State} {locs : List Loc} {cells slots : Nat}
theorem retI (X : Stand p l e R s m args below meth c T locs cells slots) (hx : p.tables.exec = Jvm.exec) {pc : Nat} {Ls : Array Slot} {z : Int32} {rest : List Value} (hret : meth.sig.returnType = some .int) (hd : decode c.code pc = .ok (.ireturn, 1)) {fs : List Frame}
    (hl : ∀ (f : JFrame) (acts : List Action), f.method = m → f.locked = none → f.entered = [] → (doReturn e (T.setTop f) acts (some (.int z))).1 = T.setFrames fs) : Steps p.tables e below (T.setTop (mkF m pc Ls (.int z :: rest))) (T.setFrames fs) := by
  have hm' : T.vm.method? m = some meth := X.method'
  have hn : narrow .int (.int z) = .int z := rfl
  show Steps p.tables e below (T.setTop { method := m, pc := pc, locals := Ls, stack := _ :: rest, locked := none }) _
  jvm_step X.here [X.here.top, hx, hd, hm', hret, hn]
  first | (intro acts; rw [hl _ acts rfl rfl rfl]) | rw [hl _ _ rfl rfl rfl]
  exact Steps.refl _
end New
end Jvm.RoadKit
namespace Jvm.Pilot.@@N@@
open Jvm Jvm.ClassFile Sem Op Lib Jvm.Free Jvm.Stand Jvm.LawKit Jvm.RoadKit Bundle Jvm.Pilot.@@N@@.Jvm.D
/-- from A the run comes to its end, as the contract wants it -/
def Goes (p : Program) (e : Env) (below : List Frame) (En : Outcome → State → List Loc → Prop) (Q : Option Value → Heap → List Loc → Prop) (A : State) : Prop :=
  ∃ s₂ o, Steps p.tables e below A s₂ ∧ s₂.status = .running ∧ Ended s₂ below o ∧ ∃ v L, o = .returned v ∧ Q v s₂.heap L ∧ En o s₂ L
abbrev Met (l : Launch) (Z : State) (y : MethodName) (bytes : ByteArray) (maxL : Nat) (ret : Option FieldType) (rm : Room) (ws : List Jvm.Cond) (as : Array Value) (h0 : Heap) (Q : Option Value → Heap → List Loc → Prop) : Prop :=
  MetFree l y (head1 (Jvm.Cond.code y bytes maxL ret :: ws) rm) (fun aa U => aa = as ∧ Z.Warmed39 U.vm ∧ U.heap = h0) (fun _ _ _ _ _ => True) (fun _ U o U' => ∃ v L, o = .returned v ∧ Q v U'.heap L ∧ FrameEnd U o U' L rm.cells rm.slots)
abbrev MetW (l : Launch) (Z : State) (y : MethodName) (bytes : ByteArray) (maxL : Nat) (ret : Option FieldType) (rm : Room) (ws : List Jvm.Cond) (as : Array Value) (h0 : Heap) (Q : Option Value → Heap → List Loc → Prop) : Prop :=
  MetFree l y (head1 (Jvm.Cond.code y bytes maxL ret :: ws) rm) (fun aa U => aa = as ∧ Z.Warmed39 U.vm ∧ U.heap = h0) (fun _ _ _ _ _ => True) (fun _ U o U' => ∃ v L, o = .returned v ∧ Q v U'.heap L ∧ ReturnedEndW U o U' L rm.cells rm.slots)
abbrev MetH (l : Launch) (Z : State) (y : MethodName) (bytes : ByteArray) (maxL : Nat) (ret : Option FieldType) (rm : Room) (ws : List Jvm.Cond) (as : Array Value) (h0 : Heap) (Q : Option Value → Heap → List Loc → Prop) : Prop :=
  MetFree l y (head1 (Jvm.Cond.code y bytes maxL ret :: ws) rm) (fun aa U => aa = as ∧ Z.Warmed39 U.vm ∧ U.heap = h0 ∧ CHv Z consts_1 U.vm h0) (fun _ _ _ _ _ => True) (fun _ U o U' => ∃ v L, o = .returned v ∧ Q v U'.heap L ∧ CHr Z consts_1 U.vm U.heap U'.vm U'.heap ∧ ReturnedEndW U o U' L rm.cells rm.slots)
theorem gw {a0 : Array Value} {Z : State} (hw : ∀ d ∈ tables_1, d.before a0 Z = true) (i : Nat) {d : Jvm.Cond} (h : tables_1[i]? = some d) : d.before a0 Z = true := hw _ (List.mem_of_getElem? h)
theorem w0 {n W : Nat} (h : n ≤ W) : 2 * 0 + n ≤ W := by omega
def Ob (h : Heap) (x : Addr) : Prop := ∀ c : Cell, h[x]? = some c → c.vm.isStatics = false
theorem own_obE {Z : State} {h : Heap} {a : Addr} {C : String} (F : Exa Z h a C) : Ob h a := fun c hc => by obtain ⟨c', k, h1, -, -, h4, -⟩ := F; cases h1.symm.trans hc; exact h4
theorem own_obF {Z : State} {h : Heap} {a : Addr} {C n d : String} {v : Value} (F : Fld Z h a C n d v) : Ob h a := fun c hc => by obtain ⟨c', cf, k, i, f, h1, -, -, -, h5, -⟩ := F; cases h1.symm.trans hc; exact h5
theorem own_obA {Z : State} {h : Heap} {a : Addr} {k : ClassId} {ty : FieldType} {z : Int32} {vs : List Value} {d : Value} (F : Arv Z h a k ty z vs d) : Ob h a := fun c hc => by obtain ⟨c', A, -⟩ := F; cases A.1.symm.trans hc; exact A.plain
theorem own_staK {Z : State} {h h' : Heap} {C n d : String} {v : Value} {ws : List Addr} (F : Sta Z h C n d v) (K : Keep h h' ws) (q : ∀ x ∈ ws, Ob h x) : Sta Z h' C n d v := by
  obtain ⟨cf, i, k, f, st, cell, h1, h2, h3, h4, h5, h6, h7⟩ := F
  exact ⟨cf, i, k, f, st, cell, h1, h2, h3, h4, K.2.1 st cell h5 (fun hm => by have := q st hm cell h5; rw [this] at h6; cases h6), h6, h7⟩
theorem own_insK {Z : State} {h h' : Heap} {a : Addr} {C : String} {b : Bool} {ws : List Addr} (F : Ins Z h a C b) (K : Keep h h' ws) : Ins Z h' a C b := by
  obtain ⟨cell, cT, h1, h2, h3⟩ := F
  obtain ⟨c', g1, g2, g3, -⟩ := K.2.2 _ _ h1
  exact ⟨c', cT, g1, h2, by rw [g2, g3]; exact h3⟩
def NFc (Z : State) (K : String) : Prop := ∃ t kt, Z.vm.findClass K = some t ∧ Z.vm.classes[t]? = some kt ∧ kt.isInterface = false
theorem own_nfI {Z : State} {a0 : Array Value} {K : String} {n : Nat} (w : (Cond.instantiable K n).before a0 Z = true) : NFc Z K := by
  obtain ⟨c, k, h1, h2, -, h4, -⟩ := Cond.instantiable_spec w
  exact ⟨c, k, h1, h2, (Bool.or_eq_false_iff.mp h4).1⟩
theorem own_nfS {Z : State} {a0 : Array Value} {K : String} {x : MethodName} {n d : String} (w : (Cond.selects K x ⟨K, n, d⟩).before a0 Z = true) : NFc Z K := by
  obtain ⟨c, r, m, h1, h2, h3, h4, mk, h5, h6⟩ := Cond.selects_spec w
  exact ⟨_, mk, findClass_of_methodNamed h3, h5, h6⟩
theorem own_nsRoot {Z : State} {a0 : Array Value} {O K : String} (w : (Cond.noSuperclass O).before a0 Z = true) (wk : NFc Z K) (hn : O ≠ K) : NS Z O K := by
  obtain ⟨c, k, h1, h2, h3, -⟩ := Cond.noSuperclass_spec w
  obtain ⟨t, kt, g1, -⟩ := wk
  have ne := ids_ne h1 g1 hn
  refine ⟨c, t, h1, g1, fun fuel => ?_⟩
  cases fuel <;> simp [Vm.isSubclassAux, ne, h2, h3]
set_option maxRecDepth 65536 in
theorem own_nsNo {Z : State} {a0 : Array Value} {C S K : String} (w : (Cond.superclass C S).before a0 Z = true) (wk : NFc Z K) (n : NS Z C K) (hn : C ≠ K) : ∃ c t, Z.vm.findClass C = some c ∧ Z.vm.findClass K = some t ∧ Z.vm.assignable c t = false := by
  obtain ⟨c, t, h0, g0, n3⟩ := n
  obtain ⟨p, k, kp, h1, h2, h3, h4, h5, -⟩ := Cond.superclass_spec h0 w
  obtain ⟨t', kt, g1, g2, g3⟩ := wk
  cases g0.symm.trans g1
  have ne := ids_ne h0 g0 hn
  refine ⟨c, t, h0, g0, ?_⟩
  show Z.vm.assignableAux (255 + 1) c t = false
  cases hq : kt.kind <;> simp [Vm.assignableAux, ne, h2, g2, h5, hq, g3, Vm.isSubclass, n3]
theorem own_selP {Z s : State} {a0 args : Array Value} {y : MethodName} {n : Nat} (hZ : Z.Warmed39 s.vm) (wi : (Cond.instantiable y.cls n).before a0 Z = true) (wp : (Cond.privateMethod y).before a0 Z = true) (wm : (Cond.instanceMethod y).before a0 Z = true) (hy : y.cls ≠ "java/lang/invoke/MethodHandle" ∧ y.cls ≠ "java/lang/invoke/VarHandle") : (Cond.selects y.cls y y).before args s = true := by
  obtain ⟨c, k, h1, h2, -, h4, -⟩ := Cond.instantiable_spec (mvT hZ wi : (Cond.instantiable y.cls n).before #[] s = true)
  exact selects_self_of_private h1 h2 (Bool.or_eq_false_iff.mp h4).1 (Cond.privateMethod_at (mvP hZ wp (args := #[]))) (mvT hZ wm) hy
section OwnSteps
variable {p : Program} {l : Launch} {e : Env} {R : Room} {s : State} {m : MethodId} {args : Array Value} {below : List Frame} {meth : Method} {c : Code} {T : State} {locs : List Loc} {cells slots : Nat}
theorem Goes.step {En : Outcome → State → List Loc → Prop} {Q : Option Value → Heap → List Loc → Prop} {A B : State} (st : ∀ t, Steps p.tables e below A t → Steps p.tables e below B t) (h : Goes p e below En Q A) : Goes p e below En Q B :=
  let ⟨s₂, o, h1, r⟩ := h; ⟨s₂, o, st _ h1, r⟩
theorem Gs {En : Outcome → State → List Loc → Prop} {Q : Option Value → Heap → List Loc → Prop} {A B : State} (st : ∀ t, Steps p.tables e below A t → Steps p.tables e below B t) (h : Goes p e below En Q A) : Goes p e below En Q B := Goes.step st h
theorem own_join {En : Outcome → State → List Loc → Prop} {Q : Option Value → Heap → List Loc → Prop} {A B : State} (hB : Goes p e below En Q B) (k : Goes p e below En Q B → Goes p e below En Q A) : Goes p e below En Q A := k hB
theorem own_joinV {En : Outcome → State → List Loc → Prop} {Q : Option Value → Heap → List Loc → Prop} {A : State} {B : Int32 → State} (hB : ∀ z, Goes p e below En Q (B z)) (k : (∀ z, Goes p e below En Q (B z)) → Goes p e below En Q A) : Goes p e below En Q A := k hB
theorem own_met {Z : State} {y : MethodName} {bytes : ByteArray} {maxL : Nat} {ret : Option FieldType} {rm : Room} {ws : List Jvm.Cond} {as : Array Value} {h0 : Heap} {Q : Option Value → Heap → List Loc → Prop} (hp : plainFor y = true)
    (body : ∀ p e s m below meth c s₁, meth.sig.returnType = ret → p.tables.exec = Jvm.exec → c.code = bytes → meth.locks = false → c.maxLocals = maxL → s.vm.findClass y.cls = some m.cls → meth.name = y.name → Stand p l e rm s m as below meth c s₁ [] 0 0 → s₁.heap = h0 → Z.Warmed39 s.vm → s.heap = h0 →
      Goes p e below (fun o u L => FrameEnd s o u L rm.cells rm.slots) Q (s₁.setTop (entryFrame m as maxL))) : Met l Z y bytes maxL ret rm ws as h0 Q := by
  refine MetFree.of_bodySF hp hisR ?_
  intro p e s m args below meth c s₁ Bd hml0 hP hK
  obtain ⟨rfl, hZ, hh⟩ := hP
  exact body p e s m below meth c s₁ Bd.returns Bd.exec Bd.bytes (BodyLoose.notSynchronized Bd) hml0 (findClass_of_methodNamed Bd.named) (name_of_methodNamed Bd.named Bd.method).1 (Stand.of_body Bd) (by rw [← hh, Bd.state]; rfl) hZ hh
theorem own_metW {Z : State} {y : MethodName} {bytes : ByteArray} {maxL : Nat} {ret : Option FieldType} {rm : Room} {ws : List Jvm.Cond} {as : Array Value} {h0 : Heap} {Q : Option Value → Heap → List Loc → Prop} (hp : plainFor y = true)
    (body : ∀ p e s m below meth c s₁, meth.sig.returnType = ret → p.tables.exec = Jvm.exec → c.code = bytes → meth.locks = false → c.maxLocals = maxL → (s.setVm s.vm).vm.findClass y.cls = some m.cls → meth.name = y.name → Stand p l e rm (s.setVm s.vm) m as below meth c s₁ [] 0 0 → s₁.heap = h0 → Z.Warmed39 s.vm → s.heap = h0 →
      Goes p e below (fun o u L => ReturnedEndW s o u L rm.cells rm.slots) Q (s₁.setTop (entryFrame m as maxL))) : MetW l Z y bytes maxL ret rm ws as h0 Q := by
  refine MetFree.of_bodySF hp hisR ?_
  intro p e s m args below meth c s₁ Bd hml0 hP hK
  obtain ⟨rfl, hZ, hh⟩ := hP
  exact body p e s m below meth c s₁ Bd.returns Bd.exec Bd.bytes (BodyLoose.notSynchronized Bd) hml0 (findClass_of_methodNamed Bd.named) (name_of_methodNamed Bd.named Bd.method).1 (Stand.of_body Bd) (by rw [← hh, Bd.state]; rfl) hZ hh
theorem Goes.ret (X : Stand p l e R s m args below meth c T locs cells slots) {rc rs : Nat} {Q : Option Value → Heap → List Loc → Prop} {B : State} (v : Option Value) (hv : meth.sig.returnType = none → v = none) (hlk : meth.locks = false) (hc : cells ≤ rc) (hs : slots ≤ rs) (q : Q v T.heap locs)
    (k : ∀ fs, (∀ (f : JFrame) (acts : List Action), f.method = m → f.locked = none → f.entered = [] → (doReturn e (T.setTop f) acts v).1 = T.setFrames fs) → Steps p.tables e below B (T.setFrames fs)) : Goes p e below (fun o u L => FrameEnd s o u L rc rs) Q B := by
  obtain ⟨fs, hr, hrun, hended, hW, hsame⟩ := X.leave (v := v) hv hlk
  exact ⟨_, _, k fs hr, hrun, hended, _, _, rfl, q, ⟨_, rfl⟩, hW, hsame.mono hc hs⟩
theorem Goes.retW {vm₁ : Vm} (X : Stand p l e R (s.setVm vm₁) m args below meth c T locs cells slots) {n : Nat} (hS : s.Since vm₁ n) (hn : n ≤ T.heap.size) {rc rs : Nat} {Q : Option Value → Heap → List Loc → Prop} {B : State} (v : Option Value) (hv : meth.sig.returnType = none → v = none) (hlk : meth.locks = false) (hc : cells ≤ rc) (hs : slots ≤ rs) (q : Q v T.heap locs)
    (k : ∀ fs, (∀ (f : JFrame) (acts : List Action), f.method = m → f.locked = none → f.entered = [] → (doReturn e (T.setTop f) acts v).1 = T.setFrames fs) → Steps p.tables e below B (T.setFrames fs)) : Goes p e below (fun o u L => ReturnedEndW s o u L rc rs) Q B := by
  obtain ⟨fs, hr, hrun, hended, h1, h2, h3, h4⟩ := X.leaveW hS hn (v := v) hv hlk
  exact ⟨_, _, k fs hr, hrun, hended, _, _, rfl, q, h1, h2, h3, h4.mono hc hs⟩
theorem own_metH {Z : State} {y : MethodName} {bytes : ByteArray} {maxL : Nat} {ret : Option FieldType} {rm : Room} {ws : List Jvm.Cond} {as : Array Value} {h0 : Heap} {Q : Option Value → Heap → List Loc → Prop} (hp : plainFor y = true)
    (body : ∀ p e s m below meth c s₁, meth.sig.returnType = ret → p.tables.exec = Jvm.exec → c.code = bytes → meth.locks = false → c.maxLocals = maxL → (s.setVm s.vm).vm.findClass y.cls = some m.cls → meth.name = y.name → Stand p l e rm (s.setVm s.vm) m as below meth c s₁ [] 0 0 → s₁.heap = h0 → Z.Warmed39 s.vm → s.heap = h0 → CHv Z consts_1 s.vm h0 →
      Goes p e below (fun o u L => CHr Z consts_1 s.vm s.heap u.vm u.heap ∧ ReturnedEndW s o u L rm.cells rm.slots) Q (s₁.setTop (entryFrame m as maxL))) : MetH l Z y bytes maxL ret rm ws as h0 Q := by
  refine MetFree.of_bodySF hp hisR ?_
  intro p e s m args below meth c s₁ Bd hml0 hP hK
  obtain ⟨rfl, hZ, hh, hC⟩ := hP
  exact body p e s m below meth c s₁ Bd.returns Bd.exec Bd.bytes (BodyLoose.notSynchronized Bd) hml0 (findClass_of_methodNamed Bd.named) (name_of_methodNamed Bd.named Bd.method).1 (Stand.of_body Bd) (by rw [← hh, Bd.state]; rfl) hZ hh hC
theorem Goes.retH {Z : State} {a0 : Array Value} {h0 h : Heap} {vm₁ : Vm} (X : Stand p l e R (s.setVm vm₁) m args below meth c T locs cells slots) {n : Nat} (hS : s.Since vm₁ n) (eT : T.heap = h) (hn : n ≤ h.size) (hZ : Z.Warmed39 (s.setVm vm₁).vm) (hEL : EW Z a0 consts_1) (hh : s.heap = h0) (hR : CHr Z consts_1 s.vm h0 vm₁ h) {rc rs : Nat} {Q : Option Value → Heap → List Loc → Prop} {B : State} (v : Option Value) (hv : meth.sig.returnType = none → v = none) (hlk : meth.locks = false) (hc : cells ≤ rc) (hs : slots ≤ rs) (q : Q v T.heap locs)
    (k : ∀ fs, (∀ (f : JFrame) (acts : List Action), f.method = m → f.locked = none → f.entered = [] → (doReturn e (T.setTop f) acts v).1 = T.setFrames fs) → Steps p.tables e below B (T.setFrames fs)) : Goes p e below (fun o u L => CHr Z consts_1 s.vm s.heap u.vm u.heap ∧ ReturnedEndW s o u L rc rs) Q B := by
  subst eT hh
  obtain ⟨fs, hr, hrun, hended, h1, h2, h3, h4⟩ := X.leaveW hS hn (v := v) hv hlk
  have A := hR.trans (CHv.at X hZ hEL hR.1)
  exact ⟨_, _, k fs hr, hrun, hended, _, _, rfl, q, A, h1, h2, h3, h4.mono hc hs⟩
theorem own_ldcM {Z : State} {a0 : Array Value} {h : Heap} {own C : String} {index : Nat} {a : Addr} (X : Stand p l e R s m args below meth c T locs cells slots) (hx : p.tables.exec = Jvm.exec) (hZ : Z.Warmed39 s.vm) (hown : s.vm.findClass own = some m.cls) (w : (Cond.classLink own index C).before a0 Z = true) (eT : T.heap = h) (M : Mir Z C a)
    {g : JFrame} (hg : g.method = m) (hd : decode c.code g.pc = .ok (.ldc index, 2)) : ∃ T', Stand p l e R s m args below meth c T' locs cells slots ∧ T'.heap = h ∧ ∀ target, Steps p.tables e below (T'.setTop { g with pc := g.pc + 2, stack := .ref a :: g.stack }) target → Steps p.tables e below (T.setTop g) target := by
  obtain ⟨cc, kc, m1, m2, m3, -⟩ := M
  obtain ⟨k', q, ek⟩ := hZ.alike.2.2 _ _ m2
  obtain ⟨vm', X', st⟩ := X.ldcMirror hx hown (mvT hZ w) (a := a) (by
    have e1 : s.vm.findClass C = some cc := by rw [hZ.alike.findClass]; exact m1
    have e2 : k'.mirror = some a := by rw [ek]; exact m3
    simp [Term.eval, e1, q, e2]) hg hd
  exact ⟨_, X', eT, st⟩
theorem own_retN (X : Stand p l e R s m args below meth c T locs cells slots) (hx : p.tables.exec = Jvm.exec) {pc : Nat} {Ls : Array Slot} {z : Int32} {t : FieldType} {rest : List Value} (hret : meth.sig.returnType = some t) (ht : t = .boolean ∨ t = .byte ∨ t = .char ∨ t = .short) (hn : nar t z = z) (hd : decode c.code pc = .ok (.ireturn, 1)) {fs : List Frame}
    (hl : ∀ (f : JFrame) (acts : List Action), f.method = m → f.locked = none → f.entered = [] → (doReturn e (T.setTop f) acts (some (.int z))).1 = T.setFrames fs) : Steps p.tables e below (T.setTop (mkF m pc Ls (.int z :: rest))) (T.setFrames fs) :=
  retN X hx hret ht hd (by rw [hn]; exact hl)
theorem own_retA (X : Stand p l e R s m args below meth c T locs cells slots) (hx : p.tables.exec = Jvm.exec) {pc : Nat} {Ls : Array Slot} {z : Value} {t : FieldType} {rest : List Value} (hret : meth.sig.returnType = some t) (ht : t.isReference = true) (hz : z.isRef = true) (hd : decode c.code pc = .ok (.areturn, 1)) {fs : List Frame}
    (hl : ∀ (f : JFrame) (acts : List Action), f.method = m → f.locked = none → f.entered = [] → (doReturn e (T.setTop f) acts (some z)).1 = T.setFrames fs) : Steps p.tables e below (T.setTop (mkF m pc Ls (z :: rest))) (T.setFrames fs) := by
  have hm' : T.vm.method? m = some meth := X.method'
  show Steps p.tables e below (T.setTop { method := m, pc := pc, locals := Ls, stack := _ :: rest, locked := none }) _
  jvm_step X.here [X.here.top, hx, hd, hm', hret, hz, ht]
  first | (intro acts; rw [hl _ acts rfl rfl rfl]) | rw [hl _ _ rfl rfl rfl]
  exact Steps.refl _
end OwnSteps
abbrev mN0 : MethodName := ⟨"java/lang/String", "coder", "()B"⟩
abbrev mN1 : MethodName := ⟨"java/lang/String", "isLatin1", "()Z"⟩
abbrev mN2 : MethodName := ⟨"java/lang/String", "length", "()I"⟩
abbrev mN3 : MethodName := ⟨"jdk/internal/util/Preconditions", "checkIndex", "(IILjava/util/function/BiFunction;)I"⟩
abbrev mN4 : MethodName := ⟨"java/lang/String", "checkIndex", "(II)V"⟩
abbrev mN5 : MethodName := ⟨"java/lang/StringLatin1", "charAt", "([BI)C"⟩
abbrev mN6 : MethodName := ⟨"java/lang/String", "charAt", "(I)C"⟩
abbrev mN7 : MethodName := ⟨"java/lang/String", "<init>", "([CIILjava/lang/Void;)V"⟩
abbrev mN8 : MethodName := ⟨"java/lang/String", "<init>", "([C)V"⟩
abbrev mN9 : MethodName := ⟨"java/lang/StringUTF16", "compress", "([CI[BII)I"⟩
abbrev mN10 : MethodName := ⟨"java/lang/StringUTF16", "compress", "([CII)[B"⟩
abbrev mN11 : MethodName := ⟨"java/lang/StringUTF16", "coderFromArrayLen", "([BI)B"⟩
abbrev mN12 : MethodName := ⟨"com/example/token_into_keys/tokenintokeys/text/TextShapeStartsWithPinLaw", "raw", "(JI)I"⟩
abbrev mN13 : MethodName := ⟨"com/example/token_into_keys/tokenintokeys/text/TextShapeStartsWithPinLaw", "tpl", "(JII)C"⟩
abbrev mN14 : MethodName := ⟨"com/example/token_into_keys/tokenintokeys/text/TextShapeStartsWithPinLaw", "txt", "(JIIC)C"⟩
abbrev mN15 : MethodName := ⟨"com/example/token_into_keys/tokenintokeys/text/TextShapeStartsWithPinLaw", "fits", "(CC)Z"⟩
abbrev mN16 : MethodName := ⟨"com/example/token_into_keys/tokenintokeys/text/TextShapeStartsWithPinLaw", "str", "(ICCCC)Ljava/lang/String;"⟩
abbrev mN17 : MethodName := ⟨"com/example/token_into_keys/tokenintokeys/text/TextShape", "startsWith", "(Ljava/lang/String;Ljava/lang/String;)Z"⟩
def Lat (c : Int32) : Prop := 0 ≤ c.toInt ∧ c.toInt ≤ 255
def Chr (c : Int32) : Prop := 0 ≤ c.toInt ∧ c.toInt ≤ 65535
theorem Lat.chr {c : Int32} (h : Lat c) : Chr c := ⟨h.1, by have := h.2; omega⟩
def lo8 (c : Int32) : Int32 := c.toInt8.toInt32
def hi8 (c : Int32) : Int32 := (c >>> ((8 : Int32) &&& 31)).toInt8.toInt32
def latV (cs : List Int32) : List Value := cs.map fun c => .int (lo8 c)
def utfV (cs : List Int32) : List Value := cs.flatMap fun c => [.int (lo8 c), .int (hi8 c)]
theorem own_shr0 (x : Int32) : x >>> ((0 : Int32) &&& 31) = x := by
  apply Int32.toInt_inj.mp
  rw [c_ishr x 0 0 (by decide)]; simp
theorem own_shl0 (x : Int32) : x <<< ((0 : Int32) &&& 31) = x := by
  have h := c_ishl x 0 0 (by decide)
  have a := rng32 x; have b := rng32 (x <<< ((0 : Int32) &&& 31))
  apply Int32.toInt_inj.mp
  simp only [Nat.pow_zero] at h
  omega
theorem own_nc {c : Int32} (h : Chr c) : nar .char c = c := by
  have q := c_i2c c
  obtain ⟨h1, h2⟩ := h
  apply Int32.toInt_inj.mp
  show c.toUInt32.toUInt16.toUInt32.toInt32.toInt = c.toInt
  omega
theorem own_nb (c : Int32) : nar .byte (c.toInt8.toInt32) = lo8 c := by
  show (c.toInt8.toInt32).toInt8.toInt32 = c.toInt8.toInt32
  have a := c_i2b c
  have b := c_i2b (c.toInt8.toInt32)
  apply Int32.toInt_inj.mp
  omega
theorem own_nbh (c : Int32) : nar .byte ((c >>> ((8 : Int32) &&& 31)).toInt8.toInt32) = hi8 c := own_nb _
theorem own_nb2 (c : Int32) : c.toInt8.toInt32.toInt8.toInt32 = lo8 c := own_nb c
theorem own_nbh2 (c : Int32) : (c >>> ((8 : Int32) &&& 31)).toInt8.toInt32.toInt8.toInt32 = hi8 c := own_nb _
theorem own_backL {c : Int32} (h : Lat c) : (lo8 c &&& (255 : Int32)) = c := by
  obtain ⟨h1, h2⟩ := h
  have a := c_i2b c
  have b := c_mask (lo8 c) 255 8 (by decide) (by decide)
  apply Int32.toInt_inj.mp
  rw [b]
  show c.toInt8.toInt32.toInt % 256 = c.toInt
  omega
theorem own_i2c {c : Int32} (h : Chr c) : c.toUInt32.toUInt16.toUInt32.toInt32 = c := own_nc h
theorem own_backU {c : Int32} (h : Chr c) : ((((lo8 c &&& (255 : Int32)) <<< ((0 : Int32) &&& 31)) ||| ((hi8 c &&& (255 : Int32)) <<< ((8 : Int32) &&& 31))).toUInt32.toUInt16.toUInt32.toInt32) = c := by
  obtain ⟨h1, h2⟩ := h
  rw [own_shl0]
  have a := c_i2b c
  have m1 := c_mask (lo8 c) 255 8 (by decide) (by decide)
  have m2 := c_mask (hi8 c) 255 8 (by decide) (by decide)
  have s1 := c_ishr c 8 8 (by decide)
  have b := c_i2b (c >>> ((8 : Int32) &&& 31))
  have e1 : (lo8 c).toInt = c.toInt8.toInt32.toInt := rfl
  have e2 : (hi8 c).toInt = (c >>> ((8 : Int32) &&& 31)).toInt8.toInt32.toInt := rfl
  have sh := c_ishl (hi8 c &&& (255 : Int32)) 8 8 (by decide)
  generalize (lo8 c &&& (255 : Int32)) = x at *
  generalize hy : (hi8 c &&& (255 : Int32)) = y at *
  generalize hw : y <<< ((8 : Int32) &&& 31) = w at *
  have hyr : 0 ≤ y.toInt ∧ y.toInt < 256 := by omega
  have rw1 := rng32 w
  have hwv : w.toInt = y.toInt * 256 := by omega
  have o := c_or w x 8 (by decide) 256 (by decide) (by omega) (by omega) (by omega)
  rw [Int32.or_comm]
  have i := c_i2c (w ||| x)
  have r := rng32 (w ||| x)
  apply Int32.toInt_inj.mp
  omega
theorem own_shr1 {n : Nat} (h : n ≤ 1000) : (Int32.ofNat (2 * n)) >>> ((1 : Int32) &&& 31) = Int32.ofNat n := by
  apply Int32.toInt_inj.mp
  rw [c_ishr _ 1 1 (by decide)]
  have a : (Int32.ofNat (2 * n)).toInt = 2 * n := Int32.toInt_ofNat_of_lt (by omega)
  have b : (Int32.ofNat n).toInt = n := Int32.toInt_ofNat_of_lt (by omega)
  rw [a, b]; omega
abbrev JS : String := "java/lang/String"
def StrOf (Z : State) (h : Heap) (a : Addr) (cs : List Int32) : Prop := ∃ (b : Addr) (kb : ClassId), Exa Z h a "java/lang/String" ∧ Fld Z h a "java/lang/String" "value" "[B" (.ref b) ∧
  ((Fld Z h a "java/lang/String" "coder" "B" (.int 0) ∧ (∀ c ∈ cs, Lat c) ∧ Arv Z h b kb .byte (Int32.ofNat cs.length) (latV cs) (.int 0)) ∨ False) ∧ cs.length ≤ 1000
section S
variable {Z : State} {h h' : Heap} {a b o : Addr} {kb : ClassId} {cs : List Int32} {z : Int32} {vs : List Value} {ws : List Addr} {a0 : Array Value}
theorem StrOf.latin (A : Exa Z h a "java/lang/String") (F : Fld Z h a "java/lang/String" "value" "[B" (.ref b)) (C : Fld Z h a "java/lang/String" "coder" "B" (.int 0)) (V : Arv Z h b kb .byte z vs (.int 0)) (hL : ∀ c ∈ cs, Lat c) (hz : z = Int32.ofNat cs.length) (hv : vs = latV cs) (hn : cs.length ≤ 1000) : StrOf Z h a cs := by
  subst hz hv; exact ⟨b, kb, A, F, Or.inl ⟨C, hL, V⟩, hn⟩
theorem StrOf.lt (S : StrOf Z h a cs) : a < h.size := by obtain ⟨b, kb, A, -⟩ := S; exact A.lt
theorem StrOf.exa (S : StrOf Z h a cs) : Exa Z h a "java/lang/String" := by obtain ⟨b, kb, A, -⟩ := S; exact A
theorem StrOf.ext (S : StrOf Z h a cs) (E : Ext h h') : StrOf Z h' a cs := by
  obtain ⟨b, kb, A, F, R, n⟩ := S
  exact ⟨b, kb, A.ext E, F.ext E, R.imp (fun ⟨C, L, V⟩ => ⟨C.ext E, L, V.ext E⟩) id, n⟩
def NB (Z : State) (h : Heap) (x : Addr) : Prop := ∀ (b : Addr) (kb : ClassId) (z : Int32) (vs : List Value) (d : Value), Arv Z h b kb .byte z vs d → x ≠ b
theorem own_nbE {C : String} {n : Nat} (E : Exa Z h o C) (w : (Cond.instantiable C n).before a0 Z = true) : NB Z h o := fun b kb z vs d V => E.neArv V w
theorem own_nbC {k : ClassId} {d : Value} (E : Arv Z h o k .char z vs d) : NB Z h o := fun b kb z' vs' d' V q => by
  subst q
  obtain ⟨c1, A1, -⟩ := E
  obtain ⟨c2, A2, -⟩ := V
  cases A1.1.symm.trans A2.1
  obtain ⟨-, k1, j1, m1, e1⟩ := A1.2.1
  obtain ⟨-, k2, j2, m2, e2⟩ := A2.2.1
  cases j1.symm.trans j2
  rw [e1] at e2; cases e2
theorem StrOf.keep (S : StrOf Z h a cs) (K : Keep h h' ws) (q : ∀ x ∈ ws, x ≠ a ∧ NB Z h x) : StrOf Z h' a cs := by
  obtain ⟨b, kb, A, F, R, n⟩ := S
  have ha : a ∉ ws := fun m => (q a m).1 rfl
  refine ⟨b, kb, A.keep K, F.keep K ha, ?_, n⟩
  rcases R with ⟨C, L, V⟩ | V
  · exact Or.inl ⟨C.keep K ha, L, V.keep K fun m => (q b m).2 _ _ _ _ _ V rfl⟩
  · exact V.elim
theorem StrOf.wr {sl : Nat} {v : Value} (S : StrOf Z h a cs) (W : Wr h h' o sl v) (q : o ≠ a) (r : NB Z h o) : StrOf Z h' a cs := S.keep (Keep.of_wr W) (allS ⟨q, r⟩ all0)
end S
theorem own_latGet {cs : List Int32} {j r : Int32} (h0 : ¬ j < 0) (h1 : j < Int32.ofNat cs.length) (hn : cs.length ≤ 1000) (hr : cs.getD j.toNatClampNeg 0 = r) : (latV cs).getD j.toNatClampNeg (.int 0) = .int (lo8 r) := by
  have hl : (Int32.ofNat cs.length).toInt = cs.length := Int32.toInt_ofNat_of_lt (by omega)
  rw [Int32.lt_iff_toInt_lt, hl] at h1
  rw [Int32.lt_iff_toInt_lt] at h0
  have e0 : (0 : Int32).toInt = 0 := by decide
  have hj : j.toNatClampNeg < cs.length := by simp only [Int32.toNatClampNeg]; omega
  subst hr
  simp [latV, List.getD_eq_getElem?_getD, List.getElem?_map, List.getElem?_eq_getElem hj]
theorem own_idx {cs : List Int32} {j : Int32} (h0 : ¬ j < 0) (h1 : j < Int32.ofNat cs.length) (hn : cs.length ≤ 1000) : j.toNatClampNeg < cs.length := by
  have hl : (Int32.ofNat cs.length).toInt = cs.length := Int32.toInt_ofNat_of_lt (by omega)
  rw [Int32.lt_iff_toInt_lt, hl] at h1
  rw [Int32.lt_iff_toInt_lt] at h0
  have e0 : (0 : Int32).toInt = 0 := by decide
  simp only [Int32.toNatClampNeg]; omega
theorem own_mem {cs : List Int32} {j r : Int32} (h0 : ¬ j < 0) (h1 : j < Int32.ofNat cs.length) (hn : cs.length ≤ 1000) (hr : cs.getD j.toNatClampNeg 0 = r) : r ∈ cs := by
  have hj := own_idx h0 h1 hn
  subst hr
  simp [List.getD_eq_getElem?_getD, List.getElem?_eq_getElem hj]
theorem own_latN {c : Int32} (h : Lat c) : ¬ ((255 : Int32) < c) := by
  obtain ⟨h1, h2⟩ := h
  rw [Int32.lt_iff_toInt_lt]
  have e0 : (255 : Int32).toInt = 255 := by decide
  omega
theorem StrOf.len {Z : State} {h : Heap} {a : Addr} {cs : List Int32} (S : StrOf Z h a cs) : cs.length ≤ 1000 := by obtain ⟨b, kb, -, -, -, n⟩ := S; exact n
theorem own_il {cs : List Int32} (k : Nat) (j : Int32) (hj : j.toInt = k) (h : k < cs.length) (hn : cs.length ≤ 1000) : j < Int32.ofNat cs.length := by
  have hl : (Int32.ofNat cs.length).toInt = cs.length := Int32.toInt_ofNat_of_lt (by omega)
  rw [Int32.lt_iff_toInt_lt, hl, hj]; omega
theorem own_len_lt {cs : List Int32} {k : Int32} {n : Nat} (hk : k.toInt = n) (hn : cs.length ≤ 1000) : Int32.ofNat cs.length < k ↔ cs.length < n := by
  have hl : (Int32.ofNat cs.length).toInt = cs.length := Int32.toInt_ofNat_of_lt (by omega)
  rw [Int32.lt_iff_toInt_lt, hl, hk]; omega
theorem own_safeNew {Z : State} {EL : List (String × Nat)} {vm : Vm} {h : Heap} {x : Addr} (hal : Z.vm.Alike vm) (E : Exa Z h x "java/lang/String") (V : Fld Z h x "java/lang/String" "value" "[B" .null) : Safe Z EL vm h x := fun B => by
  obtain ⟨cell, k, e1, e2, e3, -, -⟩ := E
  obtain ⟨cell', cf, kf, i, f, v1, v2, v3, v4, v5, v6, v7⟩ := V
  cases e1.symm.trans v1
  obtain ⟨p, -, u, a, -, q, -, F, rfl | rfl⟩ := B
  · cases (show h[q.sa]? = some q.sC from F.ha).symm.trans e1
    obtain ⟨cS, ⟨r, -, -⟩, -⟩ := F
    obtain ⟨k', w, -⟩ := State.fieldFound?_setVm (s := ({ Z with heap := h } : State)) (vm' := vm) hal v2
    obtain ⟨c2, k2, i2, w2, -⟩ := r.2.2.2.1
    have w3 := w.symm.trans w2
    simp only [Option.some.injEq, Prod.mk.injEq] at w3
    have r8 := r.2.2.2.2.2.2.2.1
    rw [← w3.2.2.2, v7] at r8
    cases r8
  · cases (show h[q.sd]? = some q.SA from F.hd).symm.trans e1
    obtain ⟨cS, -, -, f', -⟩ := F
    have f2 : vm.findClass "[B" = some q.SA.cls := f'
    rw [hal.findClass] at f2
    obtain ⟨k1, q1, q2⟩ := Vm.findClass_spec f2
    obtain ⟨k2, q3, q4⟩ := Vm.findClass_spec e2
    cases q1.symm.trans q3
    exact absurd (q2.symm.trans q4) (by decide)
def own_fit2 (p c : Int32) : Int32 := if p = 48 then (if c < 48 then 0 else if 57 < c then 0 else 1) else if c = p then 1 else 0
theorem own_sub48 {c : Int32} (h : Lat c) : ((c - 48 < 0) ↔ c < 48) ∧ ((c - 48 < 10) ↔ ¬ (57 < c)) := by
  obtain ⟨h1, h2⟩ := h
  have q := c_isub c 48
  have e0 : (0 : Int32).toInt = 0 := by decide
  have e48 : (48 : Int32).toInt = 48 := by decide
  have e10 : (10 : Int32).toInt = 10 := by decide
  have e57 : (57 : Int32).toInt = 57 := by decide
  have r := rng32 (c - 48)
  simp only [Int32.lt_iff_toInt_lt, e0, e48, e10, e57]
  rw [e48] at q
  omega
def own_str (n a b c d : Int32) : List Int32 := if n = 0 then [] else if n = 1 then [a] else if n = 2 then [a, b] else if n = 3 then [a, b, c] else [a, b, c, d]
def own_sw : List Int32 → List Int32 → Int32
  | [], _ => 1
  | _ :: _, [] => 0
  | p :: ps, c :: cs => if own_fit2 p c = 0 then 0 else own_sw ps cs
theorem own_swShort : ∀ (ps cs : List Int32), cs.length < ps.length → own_sw ps cs = 0
  | [], cs, h => by simp at h
  | _ :: _, [], _ => rfl
  | p :: ps, c :: cs, h => by
    simp only [own_sw]
    split
    · rfl
    · exact own_swShort ps cs (by simpa using h)
theorem own_mask3 (x : Int32) : (x &&& (3 : Int32)) = 0 ∨ (x &&& (3 : Int32)) = 1 ∨ (x &&& (3 : Int32)) = 2 ∨ (x &&& (3 : Int32)) = 3 := by
  have h := c_and x 3 (by decide)
  have e3 : (3 : Int32).toInt = 3 := by decide
  rw [e3] at h
  generalize (x &&& (3 : Int32)) = r at *
  have e0 : (0 : Int32).toInt = 0 := by decide
  have e1 : (1 : Int32).toInt = 1 := by decide
  have e2 : (2 : Int32).toInt = 2 := by decide
  simp only [← Int32.toInt_inj, e0, e1, e2, e3]
  omega
theorem own_lt5 (y : Int32) : ((y &&& (7 : Int32)) % (5 : Int32)) = 0 ∨ ((y &&& (7 : Int32)) % (5 : Int32)) = 1 ∨ ((y &&& (7 : Int32)) % (5 : Int32)) = 2 ∨ ((y &&& (7 : Int32)) % (5 : Int32)) = 3 ∨ ((y &&& (7 : Int32)) % (5 : Int32)) = 4 := by
  have h := c_and y 7 (by decide)
  have h2 := (c_irem (y &&& (7 : Int32)) 5 5 (by decide)).1 h.1
  generalize ((y &&& (7 : Int32)) % (5 : Int32)) = r at *
  generalize (y &&& (7 : Int32)) = z at *
  have e0 : (0 : Int32).toInt = 0 := by decide
  have e1 : (1 : Int32).toInt = 1 := by decide
  have e2 : (2 : Int32).toInt = 2 := by decide
  have e3 : (3 : Int32).toInt = 3 := by decide
  have e4 : (4 : Int32).toInt = 4 := by decide
  simp only [← Int32.toInt_inj, e0, e1, e2, e3, e4]
  omega
theorem own_rawLat (x : Int64) : Lat (x &&& (255 : Int64)).toInt32 := by
  have h := c_maskL x 255 8 (by decide) (by decide)
  have q := c_l2i (x &&& (255 : Int64))
  have r := rng32 (x &&& (255 : Int64)).toInt32
  generalize (x &&& (255 : Int64)).toInt32 = y at *
  generalize (x &&& (255 : Int64)) = z at *
  exact ⟨by omega, by omega⟩
theorem own_slash {r : Int32} (h : Lat r) : Lat ((47 : Int32) + r % (12 : Int32)) := by
  obtain ⟨h1, h2⟩ := h
  have q := (c_irem r 12 12 (by decide)).1 h1
  have s := c_iadd 47 (r % (12 : Int32))
  have e47 : (47 : Int32).toInt = 47 := by decide
  have g := rng32 ((47 : Int32) + r % (12 : Int32))
  rw [e47, q] at s
  exact ⟨by omega, by omega⟩
theorem d0_0 : decode jdk_42_method_152_code 0 = .ok (.getstatic 38, 3) := by decide +kernel
theorem d0_3 : decode jdk_42_method_152_code 3 = .ok (.ifCond .eq 10, 3) := by decide +kernel
theorem d0_6 : decode jdk_42_method_152_code 6 = .ok (.aload_n 0, 1) := by decide +kernel
theorem d0_7 : decode jdk_42_method_152_code 7 = .ok (.getfield 15, 3) := by decide +kernel
theorem d0_10 : decode jdk_42_method_152_code 10 = .ok (.goto 4, 3) := by decide +kernel
theorem d0_14 : decode jdk_42_method_152_code 14 = .ok (.ireturn, 1) := by decide +kernel
theorem own_pn0 : plainName "java/lang/String" = true := by first | (simp [plainName, overriddenIn]; done) | decide +kernel
theorem own_ef_rs_coder0 (m : MethodId) (x0 : Addr) : entryFrame m #[(.ref x0)] 1 = mkF m 0 #[.val (.ref x0)] [] := by first | (simp [entryFrame, mkF, argsToLocals, Value.category]; done) | rfl
def Q_rs_coder0 (Z : State) (a : Addr) (cz : Int32) (h0 : Heap) (n0 : Nat) (v : Option Value) (h : Heap) (L : List Loc) : Prop := v = some (.int (0 : Int32)) ∧ Fr n0 L ∧ h = h0
set_option maxRecDepth 65536 in
set_option maxHeartbeats 40000000 in
theorem rs_coder0 (l : Launch) (Z : State) (a0 : Array Value) (hw : ∀ d ∈ tables_1, d.before a0 Z = true) (ws : List Jvm.Cond) (a : Addr) (cz : Int32) (h0 : Heap) (n0 : Nat) (Z0 : n0 ≤ h0.size) (F_coder_a : Fld Z h0 a "java/lang/String" "coder" "B" (.int (0 : Int32))) (S_COMPACT_STRINGS : Sta Z h0 "java/lang/String" "COMPACT_STRINGS" "Z" (.int cz)) (hcz : ¬ (cz = (0 : Int32))) :
    Met l Z mN0 jdk_42_method_152_code 1 (some .byte) ({ frames := 0, cells := 0, slots := 0, locals := 0 } : Room) ws #[(.ref a)] h0 (Q_rs_coder0 Z a cz h0 n0) := by
  refine own_met (plainFor_of_name own_pn0) ?_
  intro p e s m below meth c s₁ hret hx hby hlk hml hown hnm X0 e0 hZ hh
  have N0 := Fr.nil n0
  refine Gs (fun _ tk => castTop (own_ef_rs_coder0 m a) tk) ?_
  show Goes _ _ _ _ _ (s₁.setTop (mkF m 0 #[.val (.ref a)] []))
  obtain ⟨T1, X1, e1, st1⟩ := getS2 X0 hx hZ hown (host := "") (Or.inl (gw hw 50 rfl)) Via.refl e0 S_COMPACT_STRINGS (g := (mkF m 0 #[.val (.ref a)] [])) rfl (hb hby d0_0)
  refine Gs st1 ?_
  show Goes _ _ _ _ _ (T1.setTop (mkF m 3 #[.val (.ref a)] [(.int cz)]))
  refine Gs (fun _ tk => XS.ifNo X1.here hx rfl (hb hby d0_3) rfl ((if0 _ _).trans (feq hcz).1) tk) ?_
  refine Gs (fun _ tk => XS.aloadN X1.here hx rfl (hb hby d0_6) rfl rfl tk) ?_
  obtain ⟨T2, X2, e2, st2⟩ := getF X1 hx hZ hown (host := "") (Or.inl (gw hw 35 rfl)) Via.refl e1 F_coder_a (g := (mkF m 7 #[.val (.ref a)] [(.ref a)])) rfl rfl (hb hby d0_7)
  refine Gs st2 ?_
  show Goes _ _ _ _ _ (T2.setTop (mkF m 10 #[.val (.ref a)] [(.int (0 : Int32))]))
  refine Gs (fun _ tk => XS.goto X2.here hx rfl (pc0 := 10) (pc' := 14) rfl (hb hby d0_10) (by decide) (by decide) tk) ?_
  refine Goes.ret X2 (some (.int (0 : Int32))) (fun h => by rw [hret] at h; cases h) hlk (by decide) (by decide) ?_ (fun fs hr => ?_)
  · exact ⟨rfl, N0, e2⟩
  · exact own_retN X2 hx (t := .byte) hret (by simp) rfl (hb hby d0_14) hr
theorem d1_0 : decode jdk_42_method_154_code 0 = .ok (.getstatic 38, 3) := by decide +kernel
theorem d1_3 : decode jdk_42_method_154_code 3 = .ok (.ifCond .eq 14, 3) := by decide +kernel
theorem d1_6 : decode jdk_42_method_154_code 6 = .ok (.aload_n 0, 1) := by decide +kernel
theorem d1_7 : decode jdk_42_method_154_code 7 = .ok (.getfield 15, 3) := by decide +kernel
theorem d1_10 : decode jdk_42_method_154_code 10 = .ok (.ifCond .ne 7, 3) := by decide +kernel
theorem d1_13 : decode jdk_42_method_154_code 13 = .ok (.iconst 1, 1) := by decide +kernel
theorem d1_14 : decode jdk_42_method_154_code 14 = .ok (.goto 4, 3) := by decide +kernel
theorem d1_18 : decode jdk_42_method_154_code 18 = .ok (.ireturn, 1) := by decide +kernel
theorem own_ef_rs_isl0 (m : MethodId) (x0 : Addr) : entryFrame m #[(.ref x0)] 1 = mkF m 0 #[.val (.ref x0)] [] := by first | (simp [entryFrame, mkF, argsToLocals, Value.category]; done) | rfl
def Q_rs_isl0 (Z : State) (a : Addr) (cz : Int32) (h0 : Heap) (n0 : Nat) (v : Option Value) (h : Heap) (L : List Loc) : Prop := v = some (.int (1 : Int32)) ∧ Fr n0 L ∧ h = h0
set_option maxRecDepth 65536 in
set_option maxHeartbeats 40000000 in
theorem rs_isl0 (l : Launch) (Z : State) (a0 : Array Value) (hw : ∀ d ∈ tables_1, d.before a0 Z = true) (ws : List Jvm.Cond) (a : Addr) (cz : Int32) (h0 : Heap) (n0 : Nat) (Z0 : n0 ≤ h0.size) (F_coder_a : Fld Z h0 a "java/lang/String" "coder" "B" (.int (0 : Int32))) (S_COMPACT_STRINGS : Sta Z h0 "java/lang/String" "COMPACT_STRINGS" "Z" (.int cz)) (hcz : ¬ (cz = (0 : Int32))) :
    Met l Z mN1 jdk_42_method_154_code 1 (some .boolean) ({ frames := 0, cells := 0, slots := 0, locals := 0 } : Room) ws #[(.ref a)] h0 (Q_rs_isl0 Z a cz h0 n0) := by
  refine own_met (plainFor_of_name own_pn0) ?_
  intro p e s m below meth c s₁ hret hx hby hlk hml hown hnm X0 e0 hZ hh
  have N0 := Fr.nil n0
  refine Gs (fun _ tk => castTop (own_ef_rs_isl0 m a) tk) ?_
  show Goes _ _ _ _ _ (s₁.setTop (mkF m 0 #[.val (.ref a)] []))
  obtain ⟨T1, X1, e1, st1⟩ := getS2 X0 hx hZ hown (host := "") (Or.inl (gw hw 50 rfl)) Via.refl e0 S_COMPACT_STRINGS (g := (mkF m 0 #[.val (.ref a)] [])) rfl (hb hby d1_0)
  refine Gs st1 ?_
  show Goes _ _ _ _ _ (T1.setTop (mkF m 3 #[.val (.ref a)] [(.int cz)]))
  refine Gs (fun _ tk => XS.ifNo X1.here hx rfl (hb hby d1_3) rfl ((if0 _ _).trans (feq hcz).1) tk) ?_
  refine Gs (fun _ tk => XS.aloadN X1.here hx rfl (hb hby d1_6) rfl rfl tk) ?_
  obtain ⟨T2, X2, e2, st2⟩ := getF X1 hx hZ hown (host := "") (Or.inl (gw hw 35 rfl)) Via.refl e1 F_coder_a (g := (mkF m 7 #[.val (.ref a)] [(.ref a)])) rfl rfl (hb hby d1_7)
  refine Gs st2 ?_
  show Goes _ _ _ _ _ (T2.setTop (mkF m 10 #[.val (.ref a)] [(.int (0 : Int32))]))
  refine Gs (fun _ tk => XS.ifNo X2.here hx rfl (hb hby d1_10) rfl ((if0 _ _).trans (teq (by decide : ((0 : Int32) = (0 : Int32)))).2) tk) ?_
  refine Gs (fun _ tk => XS.iconst X2.here hx rfl (hb hby d1_13) tk) ?_
  refine Gs (fun _ tk => XS.goto X2.here hx rfl (pc0 := 14) (pc' := 18) rfl (hb hby d1_14) (by decide) (by decide) tk) ?_
  refine Goes.ret X2 (some (.int (1 : Int32))) (fun h => by rw [hret] at h; cases h) hlk (by decide) (by decide) ?_ (fun fs hr => ?_)
  · exact ⟨rfl, N0, e2⟩
  · exact own_retN X2 hx (t := .boolean) hret (by simp) rfl (hb hby d1_18) hr
theorem d2_0 : decode jdk_42_method_54_code 0 = .ok (.aload_n 0, 1) := by decide +kernel
theorem d2_1 : decode jdk_42_method_54_code 1 = .ok (.getfield 9, 3) := by decide +kernel
theorem d2_4 : decode jdk_42_method_54_code 4 = .ok (.arraylength, 1) := by decide +kernel
theorem d2_5 : decode jdk_42_method_54_code 5 = .ok (.aload_n 0, 1) := by decide +kernel
theorem d2_6 : decode jdk_42_method_54_code 6 = .ok (.invokevirtual 335, 3) := by decide +kernel
theorem own_pd0 : parseMethodDescriptor "()B" = some ⟨[], some .byte⟩ := by decide +kernel
theorem d2_9 : decode jdk_42_method_54_code 9 = .ok (.ishr, 1) := by decide +kernel
theorem d2_10 : decode jdk_42_method_54_code 10 = .ok (.ireturn, 1) := by decide +kernel
theorem own_ef_rs_len (m : MethodId) (x0 : Addr) : entryFrame m #[(.ref x0)] 1 = mkF m 0 #[.val (.ref x0)] [] := by first | (simp [entryFrame, mkF, argsToLocals, Value.category]; done) | rfl
def Q_rs_len (Z : State) (a : Addr) (xs : List Int32) (cz : Int32) (h0 : Heap) (n0 : Nat) (v : Option Value) (h : Heap) (L : List Loc) : Prop := v = some (.int (Int32.ofNat xs.length)) ∧ Fr n0 L ∧ h = h0
set_option maxRecDepth 65536 in
set_option maxHeartbeats 40000000 in
theorem rs_len (l : Launch) (Z : State) (a0 : Array Value) (hw : ∀ d ∈ tables_1, d.before a0 Z = true) (ws : List Jvm.Cond) (a : Addr) (xs : List Int32) (cz : Int32) (h0 : Heap) (n0 : Nat) (Z0 : n0 ≤ h0.size) (T_a : StrOf Z h0 a xs) (S_COMPACT_STRINGS : Sta Z h0 "java/lang/String" "COMPACT_STRINGS" "Z" (.int cz)) (hcz : ¬ (cz = (0 : Int32))) :
    Met l Z mN2 jdk_42_method_54_code 1 (some .int) ({ frames := 1, cells := 0, slots := 0, locals := 13 } : Room) ws #[(.ref a)] h0 (Q_rs_len Z a xs cz h0 n0) := by
  refine own_met (plainFor_of_name own_pn0) ?_
  intro p e s m below meth c s₁ hret hx hby hlk hml hown hnm X0 e0 hZ hh
  have N0 := Fr.nil n0
  refine Gs (fun _ tk => castTop (own_ef_rs_len m a) tk) ?_
  show Goes _ _ _ _ _ (s₁.setTop (mkF m 0 #[.val (.ref a)] []))
  obtain ⟨vb, kb, A_a, F_value_a, hrep, hlen⟩ := id T_a
  rcases hrep with ⟨F_coder_a, hall, V_vb⟩ | hf
  · show Goes _ _ _ _ _ (s₁.setTop (mkF m 0 #[.val (.ref a)] []))
    refine Gs (fun _ tk => XS.aloadN X0.here hx rfl (hb hby d2_0) rfl rfl tk) ?_
    obtain ⟨T1, X1, e1, st1⟩ := getF X0 hx hZ hown (host := "") (Or.inl (gw hw 34 rfl)) Via.refl e0 F_value_a (g := (mkF m 1 #[.val (.ref a)] [(.ref a)])) rfl rfl (hb hby d2_1)
    refine Gs st1 ?_
    show Goes _ _ _ _ _ (T1.setTop (mkF m 4 #[.val (.ref a)] [(.ref vb)]))
    obtain ⟨cl2, Ar2, -, S2, N2z, -, -⟩ := id V_vb
    refine Gs (fun _ tk => X1.arraylength hx (by rw [e1]; exact Ar2.1) (State.isArrayOf_alike hZ.alike Ar2.2.1) (g := (mkF m 4 #[.val (.ref a)] [(.ref vb)])) rfl rfl (hb hby d2_4) _ tk) ?_
    rw [len_of S2 N2z]
    show Goes _ _ _ _ _ (T1.setTop (mkF m 5 #[.val (.ref a)] [(.int (Int32.ofNat xs.length))]))
    refine Gs (fun _ tk => XS.aloadN X1.here hx rfl (hb hby d2_5) rfl rfl tk) ?_
    obtain ⟨cq3, kq3, q3a, q3b, q3c⟩ := isOf hZ e1 T_a.exa
    obtain ⟨_, _, ⟨T3, L3, k3, n3⟩, -, X3, ⟨Lc3, hQ3, l3, y3, z3⟩, st3⟩ := X1.virtualBack hx (y := mN0) (z := mN0) hown (mvT hZ (gw hw 45 rfl)) (mvT hZ (gw hw 46 rfl)) (notFace_of_selects (args := #[]) (mvT hZ (gw hw 48 rfl))) (mvT hZ (gw hw 48 rfl)) (mvT hZ (gw hw 47 rfl)) (by decide) (backOf (W := 1) (rs_coder0 l Z a0 hw [] a cz h0 n0 Z0 F_coder_a S_COMPACT_STRINGS (by first | assumption | decide)) hZ (gw hw 49 rfl) (gw hw 16 rfl) (by decide) (by decide)) q3a q3c (g := (mkF m 6 #[.val (.ref a)] [(.ref a), (.int (Int32.ofNat xs.length))])) rfl (by rw [hml]; rfl) (Steps.refl _) (argsL := []) (rest := [(.int (Int32.ofNat xs.length))]) (lenOf own_pd0 rfl) rfl (w0 (Nat.le_of_eq rfl)) (hb hby d2_6) (fun _ _ => ⟨rfl, e1, (by decide : 0 + 0 ≤ _), (by decide : 0 + 0 ≤ _)⟩)
    dsimp only [Pt.U, Pt.locs, Pt.cells, Pt.slots] at X3 l3 y3 z3 st3 hQ3
    subst l3 y3 z3
    obtain ⟨rfl, N3q, e3⟩ := hQ3
    have N3 := Fr.app N0 N3q
    refine Gs (fun _ tk => st3.trans tk) ?_
    show Goes _ _ _ _ _ (T3.setTop (mkF m 9 #[.val (.ref a)] [(.int (0 : Int32)), (.int (Int32.ofNat xs.length))]))
    refine Gs (fun _ tk => XS.ishr X3.here hx rfl (hb hby d2_9) rfl tk) ?_
    show Goes _ _ _ _ _ (T3.setTop (mkF m 10 #[.val (.ref a)] [(.int ((Int32.ofNat xs.length) >>> ((0 : Int32) &&& 31)))]))
    refine Goes.ret X3 (some (.int ((Int32.ofNat xs.length) >>> ((0 : Int32) &&& 31)))) (fun h => by rw [hret] at h; cases h) hlk (by decide) (by decide) ?_ (fun fs hr => ?_)
    · exact ⟨(by rw [own_shr0]), N3, e3⟩
    · exact retI X3 hx hret (hb hby d2_10) hr
  · exact hf.elim
theorem d3_0 : decode jdk_41_method_11_code 0 = .ok (.iload_n 0, 1) := by decide +kernel
theorem d3_1 : decode jdk_41_method_11_code 1 = .ok (.ifCond .lt 8, 3) := by decide +kernel
theorem d3_4 : decode jdk_41_method_11_code 4 = .ok (.iload_n 0, 1) := by decide +kernel
theorem d3_5 : decode jdk_41_method_11_code 5 = .ok (.iload_n 1, 1) := by decide +kernel
theorem d3_6 : decode jdk_41_method_11_code 6 = .ok (.if_icmp .lt 10, 3) := by decide +kernel
theorem d3_16 : decode jdk_41_method_11_code 16 = .ok (.iload_n 0, 1) := by decide +kernel
theorem d3_17 : decode jdk_41_method_11_code 17 = .ok (.ireturn, 1) := by decide +kernel
theorem own_pn1 : plainName "jdk/internal/util/Preconditions" = true := by first | (simp [plainName, overriddenIn]; done) | decide +kernel
theorem own_ef_rs_pci (m : MethodId) (x0 : Int32) (x1 : Int32) (x2 : Value) (hx2 : x2.isRef = true) : entryFrame m #[(.int x0), (.int x1), x2] 3 = mkF m 0 #[.val (.int x0), .val (.int x1), .val x2] [] := by first | (simp [entryFrame, mkF, argsToLocals, Value.category]; done) | rfl | (rcases Jvm.Free.XT.refc hx2 with rfl | ⟨r, rfl⟩ <;> rfl)
def Q_rs_pci (Z : State) (j : Int32) (z : Int32) (fo : Value) (h0 : Heap) (n0 : Nat) (v : Option Value) (h : Heap) (L : List Loc) : Prop := v = some (.int j) ∧ Fr n0 L ∧ h = h0
set_option maxRecDepth 65536 in
set_option maxHeartbeats 40000000 in
theorem rs_pci (l : Launch) (Z : State) (a0 : Array Value) (hw : ∀ d ∈ tables_1, d.before a0 Z = true) (ws : List Jvm.Cond) (j : Int32) (z : Int32) (fo : Value) (h0 : Heap) (n0 : Nat) (Z0 : n0 ≤ h0.size) (hj0 : ¬ (j < (0 : Int32))) (hj1 : j < z) (r_fo : fo.isRef = true) :
    Met l Z mN3 jdk_41_method_11_code 3 (some .int) ({ frames := 0, cells := 0, slots := 0, locals := 0 } : Room) ws #[(.int j), (.int z), fo] h0 (Q_rs_pci Z j z fo h0 n0) := by
  refine own_met (plainFor_of_name own_pn1) ?_
  intro p e s m below meth c s₁ hret hx hby hlk hml hown hnm X0 e0 hZ hh
  have N0 := Fr.nil n0
  refine Gs (fun _ tk => castTop (own_ef_rs_pci m j z fo r_fo) tk) ?_
  show Goes _ _ _ _ _ (s₁.setTop (mkF m 0 #[.val (.int j), .val (.int z), .val fo] []))
  refine Gs (fun _ tk => XS.iloadN X0.here hx rfl (hb hby d3_0) rfl tk) ?_
  refine Gs (fun _ tk => XS.ifNo X0.here hx rfl (hb hby d3_1) rfl ((if0 _ _).trans (flt hj0).1) tk) ?_
  refine Gs (fun _ tk => XS.iloadN X0.here hx rfl (hb hby d3_4) rfl tk) ?_
  refine Gs (fun _ tk => XS.iloadN X0.here hx rfl (hb hby d3_5) rfl tk) ?_
  refine Gs (fun _ tk => XS.icmpYes X0.here hx rfl (pc0 := 6) (pc' := 16) rfl (hb hby d3_6) rfl (tlt hj1).1 (by decide) (by decide) tk) ?_
  refine Gs (fun _ tk => XS.iloadN X0.here hx rfl (hb hby d3_16) rfl tk) ?_
  show Goes _ _ _ _ _ (s₁.setTop (mkF m 17 #[.val (.int j), .val (.int z), .val fo] [(.int j)]))
  refine Goes.ret X0 (some (.int j)) (fun h => by rw [hret] at h; cases h) hlk (by decide) (by decide) ?_ (fun fs hr => ?_)
  · exact ⟨rfl, N0, e0⟩
  · exact retI X0 hx hret (hb hby d3_17) hr
theorem d4_0 : decode jdk_42_method_155_code 0 = .ok (.iload_n 0, 1) := by decide +kernel
theorem d4_1 : decode jdk_42_method_155_code 1 = .ok (.iload_n 1, 1) := by decide +kernel
theorem d4_2 : decode jdk_42_method_155_code 2 = .ok (.getstatic 1053, 3) := by decide +kernel
theorem d4_5 : decode jdk_42_method_155_code 5 = .ok (.invokestatic 1059, 3) := by decide +kernel
theorem own_pd1 : parseMethodDescriptor "(IILjava/util/function/BiFunction;)I" = some ⟨[.int, .int, (.object "java/util/function/BiFunction")], some .int⟩ := by decide +kernel
theorem d4_8 : decode jdk_42_method_155_code 8 = .ok (.pop, 1) := by decide +kernel
theorem d4_9 : decode jdk_42_method_155_code 9 = .ok (.return_, 1) := by decide +kernel
theorem own_ef_rs_sci (m : MethodId) (x0 : Int32) (x1 : Int32) : entryFrame m #[(.int x0), (.int x1)] 2 = mkF m 0 #[.val (.int x0), .val (.int x1)] [] := by first | (simp [entryFrame, mkF, argsToLocals, Value.category]; done) | rfl
def Q_rs_sci (Z : State) (j : Int32) (z : Int32) (fo : Value) (h0 : Heap) (n0 : Nat) (v : Option Value) (h : Heap) (L : List Loc) : Prop := v = none ∧ Fr n0 L ∧ h = h0
set_option maxRecDepth 65536 in
set_option maxHeartbeats 40000000 in
theorem rs_sci (l : Launch) (Z : State) (a0 : Array Value) (hw : ∀ d ∈ tables_1, d.before a0 Z = true) (ws : List Jvm.Cond) (j : Int32) (z : Int32) (fo : Value) (h0 : Heap) (n0 : Nat) (Z0 : n0 ≤ h0.size) (hj0 : ¬ (j < (0 : Int32))) (hj1 : j < z) (S_SIOOBE_FORMATTER : Sta Z h0 "jdk/internal/util/Preconditions" "SIOOBE_FORMATTER" "Ljava/util/function/BiFunction;" fo) (r_fo : fo.isRef = true) :
    Met l Z mN4 jdk_42_method_155_code 2 none ({ frames := 1, cells := 0, slots := 0, locals := 14 } : Room) ws #[(.int j), (.int z)] h0 (Q_rs_sci Z j z fo h0 n0) := by
  refine own_met (plainFor_of_name own_pn0) ?_
  intro p e s m below meth c s₁ hret hx hby hlk hml hown hnm X0 e0 hZ hh
  have N0 := Fr.nil n0
  refine Gs (fun _ tk => castTop (own_ef_rs_sci m j z) tk) ?_
  show Goes _ _ _ _ _ (s₁.setTop (mkF m 0 #[.val (.int j), .val (.int z)] []))
  refine Gs (fun _ tk => XS.iloadN X0.here hx rfl (hb hby d4_0) rfl tk) ?_
  refine Gs (fun _ tk => XS.iloadN X0.here hx rfl (hb hby d4_1) rfl tk) ?_
  obtain ⟨T1, X1, e1, st1⟩ := getS2 X0 hx hZ hown (host := "") (Or.inl (gw hw 81 rfl)) Via.refl e0 S_SIOOBE_FORMATTER (g := (mkF m 2 #[.val (.int j), .val (.int z)] [(.int z), (.int j)])) rfl (hb hby d4_2)
  refine Gs st1 ?_
  show Goes _ _ _ _ _ (T1.setTop (mkF m 5 #[.val (.int j), .val (.int z)] [fo, (.int z), (.int j)]))
  obtain ⟨_, _, ⟨T2, L2, k2, n2⟩, -, X2, ⟨Lc2, hQ2, l2, y2, z2⟩, st2⟩ := Jvm.LawKit.callS X1 hx (y := mN3) hown (mvT hZ (gw hw 83 rfl)) (mvT hZ (gw hw 84 rfl)) (mvT hZ (gw hw 82 rfl)) (mvT hZ (gw hw 85 rfl)) (by decide) (backOf (W := 0) (rs_pci l Z a0 hw [] j z fo h0 n0 Z0 (by first | assumption | decide) (by first | assumption | decide) (by first | assumption | decide)) hZ (gw hw 85 rfl) (gw hw 82 rfl) (by decide) (by decide)) (g := (mkF m 5 #[.val (.int j), .val (.int z)] [fo, (.int z), (.int j)])) rfl (by rw [hml]; rfl) (argsL := [(.int j), (.int z), fo]) (rest := []) (lenOf own_pd1 rfl) rfl (w0 (Nat.le_of_eq rfl)) (hb hby d4_5) (fun _ _ => ⟨rfl, e1, (by decide : 0 + 0 ≤ _), (by decide : 0 + 0 ≤ _)⟩)
  dsimp only [Pt.U, Pt.locs, Pt.cells, Pt.slots] at X2 l2 y2 z2 st2 hQ2
  subst l2 y2 z2
  obtain ⟨rfl, N2q, e2⟩ := hQ2
  have N2 := Fr.app N0 N2q
  refine Gs st2 ?_
  show Goes _ _ _ _ _ (T2.setTop (mkF m 8 #[.val (.int j), .val (.int z)] [(.int j)]))
  refine Gs (fun _ tk => XS.pop X2.here hx rfl (hb hby d4_8) rfl rfl tk) ?_
  refine Goes.ret X2 none (fun _ => rfl) hlk (by decide) (by decide) ?_ (fun fs hr => ?_)
  · exact ⟨rfl, N2, e2⟩
  · exact X2.returnOut hx hret (hb hby d4_9) hr
theorem d5_0 : decode jdk_43_method_2_code 0 = .ok (.iload_n 1, 1) := by decide +kernel
theorem d5_1 : decode jdk_43_method_2_code 1 = .ok (.aload_n 0, 1) := by decide +kernel
theorem d5_2 : decode jdk_43_method_2_code 2 = .ok (.arraylength, 1) := by decide +kernel
theorem d5_3 : decode jdk_43_method_2_code 3 = .ok (.invokestatic 9, 3) := by decide +kernel
theorem own_pd2 : parseMethodDescriptor "(II)V" = some ⟨[.int, .int], none⟩ := by decide +kernel
theorem d5_6 : decode jdk_43_method_2_code 6 = .ok (.aload_n 0, 1) := by decide +kernel
theorem d5_7 : decode jdk_43_method_2_code 7 = .ok (.iload_n 1, 1) := by decide +kernel
theorem d5_8 : decode jdk_43_method_2_code 8 = .ok (.baload, 1) := by decide +kernel
theorem d5_9 : decode jdk_43_method_2_code 9 = .ok (.sipush 255, 3) := by decide +kernel
theorem d5_12 : decode jdk_43_method_2_code 12 = .ok (.iand, 1) := by decide +kernel
theorem d5_13 : decode jdk_43_method_2_code 13 = .ok (.i2c, 1) := by decide +kernel
theorem d5_14 : decode jdk_43_method_2_code 14 = .ok (.ireturn, 1) := by decide +kernel
theorem own_pn2 : plainName "java/lang/StringLatin1" = true := by first | (simp [plainName, overriddenIn]; done) | decide +kernel
theorem own_ef_rs_l1c (m : MethodId) (x0 : Addr) (x1 : Int32) : entryFrame m #[(.ref x0), (.int x1)] 2 = mkF m 0 #[.val (.ref x0), .val (.int x1)] [] := by first | (simp [entryFrame, mkF, argsToLocals, Value.category]; done) | rfl
def Q_rs_l1c (Z : State) (b : Addr) (kb : ClassId) (xs : List Int32) (j : Int32) (r : Int32) (fo : Value) (h0 : Heap) (n0 : Nat) (v : Option Value) (h : Heap) (L : List Loc) : Prop := v = some (.int r) ∧ Fr n0 L ∧ h = h0
set_option maxRecDepth 65536 in
set_option maxHeartbeats 40000000 in
theorem rs_l1c (l : Launch) (Z : State) (a0 : Array Value) (hw : ∀ d ∈ tables_1, d.before a0 Z = true) (ws : List Jvm.Cond) (b : Addr) (kb : ClassId) (xs : List Int32) (j : Int32) (r : Int32) (fo : Value) (h0 : Heap) (n0 : Nat) (Z0 : n0 ≤ h0.size) (V_b : Arv Z h0 b kb .byte (Int32.ofNat xs.length) (latV xs) (.int 0)) (hj0 : ¬ (j < (0 : Int32))) (hj1 : j < Int32.ofNat xs.length) (hr : xs.getD j.toNatClampNeg 0 = r) (hlen : xs.length ≤ 1000) (hLr : Lat r) (S_SIOOBE_FORMATTER : Sta Z h0 "jdk/internal/util/Preconditions" "SIOOBE_FORMATTER" "Ljava/util/function/BiFunction;" fo) (r_fo : fo.isRef = true) :
    Met l Z mN5 jdk_43_method_2_code 2 (some .char) ({ frames := 2, cells := 0, slots := 0, locals := 27 } : Room) ws #[(.ref b), (.int j)] h0 (Q_rs_l1c Z b kb xs j r fo h0 n0) := by
  refine own_met (plainFor_of_name own_pn2) ?_
  intro p e s m below meth c s₁ hret hx hby hlk hml hown hnm X0 e0 hZ hh
  have N0 := Fr.nil n0
  refine Gs (fun _ tk => castTop (own_ef_rs_l1c m b j) tk) ?_
  show Goes _ _ _ _ _ (s₁.setTop (mkF m 0 #[.val (.ref b), .val (.int j)] []))
  refine Gs (fun _ tk => XS.iloadN X0.here hx rfl (hb hby d5_0) rfl tk) ?_
  refine Gs (fun _ tk => XS.aloadN X0.here hx rfl (hb hby d5_1) rfl rfl tk) ?_
  obtain ⟨cl1, Ar1, -, S1, N1z, -, -⟩ := id V_b
  refine Gs (fun _ tk => X0.arraylength hx (by rw [e0]; exact Ar1.1) (State.isArrayOf_alike hZ.alike Ar1.2.1) (g := (mkF m 2 #[.val (.ref b), .val (.int j)] [(.ref b), (.int j)])) rfl rfl (hb hby d5_2) _ tk) ?_
  rw [len_of S1 N1z]
  show Goes _ _ _ _ _ (s₁.setTop (mkF m 3 #[.val (.ref b), .val (.int j)] [(.int (Int32.ofNat xs.length)), (.int j)]))
  obtain ⟨_, _, ⟨T2, L2, k2, n2⟩, -, X2, ⟨Lc2, hQ2, l2, y2, z2⟩, st2⟩ := Jvm.LawKit.callS X0 hx (y := mN4) hown (mvT hZ (gw hw 78 rfl)) (mvT hZ (gw hw 79 rfl)) (mvT hZ (gw hw 16 rfl)) (mvT hZ (gw hw 80 rfl)) (by decide) (backOf (W := 0) (rs_sci l Z a0 hw [] j (Int32.ofNat xs.length) fo h0 n0 Z0 (by first | assumption | decide) (by first | assumption | decide) S_SIOOBE_FORMATTER (by first | assumption | decide)) hZ (gw hw 80 rfl) (gw hw 16 rfl) (by decide) (by decide)) (g := (mkF m 3 #[.val (.ref b), .val (.int j)] [(.int (Int32.ofNat xs.length)), (.int j)])) rfl (by rw [hml]; rfl) (argsL := [(.int j), (.int (Int32.ofNat xs.length))]) (rest := []) (lenOf own_pd2 rfl) rfl (w0 (Nat.le_of_eq rfl)) (hb hby d5_3) (fun _ _ => ⟨rfl, e0, (by decide : 0 + 0 ≤ _), (by decide : 0 + 0 ≤ _)⟩)
  dsimp only [Pt.U, Pt.locs, Pt.cells, Pt.slots] at X2 l2 y2 z2 st2 hQ2
  subst l2 y2 z2
  obtain ⟨rfl, N2q, e2⟩ := hQ2
  have N2 := Fr.app N0 N2q
  refine Gs st2 ?_
  show Goes _ _ _ _ _ (T2.setTop (mkF m 6 #[.val (.ref b), .val (.int j)] []))
  refine Gs (fun _ tk => XS.aloadN X2.here hx rfl (hb hby d5_6) rfl rfl tk) ?_
  refine Gs (fun _ tk => XS.iloadN X2.here hx rfl (hb hby d5_7) rfl tk) ?_
  obtain ⟨cl3, Ar3, -, S3, N3z, H3, -⟩ := id V_b
  have hin3 : ¬ (j < 0 ∨ cl3.slots.size ≤ (j).toNatClampNeg) := inb_of S3 ⟨hj0, hj1⟩
  have hat3 : cl3.slots[(j).toNatClampNeg]? = some (.int (lo8 r)) := Has.at H3 hin3 (own_latGet hj0 hj1 hlen hr)
  refine Gs (fun _ tk => X2.baloadBytes hx (j := j) (v := (.int (lo8 r))) (by rw [e2]; exact Ar3.1) (State.isArrayOf_alike hZ.alike Ar3.2.1) Ar3.2.2 hin3 hat3 (g := (mkF m 8 #[.val (.ref b), .val (.int j)] [(.int j), (.ref b)])) rfl rfl (hb hby d5_8) _ tk) ?_
  show Goes _ _ _ _ _ (T2.setTop (mkF m 9 #[.val (.ref b), .val (.int j)] [(.int (lo8 r))]))
  refine Gs (fun _ tk => XS.sipush X2.here hx rfl (hb hby d5_9) tk) ?_
  show Goes _ _ _ _ _ (T2.setTop (mkF m 12 #[.val (.ref b), .val (.int j)] [(.int (255 : Int32)), (.int (lo8 r))]))
  refine Gs (fun _ tk => XS.iand X2.here hx rfl (hb hby d5_12) rfl tk) ?_
  show Goes _ _ _ _ _ (T2.setTop (mkF m 13 #[.val (.ref b), .val (.int j)] [(.int ((lo8 r) &&& (255 : Int32)))]))
  rw [own_backL hLr]
  show Goes _ _ _ _ _ (T2.setTop (mkF m 13 #[.val (.ref b), .val (.int j)] [(.int r)]))
  refine Gs (fun _ tk => XS.i2c X2.here hx rfl (hb hby d5_13) rfl tk) ?_
  show Goes _ _ _ _ _ (T2.setTop (mkF m 14 #[.val (.ref b), .val (.int j)] [(.int (r.toUInt32.toUInt16.toUInt32.toInt32))]))
  rw [own_i2c hLr.chr]
  show Goes _ _ _ _ _ (T2.setTop (mkF m 14 #[.val (.ref b), .val (.int j)] [(.int r)]))
  refine Goes.ret X2 (some (.int r)) (fun h => by rw [hret] at h; cases h) hlk (by decide) (by decide) ?_ (fun fs hr => ?_)
  · exact ⟨rfl, N2, e2⟩
  · exact own_retN X2 hx (t := .char) hret (by simp) (own_nc hLr.chr) (hb hby d5_14) hr
theorem d6_0 : decode jdk_42_method_56_code 0 = .ok (.aload_n 0, 1) := by decide +kernel
theorem d6_1 : decode jdk_42_method_56_code 1 = .ok (.invokevirtual 492, 3) := by decide +kernel
theorem own_pd3 : parseMethodDescriptor "()Z" = some ⟨[], some .boolean⟩ := by decide +kernel
theorem d6_4 : decode jdk_42_method_56_code 4 = .ok (.ifCond .eq 12, 3) := by decide +kernel
theorem d6_7 : decode jdk_42_method_56_code 7 = .ok (.aload_n 0, 1) := by decide +kernel
theorem d6_8 : decode jdk_42_method_56_code 8 = .ok (.getfield 9, 3) := by decide +kernel
theorem d6_11 : decode jdk_42_method_56_code 11 = .ok (.iload_n 1, 1) := by decide +kernel
theorem d6_12 : decode jdk_42_method_56_code 12 = .ok (.invokestatic 495, 3) := by decide +kernel
theorem own_pd4 : parseMethodDescriptor "([BI)C" = some ⟨[(.array .byte), .int], some .char⟩ := by decide +kernel
theorem d6_15 : decode jdk_42_method_56_code 15 = .ok (.ireturn, 1) := by decide +kernel
theorem own_ef_rs_chr (m : MethodId) (x0 : Addr) (x1 : Int32) : entryFrame m #[(.ref x0), (.int x1)] 2 = mkF m 0 #[.val (.ref x0), .val (.int x1)] [] := by first | (simp [entryFrame, mkF, argsToLocals, Value.category]; done) | rfl
def Q_rs_chr (Z : State) (a : Addr) (xs : List Int32) (j : Int32) (r : Int32) (cz : Int32) (fo : Value) (h0 : Heap) (n0 : Nat) (v : Option Value) (h : Heap) (L : List Loc) : Prop := v = some (.int r) ∧ Fr n0 L ∧ h = h0
set_option maxRecDepth 65536 in
set_option maxHeartbeats 40000000 in
theorem rs_chr (l : Launch) (Z : State) (a0 : Array Value) (hw : ∀ d ∈ tables_1, d.before a0 Z = true) (ws : List Jvm.Cond) (a : Addr) (xs : List Int32) (j : Int32) (r : Int32) (cz : Int32) (fo : Value) (h0 : Heap) (n0 : Nat) (Z0 : n0 ≤ h0.size) (T_a : StrOf Z h0 a xs) (S_COMPACT_STRINGS : Sta Z h0 "java/lang/String" "COMPACT_STRINGS" "Z" (.int cz)) (hcz : ¬ (cz = (0 : Int32))) (hj0 : ¬ (j < (0 : Int32))) (hj1 : j < Int32.ofNat xs.length) (hr : xs.getD j.toNatClampNeg 0 = r) (S_SIOOBE_FORMATTER : Sta Z h0 "jdk/internal/util/Preconditions" "SIOOBE_FORMATTER" "Ljava/util/function/BiFunction;" fo) (r_fo : fo.isRef = true) :
    Met l Z mN6 jdk_42_method_56_code 2 (some .char) ({ frames := 3, cells := 0, slots := 0, locals := 40 } : Room) ws #[(.ref a), (.int j)] h0 (Q_rs_chr Z a xs j r cz fo h0 n0) := by
  refine own_met (plainFor_of_name own_pn0) ?_
  intro p e s m below meth c s₁ hret hx hby hlk hml hown hnm X0 e0 hZ hh
  have N0 := Fr.nil n0
  refine Gs (fun _ tk => castTop (own_ef_rs_chr m a j) tk) ?_
  show Goes _ _ _ _ _ (s₁.setTop (mkF m 0 #[.val (.ref a), .val (.int j)] []))
  obtain ⟨vb, kb, A_a, F_value_a, hrep, hlen⟩ := id T_a
  rcases hrep with ⟨F_coder_a, hall, V_vb⟩ | hf
  · show Goes _ _ _ _ _ (s₁.setTop (mkF m 0 #[.val (.ref a), .val (.int j)] []))
    have hmem : r ∈ xs := own_mem hj0 hj1 hlen hr
    have hLr : Lat r := hall r hmem
    have hCr : Chr r := hLr.chr
    refine Gs (fun _ tk => XS.aloadN X0.here hx rfl (hb hby d6_0) rfl rfl tk) ?_
    obtain ⟨cq1, kq1, q1a, q1b, q1c⟩ := isOf hZ e0 T_a.exa
    obtain ⟨_, _, ⟨T1, L1, k1, n1⟩, -, X1, ⟨Lc1, hQ1, l1, y1, z1⟩, st1⟩ := X0.virtualBack hx (y := mN1) (z := mN1) hown (mvT hZ (gw hw 69 rfl)) (mvT hZ (gw hw 70 rfl)) (notFace_of_selects (args := #[]) (mvT hZ (gw hw 72 rfl))) (mvT hZ (gw hw 72 rfl)) (mvT hZ (gw hw 71 rfl)) (by decide) (backOf (W := 0) (rs_isl0 l Z a0 hw [] a cz h0 n0 Z0 F_coder_a S_COMPACT_STRINGS (by first | assumption | decide)) hZ (gw hw 73 rfl) (gw hw 16 rfl) (by decide) (by decide)) q1a q1c (g := (mkF m 1 #[.val (.ref a), .val (.int j)] [(.ref a)])) rfl (by rw [hml]; rfl) (Steps.refl _) (argsL := []) (rest := []) (lenOf own_pd3 rfl) rfl (w0 (Nat.le_of_eq rfl)) (hb hby d6_1) (fun _ _ => ⟨rfl, e0, (by decide : 0 + 0 ≤ _), (by decide : 0 + 0 ≤ _)⟩)
    dsimp only [Pt.U, Pt.locs, Pt.cells, Pt.slots] at X1 l1 y1 z1 st1 hQ1
    subst l1 y1 z1
    obtain ⟨rfl, N1q, e1⟩ := hQ1
    have N1 := Fr.app N0 N1q
    refine Gs (fun _ tk => st1.trans tk) ?_
    show Goes _ _ _ _ _ (T1.setTop (mkF m 4 #[.val (.ref a), .val (.int j)] [(.int (1 : Int32))]))
    refine Gs (fun _ tk => XS.ifNo X1.here hx rfl (hb hby d6_4) rfl ((if0 _ _).trans (feq (by decide : ¬ ((1 : Int32) = (0 : Int32)))).1) tk) ?_
    refine Gs (fun _ tk => XS.aloadN X1.here hx rfl (hb hby d6_7) rfl rfl tk) ?_
    obtain ⟨T2, X2, e2, st2⟩ := getF X1 hx hZ hown (host := "") (Or.inl (gw hw 34 rfl)) Via.refl e1 F_value_a (g := (mkF m 8 #[.val (.ref a), .val (.int j)] [(.ref a)])) rfl rfl (hb hby d6_8)
    refine Gs st2 ?_
    show Goes _ _ _ _ _ (T2.setTop (mkF m 11 #[.val (.ref a), .val (.int j)] [(.ref vb)]))
    refine Gs (fun _ tk => XS.iloadN X2.here hx rfl (hb hby d6_11) rfl tk) ?_
    obtain ⟨_, _, ⟨T3, L3, k3, n3⟩, -, X3, ⟨Lc3, hQ3, l3, y3, z3⟩, st3⟩ := Jvm.LawKit.callS X2 hx (y := mN5) hown (mvT hZ (gw hw 74 rfl)) (mvT hZ (gw hw 75 rfl)) (mvT hZ (gw hw 76 rfl)) (mvT hZ (gw hw 77 rfl)) (by decide) (backOf (W := 0) (rs_l1c l Z a0 hw [] vb kb xs j r fo h0 n0 Z0 V_vb (by first | assumption | decide) (by first | assumption | decide) (by first | assumption | decide) (by first | assumption | decide) (by first | assumption | decide) S_SIOOBE_FORMATTER (by first | assumption | decide)) hZ (gw hw 77 rfl) (gw hw 76 rfl) (by decide) (by decide)) (g := (mkF m 12 #[.val (.ref a), .val (.int j)] [(.int j), (.ref vb)])) rfl (by rw [hml]; rfl) (argsL := [(.ref vb), (.int j)]) (rest := []) (lenOf own_pd4 rfl) rfl (w0 (Nat.le_of_eq rfl)) (hb hby d6_12) (fun _ _ => ⟨rfl, e2, (by decide : 0 + 0 ≤ _), (by decide : 0 + 0 ≤ _)⟩)
    dsimp only [Pt.U, Pt.locs, Pt.cells, Pt.slots] at X3 l3 y3 z3 st3 hQ3
    subst l3 y3 z3
    obtain ⟨rfl, N3q, e3⟩ := hQ3
    have N3 := Fr.app N1 N3q
    refine Gs st3 ?_
    show Goes _ _ _ _ _ (T3.setTop (mkF m 15 #[.val (.ref a), .val (.int j)] [(.int r)]))
    refine Goes.ret X3 (some (.int r)) (fun h => by rw [hret] at h; cases h) hlk (by decide) (by decide) ?_ (fun fs hr => ?_)
    · exact ⟨rfl, N3, e3⟩
    · exact own_retN X3 hx (t := .char) hret (by simp) (own_nc hCr) (hb hby d6_15) hr
  · exact hf.elim
theorem d7_0 : decode jdk_42_method_149_code 0 = .ok (.aload_n 0, 1) := by decide +kernel
theorem d7_1 : decode jdk_42_method_149_code 1 = .ok (.invokespecial 1, 3) := by decide +kernel
theorem d7_4 : decode jdk_42_method_149_code 4 = .ok (.iload_n 3, 1) := by decide +kernel
theorem d7_5 : decode jdk_42_method_149_code 5 = .ok (.ifCond .ne 22, 3) := by decide +kernel
theorem d7_8 : decode jdk_42_method_149_code 8 = .ok (.aload_n 0, 1) := by decide +kernel
theorem d7_9 : decode jdk_42_method_149_code 9 = .ok (.ldc 7, 2) := by decide +kernel
theorem own_strW {a0 : Array Value} {Z : State} (hw : ∀ d ∈ tables_1, d.before a0 Z = true) : ∀ a ∈ Bundle.stringAtoms, a.before a0 Z = true := by
  intro a ha
  simp only [Bundle.stringAtoms, List.mem_cons, List.not_mem_nil, or_false] at ha
  rcases ha with rfl | rfl | rfl | rfl | rfl | rfl | rfl
  · exact (gw hw 16 rfl)
  · exact (gw hw 15 rfl)
  · exact (gw hw 29 rfl)
  · exact (gw hw 30 rfl)
  · exact (gw hw 31 rfl)
  · exact (gw hw 32 rfl)
  · exact (gw hw 33 rfl)
theorem own_EW {a0 : Array Value} {Z : State} (hw : ∀ d ∈ tables_1, d.before a0 Z = true) : EW Z a0 consts_1 := (EW.cons (gw hw 28 rfl) (by decide) EW.nil)
theorem d7_11 : decode jdk_42_method_149_code 11 = .ok (.getfield 9, 3) := by decide +kernel
theorem d7_14 : decode jdk_42_method_149_code 14 = .ok (.putfield 9, 3) := by decide +kernel
theorem d7_17 : decode jdk_42_method_149_code 17 = .ok (.aload_n 0, 1) := by decide +kernel
theorem d7_18 : decode jdk_42_method_149_code 18 = .ok (.ldc 7, 2) := by decide +kernel
theorem d7_20 : decode jdk_42_method_149_code 20 = .ok (.getfield 15, 3) := by decide +kernel
theorem d7_23 : decode jdk_42_method_149_code 23 = .ok (.putfield 15, 3) := by decide +kernel
theorem d7_26 : decode jdk_42_method_149_code 26 = .ok (.return_, 1) := by decide +kernel
theorem own_ef_rs_i4_0 (m : MethodId) (x0 : Addr) (x1 : Addr) : entryFrame m #[(.ref x0), (.ref x1), (.int (0 : Int32)), (.int (0 : Int32)), .null] 6 = mkF m 0 #[.val (.ref x0), .val (.ref x1), .val (.int (0 : Int32)), .val (.int (0 : Int32)), .val .null, .unset] [] := by first | (simp [entryFrame, mkF, argsToLocals, Value.category]; done) | rfl
def Q_rs_i4_0 (Z : State) (a : Addr) (x : Addr) (kx : ClassId) (h0 : Heap) (n0 : Nat) (v : Option Value) (h : Heap) (L : List Loc) : Prop := v = none ∧ Fr n0 L ∧ Keep h0 h [a] ∧ StrOf Z h a []
set_option maxRecDepth 65536 in
set_option maxHeartbeats 40000000 in
theorem rs_i4_0 (l : Launch) (Z : State) (a0 : Array Value) (hw : ∀ d ∈ tables_1, d.before a0 Z = true) (ws : List Jvm.Cond) (a : Addr) (x : Addr) (kx : ClassId) (h0 : Heap) (n0 : Nat) (Z0 : n0 ≤ h0.size) (A_a : Exa Z h0 a "java/lang/String") (F_value_a : Fld Z h0 a "java/lang/String" "value" "[B" .null) (F_coder_a : Fld Z h0 a "java/lang/String" "coder" "B" (.int (0 : Int32))) (V_x : Arv Z h0 x kx .char (0 : Int32) [] (.int (0 : Int32))) (g_a : n0 ≤ a) (ne_x_a : x ≠ a) :
    MetH l Z mN7 jdk_42_method_149_code 6 none ({ frames := 1, cells := 4, slots := 8, locals := 12 } : Room) ws #[(.ref a), (.ref x), (.int (0 : Int32)), (.int (0 : Int32)), .null] h0 (Q_rs_i4_0 Z a x kx h0 n0) := by
  refine own_metH (plainFor_of_name own_pn0) ?_
  intro p e s m below meth c s₁ hret hx hby hlk hml hown hnm X0 e0 hZ hh hC0
  have N0 := Fr.nil n0
  have hS : s.Since s.vm h0.size := (State.WarmedH.refl s).since _
  have hk : h0.size ≤ h0.size := Nat.le_refl _
  replace hZ : Z.Warmed39 (s.setVm s.vm).vm := hZ
  have hR : CHr Z consts_1 s.vm h0 s.vm h0 := CHr.refl hC0
  refine Gs (fun _ tk => castTop (own_ef_rs_i4_0 m a x) tk) ?_
  have KP : Keep h0 h0 [a] := Keep.refl _ _
  show Goes _ _ _ _ _ (s₁.setTop (mkF m 0 #[.val (.ref a), .val (.ref x), .val (.int (0 : Int32)), .val (.int (0 : Int32)), .val .null, .unset] []))
  have Sf_a : Safe Z consts_1 s.vm h0 a := own_safeNew hZ.alike A_a F_value_a
  refine Gs (fun _ tk => XS.aloadN X0.here hx rfl (hb hby d7_0) rfl rfl tk) ?_
  obtain ⟨T1, X1, e1, st1⟩ := initO X0 hx hZ hown (gw hw 25 rfl) (gw hw 26 rfl) (gw hw 27 rfl) e0 (g := (mkF m 1 #[.val (.ref a), .val (.ref x), .val (.int (0 : Int32)), .val (.int (0 : Int32)), .val .null, .unset] [(.ref a)])) rfl (by rw [hml]; rfl) rfl (hb hby d7_1) (by decide) (W := 0) (w0 (Nat.le_of_eq rfl)) (by decide)
  refine Gs st1 ?_
  show Goes _ _ _ _ _ (T1.setTop (mkF m 4 #[.val (.ref a), .val (.ref x), .val (.int (0 : Int32)), .val (.int (0 : Int32)), .val .null, .unset] []))
  refine Gs (fun _ tk => XS.iloadN X1.here hx rfl (hb hby d7_4) rfl tk) ?_
  refine Gs (fun _ tk => XS.ifNo X1.here hx rfl (hb hby d7_5) rfl ((if0 _ _).trans (teq (by decide : ((0 : Int32) = (0 : Int32)))).2) tk) ?_
  refine Gs (fun _ tk => XS.aloadN X1.here hx rfl (hb hby d7_8) rfl rfl tk) ?_
  have lt_a : a < h0.size := A_a.lt
  obtain ⟨c2, T2, h2, kk2, cb2, kc2, X2, e2, E2, hS, hk2, hZ, hown, A_c2, F_coder_c2, F_value_c2, V_cb2, -, -, hC2, hL2, hsf2, st2⟩ := ldcCH X1 hx hZ hown (gw hw 28 rfl) (own_strW hw) e1 hS hk (own_EW hw) (List.mem_of_getElem? (i := 0) rfl) hR.1 (vs := []) (z := (0 : Int32)) ⟨by decide, by decide⟩ (by decide) (by decide) (g := (mkF m 9 #[.val (.ref a), .val (.ref x), .val (.int (0 : Int32)), .val (.int (0 : Int32)), .val .null, .unset] [(.ref a)])) rfl (hb hby d7_9) (n := 0) (by decide) (by decide) (by decide) (by decide)
  replace A_a := A_a.ext E2
  replace F_value_a := F_value_a.ext E2
  replace F_coder_a := F_coder_a.ext E2
  replace KP := KP.ext E2
  replace Sf_a := hC2.safe lt_a Sf_a
  replace hR := hR.trans hC2
  replace Z0 : n0 ≤ h2.size := Nat.le_trans Z0 E2.1
  replace hk := hk2
  have ne_a_cb2 : a ≠ cb2 := (hsf2 _ Sf_a).2
  refine Gs st2 ?_
  show Goes _ _ _ _ _ (T2.setTop (mkF m 11 #[.val (.ref a), .val (.ref x), .val (.int (0 : Int32)), .val (.int (0 : Int32)), .val .null, .unset] [(.ref c2), (.ref a)]))
  obtain ⟨T3, X3, e3, st3⟩ := getF X2 hx hZ hown (host := "") (Or.inl (gw hw 34 rfl)) Via.refl e2 F_value_c2 (g := (mkF m 11 #[.val (.ref a), .val (.ref x), .val (.int (0 : Int32)), .val (.int (0 : Int32)), .val .null, .unset] [(.ref c2), (.ref a)])) rfl rfl (hb hby d7_11)
  refine Gs st3 ?_
  show Goes _ _ _ _ _ (T3.setTop (mkF m 14 #[.val (.ref a), .val (.ref x), .val (.int (0 : Int32)), .val (.int (0 : Int32)), .val .null, .unset] [(.ref cb2), (.ref a)]))
  obtain ⟨T4, h4, X4, e4, W4, st4⟩ := putF X3 hx hZ hown (host := "") (Or.inl (gw hw 34 rfl)) Via.refl e3 F_value_a A_a (Or.inr ⟨(gw hw 30 rfl), rfl, hnm⟩) (gw hw 15 rfl) (ty := (.array .byte)) (by decide) rfl rfl (g := (mkF m 14 #[.val (.ref a), .val (.ref x), .val (.int (0 : Int32)), .val (.int (0 : Int32)), .val .null, .unset] [(.ref cb2), (.ref a)])) rfl rfl (hb hby d7_14)
  have N4 := Fr.snoc X4 N0 g_a
  have Sf_a' := Safe.wr W4 Sf_a hR.1 Sf_a
  replace hR := hR.trans (CHr.wr W4 Sf_a hR.1)
  replace Sf_a := Sf_a'
  replace A_a := A_a.wr W4
  replace F_coder_a := F_coder_a.other W4 (Or.inr (slot_ne (Or.inr (gw hw 31 rfl)) (Or.inr (gw hw 30 rfl)) (by decide) (t := .byte) (t' := (.array .byte)) (by decide) (by decide)))
  replace V_cb2 := V_cb2.other W4 (Ne.symm ne_a_cb2)
  replace KP := KP.wr W4 (Or.inl (List.mem_of_getElem? (i := 0) rfl))
  replace F_value_a := F_value_a.same W4
  replace Z0 : n0 ≤ h4.size := by rw [W4.size]; exact Z0
  replace hk := Nat.le_trans hk (Nat.le_of_eq W4.size.symm)
  refine Gs st4 ?_
  show Goes _ _ _ _ _ (T4.setTop (mkF m 17 #[.val (.ref a), .val (.ref x), .val (.int (0 : Int32)), .val (.int (0 : Int32)), .val .null, .unset] []))
  refine Gs (fun _ tk => XS.aloadN X4.here hx rfl (hb hby d7_17) rfl rfl tk) ?_
  have lt_a : a < h4.size := A_a.lt
  obtain ⟨c5, T5, h5, kk5, cb5, kc5, X5, e5, E5, hS, hk5, hZ, hown, A_c5, F_coder_c5, F_value_c5, V_cb5, -, -, hC5, hL5, hsf5, st5⟩ := ldcCH X4 hx hZ hown (gw hw 28 rfl) (own_strW hw) e4 hS hk (own_EW hw) (List.mem_of_getElem? (i := 0) rfl) hR.1 (vs := []) (z := (0 : Int32)) ⟨by decide, by decide⟩ (by decide) (by decide) (g := (mkF m 18 #[.val (.ref a), .val (.ref x), .val (.int (0 : Int32)), .val (.int (0 : Int32)), .val .null, .unset] [(.ref a)])) rfl (hb hby d7_18) (n := 0) (by decide) (by decide) (by decide) (by decide)
  replace A_a := A_a.ext E5
  replace F_value_a := F_value_a.ext E5
  replace F_coder_a := F_coder_a.ext E5
  replace V_cb2 := V_cb2.ext E5
  replace KP := KP.ext E5
  replace Sf_a := hC5.safe lt_a Sf_a
  replace hR := hR.trans hC5
  replace Z0 : n0 ≤ h5.size := Nat.le_trans Z0 E5.1
  replace hk := hk5
  refine Gs st5 ?_
  show Goes _ _ _ _ _ (T5.setTop (mkF m 20 #[.val (.ref a), .val (.ref x), .val (.int (0 : Int32)), .val (.int (0 : Int32)), .val .null, .unset] [(.ref c5), (.ref a)]))
  obtain ⟨T6, X6, e6, st6⟩ := getF X5 hx hZ hown (host := "") (Or.inl (gw hw 35 rfl)) Via.refl e5 F_coder_c5 (g := (mkF m 20 #[.val (.ref a), .val (.ref x), .val (.int (0 : Int32)), .val (.int (0 : Int32)), .val .null, .unset] [(.ref c5), (.ref a)])) rfl rfl (hb hby d7_20)
  refine Gs st6 ?_
  show Goes _ _ _ _ _ (T6.setTop (mkF m 23 #[.val (.ref a), .val (.ref x), .val (.int (0 : Int32)), .val (.int (0 : Int32)), .val .null, .unset] [(.int (0 : Int32)), (.ref a)]))
  obtain ⟨T7, h7, X7, e7, W7, st7⟩ := putFN X6 hx hZ hown (gw hw 35 rfl) Via.refl e6 F_coder_a A_a (Or.inr ⟨(gw hw 31 rfl), rfl, hnm⟩) (gw hw 15 rfl) (ty := .byte) (v' := .int (0 : Int32)) (by decide) rfl rfl (g := (mkF m 23 #[.val (.ref a), .val (.ref x), .val (.int (0 : Int32)), .val (.int (0 : Int32)), .val .null, .unset] [(.int (0 : Int32)), (.ref a)])) rfl rfl (hb hby d7_23)
  have N7 := Fr.snoc X7 N4 g_a
  replace hR := hR.trans (CHr.wr W7 Sf_a hR.1)
  replace A_a := A_a.wr W7
  replace F_value_a := F_value_a.other W7 (Or.inr (slot_ne (Or.inr (gw hw 30 rfl)) (Or.inr (gw hw 31 rfl)) (by decide) (t := (.array .byte)) (t' := .byte) (by decide) (by decide)))
  replace V_cb2 := V_cb2.other W7 (Ne.symm ne_a_cb2)
  replace KP := KP.wr W7 (Or.inl (List.mem_of_getElem? (i := 0) rfl))
  replace F_coder_a := F_coder_a.same W7
  replace Z0 : n0 ≤ h7.size := by rw [W7.size]; exact Z0
  replace hk := Nat.le_trans hk (Nat.le_of_eq W7.size.symm)
  refine Gs st7 ?_
  show Goes _ _ _ _ _ (T7.setTop (mkF m 26 #[.val (.ref a), .val (.ref x), .val (.int (0 : Int32)), .val (.int (0 : Int32)), .val .null, .unset] []))
  have T_a : StrOf Z h7 a [] := StrOf.latin A_a F_value_a F_coder_a V_cb2 (by simp) rfl rfl (Nat.le_of_ble_eq_true rfl)
  refine Goes.retH X7 hS e7 hk hZ (own_EW hw) hh hR none (fun _ => rfl) hlk (by decide) (by decide) ?_ (fun fs hr => ?_)
  · rw [e7]; exact ⟨rfl, N7, KP, T_a⟩
  · exact X7.returnOut hx hret (hb hby d7_26) hr
theorem d8_0 : decode jdk_42_method_3_code 0 = .ok (.aload_n 0, 1) := by decide +kernel
theorem d8_1 : decode jdk_42_method_3_code 1 = .ok (.aload_n 1, 1) := by decide +kernel
theorem d8_2 : decode jdk_42_method_3_code 2 = .ok (.iconst 0, 1) := by decide +kernel
theorem d8_3 : decode jdk_42_method_3_code 3 = .ok (.aload_n 1, 1) := by decide +kernel
theorem d8_4 : decode jdk_42_method_3_code 4 = .ok (.arraylength, 1) := by decide +kernel
theorem d8_5 : decode jdk_42_method_3_code 5 = .ok (.aconst_null, 1) := by decide +kernel
theorem d8_6 : decode jdk_42_method_3_code 6 = .ok (.invokespecial 27, 3) := by decide +kernel
theorem own_pd5 : parseMethodDescriptor "([CIILjava/lang/Void;)V" = some ⟨[(.array .char), .int, .int, (.object "java/lang/Void")], none⟩ := by decide +kernel
theorem d8_9 : decode jdk_42_method_3_code 9 = .ok (.return_, 1) := by decide +kernel
theorem own_ef_rs_i1_0 (m : MethodId) (x0 : Addr) (x1 : Addr) : entryFrame m #[(.ref x0), (.ref x1)] 2 = mkF m 0 #[.val (.ref x0), .val (.ref x1)] [] := by first | (simp [entryFrame, mkF, argsToLocals, Value.category]; done) | rfl
def Q_rs_i1_0 (Z : State) (a : Addr) (x : Addr) (kx : ClassId) (h0 : Heap) (n0 : Nat) (v : Option Value) (h : Heap) (L : List Loc) : Prop := v = none ∧ Fr n0 L ∧ Keep h0 h [a] ∧ StrOf Z h a []
set_option maxRecDepth 65536 in
set_option maxHeartbeats 40000000 in
theorem rs_i1_0 (l : Launch) (Z : State) (a0 : Array Value) (hw : ∀ d ∈ tables_1, d.before a0 Z = true) (ws : List Jvm.Cond) (a : Addr) (x : Addr) (kx : ClassId) (h0 : Heap) (n0 : Nat) (Z0 : n0 ≤ h0.size) (A_a : Exa Z h0 a "java/lang/String") (F_value_a : Fld Z h0 a "java/lang/String" "value" "[B" .null) (F_coder_a : Fld Z h0 a "java/lang/String" "coder" "B" (.int (0 : Int32))) (V_x : Arv Z h0 x kx .char (0 : Int32) [] (.int (0 : Int32))) (g_a : n0 ≤ a) (ne_x_a : x ≠ a) :
    MetH l Z mN8 jdk_42_method_3_code 2 none ({ frames := 2, cells := 4, slots := 8, locals := 29 } : Room) ws #[(.ref a), (.ref x)] h0 (Q_rs_i1_0 Z a x kx h0 n0) := by
  refine own_metH (plainFor_of_name own_pn0) ?_
  intro p e s m below meth c s₁ hret hx hby hlk hml hown hnm X0 e0 hZ hh hC0
  have N0 := Fr.nil n0
  have hS : s.Since s.vm h0.size := (State.WarmedH.refl s).since _
  have hk : h0.size ≤ h0.size := Nat.le_refl _
  replace hZ : Z.Warmed39 (s.setVm s.vm).vm := hZ
  have hR : CHr Z consts_1 s.vm h0 s.vm h0 := CHr.refl hC0
  refine Gs (fun _ tk => castTop (own_ef_rs_i1_0 m a x) tk) ?_
  have KP : Keep h0 h0 [a] := Keep.refl _ _
  show Goes _ _ _ _ _ (s₁.setTop (mkF m 0 #[.val (.ref a), .val (.ref x)] []))
  refine Gs (fun _ tk => XS.aloadN X0.here hx rfl (hb hby d8_0) rfl rfl tk) ?_
  refine Gs (fun _ tk => XS.aloadN X0.here hx rfl (hb hby d8_1) rfl rfl tk) ?_
  refine Gs (fun _ tk => XS.iconst X0.here hx rfl (hb hby d8_2) tk) ?_
  refine Gs (fun _ tk => XS.aloadN X0.here hx rfl (hb hby d8_3) rfl rfl tk) ?_
  obtain ⟨cl1, Ar1, -, S1, N1z, -, -⟩ := id V_x
  refine Gs (fun _ tk => X0.arraylength hx (by rw [e0]; exact Ar1.1) (State.isArrayOf_alike hZ.alike Ar1.2.1) (g := (mkF m 4 #[.val (.ref a), .val (.ref x)] [(.ref x), (.int (0 : Int32)), (.ref x), (.ref a)])) rfl rfl (hb hby d8_4) _ tk) ?_
  rw [len_of S1 N1z]
  show Goes _ _ _ _ _ (s₁.setTop (mkF m 5 #[.val (.ref a), .val (.ref x)] [(.int (0 : Int32)), (.int (0 : Int32)), (.ref x), (.ref a)]))
  refine Gs (fun _ tk => XS.aconstNull X0.here hx rfl (hb hby d8_5) tk) ?_
  obtain ⟨_, _, ⟨T2, L2, k2, n2⟩, -, X2, hS2, gr2, ⟨Lc2, hQ2, l2, y2, z2, hC2⟩, st2⟩ := X0.specialBackS hx (y := mN7) rfl hown (mvT hZ (gw hw 21 rfl)) (mvT hZ (gw hw 22 rfl)) (mvT hZ (gw hw 24 rfl)) (by decide) (backOfSH (W := 0) (rs_i4_0 l Z a0 hw [] a x kx h0 n0 Z0 A_a F_value_a F_coder_a V_x g_a ne_x_a) hZ (gw hw 24 rfl) (gw hw 16 rfl) (by decide) (by decide) (own_EW hw) hR.1) (g := (mkF m 6 #[.val (.ref a), .val (.ref x)] [.null, (.int (0 : Int32)), (.int (0 : Int32)), (.ref x), (.ref a)])) rfl (by rw [hml]; rfl) (Steps.refl _) (a := a) (argsL := [(.ref x), (.int (0 : Int32)), (.int (0 : Int32)), .null]) (rest := []) (lenOf own_pd5 rfl) rfl (w0 (Nat.le_of_eq rfl)) (hb hby d8_6) (fun _ _ => ⟨rfl, e0, (by decide : 0 + 4 ≤ _), (by decide : 0 + 8 ≤ _)⟩)
  dsimp only [Pt.U, Pt.locs, Pt.cells, Pt.slots] at X2 l2 y2 z2 st2 hQ2 hS2 gr2 hC2
  subst l2 y2 z2
  obtain ⟨X2, hS, hZ, hown⟩ := rebS hS hk X2 hS2 (by have q := gr2; rw [e0] at q; exact q) hZ hown
  replace hk : T2.heap.size ≤ T2.heap.size := Nat.le_refl _
  obtain ⟨rfl, N2q, K2, T_a_2'⟩ := hQ2
  have N2 := Fr.app N0 N2q
  replace hR := hR.trans hC2
  replace KP := KP.trans K2 (allS (Or.inl (List.mem_of_getElem? (i := 0) rfl)) all0)
  replace Z0 := Nat.le_trans Z0 K2.1
  have T_a := T_a_2'
  refine Gs (fun _ tk => st2.trans tk) ?_
  show Goes _ _ _ _ _ (T2.setTop (mkF m 9 #[.val (.ref a), .val (.ref x)] []))
  refine Goes.retH X2 hS rfl hk hZ (own_EW hw) hh hR none (fun _ => rfl) hlk (by decide) (by decide) ?_ (fun fs hr => ?_)
  · exact ⟨rfl, N2, KP, T_a⟩
  · exact X2.returnOut hx hret (hb hby d8_9) hr
theorem d9_0 : decode jdk_52_method_21_code 0 = .ok (.iconst 0, 1) := by decide +kernel
theorem d9_1 : decode jdk_52_method_21_code 1 = .ok (.istore 5, 2) := by decide +kernel
theorem d9_3 : decode jdk_52_method_21_code 3 = .ok (.iload 5, 2) := by decide +kernel
theorem d9_5 : decode jdk_52_method_21_code 5 = .ok (.iload 4, 2) := by decide +kernel
theorem d9_7 : decode jdk_52_method_21_code 7 = .ok (.if_icmp .ge 37, 3) := by decide +kernel
theorem d9_10 : decode jdk_52_method_21_code 10 = .ok (.aload_n 0, 1) := by decide +kernel
theorem d9_11 : decode jdk_52_method_21_code 11 = .ok (.iload_n 1, 1) := by decide +kernel
theorem d9_12 : decode jdk_52_method_21_code 12 = .ok (.caload, 1) := by decide +kernel
theorem d9_13 : decode jdk_52_method_21_code 13 = .ok (.istore 6, 2) := by decide +kernel
theorem d9_15 : decode jdk_52_method_21_code 15 = .ok (.iload 6, 2) := by decide +kernel
theorem d9_17 : decode jdk_52_method_21_code 17 = .ok (.sipush 255, 3) := by decide +kernel
theorem d9_20 : decode jdk_52_method_21_code 20 = .ok (.if_icmp .le 6, 3) := by decide +kernel
theorem d9_26 : decode jdk_52_method_21_code 26 = .ok (.aload_n 2, 1) := by decide +kernel
theorem d9_27 : decode jdk_52_method_21_code 27 = .ok (.iload_n 3, 1) := by decide +kernel
theorem d9_28 : decode jdk_52_method_21_code 28 = .ok (.iload 6, 2) := by decide +kernel
theorem d9_30 : decode jdk_52_method_21_code 30 = .ok (.i2b, 1) := by decide +kernel
theorem d9_31 : decode jdk_52_method_21_code 31 = .ok (.bastore, 1) := by decide +kernel
theorem d9_32 : decode jdk_52_method_21_code 32 = .ok (.iinc 1 1, 3) := by decide +kernel
theorem d9_35 : decode jdk_52_method_21_code 35 = .ok (.iinc 3 1, 3) := by decide +kernel
theorem d9_38 : decode jdk_52_method_21_code 38 = .ok (.iinc 5 1, 3) := by decide +kernel
theorem d9_41 : decode jdk_52_method_21_code 41 = .ok (.goto (-38), 3) := by decide +kernel
theorem d9_44 : decode jdk_52_method_21_code 44 = .ok (.iload 4, 2) := by decide +kernel
theorem d9_46 : decode jdk_52_method_21_code 46 = .ok (.ireturn, 1) := by decide +kernel
theorem own_pn3 : plainName "java/lang/StringUTF16" = true := by first | (simp [plainName, overriddenIn]; done) | decide +kernel
theorem own_ef_rs_c5_1 (m : MethodId) (x0 : Addr) (x2 : Addr) : entryFrame m #[(.ref x0), (.int (0 : Int32)), (.ref x2), (.int (0 : Int32)), (.int (1 : Int32))] 7 = mkF m 0 #[.val (.ref x0), .val (.int (0 : Int32)), .val (.ref x2), .val (.int (0 : Int32)), .val (.int (1 : Int32)), .unset, .unset] [] := by first | (simp [entryFrame, mkF, argsToLocals, Value.category]; done) | rfl
def Q_rs_c5_1 (Z : State) (x : Addr) (kx : ClassId) (y : Addr) (ky : ClassId) (c0 : Int32) (h0 : Heap) (n0 : Nat) (v : Option Value) (h : Heap) (L : List Loc) : Prop := v = some (.int (1 : Int32)) ∧ Fr n0 L ∧ Keep h0 h [y] ∧ Arv Z h y ky .byte (1 : Int32) [(.int (lo8 c0))] (.int (0 : Int32))
set_option maxRecDepth 65536 in
set_option maxHeartbeats 40000000 in
theorem rs_c5_1 (l : Launch) (Z : State) (a0 : Array Value) (hw : ∀ d ∈ tables_1, d.before a0 Z = true) (ws : List Jvm.Cond) (x : Addr) (kx : ClassId) (y : Addr) (ky : ClassId) (c0 : Int32) (h0 : Heap) (n0 : Nat) (Z0 : n0 ≤ h0.size) (V_x : Arv Z h0 x kx .char (1 : Int32) [(.int c0)] (.int (0 : Int32))) (V_y : Arv Z h0 y ky .byte (1 : Int32) [(.int (0 : Int32))] (.int (0 : Int32))) (g_y : n0 ≤ y) (ne_x_y : x ≠ y) (hL_c0 : Lat c0) :
    Met l Z mN9 jdk_52_method_21_code 7 (some .int) ({ frames := 0, cells := 0, slots := 0, locals := 0 } : Room) ws #[(.ref x), (.int (0 : Int32)), (.ref y), (.int (0 : Int32)), (.int (1 : Int32))] h0 (Q_rs_c5_1 Z x kx y ky c0 h0 n0) := by
  refine own_met (plainFor_of_name own_pn3) ?_
  intro p e s m below meth c s₁ hret hx hby hlk hml hown hnm X0 e0 hZ hh
  have N0 := Fr.nil n0
  refine Gs (fun _ tk => castTop (own_ef_rs_c5_1 m x y) tk) ?_
  have KP : Keep h0 h0 [y] := Keep.refl _ _
  show Goes _ _ _ _ _ (s₁.setTop (mkF m 0 #[.val (.ref x), .val (.int (0 : Int32)), .val (.ref y), .val (.int (0 : Int32)), .val (.int (1 : Int32)), .unset, .unset] []))
  have hn_c0 := own_latN hL_c0
  refine Gs (fun _ tk => XS.iconst X0.here hx rfl (hb hby d9_0) tk) ?_
  refine Gs (fun _ tk => XS.istore X0.here hx rfl (hb hby d9_1) rfl (l' := #[.val (.ref x), .val (.int (0 : Int32)), .val (.ref y), .val (.int (0 : Int32)), .val (.int (1 : Int32)), .val (.int (0 : Int32)), .unset]) rfl tk) ?_
  refine Gs (fun _ tk => XS.iload X0.here hx rfl (hb hby d9_3) rfl tk) ?_
  refine Gs (fun _ tk => XS.iload X0.here hx rfl (hb hby d9_5) rfl tk) ?_
  refine Gs (fun _ tk => XS.icmpNo X0.here hx rfl (hb hby d9_7) rfl (tlt (by decide : ((0 : Int32) < (1 : Int32)))).2.1 tk) ?_
  refine Gs (fun _ tk => XS.aloadN X0.here hx rfl (hb hby d9_10) rfl rfl tk) ?_
  show Goes _ _ _ _ _ (s₁.setTop (mkF m 11 #[.val (.ref x), .val (.int (0 : Int32)), .val (.ref y), .val (.int (0 : Int32)), .val (.int (1 : Int32)), .val (.int (0 : Int32)), .unset] [(.ref x)]))
  refine Gs (fun _ tk => XS.iloadN X0.here hx rfl (hb hby d9_11) rfl tk) ?_
  obtain ⟨cl1, Ar1, -, S1, N1z, H1, -⟩ := id V_x
  have hin1 : ¬ ((0 : Int32) < 0 ∨ cl1.slots.size ≤ ((0 : Int32)).toNatClampNeg) := inb_of S1 ⟨by decide, by decide⟩
  have hat1 : cl1.slots[((0 : Int32)).toNatClampNeg]? = some (.int c0) := Has.at H1 hin1 rfl
  refine Gs (fun _ tk => X0.caload hx (j := (0 : Int32)) (v := (.int c0)) (by rw [e0]; exact Ar1.1) (State.isArrayOf_alike hZ.alike Ar1.2.1) Ar1.2.2 hin1 hat1 (g := (mkF m 12 #[.val (.ref x), .val (.int (0 : Int32)), .val (.ref y), .val (.int (0 : Int32)), .val (.int (1 : Int32)), .val (.int (0 : Int32)), .unset] [(.int (0 : Int32)), (.ref x)])) rfl rfl (hb hby d9_12) _ tk) ?_
  show Goes _ _ _ _ _ (s₁.setTop (mkF m 13 #[.val (.ref x), .val (.int (0 : Int32)), .val (.ref y), .val (.int (0 : Int32)), .val (.int (1 : Int32)), .val (.int (0 : Int32)), .unset] [(.int c0)]))
  refine Gs (fun _ tk => XS.istore X0.here hx rfl (hb hby d9_13) rfl (l' := #[.val (.ref x), .val (.int (0 : Int32)), .val (.ref y), .val (.int (0 : Int32)), .val (.int (1 : Int32)), .val (.int (0 : Int32)), .val (.int c0)]) rfl tk) ?_
  refine Gs (fun _ tk => XS.iload X0.here hx rfl (hb hby d9_15) rfl tk) ?_
  refine Gs (fun _ tk => XS.sipush X0.here hx rfl (hb hby d9_17) tk) ?_
  refine Gs (fun _ tk => XS.icmpYes X0.here hx rfl (pc0 := 20) (pc' := 26) rfl (hb hby d9_20) rfl (flt hn_c0).2.2.2 (by decide) (by decide) tk) ?_
  refine Gs (fun _ tk => XS.aloadN X0.here hx rfl (hb hby d9_26) rfl rfl tk) ?_
  refine Gs (fun _ tk => XS.iloadN X0.here hx rfl (hb hby d9_27) rfl tk) ?_
  show Goes _ _ _ _ _ (s₁.setTop (mkF m 28 #[.val (.ref x), .val (.int (0 : Int32)), .val (.ref y), .val (.int (0 : Int32)), .val (.int (1 : Int32)), .val (.int (0 : Int32)), .val (.int c0)] [(.int (0 : Int32)), (.ref y)]))
  refine Gs (fun _ tk => XS.iload X0.here hx rfl (hb hby d9_28) rfl tk) ?_
  show Goes _ _ _ _ _ (s₁.setTop (mkF m 30 #[.val (.ref x), .val (.int (0 : Int32)), .val (.ref y), .val (.int (0 : Int32)), .val (.int (1 : Int32)), .val (.int (0 : Int32)), .val (.int c0)] [(.int c0), (.int (0 : Int32)), (.ref y)]))
  refine Gs (fun _ tk => XS.i2b X0.here hx rfl (hb hby d9_30) rfl tk) ?_
  show Goes _ _ _ _ _ (s₁.setTop (mkF m 31 #[.val (.ref x), .val (.int (0 : Int32)), .val (.ref y), .val (.int (0 : Int32)), .val (.int (1 : Int32)), .val (.int (0 : Int32)), .val (.int c0)] [(.int (c0.toInt8.toInt32)), (.int (0 : Int32)), (.ref y)]))
  obtain ⟨cl2, Ar2, q2, S2, N2z, H2, G2⟩ := V_y
  have hin2 : ¬ ((0 : Int32) < 0 ∨ cl2.slots.size ≤ ((0 : Int32)).toNatClampNeg) := inb_of S2 ⟨by decide, by decide⟩
  obtain ⟨T2, h2, X2, e2, W2, st2⟩ := stB X0 hx hZ e0 Ar2 (j := (0 : Int32)) hin2 (g := (mkF m 31 #[.val (.ref x), .val (.int (0 : Int32)), .val (.ref y), .val (.int (0 : Int32)), .val (.int (1 : Int32)), .val (.int (0 : Int32)), .val (.int c0)] [(.int (c0.toInt8.toInt32)), (.int (0 : Int32)), (.ref y)])) rfl rfl (hb hby d9_31)
  have Vn2 := Arv.set Ar2 q2 S2 N2z H2 G2 (fits_nar_byte _) W2 0 rfl (Nat.le_of_ble_eq_true rfl)
  have N2 := Fr.snoc X2 N0 g_y
  replace KP := KP.wr W2 (Or.inl (List.mem_of_getElem? (i := 0) rfl))
  have V_y : Arv Z h2 y ky .byte (1 : Int32) [(.int (lo8 c0))] (.int (0 : Int32)) := by have q := Vn2; rw [own_nb2] at q; exact q
  replace Z0 : n0 ≤ h2.size := by rw [W2.size]; exact Z0
  refine Gs st2 ?_
  show Goes _ _ _ _ _ (T2.setTop (mkF m 32 #[.val (.ref x), .val (.int (0 : Int32)), .val (.ref y), .val (.int (0 : Int32)), .val (.int (1 : Int32)), .val (.int (0 : Int32)), .val (.int c0)] []))
  refine Gs (fun _ tk => XS.iinc X2.here hx rfl (hb hby d9_32) rfl (l' := #[.val (.ref x), .val (.int ((0 : Int32) + (1 : Int32))), .val (.ref y), .val (.int (0 : Int32)), .val (.int (1 : Int32)), .val (.int (0 : Int32)), .val (.int c0)]) rfl tk) ?_
  rw [show ((0 : Int32) + (1 : Int32)) = (1 : Int32) from by decide]
  show Goes _ _ _ _ _ (T2.setTop (mkF m 35 #[.val (.ref x), .val (.int (1 : Int32)), .val (.ref y), .val (.int (0 : Int32)), .val (.int (1 : Int32)), .val (.int (0 : Int32)), .val (.int c0)] []))
  refine Gs (fun _ tk => XS.iinc X2.here hx rfl (hb hby d9_35) rfl (l' := #[.val (.ref x), .val (.int (1 : Int32)), .val (.ref y), .val (.int ((0 : Int32) + (1 : Int32))), .val (.int (1 : Int32)), .val (.int (0 : Int32)), .val (.int c0)]) rfl tk) ?_
  rw [show ((0 : Int32) + (1 : Int32)) = (1 : Int32) from by decide]
  show Goes _ _ _ _ _ (T2.setTop (mkF m 38 #[.val (.ref x), .val (.int (1 : Int32)), .val (.ref y), .val (.int (1 : Int32)), .val (.int (1 : Int32)), .val (.int (0 : Int32)), .val (.int c0)] []))
  refine Gs (fun _ tk => XS.iinc X2.here hx rfl (hb hby d9_38) rfl (l' := #[.val (.ref x), .val (.int (1 : Int32)), .val (.ref y), .val (.int (1 : Int32)), .val (.int (1 : Int32)), .val (.int ((0 : Int32) + (1 : Int32))), .val (.int c0)]) rfl tk) ?_
  rw [show ((0 : Int32) + (1 : Int32)) = (1 : Int32) from by decide]
  show Goes _ _ _ _ _ (T2.setTop (mkF m 41 #[.val (.ref x), .val (.int (1 : Int32)), .val (.ref y), .val (.int (1 : Int32)), .val (.int (1 : Int32)), .val (.int (1 : Int32)), .val (.int c0)] []))
  refine Gs (fun _ tk => XS.goto X2.here hx rfl (pc0 := 41) (pc' := 3) rfl (hb hby d9_41) (by decide) (by decide) tk) ?_
  refine Gs (fun _ tk => XS.iload X2.here hx rfl (hb hby d9_3) rfl tk) ?_
  refine Gs (fun _ tk => XS.iload X2.here hx rfl (hb hby d9_5) rfl tk) ?_
  refine Gs (fun _ tk => XS.icmpYes X2.here hx rfl (pc0 := 7) (pc' := 44) rfl (hb hby d9_7) rfl (flt (by decide : ¬ ((1 : Int32) < (1 : Int32)))).2.1 (by decide) (by decide) tk) ?_
  refine Gs (fun _ tk => XS.iload X2.here hx rfl (hb hby d9_44) rfl tk) ?_
  refine Goes.ret X2 (some (.int (1 : Int32))) (fun h => by rw [hret] at h; cases h) hlk (by decide) (by decide) ?_ (fun fs hr => ?_)
  · rw [e2]; exact ⟨rfl, N2, KP, V_y⟩
  · exact retI X2 hx hret (hb hby d9_46) hr
theorem d10_0 : decode jdk_52_method_16_code 0 = .ok (.iload_n 2, 1) := by decide +kernel
theorem d10_1 : decode jdk_52_method_16_code 1 = .ok (.newarray .byte, 2) := by decide +kernel
theorem d10_3 : decode jdk_52_method_16_code 3 = .ok (.astore_n 3, 1) := by decide +kernel
theorem d10_4 : decode jdk_52_method_16_code 4 = .ok (.aload_n 0, 1) := by decide +kernel
theorem d10_5 : decode jdk_52_method_16_code 5 = .ok (.iload_n 1, 1) := by decide +kernel
theorem d10_6 : decode jdk_52_method_16_code 6 = .ok (.aload_n 3, 1) := by decide +kernel
theorem d10_7 : decode jdk_52_method_16_code 7 = .ok (.iconst 0, 1) := by decide +kernel
theorem d10_8 : decode jdk_52_method_16_code 8 = .ok (.iload_n 2, 1) := by decide +kernel
theorem d10_9 : decode jdk_52_method_16_code 9 = .ok (.invokestatic 115, 3) := by decide +kernel
theorem own_pd6 : parseMethodDescriptor "([CI[BII)I" = some ⟨[(.array .char), .int, (.array .byte), .int, .int], some .int⟩ := by decide +kernel
theorem d10_12 : decode jdk_52_method_16_code 12 = .ok (.istore 4, 2) := by decide +kernel
theorem d10_14 : decode jdk_52_method_16_code 14 = .ok (.iload 4, 2) := by decide +kernel
theorem d10_16 : decode jdk_52_method_16_code 16 = .ok (.iload_n 2, 1) := by decide +kernel
theorem d10_17 : decode jdk_52_method_16_code 17 = .ok (.if_icmp .eq 40, 3) := by decide +kernel
theorem d10_57 : decode jdk_52_method_16_code 57 = .ok (.aload_n 3, 1) := by decide +kernel
theorem d10_58 : decode jdk_52_method_16_code 58 = .ok (.areturn, 1) := by decide +kernel
theorem own_ef_rs_c3_1 (m : MethodId) (x0 : Addr) : entryFrame m #[(.ref x0), (.int (0 : Int32)), (.int (1 : Int32))] 6 = mkF m 0 #[.val (.ref x0), .val (.int (0 : Int32)), .val (.int (1 : Int32)), .unset, .unset, .unset] [] := by first | (simp [entryFrame, mkF, argsToLocals, Value.category]; done) | rfl
def Q_rs_c3_1 (Z : State) (x : Addr) (kx : ClassId) (c0 : Int32) (h0 : Heap) (n0 : Nat) (v : Option Value) (h : Heap) (L : List Loc) : Prop := ∃ y : Addr, ∃ ky : ClassId, v = some (.ref y) ∧ Fr n0 L ∧ Keep h0 h [] ∧ Arv Z h y ky .byte (1 : Int32) [(.int (lo8 c0))] (.int (0 : Int32)) ∧ n0 ≤ y ∧ h0.size ≤ y
set_option maxRecDepth 65536 in
set_option maxHeartbeats 40000000 in
theorem rs_c3_1 (l : Launch) (Z : State) (a0 : Array Value) (hw : ∀ d ∈ tables_1, d.before a0 Z = true) (ws : List Jvm.Cond) (x : Addr) (kx : ClassId) (c0 : Int32) (h0 : Heap) (n0 : Nat) (Z0 : n0 ≤ h0.size) (V_x : Arv Z h0 x kx .char (1 : Int32) [(.int c0)] (.int (0 : Int32))) (hL_c0 : Lat c0) :
    Met l Z mN10 jdk_52_method_16_code 6 (some (.array .byte)) ({ frames := 1, cells := 1, slots := 1, locals := 18 } : Room) ws #[(.ref x), (.int (0 : Int32)), (.int (1 : Int32))] h0 (Q_rs_c3_1 Z x kx c0 h0 n0) := by
  refine own_met (plainFor_of_name own_pn3) ?_
  intro p e s m below meth c s₁ hret hx hby hlk hml hown hnm X0 e0 hZ hh
  have N0 := Fr.nil n0
  refine Gs (fun _ tk => castTop (own_ef_rs_c3_1 m x) tk) ?_
  have KP : Keep h0 h0 [] := Keep.refl _ _
  show Goes _ _ _ _ _ (s₁.setTop (mkF m 0 #[.val (.ref x), .val (.int (0 : Int32)), .val (.int (1 : Int32)), .unset, .unset, .unset] []))
  refine Gs (fun _ tk => XS.iloadN X0.here hx rfl (hb hby d10_0) rfl tk) ?_
  obtain ⟨T1, h1, k1, X1, e1, E1, A1, st1⟩ := newP X0 hx hZ (gw hw 29 rfl) e0 (g := (mkF m 1 #[.val (.ref x), .val (.int (0 : Int32)), .val (.int (1 : Int32)), .unset, .unset, .unset] [(.int (1 : Int32))])) rfl (hb hby d10_1) rfl (by decide) (cap := 1) (by decide) (by decide) (by decide) (by decide)
  obtain ⟨b1, gq1⟩ : ∃ z, z = h0.size := ⟨_, rfl⟩
  rw [← gq1] at A1 st1
  have g_b1 : n0 ≤ b1 := by rw [gq1]; exact Z0
  have sz_b1 : h0.size ≤ b1 := by rw [gq1]; exact KP.1
  have ne_x_b1 : x ≠ b1 := by rw [gq1]; exact Nat.ne_of_lt V_x.lt
  replace V_x := V_x.ext E1
  replace KP := KP.ext E1
  replace Z0 : n0 ≤ h1.size := Nat.le_trans Z0 E1.1
  have V_b1 : Arv Z h1 b1 k1 .byte (1 : Int32) [(.int (0 : Int32))] (.int (0 : Int32)) := (Arv.new A1 (by decide)).pad (pad_rep [] (.int (0 : Int32)) 1)
  refine Gs st1 ?_
  show Goes _ _ _ _ _ (T1.setTop (mkF m 3 #[.val (.ref x), .val (.int (0 : Int32)), .val (.int (1 : Int32)), .unset, .unset, .unset] [(.ref b1)]))
  refine Gs (fun _ tk => XS.astoreN X1.here hx rfl (hb hby d10_3) rfl rfl (l' := #[.val (.ref x), .val (.int (0 : Int32)), .val (.int (1 : Int32)), .val (.ref b1), .unset, .unset]) rfl tk) ?_
  refine Gs (fun _ tk => XS.aloadN X1.here hx rfl (hb hby d10_4) rfl rfl tk) ?_
  refine Gs (fun _ tk => XS.iloadN X1.here hx rfl (hb hby d10_5) rfl tk) ?_
  refine Gs (fun _ tk => XS.aloadN X1.here hx rfl (hb hby d10_6) rfl rfl tk) ?_
  refine Gs (fun _ tk => XS.iconst X1.here hx rfl (hb hby d10_7) tk) ?_
  refine Gs (fun _ tk => XS.iloadN X1.here hx rfl (hb hby d10_8) rfl tk) ?_
  show Goes _ _ _ _ _ (T1.setTop (mkF m 9 #[.val (.ref x), .val (.int (0 : Int32)), .val (.int (1 : Int32)), .val (.ref b1), .unset, .unset] [(.int (1 : Int32)), (.int (0 : Int32)), (.ref b1), (.int (0 : Int32)), (.ref x)]))
  obtain ⟨_, _, ⟨T2, L2, k2, n2⟩, -, X2, ⟨Lc2, hQ2, l2, y2, z2⟩, st2⟩ := Jvm.LawKit.callS X1 hx (y := mN9) hown (mvT hZ (gw hw 55 rfl)) (mvT hZ (gw hw 56 rfl)) (mvT hZ (gw hw 53 rfl)) (mvT hZ (gw hw 57 rfl)) (by decide) (backOf (W := 0) (rs_c5_1 l Z a0 hw [] x kx b1 k1 c0 h1 n0 Z0 V_x V_b1 g_b1 ne_x_b1 (by first | assumption | decide)) hZ (gw hw 57 rfl) (gw hw 53 rfl) (by decide) (by decide)) (g := (mkF m 9 #[.val (.ref x), .val (.int (0 : Int32)), .val (.int (1 : Int32)), .val (.ref b1), .unset, .unset] [(.int (1 : Int32)), (.int (0 : Int32)), (.ref b1), (.int (0 : Int32)), (.ref x)])) rfl (by rw [hml]; rfl) (argsL := [(.ref x), (.int (0 : Int32)), (.ref b1), (.int (0 : Int32)), (.int (1 : Int32))]) (rest := []) (lenOf own_pd6 rfl) rfl (w0 (Nat.le_of_eq rfl)) (hb hby d10_9) (fun _ _ => ⟨rfl, e1, (by decide : 1 + 0 ≤ _), (by decide : 1 + 0 ≤ _)⟩)
  dsimp only [Pt.U, Pt.locs, Pt.cells, Pt.slots] at X2 l2 y2 z2 st2 hQ2
  subst l2 y2 z2
  obtain ⟨rfl, N2q, K2, V_b1_2'⟩ := hQ2
  have N2 := Fr.app N0 N2q
  replace KP := KP.trans K2 (allS (Or.inr sz_b1) all0)
  replace Z0 := Nat.le_trans Z0 K2.1
  have V_b1 := V_b1_2'
  refine Gs st2 ?_
  show Goes _ _ _ _ _ (T2.setTop (mkF m 12 #[.val (.ref x), .val (.int (0 : Int32)), .val (.int (1 : Int32)), .val (.ref b1), .unset, .unset] [(.int (1 : Int32))]))
  refine Gs (fun _ tk => XS.istore X2.here hx rfl (hb hby d10_12) rfl (l' := #[.val (.ref x), .val (.int (0 : Int32)), .val (.int (1 : Int32)), .val (.ref b1), .val (.int (1 : Int32)), .unset]) rfl tk) ?_
  refine Gs (fun _ tk => XS.iload X2.here hx rfl (hb hby d10_14) rfl tk) ?_
  refine Gs (fun _ tk => XS.iloadN X2.here hx rfl (hb hby d10_16) rfl tk) ?_
  refine Gs (fun _ tk => XS.icmpYes X2.here hx rfl (pc0 := 17) (pc' := 57) rfl (hb hby d10_17) rfl (teq (by decide : ((1 : Int32) = (1 : Int32)))).1 (by decide) (by decide) tk) ?_
  refine Gs (fun _ tk => XS.aloadN X2.here hx rfl (hb hby d10_57) rfl rfl tk) ?_
  refine Goes.ret X2 (some (.ref b1)) (fun h => by rw [hret] at h; cases h) hlk (by decide) (by decide) ?_ (fun fs hr => ?_)
  · exact ⟨b1, k1, rfl, N2, KP, V_b1, g_b1, sz_b1⟩
  · exact own_retA X2 hx hret rfl rfl (hb hby d10_58) hr
theorem d11_0 : decode jdk_52_method_15_code 0 = .ok (.iload_n 1, 1) := by decide +kernel
theorem d11_1 : decode jdk_52_method_15_code 1 = .ok (.aload_n 0, 1) := by decide +kernel
theorem d11_2 : decode jdk_52_method_15_code 2 = .ok (.arraylength, 1) := by decide +kernel
theorem d11_3 : decode jdk_52_method_15_code 3 = .ok (.isub, 1) := by decide +kernel
theorem d11_4 : decode jdk_52_method_15_code 4 = .ok (.bipush 31, 2) := by decide +kernel
theorem d11_6 : decode jdk_52_method_15_code 6 = .ok (.iushr, 1) := by decide +kernel
theorem d11_7 : decode jdk_52_method_15_code 7 = .ok (.i2b, 1) := by decide +kernel
theorem d11_8 : decode jdk_52_method_15_code 8 = .ok (.ireturn, 1) := by decide +kernel
theorem own_ef_rs_cf_1 (m : MethodId) (x0 : Addr) : entryFrame m #[(.ref x0), (.int (1 : Int32))] 2 = mkF m 0 #[.val (.ref x0), .val (.int (1 : Int32))] [] := by first | (simp [entryFrame, mkF, argsToLocals, Value.category]; done) | rfl
def Q_rs_cf_1 (Z : State) (y : Addr) (ky : ClassId) (vs : List Value) (h0 : Heap) (n0 : Nat) (v : Option Value) (h : Heap) (L : List Loc) : Prop := v = some (.int (0 : Int32)) ∧ Fr n0 L ∧ h = h0
set_option maxRecDepth 65536 in
set_option maxHeartbeats 40000000 in
theorem rs_cf_1 (l : Launch) (Z : State) (a0 : Array Value) (hw : ∀ d ∈ tables_1, d.before a0 Z = true) (ws : List Jvm.Cond) (y : Addr) (ky : ClassId) (vs : List Value) (h0 : Heap) (n0 : Nat) (Z0 : n0 ≤ h0.size) (V_y : Arv Z h0 y ky .byte (1 : Int32) vs (.int (0 : Int32))) :
    Met l Z mN11 jdk_52_method_15_code 2 (some .byte) ({ frames := 0, cells := 0, slots := 0, locals := 0 } : Room) ws #[(.ref y), (.int (1 : Int32))] h0 (Q_rs_cf_1 Z y ky vs h0 n0) := by
  refine own_met (plainFor_of_name own_pn3) ?_
  intro p e s m below meth c s₁ hret hx hby hlk hml hown hnm X0 e0 hZ hh
  have N0 := Fr.nil n0
  refine Gs (fun _ tk => castTop (own_ef_rs_cf_1 m y) tk) ?_
  show Goes _ _ _ _ _ (s₁.setTop (mkF m 0 #[.val (.ref y), .val (.int (1 : Int32))] []))
  refine Gs (fun _ tk => XS.iloadN X0.here hx rfl (hb hby d11_0) rfl tk) ?_
  refine Gs (fun _ tk => XS.aloadN X0.here hx rfl (hb hby d11_1) rfl rfl tk) ?_
  obtain ⟨cl1, Ar1, -, S1, N1z, -, -⟩ := id V_y
  refine Gs (fun _ tk => X0.arraylength hx (by rw [e0]; exact Ar1.1) (State.isArrayOf_alike hZ.alike Ar1.2.1) (g := (mkF m 2 #[.val (.ref y), .val (.int (1 : Int32))] [(.ref y), (.int (1 : Int32))])) rfl rfl (hb hby d11_2) _ tk) ?_
  rw [len_of S1 N1z]
  show Goes _ _ _ _ _ (s₁.setTop (mkF m 3 #[.val (.ref y), .val (.int (1 : Int32))] [(.int (1 : Int32)), (.int (1 : Int32))]))
  refine Gs (fun _ tk => XS.isub X0.here hx rfl (hb hby d11_3) rfl tk) ?_
  rw [show ((1 : Int32) - (1 : Int32)) = (0 : Int32) from by decide]
  show Goes _ _ _ _ _ (s₁.setTop (mkF m 4 #[.val (.ref y), .val (.int (1 : Int32))] [(.int (0 : Int32))]))
  refine Gs (fun _ tk => XS.bipush X0.here hx rfl (hb hby d11_4) tk) ?_
  show Goes _ _ _ _ _ (s₁.setTop (mkF m 6 #[.val (.ref y), .val (.int (1 : Int32))] [(.int (31 : Int32)), (.int (0 : Int32))]))
  refine Gs (fun _ tk => XS.iushr X0.here hx rfl (hb hby d11_6) rfl tk) ?_
  rw [show (((0 : Int32).toUInt32 >>> ((31 : Int32) &&& 31).toUInt32).toInt32) = (0 : Int32) from by decide]
  show Goes _ _ _ _ _ (s₁.setTop (mkF m 7 #[.val (.ref y), .val (.int (1 : Int32))] [(.int (0 : Int32))]))
  refine Gs (fun _ tk => XS.i2b X0.here hx rfl (hb hby d11_7) rfl tk) ?_
  rw [show ((0 : Int32).toInt8.toInt32) = (0 : Int32) from by decide]
  show Goes _ _ _ _ _ (s₁.setTop (mkF m 8 #[.val (.ref y), .val (.int (1 : Int32))] [(.int (0 : Int32))]))
  refine Goes.ret X0 (some (.int (0 : Int32))) (fun h => by rw [hret] at h; cases h) hlk (by decide) (by decide) ?_ (fun fs hr => ?_)
  · exact ⟨rfl, N0, e0⟩
  · exact own_retN X0 hx (t := .byte) hret (by simp) rfl (hb hby d11_8) hr
theorem d7_27 : decode jdk_42_method_149_code 27 = .ok (.getstatic 38, 3) := by decide +kernel
theorem d7_30 : decode jdk_42_method_149_code 30 = .ok (.ifCond .eq 28, 3) := by decide +kernel
theorem d7_33 : decode jdk_42_method_149_code 33 = .ok (.aload_n 1, 1) := by decide +kernel
theorem d7_34 : decode jdk_42_method_149_code 34 = .ok (.iload_n 2, 1) := by decide +kernel
theorem d7_35 : decode jdk_42_method_149_code 35 = .ok (.iload_n 3, 1) := by decide +kernel
theorem d7_36 : decode jdk_42_method_149_code 36 = .ok (.invokestatic 177, 3) := by decide +kernel
theorem own_pd7 : parseMethodDescriptor "([CII)[B" = some ⟨[(.array .char), .int, .int], some (.array .byte)⟩ := by decide +kernel
theorem d7_39 : decode jdk_42_method_149_code 39 = .ok (.astore 5, 2) := by decide +kernel
theorem d7_41 : decode jdk_42_method_149_code 41 = .ok (.aload_n 0, 1) := by decide +kernel
theorem d7_42 : decode jdk_42_method_149_code 42 = .ok (.aload 5, 2) := by decide +kernel
theorem d7_44 : decode jdk_42_method_149_code 44 = .ok (.iload_n 3, 1) := by decide +kernel
theorem d7_45 : decode jdk_42_method_149_code 45 = .ok (.invokestatic 47, 3) := by decide +kernel
theorem own_pd8 : parseMethodDescriptor "([BI)B" = some ⟨[(.array .byte), .int], some .byte⟩ := by decide +kernel
theorem d7_48 : decode jdk_42_method_149_code 48 = .ok (.putfield 15, 3) := by decide +kernel
theorem d7_51 : decode jdk_42_method_149_code 51 = .ok (.aload_n 0, 1) := by decide +kernel
theorem d7_52 : decode jdk_42_method_149_code 52 = .ok (.aload 5, 2) := by decide +kernel
theorem d7_54 : decode jdk_42_method_149_code 54 = .ok (.putfield 9, 3) := by decide +kernel
theorem d7_57 : decode jdk_42_method_149_code 57 = .ok (.return_, 1) := by decide +kernel
theorem own_ef_rs_i4_1 (m : MethodId) (x0 : Addr) (x1 : Addr) : entryFrame m #[(.ref x0), (.ref x1), (.int (0 : Int32)), (.int (1 : Int32)), .null] 6 = mkF m 0 #[.val (.ref x0), .val (.ref x1), .val (.int (0 : Int32)), .val (.int (1 : Int32)), .val .null, .unset] [] := by first | (simp [entryFrame, mkF, argsToLocals, Value.category]; done) | rfl
def Q_rs_i4_1 (Z : State) (a : Addr) (x : Addr) (kx : ClassId) (c0 : Int32) (cz : Int32) (h0 : Heap) (n0 : Nat) (v : Option Value) (h : Heap) (L : List Loc) : Prop := v = none ∧ Fr n0 L ∧ Keep h0 h [a] ∧ StrOf Z h a [c0]
set_option maxRecDepth 65536 in
set_option maxHeartbeats 40000000 in
theorem rs_i4_1 (l : Launch) (Z : State) (a0 : Array Value) (hw : ∀ d ∈ tables_1, d.before a0 Z = true) (ws : List Jvm.Cond) (a : Addr) (x : Addr) (kx : ClassId) (c0 : Int32) (cz : Int32) (h0 : Heap) (n0 : Nat) (Z0 : n0 ≤ h0.size) (A_a : Exa Z h0 a "java/lang/String") (F_value_a : Fld Z h0 a "java/lang/String" "value" "[B" .null) (F_coder_a : Fld Z h0 a "java/lang/String" "coder" "B" (.int (0 : Int32))) (V_x : Arv Z h0 x kx .char (1 : Int32) [(.int c0)] (.int (0 : Int32))) (g_a : n0 ≤ a) (ne_x_a : x ≠ a) (S_COMPACT_STRINGS : Sta Z h0 "java/lang/String" "COMPACT_STRINGS" "Z" (.int cz)) (hcz : ¬ (cz = (0 : Int32))) (hL_c0 : Lat c0) :
    Met l Z mN7 jdk_42_method_149_code 6 none ({ frames := 2, cells := 1, slots := 1, locals := 35 } : Room) ws #[(.ref a), (.ref x), (.int (0 : Int32)), (.int (1 : Int32)), .null] h0 (Q_rs_i4_1 Z a x kx c0 cz h0 n0) := by
  refine own_met (plainFor_of_name own_pn0) ?_
  intro p e s m below meth c s₁ hret hx hby hlk hml hown hnm X0 e0 hZ hh
  have N0 := Fr.nil n0
  refine Gs (fun _ tk => castTop (own_ef_rs_i4_1 m a x) tk) ?_
  have KP : Keep h0 h0 [a] := Keep.refl _ _
  show Goes _ _ _ _ _ (s₁.setTop (mkF m 0 #[.val (.ref a), .val (.ref x), .val (.int (0 : Int32)), .val (.int (1 : Int32)), .val .null, .unset] []))
  have hn_c0 := own_latN hL_c0
  refine Gs (fun _ tk => XS.aloadN X0.here hx rfl (hb hby d7_0) rfl rfl tk) ?_
  obtain ⟨T1, X1, e1, st1⟩ := initO X0 hx hZ hown (gw hw 25 rfl) (gw hw 26 rfl) (gw hw 27 rfl) e0 (g := (mkF m 1 #[.val (.ref a), .val (.ref x), .val (.int (0 : Int32)), .val (.int (1 : Int32)), .val .null, .unset] [(.ref a)])) rfl (by rw [hml]; rfl) rfl (hb hby d7_1) (by decide) (W := 0) (w0 (Nat.le_of_eq rfl)) (by decide)
  refine Gs st1 ?_
  show Goes _ _ _ _ _ (T1.setTop (mkF m 4 #[.val (.ref a), .val (.ref x), .val (.int (0 : Int32)), .val (.int (1 : Int32)), .val .null, .unset] []))
  refine Gs (fun _ tk => XS.iloadN X1.here hx rfl (hb hby d7_4) rfl tk) ?_
  refine Gs (fun _ tk => XS.ifYes X1.here hx rfl (pc0 := 5) (pc' := 27) rfl (hb hby d7_5) rfl ((if0 _ _).trans (feq (by decide : ¬ ((1 : Int32) = (0 : Int32)))).2) (by decide) (by decide) tk) ?_
  obtain ⟨T2, X2, e2, st2⟩ := getS2 X1 hx hZ hown (host := "") (Or.inl (gw hw 50 rfl)) Via.refl e1 S_COMPACT_STRINGS (g := (mkF m 27 #[.val (.ref a), .val (.ref x), .val (.int (0 : Int32)), .val (.int (1 : Int32)), .val .null, .unset] [])) rfl (hb hby d7_27)
  refine Gs st2 ?_
  show Goes _ _ _ _ _ (T2.setTop (mkF m 30 #[.val (.ref a), .val (.ref x), .val (.int (0 : Int32)), .val (.int (1 : Int32)), .val .null, .unset] [(.int cz)]))
  refine Gs (fun _ tk => XS.ifNo X2.here hx rfl (hb hby d7_30) rfl ((if0 _ _).trans (feq hcz).1) tk) ?_
  refine Gs (fun _ tk => XS.aloadN X2.here hx rfl (hb hby d7_33) rfl rfl tk) ?_
  refine Gs (fun _ tk => XS.iloadN X2.here hx rfl (hb hby d7_34) rfl tk) ?_
  refine Gs (fun _ tk => XS.iloadN X2.here hx rfl (hb hby d7_35) rfl tk) ?_
  have ltc3_a : a < h0.size := A_a.lt
  have ltc3_x : x < h0.size := V_x.lt
  obtain ⟨_, _, ⟨T3, L3, k3, n3⟩, -, X3, ⟨Lc3, hQ3, l3, y3, z3⟩, st3⟩ := Jvm.LawKit.callS X2 hx (y := mN10) hown (mvT hZ (gw hw 51 rfl)) (mvT hZ (gw hw 52 rfl)) (mvT hZ (gw hw 53 rfl)) (mvT hZ (gw hw 54 rfl)) (by decide) (backOf (W := 0) (rs_c3_1 l Z a0 hw [] x kx c0 h0 n0 Z0 V_x (by first | assumption | decide)) hZ (gw hw 54 rfl) (gw hw 53 rfl) (by decide) (by decide)) (g := (mkF m 36 #[.val (.ref a), .val (.ref x), .val (.int (0 : Int32)), .val (.int (1 : Int32)), .val .null, .unset] [(.int (1 : Int32)), (.int (0 : Int32)), (.ref x)])) rfl (by rw [hml]; rfl) (argsL := [(.ref x), (.int (0 : Int32)), (.int (1 : Int32))]) (rest := []) (lenOf own_pd7 rfl) rfl (w0 (Nat.le_of_eq rfl)) (hb hby d7_36) (fun _ _ => ⟨rfl, e2, (by decide : 0 + 1 ≤ _), (by decide : 0 + 1 ≤ _)⟩)
  dsimp only [Pt.U, Pt.locs, Pt.cells, Pt.slots] at X3 l3 y3 z3 st3 hQ3
  subst l3 y3 z3
  obtain ⟨y3, ky3, rfl, N3q, K3, V_y3_3', g_y3_3', sz_y3_3'⟩ := hQ3
  have N3 := Fr.app N0 N3q
  replace A_a := A_a.keep K3
  replace F_value_a := F_value_a.keep K3 nin0
  replace F_coder_a := F_coder_a.keep K3 nin0
  replace KP := KP.trans K3 all0
  replace Z0 := Nat.le_trans Z0 K3.1
  have V_y3 := V_y3_3'
  have g_y3 := g_y3_3'
  have szc_y3 := sz_y3_3'
  have ne_a_y3 : a ≠ y3 := Nat.ne_of_lt (Nat.lt_of_lt_of_le ltc3_a szc_y3)
  have ne_x_y3 : x ≠ y3 := Nat.ne_of_lt (Nat.lt_of_lt_of_le ltc3_x szc_y3)
  refine Gs st3 ?_
  show Goes _ _ _ _ _ (T3.setTop (mkF m 39 #[.val (.ref a), .val (.ref x), .val (.int (0 : Int32)), .val (.int (1 : Int32)), .val .null, .unset] [(.ref y3)]))
  refine Gs (fun _ tk => XS.astore X3.here hx rfl (hb hby d7_39) rfl rfl (l' := #[.val (.ref a), .val (.ref x), .val (.int (0 : Int32)), .val (.int (1 : Int32)), .val .null, .val (.ref y3)]) rfl tk) ?_
  refine Gs (fun _ tk => XS.aloadN X3.here hx rfl (hb hby d7_41) rfl rfl tk) ?_
  refine Gs (fun _ tk => XS.aload X3.here hx rfl (hb hby d7_42) rfl rfl tk) ?_
  refine Gs (fun _ tk => XS.iloadN X3.here hx rfl (hb hby d7_44) rfl tk) ?_
  obtain ⟨_, _, ⟨T4, L4, k4, n4⟩, -, X4, ⟨Lc4, hQ4, l4, y4, z4⟩, st4⟩ := Jvm.LawKit.callS X3 hx (y := mN11) hown (mvT hZ (gw hw 58 rfl)) (mvT hZ (gw hw 59 rfl)) (mvT hZ (gw hw 53 rfl)) (mvT hZ (gw hw 60 rfl)) (by decide) (backOf (W := 1) (rs_cf_1 l Z a0 hw [] y3 ky3 [(.int (lo8 c0))] T3.heap n0 Z0 V_y3) hZ (gw hw 60 rfl) (gw hw 53 rfl) (by decide) (by decide)) (g := (mkF m 45 #[.val (.ref a), .val (.ref x), .val (.int (0 : Int32)), .val (.int (1 : Int32)), .val .null, .val (.ref y3)] [(.int (1 : Int32)), (.ref y3), (.ref a)])) rfl (by rw [hml]; rfl) (argsL := [(.ref y3), (.int (1 : Int32))]) (rest := [(.ref a)]) (lenOf own_pd8 rfl) rfl (w0 (Nat.le_of_eq rfl)) (hb hby d7_45) (fun _ _ => ⟨rfl, rfl, (by decide : 1 + 0 ≤ _), (by decide : 1 + 0 ≤ _)⟩)
  dsimp only [Pt.U, Pt.locs, Pt.cells, Pt.slots] at X4 l4 y4 z4 st4 hQ4
  subst l4 y4 z4
  obtain ⟨rfl, N4q, e4⟩ := hQ4
  have N4 := Fr.app N3 N4q
  refine Gs st4 ?_
  show Goes _ _ _ _ _ (T4.setTop (mkF m 48 #[.val (.ref a), .val (.ref x), .val (.int (0 : Int32)), .val (.int (1 : Int32)), .val .null, .val (.ref y3)] [(.int (0 : Int32)), (.ref a)]))
  obtain ⟨T5, h5, X5, e5, W5, st5⟩ := putFN X4 hx hZ hown (gw hw 35 rfl) Via.refl e4 F_coder_a A_a (Or.inr ⟨(gw hw 31 rfl), rfl, hnm⟩) (gw hw 15 rfl) (ty := .byte) (v' := .int (0 : Int32)) (by decide) rfl rfl (g := (mkF m 48 #[.val (.ref a), .val (.ref x), .val (.int (0 : Int32)), .val (.int (1 : Int32)), .val .null, .val (.ref y3)] [(.int (0 : Int32)), (.ref a)])) rfl rfl (hb hby d7_48)
  have N5 := Fr.snoc X5 N4 g_a
  replace A_a := A_a.wr W5
  replace F_value_a := F_value_a.other W5 (Or.inr (slot_ne (Or.inr (gw hw 30 rfl)) (Or.inr (gw hw 31 rfl)) (by decide) (t := (.array .byte)) (t' := .byte) (by decide) (by decide)))
  replace V_y3 := V_y3.other W5 (Ne.symm ne_a_y3)
  replace KP := KP.wr W5 (Or.inl (List.mem_of_getElem? (i := 0) rfl))
  replace F_coder_a := F_coder_a.same W5
  replace Z0 : n0 ≤ h5.size := by rw [W5.size]; exact Z0
  refine Gs st5 ?_
  show Goes _ _ _ _ _ (T5.setTop (mkF m 51 #[.val (.ref a), .val (.ref x), .val (.int (0 : Int32)), .val (.int (1 : Int32)), .val .null, .val (.ref y3)] []))
  refine Gs (fun _ tk => XS.aloadN X5.here hx rfl (hb hby d7_51) rfl rfl tk) ?_
  refine Gs (fun _ tk => XS.aload X5.here hx rfl (hb hby d7_52) rfl rfl tk) ?_
  obtain ⟨T6, h6, X6, e6, W6, st6⟩ := putF X5 hx hZ hown (host := "") (Or.inl (gw hw 34 rfl)) Via.refl e5 F_value_a A_a (Or.inr ⟨(gw hw 30 rfl), rfl, hnm⟩) (gw hw 15 rfl) (ty := (.array .byte)) (by decide) rfl rfl (g := (mkF m 54 #[.val (.ref a), .val (.ref x), .val (.int (0 : Int32)), .val (.int (1 : Int32)), .val .null, .val (.ref y3)] [(.ref y3), (.ref a)])) rfl rfl (hb hby d7_54)
  have N6 := Fr.snoc X6 N5 g_a
  replace A_a := A_a.wr W6
  replace F_coder_a := F_coder_a.other W6 (Or.inr (slot_ne (Or.inr (gw hw 31 rfl)) (Or.inr (gw hw 30 rfl)) (by decide) (t := .byte) (t' := (.array .byte)) (by decide) (by decide)))
  replace V_y3 := V_y3.other W6 (Ne.symm ne_a_y3)
  replace KP := KP.wr W6 (Or.inl (List.mem_of_getElem? (i := 0) rfl))
  replace F_value_a := F_value_a.same W6
  replace Z0 : n0 ≤ h6.size := by rw [W6.size]; exact Z0
  refine Gs st6 ?_
  show Goes _ _ _ _ _ (T6.setTop (mkF m 57 #[.val (.ref a), .val (.ref x), .val (.int (0 : Int32)), .val (.int (1 : Int32)), .val .null, .val (.ref y3)] []))
  have T_a : StrOf Z h6 a [c0] := StrOf.latin A_a F_value_a F_coder_a V_y3 (by intro c hc; simp only [List.mem_cons, List.not_mem_nil, or_false] at hc; rcases hc with rfl <;> assumption) rfl rfl (Nat.le_of_ble_eq_true rfl)
  refine Goes.ret X6 none (fun _ => rfl) hlk (by decide) (by decide) ?_ (fun fs hr => ?_)
  · rw [e6]; exact ⟨rfl, N6, KP, T_a⟩
  · exact X6.returnOut hx hret (hb hby d7_57) hr
theorem own_ef_rs_i1_1 (m : MethodId) (x0 : Addr) (x1 : Addr) : entryFrame m #[(.ref x0), (.ref x1)] 2 = mkF m 0 #[.val (.ref x0), .val (.ref x1)] [] := by first | (simp [entryFrame, mkF, argsToLocals, Value.category]; done) | rfl
def Q_rs_i1_1 (Z : State) (a : Addr) (x : Addr) (kx : ClassId) (c0 : Int32) (cz : Int32) (h0 : Heap) (n0 : Nat) (v : Option Value) (h : Heap) (L : List Loc) : Prop := v = none ∧ Fr n0 L ∧ Keep h0 h [a] ∧ StrOf Z h a [c0]
set_option maxRecDepth 65536 in
set_option maxHeartbeats 40000000 in
theorem rs_i1_1 (l : Launch) (Z : State) (a0 : Array Value) (hw : ∀ d ∈ tables_1, d.before a0 Z = true) (ws : List Jvm.Cond) (a : Addr) (x : Addr) (kx : ClassId) (c0 : Int32) (cz : Int32) (h0 : Heap) (n0 : Nat) (Z0 : n0 ≤ h0.size) (A_a : Exa Z h0 a "java/lang/String") (F_value_a : Fld Z h0 a "java/lang/String" "value" "[B" .null) (F_coder_a : Fld Z h0 a "java/lang/String" "coder" "B" (.int (0 : Int32))) (V_x : Arv Z h0 x kx .char (1 : Int32) [(.int c0)] (.int (0 : Int32))) (g_a : n0 ≤ a) (ne_x_a : x ≠ a) (S_COMPACT_STRINGS : Sta Z h0 "java/lang/String" "COMPACT_STRINGS" "Z" (.int cz)) (hcz : ¬ (cz = (0 : Int32))) (hL_c0 : Lat c0) :
    Met l Z mN8 jdk_42_method_3_code 2 none ({ frames := 3, cells := 1, slots := 1, locals := 52 } : Room) ws #[(.ref a), (.ref x)] h0 (Q_rs_i1_1 Z a x kx c0 cz h0 n0) := by
  refine own_met (plainFor_of_name own_pn0) ?_
  intro p e s m below meth c s₁ hret hx hby hlk hml hown hnm X0 e0 hZ hh
  have N0 := Fr.nil n0
  refine Gs (fun _ tk => castTop (own_ef_rs_i1_1 m a x) tk) ?_
  have KP : Keep h0 h0 [a] := Keep.refl _ _
  show Goes _ _ _ _ _ (s₁.setTop (mkF m 0 #[.val (.ref a), .val (.ref x)] []))
  refine Gs (fun _ tk => XS.aloadN X0.here hx rfl (hb hby d8_0) rfl rfl tk) ?_
  refine Gs (fun _ tk => XS.aloadN X0.here hx rfl (hb hby d8_1) rfl rfl tk) ?_
  refine Gs (fun _ tk => XS.iconst X0.here hx rfl (hb hby d8_2) tk) ?_
  refine Gs (fun _ tk => XS.aloadN X0.here hx rfl (hb hby d8_3) rfl rfl tk) ?_
  obtain ⟨cl1, Ar1, -, S1, N1z, -, -⟩ := id V_x
  refine Gs (fun _ tk => X0.arraylength hx (by rw [e0]; exact Ar1.1) (State.isArrayOf_alike hZ.alike Ar1.2.1) (g := (mkF m 4 #[.val (.ref a), .val (.ref x)] [(.ref x), (.int (0 : Int32)), (.ref x), (.ref a)])) rfl rfl (hb hby d8_4) _ tk) ?_
  rw [len_of S1 N1z]
  show Goes _ _ _ _ _ (s₁.setTop (mkF m 5 #[.val (.ref a), .val (.ref x)] [(.int (1 : Int32)), (.int (0 : Int32)), (.ref x), (.ref a)]))
  refine Gs (fun _ tk => XS.aconstNull X0.here hx rfl (hb hby d8_5) tk) ?_
  obtain ⟨_, _, ⟨T2, L2, k2, n2⟩, -, X2, ⟨Lc2, hQ2, l2, y2, z2⟩, st2⟩ := X0.specialBack hx (y := mN7) rfl hown (mvT hZ (gw hw 21 rfl)) (mvT hZ (gw hw 22 rfl)) (mvT hZ (gw hw 24 rfl)) (by decide) (backOf (W := 0) (rs_i4_1 l Z a0 hw [] a x kx c0 cz h0 n0 Z0 A_a F_value_a F_coder_a V_x g_a ne_x_a S_COMPACT_STRINGS (by first | assumption | decide) (by first | assumption | decide)) hZ (gw hw 24 rfl) (gw hw 16 rfl) (by decide) (by decide)) (g := (mkF m 6 #[.val (.ref a), .val (.ref x)] [.null, (.int (1 : Int32)), (.int (0 : Int32)), (.ref x), (.ref a)])) rfl (by rw [hml]; rfl) (Steps.refl _) (a := a) (argsL := [(.ref x), (.int (0 : Int32)), (.int (1 : Int32)), .null]) (rest := []) (lenOf own_pd5 rfl) rfl (w0 (Nat.le_of_eq rfl)) (hb hby d8_6) (fun _ _ => ⟨rfl, e0, (by decide : 0 + 1 ≤ _), (by decide : 0 + 1 ≤ _)⟩)
  dsimp only [Pt.U, Pt.locs, Pt.cells, Pt.slots] at X2 l2 y2 z2 st2 hQ2
  subst l2 y2 z2
  obtain ⟨rfl, N2q, K2, T_a_2'⟩ := hQ2
  have N2 := Fr.app N0 N2q
  replace KP := KP.trans K2 (allS (Or.inl (List.mem_of_getElem? (i := 0) rfl)) all0)
  replace Z0 := Nat.le_trans Z0 K2.1
  have T_a := T_a_2'
  refine Gs (fun _ tk => st2.trans tk) ?_
  show Goes _ _ _ _ _ (T2.setTop (mkF m 9 #[.val (.ref a), .val (.ref x)] []))
  refine Goes.ret X2 none (fun _ => rfl) hlk (by decide) (by decide) ?_ (fun fs hr => ?_)
  · exact ⟨rfl, N2, KP, T_a⟩
  · exact X2.returnOut hx hret (hb hby d8_9) hr
theorem own_ef_rs_c5_2 (m : MethodId) (x0 : Addr) (x2 : Addr) : entryFrame m #[(.ref x0), (.int (0 : Int32)), (.ref x2), (.int (0 : Int32)), (.int (2 : Int32))] 7 = mkF m 0 #[.val (.ref x0), .val (.int (0 : Int32)), .val (.ref x2), .val (.int (0 : Int32)), .val (.int (2 : Int32)), .unset, .unset] [] := by first | (simp [entryFrame, mkF, argsToLocals, Value.category]; done) | rfl
def Q_rs_c5_2 (Z : State) (x : Addr) (kx : ClassId) (y : Addr) (ky : ClassId) (c0 : Int32) (c1 : Int32) (h0 : Heap) (n0 : Nat) (v : Option Value) (h : Heap) (L : List Loc) : Prop := v = some (.int (2 : Int32)) ∧ Fr n0 L ∧ Keep h0 h [y] ∧ Arv Z h y ky .byte (2 : Int32) [(.int (lo8 c0)), (.int (lo8 c1))] (.int (0 : Int32))
set_option maxRecDepth 65536 in
set_option maxHeartbeats 40000000 in
theorem rs_c5_2 (l : Launch) (Z : State) (a0 : Array Value) (hw : ∀ d ∈ tables_1, d.before a0 Z = true) (ws : List Jvm.Cond) (x : Addr) (kx : ClassId) (y : Addr) (ky : ClassId) (c0 : Int32) (c1 : Int32) (h0 : Heap) (n0 : Nat) (Z0 : n0 ≤ h0.size) (V_x : Arv Z h0 x kx .char (2 : Int32) [(.int c0), (.int c1)] (.int (0 : Int32))) (V_y : Arv Z h0 y ky .byte (2 : Int32) [(.int (0 : Int32)), (.int (0 : Int32))] (.int (0 : Int32))) (g_y : n0 ≤ y) (ne_x_y : x ≠ y) (hL_c0 : Lat c0) (hL_c1 : Lat c1) :
    Met l Z mN9 jdk_52_method_21_code 7 (some .int) ({ frames := 0, cells := 0, slots := 0, locals := 0 } : Room) ws #[(.ref x), (.int (0 : Int32)), (.ref y), (.int (0 : Int32)), (.int (2 : Int32))] h0 (Q_rs_c5_2 Z x kx y ky c0 c1 h0 n0) := by
  refine own_met (plainFor_of_name own_pn3) ?_
  intro p e s m below meth c s₁ hret hx hby hlk hml hown hnm X0 e0 hZ hh
  have N0 := Fr.nil n0
  refine Gs (fun _ tk => castTop (own_ef_rs_c5_2 m x y) tk) ?_
  have KP : Keep h0 h0 [y] := Keep.refl _ _
  show Goes _ _ _ _ _ (s₁.setTop (mkF m 0 #[.val (.ref x), .val (.int (0 : Int32)), .val (.ref y), .val (.int (0 : Int32)), .val (.int (2 : Int32)), .unset, .unset] []))
  have hn_c0 := own_latN hL_c0
  have hn_c1 := own_latN hL_c1
  refine Gs (fun _ tk => XS.iconst X0.here hx rfl (hb hby d9_0) tk) ?_
  refine Gs (fun _ tk => XS.istore X0.here hx rfl (hb hby d9_1) rfl (l' := #[.val (.ref x), .val (.int (0 : Int32)), .val (.ref y), .val (.int (0 : Int32)), .val (.int (2 : Int32)), .val (.int (0 : Int32)), .unset]) rfl tk) ?_
  refine Gs (fun _ tk => XS.iload X0.here hx rfl (hb hby d9_3) rfl tk) ?_
  refine Gs (fun _ tk => XS.iload X0.here hx rfl (hb hby d9_5) rfl tk) ?_
  refine Gs (fun _ tk => XS.icmpNo X0.here hx rfl (hb hby d9_7) rfl (tlt (by decide : ((0 : Int32) < (2 : Int32)))).2.1 tk) ?_
  refine Gs (fun _ tk => XS.aloadN X0.here hx rfl (hb hby d9_10) rfl rfl tk) ?_
  show Goes _ _ _ _ _ (s₁.setTop (mkF m 11 #[.val (.ref x), .val (.int (0 : Int32)), .val (.ref y), .val (.int (0 : Int32)), .val (.int (2 : Int32)), .val (.int (0 : Int32)), .unset] [(.ref x)]))
  refine Gs (fun _ tk => XS.iloadN X0.here hx rfl (hb hby d9_11) rfl tk) ?_
  obtain ⟨cl1, Ar1, -, S1, N1z, H1, -⟩ := id V_x
  have hin1 : ¬ ((0 : Int32) < 0 ∨ cl1.slots.size ≤ ((0 : Int32)).toNatClampNeg) := inb_of S1 ⟨by decide, by decide⟩
  have hat1 : cl1.slots[((0 : Int32)).toNatClampNeg]? = some (.int c0) := Has.at H1 hin1 rfl
  refine Gs (fun _ tk => X0.caload hx (j := (0 : Int32)) (v := (.int c0)) (by rw [e0]; exact Ar1.1) (State.isArrayOf_alike hZ.alike Ar1.2.1) Ar1.2.2 hin1 hat1 (g := (mkF m 12 #[.val (.ref x), .val (.int (0 : Int32)), .val (.ref y), .val (.int (0 : Int32)), .val (.int (2 : Int32)), .val (.int (0 : Int32)), .unset] [(.int (0 : Int32)), (.ref x)])) rfl rfl (hb hby d9_12) _ tk) ?_
  show Goes _ _ _ _ _ (s₁.setTop (mkF m 13 #[.val (.ref x), .val (.int (0 : Int32)), .val (.ref y), .val (.int (0 : Int32)), .val (.int (2 : Int32)), .val (.int (0 : Int32)), .unset] [(.int c0)]))
  refine Gs (fun _ tk => XS.istore X0.here hx rfl (hb hby d9_13) rfl (l' := #[.val (.ref x), .val (.int (0 : Int32)), .val (.ref y), .val (.int (0 : Int32)), .val (.int (2 : Int32)), .val (.int (0 : Int32)), .val (.int c0)]) rfl tk) ?_
  refine Gs (fun _ tk => XS.iload X0.here hx rfl (hb hby d9_15) rfl tk) ?_
  refine Gs (fun _ tk => XS.sipush X0.here hx rfl (hb hby d9_17) tk) ?_
  refine Gs (fun _ tk => XS.icmpYes X0.here hx rfl (pc0 := 20) (pc' := 26) rfl (hb hby d9_20) rfl (flt hn_c0).2.2.2 (by decide) (by decide) tk) ?_
  refine Gs (fun _ tk => XS.aloadN X0.here hx rfl (hb hby d9_26) rfl rfl tk) ?_
  refine Gs (fun _ tk => XS.iloadN X0.here hx rfl (hb hby d9_27) rfl tk) ?_
  show Goes _ _ _ _ _ (s₁.setTop (mkF m 28 #[.val (.ref x), .val (.int (0 : Int32)), .val (.ref y), .val (.int (0 : Int32)), .val (.int (2 : Int32)), .val (.int (0 : Int32)), .val (.int c0)] [(.int (0 : Int32)), (.ref y)]))
  refine Gs (fun _ tk => XS.iload X0.here hx rfl (hb hby d9_28) rfl tk) ?_
  show Goes _ _ _ _ _ (s₁.setTop (mkF m 30 #[.val (.ref x), .val (.int (0 : Int32)), .val (.ref y), .val (.int (0 : Int32)), .val (.int (2 : Int32)), .val (.int (0 : Int32)), .val (.int c0)] [(.int c0), (.int (0 : Int32)), (.ref y)]))
  refine Gs (fun _ tk => XS.i2b X0.here hx rfl (hb hby d9_30) rfl tk) ?_
  show Goes _ _ _ _ _ (s₁.setTop (mkF m 31 #[.val (.ref x), .val (.int (0 : Int32)), .val (.ref y), .val (.int (0 : Int32)), .val (.int (2 : Int32)), .val (.int (0 : Int32)), .val (.int c0)] [(.int (c0.toInt8.toInt32)), (.int (0 : Int32)), (.ref y)]))
  obtain ⟨cl2, Ar2, q2, S2, N2z, H2, G2⟩ := V_y
  have hin2 : ¬ ((0 : Int32) < 0 ∨ cl2.slots.size ≤ ((0 : Int32)).toNatClampNeg) := inb_of S2 ⟨by decide, by decide⟩
  obtain ⟨T2, h2, X2, e2, W2, st2⟩ := stB X0 hx hZ e0 Ar2 (j := (0 : Int32)) hin2 (g := (mkF m 31 #[.val (.ref x), .val (.int (0 : Int32)), .val (.ref y), .val (.int (0 : Int32)), .val (.int (2 : Int32)), .val (.int (0 : Int32)), .val (.int c0)] [(.int (c0.toInt8.toInt32)), (.int (0 : Int32)), (.ref y)])) rfl rfl (hb hby d9_31)
  have Vn2 := Arv.set Ar2 q2 S2 N2z H2 G2 (fits_nar_byte _) W2 0 rfl (Nat.le_of_ble_eq_true rfl)
  have N2 := Fr.snoc X2 N0 g_y
  replace V_x := V_x.other W2 ne_x_y
  replace KP := KP.wr W2 (Or.inl (List.mem_of_getElem? (i := 0) rfl))
  have V_y : Arv Z h2 y ky .byte (2 : Int32) [(.int (lo8 c0)), (.int (0 : Int32))] (.int (0 : Int32)) := by have q := Vn2; rw [own_nb2] at q; exact q
  replace Z0 : n0 ≤ h2.size := by rw [W2.size]; exact Z0
  refine Gs st2 ?_
  show Goes _ _ _ _ _ (T2.setTop (mkF m 32 #[.val (.ref x), .val (.int (0 : Int32)), .val (.ref y), .val (.int (0 : Int32)), .val (.int (2 : Int32)), .val (.int (0 : Int32)), .val (.int c0)] []))
  refine Gs (fun _ tk => XS.iinc X2.here hx rfl (hb hby d9_32) rfl (l' := #[.val (.ref x), .val (.int ((0 : Int32) + (1 : Int32))), .val (.ref y), .val (.int (0 : Int32)), .val (.int (2 : Int32)), .val (.int (0 : Int32)), .val (.int c0)]) rfl tk) ?_
  rw [show ((0 : Int32) + (1 : Int32)) = (1 : Int32) from by decide]
  show Goes _ _ _ _ _ (T2.setTop (mkF m 35 #[.val (.ref x), .val (.int (1 : Int32)), .val (.ref y), .val (.int (0 : Int32)), .val (.int (2 : Int32)), .val (.int (0 : Int32)), .val (.int c0)] []))
  refine Gs (fun _ tk => XS.iinc X2.here hx rfl (hb hby d9_35) rfl (l' := #[.val (.ref x), .val (.int (1 : Int32)), .val (.ref y), .val (.int ((0 : Int32) + (1 : Int32))), .val (.int (2 : Int32)), .val (.int (0 : Int32)), .val (.int c0)]) rfl tk) ?_
  rw [show ((0 : Int32) + (1 : Int32)) = (1 : Int32) from by decide]
  show Goes _ _ _ _ _ (T2.setTop (mkF m 38 #[.val (.ref x), .val (.int (1 : Int32)), .val (.ref y), .val (.int (1 : Int32)), .val (.int (2 : Int32)), .val (.int (0 : Int32)), .val (.int c0)] []))
  refine Gs (fun _ tk => XS.iinc X2.here hx rfl (hb hby d9_38) rfl (l' := #[.val (.ref x), .val (.int (1 : Int32)), .val (.ref y), .val (.int (1 : Int32)), .val (.int (2 : Int32)), .val (.int ((0 : Int32) + (1 : Int32))), .val (.int c0)]) rfl tk) ?_
  rw [show ((0 : Int32) + (1 : Int32)) = (1 : Int32) from by decide]
  show Goes _ _ _ _ _ (T2.setTop (mkF m 41 #[.val (.ref x), .val (.int (1 : Int32)), .val (.ref y), .val (.int (1 : Int32)), .val (.int (2 : Int32)), .val (.int (1 : Int32)), .val (.int c0)] []))
  refine Gs (fun _ tk => XS.goto X2.here hx rfl (pc0 := 41) (pc' := 3) rfl (hb hby d9_41) (by decide) (by decide) tk) ?_
  refine Gs (fun _ tk => XS.iload X2.here hx rfl (hb hby d9_3) rfl tk) ?_
  refine Gs (fun _ tk => XS.iload X2.here hx rfl (hb hby d9_5) rfl tk) ?_
  refine Gs (fun _ tk => XS.icmpNo X2.here hx rfl (hb hby d9_7) rfl (tlt (by decide : ((1 : Int32) < (2 : Int32)))).2.1 tk) ?_
  refine Gs (fun _ tk => XS.aloadN X2.here hx rfl (hb hby d9_10) rfl rfl tk) ?_
  refine Gs (fun _ tk => XS.iloadN X2.here hx rfl (hb hby d9_11) rfl tk) ?_
  show Goes _ _ _ _ _ (T2.setTop (mkF m 12 #[.val (.ref x), .val (.int (1 : Int32)), .val (.ref y), .val (.int (1 : Int32)), .val (.int (2 : Int32)), .val (.int (1 : Int32)), .val (.int c0)] [(.int (1 : Int32)), (.ref x)]))
  obtain ⟨cl3, Ar3, -, S3, N3z, H3, -⟩ := id V_x
  have hin3 : ¬ ((1 : Int32) < 0 ∨ cl3.slots.size ≤ ((1 : Int32)).toNatClampNeg) := inb_of S3 ⟨by decide, by decide⟩
  have hat3 : cl3.slots[((1 : Int32)).toNatClampNeg]? = some (.int c1) := Has.at H3 hin3 rfl
  refine Gs (fun _ tk => X2.caload hx (j := (1 : Int32)) (v := (.int c1)) (by rw [e2]; exact Ar3.1) (State.isArrayOf_alike hZ.alike Ar3.2.1) Ar3.2.2 hin3 hat3 (g := (mkF m 12 #[.val (.ref x), .val (.int (1 : Int32)), .val (.ref y), .val (.int (1 : Int32)), .val (.int (2 : Int32)), .val (.int (1 : Int32)), .val (.int c0)] [(.int (1 : Int32)), (.ref x)])) rfl rfl (hb hby d9_12) _ tk) ?_
  show Goes _ _ _ _ _ (T2.setTop (mkF m 13 #[.val (.ref x), .val (.int (1 : Int32)), .val (.ref y), .val (.int (1 : Int32)), .val (.int (2 : Int32)), .val (.int (1 : Int32)), .val (.int c0)] [(.int c1)]))
  refine Gs (fun _ tk => XS.istore X2.here hx rfl (hb hby d9_13) rfl (l' := #[.val (.ref x), .val (.int (1 : Int32)), .val (.ref y), .val (.int (1 : Int32)), .val (.int (2 : Int32)), .val (.int (1 : Int32)), .val (.int c1)]) rfl tk) ?_
  refine Gs (fun _ tk => XS.iload X2.here hx rfl (hb hby d9_15) rfl tk) ?_
  refine Gs (fun _ tk => XS.sipush X2.here hx rfl (hb hby d9_17) tk) ?_
  refine Gs (fun _ tk => XS.icmpYes X2.here hx rfl (pc0 := 20) (pc' := 26) rfl (hb hby d9_20) rfl (flt hn_c1).2.2.2 (by decide) (by decide) tk) ?_
  refine Gs (fun _ tk => XS.aloadN X2.here hx rfl (hb hby d9_26) rfl rfl tk) ?_
  refine Gs (fun _ tk => XS.iloadN X2.here hx rfl (hb hby d9_27) rfl tk) ?_
  show Goes _ _ _ _ _ (T2.setTop (mkF m 28 #[.val (.ref x), .val (.int (1 : Int32)), .val (.ref y), .val (.int (1 : Int32)), .val (.int (2 : Int32)), .val (.int (1 : Int32)), .val (.int c1)] [(.int (1 : Int32)), (.ref y)]))
  refine Gs (fun _ tk => XS.iload X2.here hx rfl (hb hby d9_28) rfl tk) ?_
  show Goes _ _ _ _ _ (T2.setTop (mkF m 30 #[.val (.ref x), .val (.int (1 : Int32)), .val (.ref y), .val (.int (1 : Int32)), .val (.int (2 : Int32)), .val (.int (1 : Int32)), .val (.int c1)] [(.int c1), (.int (1 : Int32)), (.ref y)]))
  refine Gs (fun _ tk => XS.i2b X2.here hx rfl (hb hby d9_30) rfl tk) ?_
  show Goes _ _ _ _ _ (T2.setTop (mkF m 31 #[.val (.ref x), .val (.int (1 : Int32)), .val (.ref y), .val (.int (1 : Int32)), .val (.int (2 : Int32)), .val (.int (1 : Int32)), .val (.int c1)] [(.int (c1.toInt8.toInt32)), (.int (1 : Int32)), (.ref y)]))
  obtain ⟨cl4, Ar4, q4, S4, N4z, H4, G4⟩ := V_y
  have hin4 : ¬ ((1 : Int32) < 0 ∨ cl4.slots.size ≤ ((1 : Int32)).toNatClampNeg) := inb_of S4 ⟨by decide, by decide⟩
  obtain ⟨T4, h4, X4, e4, W4, st4⟩ := stB X2 hx hZ e2 Ar4 (j := (1 : Int32)) hin4 (g := (mkF m 31 #[.val (.ref x), .val (.int (1 : Int32)), .val (.ref y), .val (.int (1 : Int32)), .val (.int (2 : Int32)), .val (.int (1 : Int32)), .val (.int c1)] [(.int (c1.toInt8.toInt32)), (.int (1 : Int32)), (.ref y)])) rfl rfl (hb hby d9_31)
  have Vn4 := Arv.set Ar4 q4 S4 N4z H4 G4 (fits_nar_byte _) W4 1 rfl (Nat.le_of_ble_eq_true rfl)
  have N4 := Fr.snoc X4 N2 g_y
  replace KP := KP.wr W4 (Or.inl (List.mem_of_getElem? (i := 0) rfl))
  have V_y : Arv Z h4 y ky .byte (2 : Int32) [(.int (lo8 c0)), (.int (lo8 c1))] (.int (0 : Int32)) := by have q := Vn4; rw [own_nb2] at q; exact q
  replace Z0 : n0 ≤ h4.size := by rw [W4.size]; exact Z0
  refine Gs st4 ?_
  show Goes _ _ _ _ _ (T4.setTop (mkF m 32 #[.val (.ref x), .val (.int (1 : Int32)), .val (.ref y), .val (.int (1 : Int32)), .val (.int (2 : Int32)), .val (.int (1 : Int32)), .val (.int c1)] []))
  refine Gs (fun _ tk => XS.iinc X4.here hx rfl (hb hby d9_32) rfl (l' := #[.val (.ref x), .val (.int ((1 : Int32) + (1 : Int32))), .val (.ref y), .val (.int (1 : Int32)), .val (.int (2 : Int32)), .val (.int (1 : Int32)), .val (.int c1)]) rfl tk) ?_
  rw [show ((1 : Int32) + (1 : Int32)) = (2 : Int32) from by decide]
  show Goes _ _ _ _ _ (T4.setTop (mkF m 35 #[.val (.ref x), .val (.int (2 : Int32)), .val (.ref y), .val (.int (1 : Int32)), .val (.int (2 : Int32)), .val (.int (1 : Int32)), .val (.int c1)] []))
  refine Gs (fun _ tk => XS.iinc X4.here hx rfl (hb hby d9_35) rfl (l' := #[.val (.ref x), .val (.int (2 : Int32)), .val (.ref y), .val (.int ((1 : Int32) + (1 : Int32))), .val (.int (2 : Int32)), .val (.int (1 : Int32)), .val (.int c1)]) rfl tk) ?_
  rw [show ((1 : Int32) + (1 : Int32)) = (2 : Int32) from by decide]
  show Goes _ _ _ _ _ (T4.setTop (mkF m 38 #[.val (.ref x), .val (.int (2 : Int32)), .val (.ref y), .val (.int (2 : Int32)), .val (.int (2 : Int32)), .val (.int (1 : Int32)), .val (.int c1)] []))
  refine Gs (fun _ tk => XS.iinc X4.here hx rfl (hb hby d9_38) rfl (l' := #[.val (.ref x), .val (.int (2 : Int32)), .val (.ref y), .val (.int (2 : Int32)), .val (.int (2 : Int32)), .val (.int ((1 : Int32) + (1 : Int32))), .val (.int c1)]) rfl tk) ?_
  rw [show ((1 : Int32) + (1 : Int32)) = (2 : Int32) from by decide]
  show Goes _ _ _ _ _ (T4.setTop (mkF m 41 #[.val (.ref x), .val (.int (2 : Int32)), .val (.ref y), .val (.int (2 : Int32)), .val (.int (2 : Int32)), .val (.int (2 : Int32)), .val (.int c1)] []))
  refine Gs (fun _ tk => XS.goto X4.here hx rfl (pc0 := 41) (pc' := 3) rfl (hb hby d9_41) (by decide) (by decide) tk) ?_
  refine Gs (fun _ tk => XS.iload X4.here hx rfl (hb hby d9_3) rfl tk) ?_
  refine Gs (fun _ tk => XS.iload X4.here hx rfl (hb hby d9_5) rfl tk) ?_
  refine Gs (fun _ tk => XS.icmpYes X4.here hx rfl (pc0 := 7) (pc' := 44) rfl (hb hby d9_7) rfl (flt (by decide : ¬ ((2 : Int32) < (2 : Int32)))).2.1 (by decide) (by decide) tk) ?_
  refine Gs (fun _ tk => XS.iload X4.here hx rfl (hb hby d9_44) rfl tk) ?_
  refine Goes.ret X4 (some (.int (2 : Int32))) (fun h => by rw [hret] at h; cases h) hlk (by decide) (by decide) ?_ (fun fs hr => ?_)
  · rw [e4]; exact ⟨rfl, N4, KP, V_y⟩
  · exact retI X4 hx hret (hb hby d9_46) hr
theorem own_ef_rs_c3_2 (m : MethodId) (x0 : Addr) : entryFrame m #[(.ref x0), (.int (0 : Int32)), (.int (2 : Int32))] 6 = mkF m 0 #[.val (.ref x0), .val (.int (0 : Int32)), .val (.int (2 : Int32)), .unset, .unset, .unset] [] := by first | (simp [entryFrame, mkF, argsToLocals, Value.category]; done) | rfl
def Q_rs_c3_2 (Z : State) (x : Addr) (kx : ClassId) (c0 : Int32) (c1 : Int32) (h0 : Heap) (n0 : Nat) (v : Option Value) (h : Heap) (L : List Loc) : Prop := ∃ y : Addr, ∃ ky : ClassId, v = some (.ref y) ∧ Fr n0 L ∧ Keep h0 h [] ∧ Arv Z h y ky .byte (2 : Int32) [(.int (lo8 c0)), (.int (lo8 c1))] (.int (0 : Int32)) ∧ n0 ≤ y ∧ h0.size ≤ y
set_option maxRecDepth 65536 in
set_option maxHeartbeats 40000000 in
theorem rs_c3_2 (l : Launch) (Z : State) (a0 : Array Value) (hw : ∀ d ∈ tables_1, d.before a0 Z = true) (ws : List Jvm.Cond) (x : Addr) (kx : ClassId) (c0 : Int32) (c1 : Int32) (h0 : Heap) (n0 : Nat) (Z0 : n0 ≤ h0.size) (V_x : Arv Z h0 x kx .char (2 : Int32) [(.int c0), (.int c1)] (.int (0 : Int32))) (hL_c0 : Lat c0) (hL_c1 : Lat c1) :
    Met l Z mN10 jdk_52_method_16_code 6 (some (.array .byte)) ({ frames := 1, cells := 1, slots := 2, locals := 18 } : Room) ws #[(.ref x), (.int (0 : Int32)), (.int (2 : Int32))] h0 (Q_rs_c3_2 Z x kx c0 c1 h0 n0) := by
  refine own_met (plainFor_of_name own_pn3) ?_
  intro p e s m below meth c s₁ hret hx hby hlk hml hown hnm X0 e0 hZ hh
  have N0 := Fr.nil n0
  refine Gs (fun _ tk => castTop (own_ef_rs_c3_2 m x) tk) ?_
  have KP : Keep h0 h0 [] := Keep.refl _ _
  show Goes _ _ _ _ _ (s₁.setTop (mkF m 0 #[.val (.ref x), .val (.int (0 : Int32)), .val (.int (2 : Int32)), .unset, .unset, .unset] []))
  refine Gs (fun _ tk => XS.iloadN X0.here hx rfl (hb hby d10_0) rfl tk) ?_
  obtain ⟨T1, h1, k1, X1, e1, E1, A1, st1⟩ := newP X0 hx hZ (gw hw 29 rfl) e0 (g := (mkF m 1 #[.val (.ref x), .val (.int (0 : Int32)), .val (.int (2 : Int32)), .unset, .unset, .unset] [(.int (2 : Int32))])) rfl (hb hby d10_1) rfl (by decide) (cap := 2) (by decide) (by decide) (by decide) (by decide)
  obtain ⟨b1, gq1⟩ : ∃ z, z = h0.size := ⟨_, rfl⟩
  rw [← gq1] at A1 st1
  have g_b1 : n0 ≤ b1 := by rw [gq1]; exact Z0
  have sz_b1 : h0.size ≤ b1 := by rw [gq1]; exact KP.1
  have ne_x_b1 : x ≠ b1 := by rw [gq1]; exact Nat.ne_of_lt V_x.lt
  replace V_x := V_x.ext E1
  replace KP := KP.ext E1
  replace Z0 : n0 ≤ h1.size := Nat.le_trans Z0 E1.1
  have V_b1 : Arv Z h1 b1 k1 .byte (2 : Int32) [(.int (0 : Int32)), (.int (0 : Int32))] (.int (0 : Int32)) := (Arv.new A1 (by decide)).pad (pad_rep [] (.int (0 : Int32)) 2)
  refine Gs st1 ?_
  show Goes _ _ _ _ _ (T1.setTop (mkF m 3 #[.val (.ref x), .val (.int (0 : Int32)), .val (.int (2 : Int32)), .unset, .unset, .unset] [(.ref b1)]))
  refine Gs (fun _ tk => XS.astoreN X1.here hx rfl (hb hby d10_3) rfl rfl (l' := #[.val (.ref x), .val (.int (0 : Int32)), .val (.int (2 : Int32)), .val (.ref b1), .unset, .unset]) rfl tk) ?_
  refine Gs (fun _ tk => XS.aloadN X1.here hx rfl (hb hby d10_4) rfl rfl tk) ?_
  refine Gs (fun _ tk => XS.iloadN X1.here hx rfl (hb hby d10_5) rfl tk) ?_
  refine Gs (fun _ tk => XS.aloadN X1.here hx rfl (hb hby d10_6) rfl rfl tk) ?_
  refine Gs (fun _ tk => XS.iconst X1.here hx rfl (hb hby d10_7) tk) ?_
  refine Gs (fun _ tk => XS.iloadN X1.here hx rfl (hb hby d10_8) rfl tk) ?_
  show Goes _ _ _ _ _ (T1.setTop (mkF m 9 #[.val (.ref x), .val (.int (0 : Int32)), .val (.int (2 : Int32)), .val (.ref b1), .unset, .unset] [(.int (2 : Int32)), (.int (0 : Int32)), (.ref b1), (.int (0 : Int32)), (.ref x)]))
  obtain ⟨_, _, ⟨T2, L2, k2, n2⟩, -, X2, ⟨Lc2, hQ2, l2, y2, z2⟩, st2⟩ := Jvm.LawKit.callS X1 hx (y := mN9) hown (mvT hZ (gw hw 55 rfl)) (mvT hZ (gw hw 56 rfl)) (mvT hZ (gw hw 53 rfl)) (mvT hZ (gw hw 57 rfl)) (by decide) (backOf (W := 0) (rs_c5_2 l Z a0 hw [] x kx b1 k1 c0 c1 h1 n0 Z0 V_x V_b1 g_b1 ne_x_b1 (by first | assumption | decide) (by first | assumption | decide)) hZ (gw hw 57 rfl) (gw hw 53 rfl) (by decide) (by decide)) (g := (mkF m 9 #[.val (.ref x), .val (.int (0 : Int32)), .val (.int (2 : Int32)), .val (.ref b1), .unset, .unset] [(.int (2 : Int32)), (.int (0 : Int32)), (.ref b1), (.int (0 : Int32)), (.ref x)])) rfl (by rw [hml]; rfl) (argsL := [(.ref x), (.int (0 : Int32)), (.ref b1), (.int (0 : Int32)), (.int (2 : Int32))]) (rest := []) (lenOf own_pd6 rfl) rfl (w0 (Nat.le_of_eq rfl)) (hb hby d10_9) (fun _ _ => ⟨rfl, e1, (by decide : 1 + 0 ≤ _), (by decide : 2 + 0 ≤ _)⟩)
  dsimp only [Pt.U, Pt.locs, Pt.cells, Pt.slots] at X2 l2 y2 z2 st2 hQ2
  subst l2 y2 z2
  obtain ⟨rfl, N2q, K2, V_b1_2'⟩ := hQ2
  have N2 := Fr.app N0 N2q
  replace KP := KP.trans K2 (allS (Or.inr sz_b1) all0)
  replace Z0 := Nat.le_trans Z0 K2.1
  have V_b1 := V_b1_2'
  refine Gs st2 ?_
  show Goes _ _ _ _ _ (T2.setTop (mkF m 12 #[.val (.ref x), .val (.int (0 : Int32)), .val (.int (2 : Int32)), .val (.ref b1), .unset, .unset] [(.int (2 : Int32))]))
  refine Gs (fun _ tk => XS.istore X2.here hx rfl (hb hby d10_12) rfl (l' := #[.val (.ref x), .val (.int (0 : Int32)), .val (.int (2 : Int32)), .val (.ref b1), .val (.int (2 : Int32)), .unset]) rfl tk) ?_
  refine Gs (fun _ tk => XS.iload X2.here hx rfl (hb hby d10_14) rfl tk) ?_
  refine Gs (fun _ tk => XS.iloadN X2.here hx rfl (hb hby d10_16) rfl tk) ?_
  refine Gs (fun _ tk => XS.icmpYes X2.here hx rfl (pc0 := 17) (pc' := 57) rfl (hb hby d10_17) rfl (teq (by decide : ((2 : Int32) = (2 : Int32)))).1 (by decide) (by decide) tk) ?_
  refine Gs (fun _ tk => XS.aloadN X2.here hx rfl (hb hby d10_57) rfl rfl tk) ?_
  refine Goes.ret X2 (some (.ref b1)) (fun h => by rw [hret] at h; cases h) hlk (by decide) (by decide) ?_ (fun fs hr => ?_)
  · exact ⟨b1, k1, rfl, N2, KP, V_b1, g_b1, sz_b1⟩
  · exact own_retA X2 hx hret rfl rfl (hb hby d10_58) hr
theorem own_ef_rs_cf_2 (m : MethodId) (x0 : Addr) : entryFrame m #[(.ref x0), (.int (2 : Int32))] 2 = mkF m 0 #[.val (.ref x0), .val (.int (2 : Int32))] [] := by first | (simp [entryFrame, mkF, argsToLocals, Value.category]; done) | rfl
def Q_rs_cf_2 (Z : State) (y : Addr) (ky : ClassId) (vs : List Value) (h0 : Heap) (n0 : Nat) (v : Option Value) (h : Heap) (L : List Loc) : Prop := v = some (.int (0 : Int32)) ∧ Fr n0 L ∧ h = h0
set_option maxRecDepth 65536 in
set_option maxHeartbeats 40000000 in
theorem rs_cf_2 (l : Launch) (Z : State) (a0 : Array Value) (hw : ∀ d ∈ tables_1, d.before a0 Z = true) (ws : List Jvm.Cond) (y : Addr) (ky : ClassId) (vs : List Value) (h0 : Heap) (n0 : Nat) (Z0 : n0 ≤ h0.size) (V_y : Arv Z h0 y ky .byte (2 : Int32) vs (.int (0 : Int32))) :
    Met l Z mN11 jdk_52_method_15_code 2 (some .byte) ({ frames := 0, cells := 0, slots := 0, locals := 0 } : Room) ws #[(.ref y), (.int (2 : Int32))] h0 (Q_rs_cf_2 Z y ky vs h0 n0) := by
  refine own_met (plainFor_of_name own_pn3) ?_
  intro p e s m below meth c s₁ hret hx hby hlk hml hown hnm X0 e0 hZ hh
  have N0 := Fr.nil n0
  refine Gs (fun _ tk => castTop (own_ef_rs_cf_2 m y) tk) ?_
  show Goes _ _ _ _ _ (s₁.setTop (mkF m 0 #[.val (.ref y), .val (.int (2 : Int32))] []))
  refine Gs (fun _ tk => XS.iloadN X0.here hx rfl (hb hby d11_0) rfl tk) ?_
  refine Gs (fun _ tk => XS.aloadN X0.here hx rfl (hb hby d11_1) rfl rfl tk) ?_
  obtain ⟨cl1, Ar1, -, S1, N1z, -, -⟩ := id V_y
  refine Gs (fun _ tk => X0.arraylength hx (by rw [e0]; exact Ar1.1) (State.isArrayOf_alike hZ.alike Ar1.2.1) (g := (mkF m 2 #[.val (.ref y), .val (.int (2 : Int32))] [(.ref y), (.int (2 : Int32))])) rfl rfl (hb hby d11_2) _ tk) ?_
  rw [len_of S1 N1z]
  show Goes _ _ _ _ _ (s₁.setTop (mkF m 3 #[.val (.ref y), .val (.int (2 : Int32))] [(.int (2 : Int32)), (.int (2 : Int32))]))
  refine Gs (fun _ tk => XS.isub X0.here hx rfl (hb hby d11_3) rfl tk) ?_
  rw [show ((2 : Int32) - (2 : Int32)) = (0 : Int32) from by decide]
  show Goes _ _ _ _ _ (s₁.setTop (mkF m 4 #[.val (.ref y), .val (.int (2 : Int32))] [(.int (0 : Int32))]))
  refine Gs (fun _ tk => XS.bipush X0.here hx rfl (hb hby d11_4) tk) ?_
  show Goes _ _ _ _ _ (s₁.setTop (mkF m 6 #[.val (.ref y), .val (.int (2 : Int32))] [(.int (31 : Int32)), (.int (0 : Int32))]))
  refine Gs (fun _ tk => XS.iushr X0.here hx rfl (hb hby d11_6) rfl tk) ?_
  rw [show (((0 : Int32).toUInt32 >>> ((31 : Int32) &&& 31).toUInt32).toInt32) = (0 : Int32) from by decide]
  show Goes _ _ _ _ _ (s₁.setTop (mkF m 7 #[.val (.ref y), .val (.int (2 : Int32))] [(.int (0 : Int32))]))
  refine Gs (fun _ tk => XS.i2b X0.here hx rfl (hb hby d11_7) rfl tk) ?_
  rw [show ((0 : Int32).toInt8.toInt32) = (0 : Int32) from by decide]
  show Goes _ _ _ _ _ (s₁.setTop (mkF m 8 #[.val (.ref y), .val (.int (2 : Int32))] [(.int (0 : Int32))]))
  refine Goes.ret X0 (some (.int (0 : Int32))) (fun h => by rw [hret] at h; cases h) hlk (by decide) (by decide) ?_ (fun fs hr => ?_)
  · exact ⟨rfl, N0, e0⟩
  · exact own_retN X0 hx (t := .byte) hret (by simp) rfl (hb hby d11_8) hr
theorem own_ef_rs_i4_2 (m : MethodId) (x0 : Addr) (x1 : Addr) : entryFrame m #[(.ref x0), (.ref x1), (.int (0 : Int32)), (.int (2 : Int32)), .null] 6 = mkF m 0 #[.val (.ref x0), .val (.ref x1), .val (.int (0 : Int32)), .val (.int (2 : Int32)), .val .null, .unset] [] := by first | (simp [entryFrame, mkF, argsToLocals, Value.category]; done) | rfl
def Q_rs_i4_2 (Z : State) (a : Addr) (x : Addr) (kx : ClassId) (c0 : Int32) (c1 : Int32) (cz : Int32) (h0 : Heap) (n0 : Nat) (v : Option Value) (h : Heap) (L : List Loc) : Prop := v = none ∧ Fr n0 L ∧ Keep h0 h [a] ∧ StrOf Z h a [c0, c1]
set_option maxRecDepth 65536 in
set_option maxHeartbeats 40000000 in
theorem rs_i4_2 (l : Launch) (Z : State) (a0 : Array Value) (hw : ∀ d ∈ tables_1, d.before a0 Z = true) (ws : List Jvm.Cond) (a : Addr) (x : Addr) (kx : ClassId) (c0 : Int32) (c1 : Int32) (cz : Int32) (h0 : Heap) (n0 : Nat) (Z0 : n0 ≤ h0.size) (A_a : Exa Z h0 a "java/lang/String") (F_value_a : Fld Z h0 a "java/lang/String" "value" "[B" .null) (F_coder_a : Fld Z h0 a "java/lang/String" "coder" "B" (.int (0 : Int32))) (V_x : Arv Z h0 x kx .char (2 : Int32) [(.int c0), (.int c1)] (.int (0 : Int32))) (g_a : n0 ≤ a) (ne_x_a : x ≠ a) (S_COMPACT_STRINGS : Sta Z h0 "java/lang/String" "COMPACT_STRINGS" "Z" (.int cz)) (hcz : ¬ (cz = (0 : Int32))) (hL_c0 : Lat c0) (hL_c1 : Lat c1) :
    Met l Z mN7 jdk_42_method_149_code 6 none ({ frames := 2, cells := 1, slots := 2, locals := 35 } : Room) ws #[(.ref a), (.ref x), (.int (0 : Int32)), (.int (2 : Int32)), .null] h0 (Q_rs_i4_2 Z a x kx c0 c1 cz h0 n0) := by
  refine own_met (plainFor_of_name own_pn0) ?_
  intro p e s m below meth c s₁ hret hx hby hlk hml hown hnm X0 e0 hZ hh
  have N0 := Fr.nil n0
  refine Gs (fun _ tk => castTop (own_ef_rs_i4_2 m a x) tk) ?_
  have KP : Keep h0 h0 [a] := Keep.refl _ _
  show Goes _ _ _ _ _ (s₁.setTop (mkF m 0 #[.val (.ref a), .val (.ref x), .val (.int (0 : Int32)), .val (.int (2 : Int32)), .val .null, .unset] []))
  have hn_c0 := own_latN hL_c0
  have hn_c1 := own_latN hL_c1
  refine Gs (fun _ tk => XS.aloadN X0.here hx rfl (hb hby d7_0) rfl rfl tk) ?_
  obtain ⟨T1, X1, e1, st1⟩ := initO X0 hx hZ hown (gw hw 25 rfl) (gw hw 26 rfl) (gw hw 27 rfl) e0 (g := (mkF m 1 #[.val (.ref a), .val (.ref x), .val (.int (0 : Int32)), .val (.int (2 : Int32)), .val .null, .unset] [(.ref a)])) rfl (by rw [hml]; rfl) rfl (hb hby d7_1) (by decide) (W := 0) (w0 (Nat.le_of_eq rfl)) (by decide)
  refine Gs st1 ?_
  show Goes _ _ _ _ _ (T1.setTop (mkF m 4 #[.val (.ref a), .val (.ref x), .val (.int (0 : Int32)), .val (.int (2 : Int32)), .val .null, .unset] []))
  refine Gs (fun _ tk => XS.iloadN X1.here hx rfl (hb hby d7_4) rfl tk) ?_
  refine Gs (fun _ tk => XS.ifYes X1.here hx rfl (pc0 := 5) (pc' := 27) rfl (hb hby d7_5) rfl ((if0 _ _).trans (feq (by decide : ¬ ((2 : Int32) = (0 : Int32)))).2) (by decide) (by decide) tk) ?_
  obtain ⟨T2, X2, e2, st2⟩ := getS2 X1 hx hZ hown (host := "") (Or.inl (gw hw 50 rfl)) Via.refl e1 S_COMPACT_STRINGS (g := (mkF m 27 #[.val (.ref a), .val (.ref x), .val (.int (0 : Int32)), .val (.int (2 : Int32)), .val .null, .unset] [])) rfl (hb hby d7_27)
  refine Gs st2 ?_
  show Goes _ _ _ _ _ (T2.setTop (mkF m 30 #[.val (.ref a), .val (.ref x), .val (.int (0 : Int32)), .val (.int (2 : Int32)), .val .null, .unset] [(.int cz)]))
  refine Gs (fun _ tk => XS.ifNo X2.here hx rfl (hb hby d7_30) rfl ((if0 _ _).trans (feq hcz).1) tk) ?_
  refine Gs (fun _ tk => XS.aloadN X2.here hx rfl (hb hby d7_33) rfl rfl tk) ?_
  refine Gs (fun _ tk => XS.iloadN X2.here hx rfl (hb hby d7_34) rfl tk) ?_
  refine Gs (fun _ tk => XS.iloadN X2.here hx rfl (hb hby d7_35) rfl tk) ?_
  have ltc3_a : a < h0.size := A_a.lt
  have ltc3_x : x < h0.size := V_x.lt
  obtain ⟨_, _, ⟨T3, L3, k3, n3⟩, -, X3, ⟨Lc3, hQ3, l3, y3, z3⟩, st3⟩ := Jvm.LawKit.callS X2 hx (y := mN10) hown (mvT hZ (gw hw 51 rfl)) (mvT hZ (gw hw 52 rfl)) (mvT hZ (gw hw 53 rfl)) (mvT hZ (gw hw 54 rfl)) (by decide) (backOf (W := 0) (rs_c3_2 l Z a0 hw [] x kx c0 c1 h0 n0 Z0 V_x (by first | assumption | decide) (by first | assumption | decide)) hZ (gw hw 54 rfl) (gw hw 53 rfl) (by decide) (by decide)) (g := (mkF m 36 #[.val (.ref a), .val (.ref x), .val (.int (0 : Int32)), .val (.int (2 : Int32)), .val .null, .unset] [(.int (2 : Int32)), (.int (0 : Int32)), (.ref x)])) rfl (by rw [hml]; rfl) (argsL := [(.ref x), (.int (0 : Int32)), (.int (2 : Int32))]) (rest := []) (lenOf own_pd7 rfl) rfl (w0 (Nat.le_of_eq rfl)) (hb hby d7_36) (fun _ _ => ⟨rfl, e2, (by decide : 0 + 1 ≤ _), (by decide : 0 + 2 ≤ _)⟩)
  dsimp only [Pt.U, Pt.locs, Pt.cells, Pt.slots] at X3 l3 y3 z3 st3 hQ3
  subst l3 y3 z3
  obtain ⟨y3, ky3, rfl, N3q, K3, V_y3_3', g_y3_3', sz_y3_3'⟩ := hQ3
  have N3 := Fr.app N0 N3q
  replace A_a := A_a.keep K3
  replace F_value_a := F_value_a.keep K3 nin0
  replace F_coder_a := F_coder_a.keep K3 nin0
  replace KP := KP.trans K3 all0
  replace Z0 := Nat.le_trans Z0 K3.1
  have V_y3 := V_y3_3'
  have g_y3 := g_y3_3'
  have szc_y3 := sz_y3_3'
  have ne_a_y3 : a ≠ y3 := Nat.ne_of_lt (Nat.lt_of_lt_of_le ltc3_a szc_y3)
  have ne_x_y3 : x ≠ y3 := Nat.ne_of_lt (Nat.lt_of_lt_of_le ltc3_x szc_y3)
  refine Gs st3 ?_
  show Goes _ _ _ _ _ (T3.setTop (mkF m 39 #[.val (.ref a), .val (.ref x), .val (.int (0 : Int32)), .val (.int (2 : Int32)), .val .null, .unset] [(.ref y3)]))
  refine Gs (fun _ tk => XS.astore X3.here hx rfl (hb hby d7_39) rfl rfl (l' := #[.val (.ref a), .val (.ref x), .val (.int (0 : Int32)), .val (.int (2 : Int32)), .val .null, .val (.ref y3)]) rfl tk) ?_
  refine Gs (fun _ tk => XS.aloadN X3.here hx rfl (hb hby d7_41) rfl rfl tk) ?_
  refine Gs (fun _ tk => XS.aload X3.here hx rfl (hb hby d7_42) rfl rfl tk) ?_
  refine Gs (fun _ tk => XS.iloadN X3.here hx rfl (hb hby d7_44) rfl tk) ?_
  obtain ⟨_, _, ⟨T4, L4, k4, n4⟩, -, X4, ⟨Lc4, hQ4, l4, y4, z4⟩, st4⟩ := Jvm.LawKit.callS X3 hx (y := mN11) hown (mvT hZ (gw hw 58 rfl)) (mvT hZ (gw hw 59 rfl)) (mvT hZ (gw hw 53 rfl)) (mvT hZ (gw hw 60 rfl)) (by decide) (backOf (W := 1) (rs_cf_2 l Z a0 hw [] y3 ky3 [(.int (lo8 c0)), (.int (lo8 c1))] T3.heap n0 Z0 V_y3) hZ (gw hw 60 rfl) (gw hw 53 rfl) (by decide) (by decide)) (g := (mkF m 45 #[.val (.ref a), .val (.ref x), .val (.int (0 : Int32)), .val (.int (2 : Int32)), .val .null, .val (.ref y3)] [(.int (2 : Int32)), (.ref y3), (.ref a)])) rfl (by rw [hml]; rfl) (argsL := [(.ref y3), (.int (2 : Int32))]) (rest := [(.ref a)]) (lenOf own_pd8 rfl) rfl (w0 (Nat.le_of_eq rfl)) (hb hby d7_45) (fun _ _ => ⟨rfl, rfl, (by decide : 1 + 0 ≤ _), (by decide : 2 + 0 ≤ _)⟩)
  dsimp only [Pt.U, Pt.locs, Pt.cells, Pt.slots] at X4 l4 y4 z4 st4 hQ4
  subst l4 y4 z4
  obtain ⟨rfl, N4q, e4⟩ := hQ4
  have N4 := Fr.app N3 N4q
  refine Gs st4 ?_
  show Goes _ _ _ _ _ (T4.setTop (mkF m 48 #[.val (.ref a), .val (.ref x), .val (.int (0 : Int32)), .val (.int (2 : Int32)), .val .null, .val (.ref y3)] [(.int (0 : Int32)), (.ref a)]))
  obtain ⟨T5, h5, X5, e5, W5, st5⟩ := putFN X4 hx hZ hown (gw hw 35 rfl) Via.refl e4 F_coder_a A_a (Or.inr ⟨(gw hw 31 rfl), rfl, hnm⟩) (gw hw 15 rfl) (ty := .byte) (v' := .int (0 : Int32)) (by decide) rfl rfl (g := (mkF m 48 #[.val (.ref a), .val (.ref x), .val (.int (0 : Int32)), .val (.int (2 : Int32)), .val .null, .val (.ref y3)] [(.int (0 : Int32)), (.ref a)])) rfl rfl (hb hby d7_48)
  have N5 := Fr.snoc X5 N4 g_a
  replace A_a := A_a.wr W5
  replace F_value_a := F_value_a.other W5 (Or.inr (slot_ne (Or.inr (gw hw 30 rfl)) (Or.inr (gw hw 31 rfl)) (by decide) (t := (.array .byte)) (t' := .byte) (by decide) (by decide)))
  replace V_y3 := V_y3.other W5 (Ne.symm ne_a_y3)
  replace KP := KP.wr W5 (Or.inl (List.mem_of_getElem? (i := 0) rfl))
  replace F_coder_a := F_coder_a.same W5
  replace Z0 : n0 ≤ h5.size := by rw [W5.size]; exact Z0
  refine Gs st5 ?_
  show Goes _ _ _ _ _ (T5.setTop (mkF m 51 #[.val (.ref a), .val (.ref x), .val (.int (0 : Int32)), .val (.int (2 : Int32)), .val .null, .val (.ref y3)] []))
  refine Gs (fun _ tk => XS.aloadN X5.here hx rfl (hb hby d7_51) rfl rfl tk) ?_
  refine Gs (fun _ tk => XS.aload X5.here hx rfl (hb hby d7_52) rfl rfl tk) ?_
  obtain ⟨T6, h6, X6, e6, W6, st6⟩ := putF X5 hx hZ hown (host := "") (Or.inl (gw hw 34 rfl)) Via.refl e5 F_value_a A_a (Or.inr ⟨(gw hw 30 rfl), rfl, hnm⟩) (gw hw 15 rfl) (ty := (.array .byte)) (by decide) rfl rfl (g := (mkF m 54 #[.val (.ref a), .val (.ref x), .val (.int (0 : Int32)), .val (.int (2 : Int32)), .val .null, .val (.ref y3)] [(.ref y3), (.ref a)])) rfl rfl (hb hby d7_54)
  have N6 := Fr.snoc X6 N5 g_a
  replace A_a := A_a.wr W6
  replace F_coder_a := F_coder_a.other W6 (Or.inr (slot_ne (Or.inr (gw hw 31 rfl)) (Or.inr (gw hw 30 rfl)) (by decide) (t := .byte) (t' := (.array .byte)) (by decide) (by decide)))
  replace V_y3 := V_y3.other W6 (Ne.symm ne_a_y3)
  replace KP := KP.wr W6 (Or.inl (List.mem_of_getElem? (i := 0) rfl))
  replace F_value_a := F_value_a.same W6
  replace Z0 : n0 ≤ h6.size := by rw [W6.size]; exact Z0
  refine Gs st6 ?_
  show Goes _ _ _ _ _ (T6.setTop (mkF m 57 #[.val (.ref a), .val (.ref x), .val (.int (0 : Int32)), .val (.int (2 : Int32)), .val .null, .val (.ref y3)] []))
  have T_a : StrOf Z h6 a [c0, c1] := StrOf.latin A_a F_value_a F_coder_a V_y3 (by intro c hc; simp only [List.mem_cons, List.not_mem_nil, or_false] at hc; rcases hc with rfl | rfl <;> assumption) rfl rfl (Nat.le_of_ble_eq_true rfl)
  refine Goes.ret X6 none (fun _ => rfl) hlk (by decide) (by decide) ?_ (fun fs hr => ?_)
  · rw [e6]; exact ⟨rfl, N6, KP, T_a⟩
  · exact X6.returnOut hx hret (hb hby d7_57) hr
theorem own_ef_rs_i1_2 (m : MethodId) (x0 : Addr) (x1 : Addr) : entryFrame m #[(.ref x0), (.ref x1)] 2 = mkF m 0 #[.val (.ref x0), .val (.ref x1)] [] := by first | (simp [entryFrame, mkF, argsToLocals, Value.category]; done) | rfl
def Q_rs_i1_2 (Z : State) (a : Addr) (x : Addr) (kx : ClassId) (c0 : Int32) (c1 : Int32) (cz : Int32) (h0 : Heap) (n0 : Nat) (v : Option Value) (h : Heap) (L : List Loc) : Prop := v = none ∧ Fr n0 L ∧ Keep h0 h [a] ∧ StrOf Z h a [c0, c1]
set_option maxRecDepth 65536 in
set_option maxHeartbeats 40000000 in
theorem rs_i1_2 (l : Launch) (Z : State) (a0 : Array Value) (hw : ∀ d ∈ tables_1, d.before a0 Z = true) (ws : List Jvm.Cond) (a : Addr) (x : Addr) (kx : ClassId) (c0 : Int32) (c1 : Int32) (cz : Int32) (h0 : Heap) (n0 : Nat) (Z0 : n0 ≤ h0.size) (A_a : Exa Z h0 a "java/lang/String") (F_value_a : Fld Z h0 a "java/lang/String" "value" "[B" .null) (F_coder_a : Fld Z h0 a "java/lang/String" "coder" "B" (.int (0 : Int32))) (V_x : Arv Z h0 x kx .char (2 : Int32) [(.int c0), (.int c1)] (.int (0 : Int32))) (g_a : n0 ≤ a) (ne_x_a : x ≠ a) (S_COMPACT_STRINGS : Sta Z h0 "java/lang/String" "COMPACT_STRINGS" "Z" (.int cz)) (hcz : ¬ (cz = (0 : Int32))) (hL_c0 : Lat c0) (hL_c1 : Lat c1) :
    Met l Z mN8 jdk_42_method_3_code 2 none ({ frames := 3, cells := 1, slots := 2, locals := 52 } : Room) ws #[(.ref a), (.ref x)] h0 (Q_rs_i1_2 Z a x kx c0 c1 cz h0 n0) := by
  refine own_met (plainFor_of_name own_pn0) ?_
  intro p e s m below meth c s₁ hret hx hby hlk hml hown hnm X0 e0 hZ hh
  have N0 := Fr.nil n0
  refine Gs (fun _ tk => castTop (own_ef_rs_i1_2 m a x) tk) ?_
  have KP : Keep h0 h0 [a] := Keep.refl _ _
  show Goes _ _ _ _ _ (s₁.setTop (mkF m 0 #[.val (.ref a), .val (.ref x)] []))
  refine Gs (fun _ tk => XS.aloadN X0.here hx rfl (hb hby d8_0) rfl rfl tk) ?_
  refine Gs (fun _ tk => XS.aloadN X0.here hx rfl (hb hby d8_1) rfl rfl tk) ?_
  refine Gs (fun _ tk => XS.iconst X0.here hx rfl (hb hby d8_2) tk) ?_
  refine Gs (fun _ tk => XS.aloadN X0.here hx rfl (hb hby d8_3) rfl rfl tk) ?_
  obtain ⟨cl1, Ar1, -, S1, N1z, -, -⟩ := id V_x
  refine Gs (fun _ tk => X0.arraylength hx (by rw [e0]; exact Ar1.1) (State.isArrayOf_alike hZ.alike Ar1.2.1) (g := (mkF m 4 #[.val (.ref a), .val (.ref x)] [(.ref x), (.int (0 : Int32)), (.ref x), (.ref a)])) rfl rfl (hb hby d8_4) _ tk) ?_
  rw [len_of S1 N1z]
  show Goes _ _ _ _ _ (s₁.setTop (mkF m 5 #[.val (.ref a), .val (.ref x)] [(.int (2 : Int32)), (.int (0 : Int32)), (.ref x), (.ref a)]))
  refine Gs (fun _ tk => XS.aconstNull X0.here hx rfl (hb hby d8_5) tk) ?_
  obtain ⟨_, _, ⟨T2, L2, k2, n2⟩, -, X2, ⟨Lc2, hQ2, l2, y2, z2⟩, st2⟩ := X0.specialBack hx (y := mN7) rfl hown (mvT hZ (gw hw 21 rfl)) (mvT hZ (gw hw 22 rfl)) (mvT hZ (gw hw 24 rfl)) (by decide) (backOf (W := 0) (rs_i4_2 l Z a0 hw [] a x kx c0 c1 cz h0 n0 Z0 A_a F_value_a F_coder_a V_x g_a ne_x_a S_COMPACT_STRINGS (by first | assumption | decide) (by first | assumption | decide) (by first | assumption | decide)) hZ (gw hw 24 rfl) (gw hw 16 rfl) (by decide) (by decide)) (g := (mkF m 6 #[.val (.ref a), .val (.ref x)] [.null, (.int (2 : Int32)), (.int (0 : Int32)), (.ref x), (.ref a)])) rfl (by rw [hml]; rfl) (Steps.refl _) (a := a) (argsL := [(.ref x), (.int (0 : Int32)), (.int (2 : Int32)), .null]) (rest := []) (lenOf own_pd5 rfl) rfl (w0 (Nat.le_of_eq rfl)) (hb hby d8_6) (fun _ _ => ⟨rfl, e0, (by decide : 0 + 1 ≤ _), (by decide : 0 + 2 ≤ _)⟩)
  dsimp only [Pt.U, Pt.locs, Pt.cells, Pt.slots] at X2 l2 y2 z2 st2 hQ2
  subst l2 y2 z2
  obtain ⟨rfl, N2q, K2, T_a_2'⟩ := hQ2
  have N2 := Fr.app N0 N2q
  replace KP := KP.trans K2 (allS (Or.inl (List.mem_of_getElem? (i := 0) rfl)) all0)
  replace Z0 := Nat.le_trans Z0 K2.1
  have T_a := T_a_2'
  refine Gs (fun _ tk => st2.trans tk) ?_
  show Goes _ _ _ _ _ (T2.setTop (mkF m 9 #[.val (.ref a), .val (.ref x)] []))
  refine Goes.ret X2 none (fun _ => rfl) hlk (by decide) (by decide) ?_ (fun fs hr => ?_)
  · exact ⟨rfl, N2, KP, T_a⟩
  · exact X2.returnOut hx hret (hb hby d8_9) hr
theorem own_ef_rs_c5_3 (m : MethodId) (x0 : Addr) (x2 : Addr) : entryFrame m #[(.ref x0), (.int (0 : Int32)), (.ref x2), (.int (0 : Int32)), (.int (3 : Int32))] 7 = mkF m 0 #[.val (.ref x0), .val (.int (0 : Int32)), .val (.ref x2), .val (.int (0 : Int32)), .val (.int (3 : Int32)), .unset, .unset] [] := by first | (simp [entryFrame, mkF, argsToLocals, Value.category]; done) | rfl
def Q_rs_c5_3 (Z : State) (x : Addr) (kx : ClassId) (y : Addr) (ky : ClassId) (c0 : Int32) (c1 : Int32) (c2 : Int32) (h0 : Heap) (n0 : Nat) (v : Option Value) (h : Heap) (L : List Loc) : Prop := v = some (.int (3 : Int32)) ∧ Fr n0 L ∧ Keep h0 h [y] ∧ Arv Z h y ky .byte (3 : Int32) [(.int (lo8 c0)), (.int (lo8 c1)), (.int (lo8 c2))] (.int (0 : Int32))
set_option maxRecDepth 65536 in
set_option maxHeartbeats 40000000 in
theorem rs_c5_3 (l : Launch) (Z : State) (a0 : Array Value) (hw : ∀ d ∈ tables_1, d.before a0 Z = true) (ws : List Jvm.Cond) (x : Addr) (kx : ClassId) (y : Addr) (ky : ClassId) (c0 : Int32) (c1 : Int32) (c2 : Int32) (h0 : Heap) (n0 : Nat) (Z0 : n0 ≤ h0.size) (V_x : Arv Z h0 x kx .char (3 : Int32) [(.int c0), (.int c1), (.int c2)] (.int (0 : Int32))) (V_y : Arv Z h0 y ky .byte (3 : Int32) [(.int (0 : Int32)), (.int (0 : Int32)), (.int (0 : Int32))] (.int (0 : Int32))) (g_y : n0 ≤ y) (ne_x_y : x ≠ y) (hL_c0 : Lat c0) (hL_c1 : Lat c1) (hL_c2 : Lat c2) :
    Met l Z mN9 jdk_52_method_21_code 7 (some .int) ({ frames := 0, cells := 0, slots := 0, locals := 0 } : Room) ws #[(.ref x), (.int (0 : Int32)), (.ref y), (.int (0 : Int32)), (.int (3 : Int32))] h0 (Q_rs_c5_3 Z x kx y ky c0 c1 c2 h0 n0) := by
  refine own_met (plainFor_of_name own_pn3) ?_
  intro p e s m below meth c s₁ hret hx hby hlk hml hown hnm X0 e0 hZ hh
  have N0 := Fr.nil n0
  refine Gs (fun _ tk => castTop (own_ef_rs_c5_3 m x y) tk) ?_
  have KP : Keep h0 h0 [y] := Keep.refl _ _
  show Goes _ _ _ _ _ (s₁.setTop (mkF m 0 #[.val (.ref x), .val (.int (0 : Int32)), .val (.ref y), .val (.int (0 : Int32)), .val (.int (3 : Int32)), .unset, .unset] []))
  have hn_c0 := own_latN hL_c0
  have hn_c1 := own_latN hL_c1
  have hn_c2 := own_latN hL_c2
  refine Gs (fun _ tk => XS.iconst X0.here hx rfl (hb hby d9_0) tk) ?_
  refine Gs (fun _ tk => XS.istore X0.here hx rfl (hb hby d9_1) rfl (l' := #[.val (.ref x), .val (.int (0 : Int32)), .val (.ref y), .val (.int (0 : Int32)), .val (.int (3 : Int32)), .val (.int (0 : Int32)), .unset]) rfl tk) ?_
  refine Gs (fun _ tk => XS.iload X0.here hx rfl (hb hby d9_3) rfl tk) ?_
  refine Gs (fun _ tk => XS.iload X0.here hx rfl (hb hby d9_5) rfl tk) ?_
  refine Gs (fun _ tk => XS.icmpNo X0.here hx rfl (hb hby d9_7) rfl (tlt (by decide : ((0 : Int32) < (3 : Int32)))).2.1 tk) ?_
  refine Gs (fun _ tk => XS.aloadN X0.here hx rfl (hb hby d9_10) rfl rfl tk) ?_
  show Goes _ _ _ _ _ (s₁.setTop (mkF m 11 #[.val (.ref x), .val (.int (0 : Int32)), .val (.ref y), .val (.int (0 : Int32)), .val (.int (3 : Int32)), .val (.int (0 : Int32)), .unset] [(.ref x)]))
  refine Gs (fun _ tk => XS.iloadN X0.here hx rfl (hb hby d9_11) rfl tk) ?_
  obtain ⟨cl1, Ar1, -, S1, N1z, H1, -⟩ := id V_x
  have hin1 : ¬ ((0 : Int32) < 0 ∨ cl1.slots.size ≤ ((0 : Int32)).toNatClampNeg) := inb_of S1 ⟨by decide, by decide⟩
  have hat1 : cl1.slots[((0 : Int32)).toNatClampNeg]? = some (.int c0) := Has.at H1 hin1 rfl
  refine Gs (fun _ tk => X0.caload hx (j := (0 : Int32)) (v := (.int c0)) (by rw [e0]; exact Ar1.1) (State.isArrayOf_alike hZ.alike Ar1.2.1) Ar1.2.2 hin1 hat1 (g := (mkF m 12 #[.val (.ref x), .val (.int (0 : Int32)), .val (.ref y), .val (.int (0 : Int32)), .val (.int (3 : Int32)), .val (.int (0 : Int32)), .unset] [(.int (0 : Int32)), (.ref x)])) rfl rfl (hb hby d9_12) _ tk) ?_
  show Goes _ _ _ _ _ (s₁.setTop (mkF m 13 #[.val (.ref x), .val (.int (0 : Int32)), .val (.ref y), .val (.int (0 : Int32)), .val (.int (3 : Int32)), .val (.int (0 : Int32)), .unset] [(.int c0)]))
  refine Gs (fun _ tk => XS.istore X0.here hx rfl (hb hby d9_13) rfl (l' := #[.val (.ref x), .val (.int (0 : Int32)), .val (.ref y), .val (.int (0 : Int32)), .val (.int (3 : Int32)), .val (.int (0 : Int32)), .val (.int c0)]) rfl tk) ?_
  refine Gs (fun _ tk => XS.iload X0.here hx rfl (hb hby d9_15) rfl tk) ?_
  refine Gs (fun _ tk => XS.sipush X0.here hx rfl (hb hby d9_17) tk) ?_
  refine Gs (fun _ tk => XS.icmpYes X0.here hx rfl (pc0 := 20) (pc' := 26) rfl (hb hby d9_20) rfl (flt hn_c0).2.2.2 (by decide) (by decide) tk) ?_
  refine Gs (fun _ tk => XS.aloadN X0.here hx rfl (hb hby d9_26) rfl rfl tk) ?_
  refine Gs (fun _ tk => XS.iloadN X0.here hx rfl (hb hby d9_27) rfl tk) ?_
  show Goes _ _ _ _ _ (s₁.setTop (mkF m 28 #[.val (.ref x), .val (.int (0 : Int32)), .val (.ref y), .val (.int (0 : Int32)), .val (.int (3 : Int32)), .val (.int (0 : Int32)), .val (.int c0)] [(.int (0 : Int32)), (.ref y)]))
  refine Gs (fun _ tk => XS.iload X0.here hx rfl (hb hby d9_28) rfl tk) ?_
  show Goes _ _ _ _ _ (s₁.setTop (mkF m 30 #[.val (.ref x), .val (.int (0 : Int32)), .val (.ref y), .val (.int (0 : Int32)), .val (.int (3 : Int32)), .val (.int (0 : Int32)), .val (.int c0)] [(.int c0), (.int (0 : Int32)), (.ref y)]))
  refine Gs (fun _ tk => XS.i2b X0.here hx rfl (hb hby d9_30) rfl tk) ?_
  show Goes _ _ _ _ _ (s₁.setTop (mkF m 31 #[.val (.ref x), .val (.int (0 : Int32)), .val (.ref y), .val (.int (0 : Int32)), .val (.int (3 : Int32)), .val (.int (0 : Int32)), .val (.int c0)] [(.int (c0.toInt8.toInt32)), (.int (0 : Int32)), (.ref y)]))
  obtain ⟨cl2, Ar2, q2, S2, N2z, H2, G2⟩ := V_y
  have hin2 : ¬ ((0 : Int32) < 0 ∨ cl2.slots.size ≤ ((0 : Int32)).toNatClampNeg) := inb_of S2 ⟨by decide, by decide⟩
  obtain ⟨T2, h2, X2, e2, W2, st2⟩ := stB X0 hx hZ e0 Ar2 (j := (0 : Int32)) hin2 (g := (mkF m 31 #[.val (.ref x), .val (.int (0 : Int32)), .val (.ref y), .val (.int (0 : Int32)), .val (.int (3 : Int32)), .val (.int (0 : Int32)), .val (.int c0)] [(.int (c0.toInt8.toInt32)), (.int (0 : Int32)), (.ref y)])) rfl rfl (hb hby d9_31)
  have Vn2 := Arv.set Ar2 q2 S2 N2z H2 G2 (fits_nar_byte _) W2 0 rfl (Nat.le_of_ble_eq_true rfl)
  have N2 := Fr.snoc X2 N0 g_y
  replace V_x := V_x.other W2 ne_x_y
  replace KP := KP.wr W2 (Or.inl (List.mem_of_getElem? (i := 0) rfl))
  have V_y : Arv Z h2 y ky .byte (3 : Int32) [(.int (lo8 c0)), (.int (0 : Int32)), (.int (0 : Int32))] (.int (0 : Int32)) := by have q := Vn2; rw [own_nb2] at q; exact q
  replace Z0 : n0 ≤ h2.size := by rw [W2.size]; exact Z0
  refine Gs st2 ?_
  show Goes _ _ _ _ _ (T2.setTop (mkF m 32 #[.val (.ref x), .val (.int (0 : Int32)), .val (.ref y), .val (.int (0 : Int32)), .val (.int (3 : Int32)), .val (.int (0 : Int32)), .val (.int c0)] []))
  refine Gs (fun _ tk => XS.iinc X2.here hx rfl (hb hby d9_32) rfl (l' := #[.val (.ref x), .val (.int ((0 : Int32) + (1 : Int32))), .val (.ref y), .val (.int (0 : Int32)), .val (.int (3 : Int32)), .val (.int (0 : Int32)), .val (.int c0)]) rfl tk) ?_
  rw [show ((0 : Int32) + (1 : Int32)) = (1 : Int32) from by decide]
  show Goes _ _ _ _ _ (T2.setTop (mkF m 35 #[.val (.ref x), .val (.int (1 : Int32)), .val (.ref y), .val (.int (0 : Int32)), .val (.int (3 : Int32)), .val (.int (0 : Int32)), .val (.int c0)] []))
  refine Gs (fun _ tk => XS.iinc X2.here hx rfl (hb hby d9_35) rfl (l' := #[.val (.ref x), .val (.int (1 : Int32)), .val (.ref y), .val (.int ((0 : Int32) + (1 : Int32))), .val (.int (3 : Int32)), .val (.int (0 : Int32)), .val (.int c0)]) rfl tk) ?_
  rw [show ((0 : Int32) + (1 : Int32)) = (1 : Int32) from by decide]
  show Goes _ _ _ _ _ (T2.setTop (mkF m 38 #[.val (.ref x), .val (.int (1 : Int32)), .val (.ref y), .val (.int (1 : Int32)), .val (.int (3 : Int32)), .val (.int (0 : Int32)), .val (.int c0)] []))
  refine Gs (fun _ tk => XS.iinc X2.here hx rfl (hb hby d9_38) rfl (l' := #[.val (.ref x), .val (.int (1 : Int32)), .val (.ref y), .val (.int (1 : Int32)), .val (.int (3 : Int32)), .val (.int ((0 : Int32) + (1 : Int32))), .val (.int c0)]) rfl tk) ?_
  rw [show ((0 : Int32) + (1 : Int32)) = (1 : Int32) from by decide]
  show Goes _ _ _ _ _ (T2.setTop (mkF m 41 #[.val (.ref x), .val (.int (1 : Int32)), .val (.ref y), .val (.int (1 : Int32)), .val (.int (3 : Int32)), .val (.int (1 : Int32)), .val (.int c0)] []))
  refine Gs (fun _ tk => XS.goto X2.here hx rfl (pc0 := 41) (pc' := 3) rfl (hb hby d9_41) (by decide) (by decide) tk) ?_
  refine Gs (fun _ tk => XS.iload X2.here hx rfl (hb hby d9_3) rfl tk) ?_
  refine Gs (fun _ tk => XS.iload X2.here hx rfl (hb hby d9_5) rfl tk) ?_
  refine Gs (fun _ tk => XS.icmpNo X2.here hx rfl (hb hby d9_7) rfl (tlt (by decide : ((1 : Int32) < (3 : Int32)))).2.1 tk) ?_
  refine Gs (fun _ tk => XS.aloadN X2.here hx rfl (hb hby d9_10) rfl rfl tk) ?_
  refine Gs (fun _ tk => XS.iloadN X2.here hx rfl (hb hby d9_11) rfl tk) ?_
  show Goes _ _ _ _ _ (T2.setTop (mkF m 12 #[.val (.ref x), .val (.int (1 : Int32)), .val (.ref y), .val (.int (1 : Int32)), .val (.int (3 : Int32)), .val (.int (1 : Int32)), .val (.int c0)] [(.int (1 : Int32)), (.ref x)]))
  obtain ⟨cl3, Ar3, -, S3, N3z, H3, -⟩ := id V_x
  have hin3 : ¬ ((1 : Int32) < 0 ∨ cl3.slots.size ≤ ((1 : Int32)).toNatClampNeg) := inb_of S3 ⟨by decide, by decide⟩
  have hat3 : cl3.slots[((1 : Int32)).toNatClampNeg]? = some (.int c1) := Has.at H3 hin3 rfl
  refine Gs (fun _ tk => X2.caload hx (j := (1 : Int32)) (v := (.int c1)) (by rw [e2]; exact Ar3.1) (State.isArrayOf_alike hZ.alike Ar3.2.1) Ar3.2.2 hin3 hat3 (g := (mkF m 12 #[.val (.ref x), .val (.int (1 : Int32)), .val (.ref y), .val (.int (1 : Int32)), .val (.int (3 : Int32)), .val (.int (1 : Int32)), .val (.int c0)] [(.int (1 : Int32)), (.ref x)])) rfl rfl (hb hby d9_12) _ tk) ?_
  show Goes _ _ _ _ _ (T2.setTop (mkF m 13 #[.val (.ref x), .val (.int (1 : Int32)), .val (.ref y), .val (.int (1 : Int32)), .val (.int (3 : Int32)), .val (.int (1 : Int32)), .val (.int c0)] [(.int c1)]))
  refine Gs (fun _ tk => XS.istore X2.here hx rfl (hb hby d9_13) rfl (l' := #[.val (.ref x), .val (.int (1 : Int32)), .val (.ref y), .val (.int (1 : Int32)), .val (.int (3 : Int32)), .val (.int (1 : Int32)), .val (.int c1)]) rfl tk) ?_
  refine Gs (fun _ tk => XS.iload X2.here hx rfl (hb hby d9_15) rfl tk) ?_
  refine Gs (fun _ tk => XS.sipush X2.here hx rfl (hb hby d9_17) tk) ?_
  refine Gs (fun _ tk => XS.icmpYes X2.here hx rfl (pc0 := 20) (pc' := 26) rfl (hb hby d9_20) rfl (flt hn_c1).2.2.2 (by decide) (by decide) tk) ?_
  refine Gs (fun _ tk => XS.aloadN X2.here hx rfl (hb hby d9_26) rfl rfl tk) ?_
  refine Gs (fun _ tk => XS.iloadN X2.here hx rfl (hb hby d9_27) rfl tk) ?_
  show Goes _ _ _ _ _ (T2.setTop (mkF m 28 #[.val (.ref x), .val (.int (1 : Int32)), .val (.ref y), .val (.int (1 : Int32)), .val (.int (3 : Int32)), .val (.int (1 : Int32)), .val (.int c1)] [(.int (1 : Int32)), (.ref y)]))
  refine Gs (fun _ tk => XS.iload X2.here hx rfl (hb hby d9_28) rfl tk) ?_
  show Goes _ _ _ _ _ (T2.setTop (mkF m 30 #[.val (.ref x), .val (.int (1 : Int32)), .val (.ref y), .val (.int (1 : Int32)), .val (.int (3 : Int32)), .val (.int (1 : Int32)), .val (.int c1)] [(.int c1), (.int (1 : Int32)), (.ref y)]))
  refine Gs (fun _ tk => XS.i2b X2.here hx rfl (hb hby d9_30) rfl tk) ?_
  show Goes _ _ _ _ _ (T2.setTop (mkF m 31 #[.val (.ref x), .val (.int (1 : Int32)), .val (.ref y), .val (.int (1 : Int32)), .val (.int (3 : Int32)), .val (.int (1 : Int32)), .val (.int c1)] [(.int (c1.toInt8.toInt32)), (.int (1 : Int32)), (.ref y)]))
  obtain ⟨cl4, Ar4, q4, S4, N4z, H4, G4⟩ := V_y
  have hin4 : ¬ ((1 : Int32) < 0 ∨ cl4.slots.size ≤ ((1 : Int32)).toNatClampNeg) := inb_of S4 ⟨by decide, by decide⟩
  obtain ⟨T4, h4, X4, e4, W4, st4⟩ := stB X2 hx hZ e2 Ar4 (j := (1 : Int32)) hin4 (g := (mkF m 31 #[.val (.ref x), .val (.int (1 : Int32)), .val (.ref y), .val (.int (1 : Int32)), .val (.int (3 : Int32)), .val (.int (1 : Int32)), .val (.int c1)] [(.int (c1.toInt8.toInt32)), (.int (1 : Int32)), (.ref y)])) rfl rfl (hb hby d9_31)
  have Vn4 := Arv.set Ar4 q4 S4 N4z H4 G4 (fits_nar_byte _) W4 1 rfl (Nat.le_of_ble_eq_true rfl)
  have N4 := Fr.snoc X4 N2 g_y
  replace V_x := V_x.other W4 ne_x_y
  replace KP := KP.wr W4 (Or.inl (List.mem_of_getElem? (i := 0) rfl))
  have V_y : Arv Z h4 y ky .byte (3 : Int32) [(.int (lo8 c0)), (.int (lo8 c1)), (.int (0 : Int32))] (.int (0 : Int32)) := by have q := Vn4; rw [own_nb2] at q; exact q
  replace Z0 : n0 ≤ h4.size := by rw [W4.size]; exact Z0
  refine Gs st4 ?_
  show Goes _ _ _ _ _ (T4.setTop (mkF m 32 #[.val (.ref x), .val (.int (1 : Int32)), .val (.ref y), .val (.int (1 : Int32)), .val (.int (3 : Int32)), .val (.int (1 : Int32)), .val (.int c1)] []))
  refine Gs (fun _ tk => XS.iinc X4.here hx rfl (hb hby d9_32) rfl (l' := #[.val (.ref x), .val (.int ((1 : Int32) + (1 : Int32))), .val (.ref y), .val (.int (1 : Int32)), .val (.int (3 : Int32)), .val (.int (1 : Int32)), .val (.int c1)]) rfl tk) ?_
  rw [show ((1 : Int32) + (1 : Int32)) = (2 : Int32) from by decide]
  show Goes _ _ _ _ _ (T4.setTop (mkF m 35 #[.val (.ref x), .val (.int (2 : Int32)), .val (.ref y), .val (.int (1 : Int32)), .val (.int (3 : Int32)), .val (.int (1 : Int32)), .val (.int c1)] []))
  refine Gs (fun _ tk => XS.iinc X4.here hx rfl (hb hby d9_35) rfl (l' := #[.val (.ref x), .val (.int (2 : Int32)), .val (.ref y), .val (.int ((1 : Int32) + (1 : Int32))), .val (.int (3 : Int32)), .val (.int (1 : Int32)), .val (.int c1)]) rfl tk) ?_
  rw [show ((1 : Int32) + (1 : Int32)) = (2 : Int32) from by decide]
  show Goes _ _ _ _ _ (T4.setTop (mkF m 38 #[.val (.ref x), .val (.int (2 : Int32)), .val (.ref y), .val (.int (2 : Int32)), .val (.int (3 : Int32)), .val (.int (1 : Int32)), .val (.int c1)] []))
  refine Gs (fun _ tk => XS.iinc X4.here hx rfl (hb hby d9_38) rfl (l' := #[.val (.ref x), .val (.int (2 : Int32)), .val (.ref y), .val (.int (2 : Int32)), .val (.int (3 : Int32)), .val (.int ((1 : Int32) + (1 : Int32))), .val (.int c1)]) rfl tk) ?_
  rw [show ((1 : Int32) + (1 : Int32)) = (2 : Int32) from by decide]
  show Goes _ _ _ _ _ (T4.setTop (mkF m 41 #[.val (.ref x), .val (.int (2 : Int32)), .val (.ref y), .val (.int (2 : Int32)), .val (.int (3 : Int32)), .val (.int (2 : Int32)), .val (.int c1)] []))
  refine Gs (fun _ tk => XS.goto X4.here hx rfl (pc0 := 41) (pc' := 3) rfl (hb hby d9_41) (by decide) (by decide) tk) ?_
  refine Gs (fun _ tk => XS.iload X4.here hx rfl (hb hby d9_3) rfl tk) ?_
  refine Gs (fun _ tk => XS.iload X4.here hx rfl (hb hby d9_5) rfl tk) ?_
  refine Gs (fun _ tk => XS.icmpNo X4.here hx rfl (hb hby d9_7) rfl (tlt (by decide : ((2 : Int32) < (3 : Int32)))).2.1 tk) ?_
  refine Gs (fun _ tk => XS.aloadN X4.here hx rfl (hb hby d9_10) rfl rfl tk) ?_
  refine Gs (fun _ tk => XS.iloadN X4.here hx rfl (hb hby d9_11) rfl tk) ?_
  show Goes _ _ _ _ _ (T4.setTop (mkF m 12 #[.val (.ref x), .val (.int (2 : Int32)), .val (.ref y), .val (.int (2 : Int32)), .val (.int (3 : Int32)), .val (.int (2 : Int32)), .val (.int c1)] [(.int (2 : Int32)), (.ref x)]))
  obtain ⟨cl5, Ar5, -, S5, N5z, H5, -⟩ := id V_x
  have hin5 : ¬ ((2 : Int32) < 0 ∨ cl5.slots.size ≤ ((2 : Int32)).toNatClampNeg) := inb_of S5 ⟨by decide, by decide⟩
  have hat5 : cl5.slots[((2 : Int32)).toNatClampNeg]? = some (.int c2) := Has.at H5 hin5 rfl
  refine Gs (fun _ tk => X4.caload hx (j := (2 : Int32)) (v := (.int c2)) (by rw [e4]; exact Ar5.1) (State.isArrayOf_alike hZ.alike Ar5.2.1) Ar5.2.2 hin5 hat5 (g := (mkF m 12 #[.val (.ref x), .val (.int (2 : Int32)), .val (.ref y), .val (.int (2 : Int32)), .val (.int (3 : Int32)), .val (.int (2 : Int32)), .val (.int c1)] [(.int (2 : Int32)), (.ref x)])) rfl rfl (hb hby d9_12) _ tk) ?_
  show Goes _ _ _ _ _ (T4.setTop (mkF m 13 #[.val (.ref x), .val (.int (2 : Int32)), .val (.ref y), .val (.int (2 : Int32)), .val (.int (3 : Int32)), .val (.int (2 : Int32)), .val (.int c1)] [(.int c2)]))
  refine Gs (fun _ tk => XS.istore X4.here hx rfl (hb hby d9_13) rfl (l' := #[.val (.ref x), .val (.int (2 : Int32)), .val (.ref y), .val (.int (2 : Int32)), .val (.int (3 : Int32)), .val (.int (2 : Int32)), .val (.int c2)]) rfl tk) ?_
  refine Gs (fun _ tk => XS.iload X4.here hx rfl (hb hby d9_15) rfl tk) ?_
  refine Gs (fun _ tk => XS.sipush X4.here hx rfl (hb hby d9_17) tk) ?_
  refine Gs (fun _ tk => XS.icmpYes X4.here hx rfl (pc0 := 20) (pc' := 26) rfl (hb hby d9_20) rfl (flt hn_c2).2.2.2 (by decide) (by decide) tk) ?_
  refine Gs (fun _ tk => XS.aloadN X4.here hx rfl (hb hby d9_26) rfl rfl tk) ?_
  refine Gs (fun _ tk => XS.iloadN X4.here hx rfl (hb hby d9_27) rfl tk) ?_
  show Goes _ _ _ _ _ (T4.setTop (mkF m 28 #[.val (.ref x), .val (.int (2 : Int32)), .val (.ref y), .val (.int (2 : Int32)), .val (.int (3 : Int32)), .val (.int (2 : Int32)), .val (.int c2)] [(.int (2 : Int32)), (.ref y)]))
  refine Gs (fun _ tk => XS.iload X4.here hx rfl (hb hby d9_28) rfl tk) ?_
  show Goes _ _ _ _ _ (T4.setTop (mkF m 30 #[.val (.ref x), .val (.int (2 : Int32)), .val (.ref y), .val (.int (2 : Int32)), .val (.int (3 : Int32)), .val (.int (2 : Int32)), .val (.int c2)] [(.int c2), (.int (2 : Int32)), (.ref y)]))
  refine Gs (fun _ tk => XS.i2b X4.here hx rfl (hb hby d9_30) rfl tk) ?_
  show Goes _ _ _ _ _ (T4.setTop (mkF m 31 #[.val (.ref x), .val (.int (2 : Int32)), .val (.ref y), .val (.int (2 : Int32)), .val (.int (3 : Int32)), .val (.int (2 : Int32)), .val (.int c2)] [(.int (c2.toInt8.toInt32)), (.int (2 : Int32)), (.ref y)]))
  obtain ⟨cl6, Ar6, q6, S6, N6z, H6, G6⟩ := V_y
  have hin6 : ¬ ((2 : Int32) < 0 ∨ cl6.slots.size ≤ ((2 : Int32)).toNatClampNeg) := inb_of S6 ⟨by decide, by decide⟩
  obtain ⟨T6, h6, X6, e6, W6, st6⟩ := stB X4 hx hZ e4 Ar6 (j := (2 : Int32)) hin6 (g := (mkF m 31 #[.val (.ref x), .val (.int (2 : Int32)), .val (.ref y), .val (.int (2 : Int32)), .val (.int (3 : Int32)), .val (.int (2 : Int32)), .val (.int c2)] [(.int (c2.toInt8.toInt32)), (.int (2 : Int32)), (.ref y)])) rfl rfl (hb hby d9_31)
  have Vn6 := Arv.set Ar6 q6 S6 N6z H6 G6 (fits_nar_byte _) W6 2 rfl (Nat.le_of_ble_eq_true rfl)
  have N6 := Fr.snoc X6 N4 g_y
  replace KP := KP.wr W6 (Or.inl (List.mem_of_getElem? (i := 0) rfl))
  have V_y : Arv Z h6 y ky .byte (3 : Int32) [(.int (lo8 c0)), (.int (lo8 c1)), (.int (lo8 c2))] (.int (0 : Int32)) := by have q := Vn6; rw [own_nb2] at q; exact q
  replace Z0 : n0 ≤ h6.size := by rw [W6.size]; exact Z0
  refine Gs st6 ?_
  show Goes _ _ _ _ _ (T6.setTop (mkF m 32 #[.val (.ref x), .val (.int (2 : Int32)), .val (.ref y), .val (.int (2 : Int32)), .val (.int (3 : Int32)), .val (.int (2 : Int32)), .val (.int c2)] []))
  refine Gs (fun _ tk => XS.iinc X6.here hx rfl (hb hby d9_32) rfl (l' := #[.val (.ref x), .val (.int ((2 : Int32) + (1 : Int32))), .val (.ref y), .val (.int (2 : Int32)), .val (.int (3 : Int32)), .val (.int (2 : Int32)), .val (.int c2)]) rfl tk) ?_
  rw [show ((2 : Int32) + (1 : Int32)) = (3 : Int32) from by decide]
  show Goes _ _ _ _ _ (T6.setTop (mkF m 35 #[.val (.ref x), .val (.int (3 : Int32)), .val (.ref y), .val (.int (2 : Int32)), .val (.int (3 : Int32)), .val (.int (2 : Int32)), .val (.int c2)] []))
  refine Gs (fun _ tk => XS.iinc X6.here hx rfl (hb hby d9_35) rfl (l' := #[.val (.ref x), .val (.int (3 : Int32)), .val (.ref y), .val (.int ((2 : Int32) + (1 : Int32))), .val (.int (3 : Int32)), .val (.int (2 : Int32)), .val (.int c2)]) rfl tk) ?_
  rw [show ((2 : Int32) + (1 : Int32)) = (3 : Int32) from by decide]
  show Goes _ _ _ _ _ (T6.setTop (mkF m 38 #[.val (.ref x), .val (.int (3 : Int32)), .val (.ref y), .val (.int (3 : Int32)), .val (.int (3 : Int32)), .val (.int (2 : Int32)), .val (.int c2)] []))
  refine Gs (fun _ tk => XS.iinc X6.here hx rfl (hb hby d9_38) rfl (l' := #[.val (.ref x), .val (.int (3 : Int32)), .val (.ref y), .val (.int (3 : Int32)), .val (.int (3 : Int32)), .val (.int ((2 : Int32) + (1 : Int32))), .val (.int c2)]) rfl tk) ?_
  rw [show ((2 : Int32) + (1 : Int32)) = (3 : Int32) from by decide]
  show Goes _ _ _ _ _ (T6.setTop (mkF m 41 #[.val (.ref x), .val (.int (3 : Int32)), .val (.ref y), .val (.int (3 : Int32)), .val (.int (3 : Int32)), .val (.int (3 : Int32)), .val (.int c2)] []))
  refine Gs (fun _ tk => XS.goto X6.here hx rfl (pc0 := 41) (pc' := 3) rfl (hb hby d9_41) (by decide) (by decide) tk) ?_
  refine Gs (fun _ tk => XS.iload X6.here hx rfl (hb hby d9_3) rfl tk) ?_
  refine Gs (fun _ tk => XS.iload X6.here hx rfl (hb hby d9_5) rfl tk) ?_
  refine Gs (fun _ tk => XS.icmpYes X6.here hx rfl (pc0 := 7) (pc' := 44) rfl (hb hby d9_7) rfl (flt (by decide : ¬ ((3 : Int32) < (3 : Int32)))).2.1 (by decide) (by decide) tk) ?_
  refine Gs (fun _ tk => XS.iload X6.here hx rfl (hb hby d9_44) rfl tk) ?_
  refine Goes.ret X6 (some (.int (3 : Int32))) (fun h => by rw [hret] at h; cases h) hlk (by decide) (by decide) ?_ (fun fs hr => ?_)
  · rw [e6]; exact ⟨rfl, N6, KP, V_y⟩
  · exact retI X6 hx hret (hb hby d9_46) hr
theorem own_ef_rs_c3_3 (m : MethodId) (x0 : Addr) : entryFrame m #[(.ref x0), (.int (0 : Int32)), (.int (3 : Int32))] 6 = mkF m 0 #[.val (.ref x0), .val (.int (0 : Int32)), .val (.int (3 : Int32)), .unset, .unset, .unset] [] := by first | (simp [entryFrame, mkF, argsToLocals, Value.category]; done) | rfl
def Q_rs_c3_3 (Z : State) (x : Addr) (kx : ClassId) (c0 : Int32) (c1 : Int32) (c2 : Int32) (h0 : Heap) (n0 : Nat) (v : Option Value) (h : Heap) (L : List Loc) : Prop := ∃ y : Addr, ∃ ky : ClassId, v = some (.ref y) ∧ Fr n0 L ∧ Keep h0 h [] ∧ Arv Z h y ky .byte (3 : Int32) [(.int (lo8 c0)), (.int (lo8 c1)), (.int (lo8 c2))] (.int (0 : Int32)) ∧ n0 ≤ y ∧ h0.size ≤ y
set_option maxRecDepth 65536 in
set_option maxHeartbeats 40000000 in
theorem rs_c3_3 (l : Launch) (Z : State) (a0 : Array Value) (hw : ∀ d ∈ tables_1, d.before a0 Z = true) (ws : List Jvm.Cond) (x : Addr) (kx : ClassId) (c0 : Int32) (c1 : Int32) (c2 : Int32) (h0 : Heap) (n0 : Nat) (Z0 : n0 ≤ h0.size) (V_x : Arv Z h0 x kx .char (3 : Int32) [(.int c0), (.int c1), (.int c2)] (.int (0 : Int32))) (hL_c0 : Lat c0) (hL_c1 : Lat c1) (hL_c2 : Lat c2) :
    Met l Z mN10 jdk_52_method_16_code 6 (some (.array .byte)) ({ frames := 1, cells := 1, slots := 3, locals := 18 } : Room) ws #[(.ref x), (.int (0 : Int32)), (.int (3 : Int32))] h0 (Q_rs_c3_3 Z x kx c0 c1 c2 h0 n0) := by
  refine own_met (plainFor_of_name own_pn3) ?_
  intro p e s m below meth c s₁ hret hx hby hlk hml hown hnm X0 e0 hZ hh
  have N0 := Fr.nil n0
  refine Gs (fun _ tk => castTop (own_ef_rs_c3_3 m x) tk) ?_
  have KP : Keep h0 h0 [] := Keep.refl _ _
  show Goes _ _ _ _ _ (s₁.setTop (mkF m 0 #[.val (.ref x), .val (.int (0 : Int32)), .val (.int (3 : Int32)), .unset, .unset, .unset] []))
  refine Gs (fun _ tk => XS.iloadN X0.here hx rfl (hb hby d10_0) rfl tk) ?_
  obtain ⟨T1, h1, k1, X1, e1, E1, A1, st1⟩ := newP X0 hx hZ (gw hw 29 rfl) e0 (g := (mkF m 1 #[.val (.ref x), .val (.int (0 : Int32)), .val (.int (3 : Int32)), .unset, .unset, .unset] [(.int (3 : Int32))])) rfl (hb hby d10_1) rfl (by decide) (cap := 3) (by decide) (by decide) (by decide) (by decide)
  obtain ⟨b1, gq1⟩ : ∃ z, z = h0.size := ⟨_, rfl⟩
  rw [← gq1] at A1 st1
  have g_b1 : n0 ≤ b1 := by rw [gq1]; exact Z0
  have sz_b1 : h0.size ≤ b1 := by rw [gq1]; exact KP.1
  have ne_x_b1 : x ≠ b1 := by rw [gq1]; exact Nat.ne_of_lt V_x.lt
  replace V_x := V_x.ext E1
  replace KP := KP.ext E1
  replace Z0 : n0 ≤ h1.size := Nat.le_trans Z0 E1.1
  have V_b1 : Arv Z h1 b1 k1 .byte (3 : Int32) [(.int (0 : Int32)), (.int (0 : Int32)), (.int (0 : Int32))] (.int (0 : Int32)) := (Arv.new A1 (by decide)).pad (pad_rep [] (.int (0 : Int32)) 3)
  refine Gs st1 ?_
  show Goes _ _ _ _ _ (T1.setTop (mkF m 3 #[.val (.ref x), .val (.int (0 : Int32)), .val (.int (3 : Int32)), .unset, .unset, .unset] [(.ref b1)]))
  refine Gs (fun _ tk => XS.astoreN X1.here hx rfl (hb hby d10_3) rfl rfl (l' := #[.val (.ref x), .val (.int (0 : Int32)), .val (.int (3 : Int32)), .val (.ref b1), .unset, .unset]) rfl tk) ?_
  refine Gs (fun _ tk => XS.aloadN X1.here hx rfl (hb hby d10_4) rfl rfl tk) ?_
  refine Gs (fun _ tk => XS.iloadN X1.here hx rfl (hb hby d10_5) rfl tk) ?_
  refine Gs (fun _ tk => XS.aloadN X1.here hx rfl (hb hby d10_6) rfl rfl tk) ?_
  refine Gs (fun _ tk => XS.iconst X1.here hx rfl (hb hby d10_7) tk) ?_
  refine Gs (fun _ tk => XS.iloadN X1.here hx rfl (hb hby d10_8) rfl tk) ?_
  show Goes _ _ _ _ _ (T1.setTop (mkF m 9 #[.val (.ref x), .val (.int (0 : Int32)), .val (.int (3 : Int32)), .val (.ref b1), .unset, .unset] [(.int (3 : Int32)), (.int (0 : Int32)), (.ref b1), (.int (0 : Int32)), (.ref x)]))
  obtain ⟨_, _, ⟨T2, L2, k2, n2⟩, -, X2, ⟨Lc2, hQ2, l2, y2, z2⟩, st2⟩ := Jvm.LawKit.callS X1 hx (y := mN9) hown (mvT hZ (gw hw 55 rfl)) (mvT hZ (gw hw 56 rfl)) (mvT hZ (gw hw 53 rfl)) (mvT hZ (gw hw 57 rfl)) (by decide) (backOf (W := 0) (rs_c5_3 l Z a0 hw [] x kx b1 k1 c0 c1 c2 h1 n0 Z0 V_x V_b1 g_b1 ne_x_b1 (by first | assumption | decide) (by first | assumption | decide) (by first | assumption | decide)) hZ (gw hw 57 rfl) (gw hw 53 rfl) (by decide) (by decide)) (g := (mkF m 9 #[.val (.ref x), .val (.int (0 : Int32)), .val (.int (3 : Int32)), .val (.ref b1), .unset, .unset] [(.int (3 : Int32)), (.int (0 : Int32)), (.ref b1), (.int (0 : Int32)), (.ref x)])) rfl (by rw [hml]; rfl) (argsL := [(.ref x), (.int (0 : Int32)), (.ref b1), (.int (0 : Int32)), (.int (3 : Int32))]) (rest := []) (lenOf own_pd6 rfl) rfl (w0 (Nat.le_of_eq rfl)) (hb hby d10_9) (fun _ _ => ⟨rfl, e1, (by decide : 1 + 0 ≤ _), (by decide : 3 + 0 ≤ _)⟩)
  dsimp only [Pt.U, Pt.locs, Pt.cells, Pt.slots] at X2 l2 y2 z2 st2 hQ2
  subst l2 y2 z2
  obtain ⟨rfl, N2q, K2, V_b1_2'⟩ := hQ2
  have N2 := Fr.app N0 N2q
  replace KP := KP.trans K2 (allS (Or.inr sz_b1) all0)
  replace Z0 := Nat.le_trans Z0 K2.1
  have V_b1 := V_b1_2'
  refine Gs st2 ?_
  show Goes _ _ _ _ _ (T2.setTop (mkF m 12 #[.val (.ref x), .val (.int (0 : Int32)), .val (.int (3 : Int32)), .val (.ref b1), .unset, .unset] [(.int (3 : Int32))]))
  refine Gs (fun _ tk => XS.istore X2.here hx rfl (hb hby d10_12) rfl (l' := #[.val (.ref x), .val (.int (0 : Int32)), .val (.int (3 : Int32)), .val (.ref b1), .val (.int (3 : Int32)), .unset]) rfl tk) ?_
  refine Gs (fun _ tk => XS.iload X2.here hx rfl (hb hby d10_14) rfl tk) ?_
  refine Gs (fun _ tk => XS.iloadN X2.here hx rfl (hb hby d10_16) rfl tk) ?_
  refine Gs (fun _ tk => XS.icmpYes X2.here hx rfl (pc0 := 17) (pc' := 57) rfl (hb hby d10_17) rfl (teq (by decide : ((3 : Int32) = (3 : Int32)))).1 (by decide) (by decide) tk) ?_
  refine Gs (fun _ tk => XS.aloadN X2.here hx rfl (hb hby d10_57) rfl rfl tk) ?_
  refine Goes.ret X2 (some (.ref b1)) (fun h => by rw [hret] at h; cases h) hlk (by decide) (by decide) ?_ (fun fs hr => ?_)
  · exact ⟨b1, k1, rfl, N2, KP, V_b1, g_b1, sz_b1⟩
  · exact own_retA X2 hx hret rfl rfl (hb hby d10_58) hr
theorem own_ef_rs_cf_3 (m : MethodId) (x0 : Addr) : entryFrame m #[(.ref x0), (.int (3 : Int32))] 2 = mkF m 0 #[.val (.ref x0), .val (.int (3 : Int32))] [] := by first | (simp [entryFrame, mkF, argsToLocals, Value.category]; done) | rfl
def Q_rs_cf_3 (Z : State) (y : Addr) (ky : ClassId) (vs : List Value) (h0 : Heap) (n0 : Nat) (v : Option Value) (h : Heap) (L : List Loc) : Prop := v = some (.int (0 : Int32)) ∧ Fr n0 L ∧ h = h0
set_option maxRecDepth 65536 in
set_option maxHeartbeats 40000000 in
theorem rs_cf_3 (l : Launch) (Z : State) (a0 : Array Value) (hw : ∀ d ∈ tables_1, d.before a0 Z = true) (ws : List Jvm.Cond) (y : Addr) (ky : ClassId) (vs : List Value) (h0 : Heap) (n0 : Nat) (Z0 : n0 ≤ h0.size) (V_y : Arv Z h0 y ky .byte (3 : Int32) vs (.int (0 : Int32))) :
    Met l Z mN11 jdk_52_method_15_code 2 (some .byte) ({ frames := 0, cells := 0, slots := 0, locals := 0 } : Room) ws #[(.ref y), (.int (3 : Int32))] h0 (Q_rs_cf_3 Z y ky vs h0 n0) := by
  refine own_met (plainFor_of_name own_pn3) ?_
  intro p e s m below meth c s₁ hret hx hby hlk hml hown hnm X0 e0 hZ hh
  have N0 := Fr.nil n0
  refine Gs (fun _ tk => castTop (own_ef_rs_cf_3 m y) tk) ?_
  show Goes _ _ _ _ _ (s₁.setTop (mkF m 0 #[.val (.ref y), .val (.int (3 : Int32))] []))
  refine Gs (fun _ tk => XS.iloadN X0.here hx rfl (hb hby d11_0) rfl tk) ?_
  refine Gs (fun _ tk => XS.aloadN X0.here hx rfl (hb hby d11_1) rfl rfl tk) ?_
  obtain ⟨cl1, Ar1, -, S1, N1z, -, -⟩ := id V_y
  refine Gs (fun _ tk => X0.arraylength hx (by rw [e0]; exact Ar1.1) (State.isArrayOf_alike hZ.alike Ar1.2.1) (g := (mkF m 2 #[.val (.ref y), .val (.int (3 : Int32))] [(.ref y), (.int (3 : Int32))])) rfl rfl (hb hby d11_2) _ tk) ?_
  rw [len_of S1 N1z]
  show Goes _ _ _ _ _ (s₁.setTop (mkF m 3 #[.val (.ref y), .val (.int (3 : Int32))] [(.int (3 : Int32)), (.int (3 : Int32))]))
  refine Gs (fun _ tk => XS.isub X0.here hx rfl (hb hby d11_3) rfl tk) ?_
  rw [show ((3 : Int32) - (3 : Int32)) = (0 : Int32) from by decide]
  show Goes _ _ _ _ _ (s₁.setTop (mkF m 4 #[.val (.ref y), .val (.int (3 : Int32))] [(.int (0 : Int32))]))
  refine Gs (fun _ tk => XS.bipush X0.here hx rfl (hb hby d11_4) tk) ?_
  show Goes _ _ _ _ _ (s₁.setTop (mkF m 6 #[.val (.ref y), .val (.int (3 : Int32))] [(.int (31 : Int32)), (.int (0 : Int32))]))
  refine Gs (fun _ tk => XS.iushr X0.here hx rfl (hb hby d11_6) rfl tk) ?_
  rw [show (((0 : Int32).toUInt32 >>> ((31 : Int32) &&& 31).toUInt32).toInt32) = (0 : Int32) from by decide]
  show Goes _ _ _ _ _ (s₁.setTop (mkF m 7 #[.val (.ref y), .val (.int (3 : Int32))] [(.int (0 : Int32))]))
  refine Gs (fun _ tk => XS.i2b X0.here hx rfl (hb hby d11_7) rfl tk) ?_
  rw [show ((0 : Int32).toInt8.toInt32) = (0 : Int32) from by decide]
  show Goes _ _ _ _ _ (s₁.setTop (mkF m 8 #[.val (.ref y), .val (.int (3 : Int32))] [(.int (0 : Int32))]))
  refine Goes.ret X0 (some (.int (0 : Int32))) (fun h => by rw [hret] at h; cases h) hlk (by decide) (by decide) ?_ (fun fs hr => ?_)
  · exact ⟨rfl, N0, e0⟩
  · exact own_retN X0 hx (t := .byte) hret (by simp) rfl (hb hby d11_8) hr
theorem own_ef_rs_i4_3 (m : MethodId) (x0 : Addr) (x1 : Addr) : entryFrame m #[(.ref x0), (.ref x1), (.int (0 : Int32)), (.int (3 : Int32)), .null] 6 = mkF m 0 #[.val (.ref x0), .val (.ref x1), .val (.int (0 : Int32)), .val (.int (3 : Int32)), .val .null, .unset] [] := by first | (simp [entryFrame, mkF, argsToLocals, Value.category]; done) | rfl
def Q_rs_i4_3 (Z : State) (a : Addr) (x : Addr) (kx : ClassId) (c0 : Int32) (c1 : Int32) (c2 : Int32) (cz : Int32) (h0 : Heap) (n0 : Nat) (v : Option Value) (h : Heap) (L : List Loc) : Prop := v = none ∧ Fr n0 L ∧ Keep h0 h [a] ∧ StrOf Z h a [c0, c1, c2]
set_option maxRecDepth 65536 in
set_option maxHeartbeats 40000000 in
theorem rs_i4_3 (l : Launch) (Z : State) (a0 : Array Value) (hw : ∀ d ∈ tables_1, d.before a0 Z = true) (ws : List Jvm.Cond) (a : Addr) (x : Addr) (kx : ClassId) (c0 : Int32) (c1 : Int32) (c2 : Int32) (cz : Int32) (h0 : Heap) (n0 : Nat) (Z0 : n0 ≤ h0.size) (A_a : Exa Z h0 a "java/lang/String") (F_value_a : Fld Z h0 a "java/lang/String" "value" "[B" .null) (F_coder_a : Fld Z h0 a "java/lang/String" "coder" "B" (.int (0 : Int32))) (V_x : Arv Z h0 x kx .char (3 : Int32) [(.int c0), (.int c1), (.int c2)] (.int (0 : Int32))) (g_a : n0 ≤ a) (ne_x_a : x ≠ a) (S_COMPACT_STRINGS : Sta Z h0 "java/lang/String" "COMPACT_STRINGS" "Z" (.int cz)) (hcz : ¬ (cz = (0 : Int32))) (hL_c0 : Lat c0) (hL_c1 : Lat c1) (hL_c2 : Lat c2) :
    Met l Z mN7 jdk_42_method_149_code 6 none ({ frames := 2, cells := 1, slots := 3, locals := 35 } : Room) ws #[(.ref a), (.ref x), (.int (0 : Int32)), (.int (3 : Int32)), .null] h0 (Q_rs_i4_3 Z a x kx c0 c1 c2 cz h0 n0) := by
  refine own_met (plainFor_of_name own_pn0) ?_
  intro p e s m below meth c s₁ hret hx hby hlk hml hown hnm X0 e0 hZ hh
  have N0 := Fr.nil n0
  refine Gs (fun _ tk => castTop (own_ef_rs_i4_3 m a x) tk) ?_
  have KP : Keep h0 h0 [a] := Keep.refl _ _
  show Goes _ _ _ _ _ (s₁.setTop (mkF m 0 #[.val (.ref a), .val (.ref x), .val (.int (0 : Int32)), .val (.int (3 : Int32)), .val .null, .unset] []))
  have hn_c0 := own_latN hL_c0
  have hn_c1 := own_latN hL_c1
  have hn_c2 := own_latN hL_c2
  refine Gs (fun _ tk => XS.aloadN X0.here hx rfl (hb hby d7_0) rfl rfl tk) ?_
  obtain ⟨T1, X1, e1, st1⟩ := initO X0 hx hZ hown (gw hw 25 rfl) (gw hw 26 rfl) (gw hw 27 rfl) e0 (g := (mkF m 1 #[.val (.ref a), .val (.ref x), .val (.int (0 : Int32)), .val (.int (3 : Int32)), .val .null, .unset] [(.ref a)])) rfl (by rw [hml]; rfl) rfl (hb hby d7_1) (by decide) (W := 0) (w0 (Nat.le_of_eq rfl)) (by decide)
  refine Gs st1 ?_
  show Goes _ _ _ _ _ (T1.setTop (mkF m 4 #[.val (.ref a), .val (.ref x), .val (.int (0 : Int32)), .val (.int (3 : Int32)), .val .null, .unset] []))
  refine Gs (fun _ tk => XS.iloadN X1.here hx rfl (hb hby d7_4) rfl tk) ?_
  refine Gs (fun _ tk => XS.ifYes X1.here hx rfl (pc0 := 5) (pc' := 27) rfl (hb hby d7_5) rfl ((if0 _ _).trans (feq (by decide : ¬ ((3 : Int32) = (0 : Int32)))).2) (by decide) (by decide) tk) ?_
  obtain ⟨T2, X2, e2, st2⟩ := getS2 X1 hx hZ hown (host := "") (Or.inl (gw hw 50 rfl)) Via.refl e1 S_COMPACT_STRINGS (g := (mkF m 27 #[.val (.ref a), .val (.ref x), .val (.int (0 : Int32)), .val (.int (3 : Int32)), .val .null, .unset] [])) rfl (hb hby d7_27)
  refine Gs st2 ?_
  show Goes _ _ _ _ _ (T2.setTop (mkF m 30 #[.val (.ref a), .val (.ref x), .val (.int (0 : Int32)), .val (.int (3 : Int32)), .val .null, .unset] [(.int cz)]))
  refine Gs (fun _ tk => XS.ifNo X2.here hx rfl (hb hby d7_30) rfl ((if0 _ _).trans (feq hcz).1) tk) ?_
  refine Gs (fun _ tk => XS.aloadN X2.here hx rfl (hb hby d7_33) rfl rfl tk) ?_
  refine Gs (fun _ tk => XS.iloadN X2.here hx rfl (hb hby d7_34) rfl tk) ?_
  refine Gs (fun _ tk => XS.iloadN X2.here hx rfl (hb hby d7_35) rfl tk) ?_
  have ltc3_a : a < h0.size := A_a.lt
  have ltc3_x : x < h0.size := V_x.lt
  obtain ⟨_, _, ⟨T3, L3, k3, n3⟩, -, X3, ⟨Lc3, hQ3, l3, y3, z3⟩, st3⟩ := Jvm.LawKit.callS X2 hx (y := mN10) hown (mvT hZ (gw hw 51 rfl)) (mvT hZ (gw hw 52 rfl)) (mvT hZ (gw hw 53 rfl)) (mvT hZ (gw hw 54 rfl)) (by decide) (backOf (W := 0) (rs_c3_3 l Z a0 hw [] x kx c0 c1 c2 h0 n0 Z0 V_x (by first | assumption | decide) (by first | assumption | decide) (by first | assumption | decide)) hZ (gw hw 54 rfl) (gw hw 53 rfl) (by decide) (by decide)) (g := (mkF m 36 #[.val (.ref a), .val (.ref x), .val (.int (0 : Int32)), .val (.int (3 : Int32)), .val .null, .unset] [(.int (3 : Int32)), (.int (0 : Int32)), (.ref x)])) rfl (by rw [hml]; rfl) (argsL := [(.ref x), (.int (0 : Int32)), (.int (3 : Int32))]) (rest := []) (lenOf own_pd7 rfl) rfl (w0 (Nat.le_of_eq rfl)) (hb hby d7_36) (fun _ _ => ⟨rfl, e2, (by decide : 0 + 1 ≤ _), (by decide : 0 + 3 ≤ _)⟩)
  dsimp only [Pt.U, Pt.locs, Pt.cells, Pt.slots] at X3 l3 y3 z3 st3 hQ3
  subst l3 y3 z3
  obtain ⟨y3, ky3, rfl, N3q, K3, V_y3_3', g_y3_3', sz_y3_3'⟩ := hQ3
  have N3 := Fr.app N0 N3q
  replace A_a := A_a.keep K3
  replace F_value_a := F_value_a.keep K3 nin0
  replace F_coder_a := F_coder_a.keep K3 nin0
  replace KP := KP.trans K3 all0
  replace Z0 := Nat.le_trans Z0 K3.1
  have V_y3 := V_y3_3'
  have g_y3 := g_y3_3'
  have szc_y3 := sz_y3_3'
  have ne_a_y3 : a ≠ y3 := Nat.ne_of_lt (Nat.lt_of_lt_of_le ltc3_a szc_y3)
  have ne_x_y3 : x ≠ y3 := Nat.ne_of_lt (Nat.lt_of_lt_of_le ltc3_x szc_y3)
  refine Gs st3 ?_
  show Goes _ _ _ _ _ (T3.setTop (mkF m 39 #[.val (.ref a), .val (.ref x), .val (.int (0 : Int32)), .val (.int (3 : Int32)), .val .null, .unset] [(.ref y3)]))
  refine Gs (fun _ tk => XS.astore X3.here hx rfl (hb hby d7_39) rfl rfl (l' := #[.val (.ref a), .val (.ref x), .val (.int (0 : Int32)), .val (.int (3 : Int32)), .val .null, .val (.ref y3)]) rfl tk) ?_
  refine Gs (fun _ tk => XS.aloadN X3.here hx rfl (hb hby d7_41) rfl rfl tk) ?_
  refine Gs (fun _ tk => XS.aload X3.here hx rfl (hb hby d7_42) rfl rfl tk) ?_
  refine Gs (fun _ tk => XS.iloadN X3.here hx rfl (hb hby d7_44) rfl tk) ?_
  obtain ⟨_, _, ⟨T4, L4, k4, n4⟩, -, X4, ⟨Lc4, hQ4, l4, y4, z4⟩, st4⟩ := Jvm.LawKit.callS X3 hx (y := mN11) hown (mvT hZ (gw hw 58 rfl)) (mvT hZ (gw hw 59 rfl)) (mvT hZ (gw hw 53 rfl)) (mvT hZ (gw hw 60 rfl)) (by decide) (backOf (W := 1) (rs_cf_3 l Z a0 hw [] y3 ky3 [(.int (lo8 c0)), (.int (lo8 c1)), (.int (lo8 c2))] T3.heap n0 Z0 V_y3) hZ (gw hw 60 rfl) (gw hw 53 rfl) (by decide) (by decide)) (g := (mkF m 45 #[.val (.ref a), .val (.ref x), .val (.int (0 : Int32)), .val (.int (3 : Int32)), .val .null, .val (.ref y3)] [(.int (3 : Int32)), (.ref y3), (.ref a)])) rfl (by rw [hml]; rfl) (argsL := [(.ref y3), (.int (3 : Int32))]) (rest := [(.ref a)]) (lenOf own_pd8 rfl) rfl (w0 (Nat.le_of_eq rfl)) (hb hby d7_45) (fun _ _ => ⟨rfl, rfl, (by decide : 1 + 0 ≤ _), (by decide : 3 + 0 ≤ _)⟩)
  dsimp only [Pt.U, Pt.locs, Pt.cells, Pt.slots] at X4 l4 y4 z4 st4 hQ4
  subst l4 y4 z4
  obtain ⟨rfl, N4q, e4⟩ := hQ4
  have N4 := Fr.app N3 N4q
  refine Gs st4 ?_
  show Goes _ _ _ _ _ (T4.setTop (mkF m 48 #[.val (.ref a), .val (.ref x), .val (.int (0 : Int32)), .val (.int (3 : Int32)), .val .null, .val (.ref y3)] [(.int (0 : Int32)), (.ref a)]))
  obtain ⟨T5, h5, X5, e5, W5, st5⟩ := putFN X4 hx hZ hown (gw hw 35 rfl) Via.refl e4 F_coder_a A_a (Or.inr ⟨(gw hw 31 rfl), rfl, hnm⟩) (gw hw 15 rfl) (ty := .byte) (v' := .int (0 : Int32)) (by decide) rfl rfl (g := (mkF m 48 #[.val (.ref a), .val (.ref x), .val (.int (0 : Int32)), .val (.int (3 : Int32)), .val .null, .val (.ref y3)] [(.int (0 : Int32)), (.ref a)])) rfl rfl (hb hby d7_48)
  have N5 := Fr.snoc X5 N4 g_a
  replace A_a := A_a.wr W5
  replace F_value_a := F_value_a.other W5 (Or.inr (slot_ne (Or.inr (gw hw 30 rfl)) (Or.inr (gw hw 31 rfl)) (by decide) (t := (.array .byte)) (t' := .byte) (by decide) (by decide)))
  replace V_y3 := V_y3.other W5 (Ne.symm ne_a_y3)
  replace KP := KP.wr W5 (Or.inl (List.mem_of_getElem? (i := 0) rfl))
  replace F_coder_a := F_coder_a.same W5
  replace Z0 : n0 ≤ h5.size := by rw [W5.size]; exact Z0
  refine Gs st5 ?_
  show Goes _ _ _ _ _ (T5.setTop (mkF m 51 #[.val (.ref a), .val (.ref x), .val (.int (0 : Int32)), .val (.int (3 : Int32)), .val .null, .val (.ref y3)] []))
  refine Gs (fun _ tk => XS.aloadN X5.here hx rfl (hb hby d7_51) rfl rfl tk) ?_
  refine Gs (fun _ tk => XS.aload X5.here hx rfl (hb hby d7_52) rfl rfl tk) ?_
  obtain ⟨T6, h6, X6, e6, W6, st6⟩ := putF X5 hx hZ hown (host := "") (Or.inl (gw hw 34 rfl)) Via.refl e5 F_value_a A_a (Or.inr ⟨(gw hw 30 rfl), rfl, hnm⟩) (gw hw 15 rfl) (ty := (.array .byte)) (by decide) rfl rfl (g := (mkF m 54 #[.val (.ref a), .val (.ref x), .val (.int (0 : Int32)), .val (.int (3 : Int32)), .val .null, .val (.ref y3)] [(.ref y3), (.ref a)])) rfl rfl (hb hby d7_54)
  have N6 := Fr.snoc X6 N5 g_a
  replace A_a := A_a.wr W6
  replace F_coder_a := F_coder_a.other W6 (Or.inr (slot_ne (Or.inr (gw hw 31 rfl)) (Or.inr (gw hw 30 rfl)) (by decide) (t := .byte) (t' := (.array .byte)) (by decide) (by decide)))
  replace V_y3 := V_y3.other W6 (Ne.symm ne_a_y3)
  replace KP := KP.wr W6 (Or.inl (List.mem_of_getElem? (i := 0) rfl))
  replace F_value_a := F_value_a.same W6
  replace Z0 : n0 ≤ h6.size := by rw [W6.size]; exact Z0
  refine Gs st6 ?_
  show Goes _ _ _ _ _ (T6.setTop (mkF m 57 #[.val (.ref a), .val (.ref x), .val (.int (0 : Int32)), .val (.int (3 : Int32)), .val .null, .val (.ref y3)] []))
  have T_a : StrOf Z h6 a [c0, c1, c2] := StrOf.latin A_a F_value_a F_coder_a V_y3 (by intro c hc; simp only [List.mem_cons, List.not_mem_nil, or_false] at hc; rcases hc with rfl | rfl | rfl <;> assumption) rfl rfl (Nat.le_of_ble_eq_true rfl)
  refine Goes.ret X6 none (fun _ => rfl) hlk (by decide) (by decide) ?_ (fun fs hr => ?_)
  · rw [e6]; exact ⟨rfl, N6, KP, T_a⟩
  · exact X6.returnOut hx hret (hb hby d7_57) hr
theorem own_ef_rs_i1_3 (m : MethodId) (x0 : Addr) (x1 : Addr) : entryFrame m #[(.ref x0), (.ref x1)] 2 = mkF m 0 #[.val (.ref x0), .val (.ref x1)] [] := by first | (simp [entryFrame, mkF, argsToLocals, Value.category]; done) | rfl
def Q_rs_i1_3 (Z : State) (a : Addr) (x : Addr) (kx : ClassId) (c0 : Int32) (c1 : Int32) (c2 : Int32) (cz : Int32) (h0 : Heap) (n0 : Nat) (v : Option Value) (h : Heap) (L : List Loc) : Prop := v = none ∧ Fr n0 L ∧ Keep h0 h [a] ∧ StrOf Z h a [c0, c1, c2]
set_option maxRecDepth 65536 in
set_option maxHeartbeats 40000000 in
theorem rs_i1_3 (l : Launch) (Z : State) (a0 : Array Value) (hw : ∀ d ∈ tables_1, d.before a0 Z = true) (ws : List Jvm.Cond) (a : Addr) (x : Addr) (kx : ClassId) (c0 : Int32) (c1 : Int32) (c2 : Int32) (cz : Int32) (h0 : Heap) (n0 : Nat) (Z0 : n0 ≤ h0.size) (A_a : Exa Z h0 a "java/lang/String") (F_value_a : Fld Z h0 a "java/lang/String" "value" "[B" .null) (F_coder_a : Fld Z h0 a "java/lang/String" "coder" "B" (.int (0 : Int32))) (V_x : Arv Z h0 x kx .char (3 : Int32) [(.int c0), (.int c1), (.int c2)] (.int (0 : Int32))) (g_a : n0 ≤ a) (ne_x_a : x ≠ a) (S_COMPACT_STRINGS : Sta Z h0 "java/lang/String" "COMPACT_STRINGS" "Z" (.int cz)) (hcz : ¬ (cz = (0 : Int32))) (hL_c0 : Lat c0) (hL_c1 : Lat c1) (hL_c2 : Lat c2) :
    Met l Z mN8 jdk_42_method_3_code 2 none ({ frames := 3, cells := 1, slots := 3, locals := 52 } : Room) ws #[(.ref a), (.ref x)] h0 (Q_rs_i1_3 Z a x kx c0 c1 c2 cz h0 n0) := by
  refine own_met (plainFor_of_name own_pn0) ?_
  intro p e s m below meth c s₁ hret hx hby hlk hml hown hnm X0 e0 hZ hh
  have N0 := Fr.nil n0
  refine Gs (fun _ tk => castTop (own_ef_rs_i1_3 m a x) tk) ?_
  have KP : Keep h0 h0 [a] := Keep.refl _ _
  show Goes _ _ _ _ _ (s₁.setTop (mkF m 0 #[.val (.ref a), .val (.ref x)] []))
  refine Gs (fun _ tk => XS.aloadN X0.here hx rfl (hb hby d8_0) rfl rfl tk) ?_
  refine Gs (fun _ tk => XS.aloadN X0.here hx rfl (hb hby d8_1) rfl rfl tk) ?_
  refine Gs (fun _ tk => XS.iconst X0.here hx rfl (hb hby d8_2) tk) ?_
  refine Gs (fun _ tk => XS.aloadN X0.here hx rfl (hb hby d8_3) rfl rfl tk) ?_
  obtain ⟨cl1, Ar1, -, S1, N1z, -, -⟩ := id V_x
  refine Gs (fun _ tk => X0.arraylength hx (by rw [e0]; exact Ar1.1) (State.isArrayOf_alike hZ.alike Ar1.2.1) (g := (mkF m 4 #[.val (.ref a), .val (.ref x)] [(.ref x), (.int (0 : Int32)), (.ref x), (.ref a)])) rfl rfl (hb hby d8_4) _ tk) ?_
  rw [len_of S1 N1z]
  show Goes _ _ _ _ _ (s₁.setTop (mkF m 5 #[.val (.ref a), .val (.ref x)] [(.int (3 : Int32)), (.int (0 : Int32)), (.ref x), (.ref a)]))
  refine Gs (fun _ tk => XS.aconstNull X0.here hx rfl (hb hby d8_5) tk) ?_
  obtain ⟨_, _, ⟨T2, L2, k2, n2⟩, -, X2, ⟨Lc2, hQ2, l2, y2, z2⟩, st2⟩ := X0.specialBack hx (y := mN7) rfl hown (mvT hZ (gw hw 21 rfl)) (mvT hZ (gw hw 22 rfl)) (mvT hZ (gw hw 24 rfl)) (by decide) (backOf (W := 0) (rs_i4_3 l Z a0 hw [] a x kx c0 c1 c2 cz h0 n0 Z0 A_a F_value_a F_coder_a V_x g_a ne_x_a S_COMPACT_STRINGS (by first | assumption | decide) (by first | assumption | decide) (by first | assumption | decide) (by first | assumption | decide)) hZ (gw hw 24 rfl) (gw hw 16 rfl) (by decide) (by decide)) (g := (mkF m 6 #[.val (.ref a), .val (.ref x)] [.null, (.int (3 : Int32)), (.int (0 : Int32)), (.ref x), (.ref a)])) rfl (by rw [hml]; rfl) (Steps.refl _) (a := a) (argsL := [(.ref x), (.int (0 : Int32)), (.int (3 : Int32)), .null]) (rest := []) (lenOf own_pd5 rfl) rfl (w0 (Nat.le_of_eq rfl)) (hb hby d8_6) (fun _ _ => ⟨rfl, e0, (by decide : 0 + 1 ≤ _), (by decide : 0 + 3 ≤ _)⟩)
  dsimp only [Pt.U, Pt.locs, Pt.cells, Pt.slots] at X2 l2 y2 z2 st2 hQ2
  subst l2 y2 z2
  obtain ⟨rfl, N2q, K2, T_a_2'⟩ := hQ2
  have N2 := Fr.app N0 N2q
  replace KP := KP.trans K2 (allS (Or.inl (List.mem_of_getElem? (i := 0) rfl)) all0)
  replace Z0 := Nat.le_trans Z0 K2.1
  have T_a := T_a_2'
  refine Gs (fun _ tk => st2.trans tk) ?_
  show Goes _ _ _ _ _ (T2.setTop (mkF m 9 #[.val (.ref a), .val (.ref x)] []))
  refine Goes.ret X2 none (fun _ => rfl) hlk (by decide) (by decide) ?_ (fun fs hr => ?_)
  · exact ⟨rfl, N2, KP, T_a⟩
  · exact X2.returnOut hx hret (hb hby d8_9) hr
theorem own_ef_rs_c5_4 (m : MethodId) (x0 : Addr) (x2 : Addr) : entryFrame m #[(.ref x0), (.int (0 : Int32)), (.ref x2), (.int (0 : Int32)), (.int (4 : Int32))] 7 = mkF m 0 #[.val (.ref x0), .val (.int (0 : Int32)), .val (.ref x2), .val (.int (0 : Int32)), .val (.int (4 : Int32)), .unset, .unset] [] := by first | (simp [entryFrame, mkF, argsToLocals, Value.category]; done) | rfl
def Q_rs_c5_4 (Z : State) (x : Addr) (kx : ClassId) (y : Addr) (ky : ClassId) (c0 : Int32) (c1 : Int32) (c2 : Int32) (c3 : Int32) (h0 : Heap) (n0 : Nat) (v : Option Value) (h : Heap) (L : List Loc) : Prop := v = some (.int (4 : Int32)) ∧ Fr n0 L ∧ Keep h0 h [y] ∧ Arv Z h y ky .byte (4 : Int32) [(.int (lo8 c0)), (.int (lo8 c1)), (.int (lo8 c2)), (.int (lo8 c3))] (.int (0 : Int32))
set_option maxRecDepth 65536 in
set_option maxHeartbeats 40000000 in
theorem rs_c5_4 (l : Launch) (Z : State) (a0 : Array Value) (hw : ∀ d ∈ tables_1, d.before a0 Z = true) (ws : List Jvm.Cond) (x : Addr) (kx : ClassId) (y : Addr) (ky : ClassId) (c0 : Int32) (c1 : Int32) (c2 : Int32) (c3 : Int32) (h0 : Heap) (n0 : Nat) (Z0 : n0 ≤ h0.size) (V_x : Arv Z h0 x kx .char (4 : Int32) [(.int c0), (.int c1), (.int c2), (.int c3)] (.int (0 : Int32))) (V_y : Arv Z h0 y ky .byte (4 : Int32) [(.int (0 : Int32)), (.int (0 : Int32)), (.int (0 : Int32)), (.int (0 : Int32))] (.int (0 : Int32))) (g_y : n0 ≤ y) (ne_x_y : x ≠ y) (hL_c0 : Lat c0) (hL_c1 : Lat c1) (hL_c2 : Lat c2) (hL_c3 : Lat c3) :
    Met l Z mN9 jdk_52_method_21_code 7 (some .int) ({ frames := 0, cells := 0, slots := 0, locals := 0 } : Room) ws #[(.ref x), (.int (0 : Int32)), (.ref y), (.int (0 : Int32)), (.int (4 : Int32))] h0 (Q_rs_c5_4 Z x kx y ky c0 c1 c2 c3 h0 n0) := by
  refine own_met (plainFor_of_name own_pn3) ?_
  intro p e s m below meth c s₁ hret hx hby hlk hml hown hnm X0 e0 hZ hh
  have N0 := Fr.nil n0
  refine Gs (fun _ tk => castTop (own_ef_rs_c5_4 m x y) tk) ?_
  have KP : Keep h0 h0 [y] := Keep.refl _ _
  show Goes _ _ _ _ _ (s₁.setTop (mkF m 0 #[.val (.ref x), .val (.int (0 : Int32)), .val (.ref y), .val (.int (0 : Int32)), .val (.int (4 : Int32)), .unset, .unset] []))
  have hn_c0 := own_latN hL_c0
  have hn_c1 := own_latN hL_c1
  have hn_c2 := own_latN hL_c2
  have hn_c3 := own_latN hL_c3
  refine Gs (fun _ tk => XS.iconst X0.here hx rfl (hb hby d9_0) tk) ?_
  refine Gs (fun _ tk => XS.istore X0.here hx rfl (hb hby d9_1) rfl (l' := #[.val (.ref x), .val (.int (0 : Int32)), .val (.ref y), .val (.int (0 : Int32)), .val (.int (4 : Int32)), .val (.int (0 : Int32)), .unset]) rfl tk) ?_
  refine Gs (fun _ tk => XS.iload X0.here hx rfl (hb hby d9_3) rfl tk) ?_
  refine Gs (fun _ tk => XS.iload X0.here hx rfl (hb hby d9_5) rfl tk) ?_
  refine Gs (fun _ tk => XS.icmpNo X0.here hx rfl (hb hby d9_7) rfl (tlt (by decide : ((0 : Int32) < (4 : Int32)))).2.1 tk) ?_
  refine Gs (fun _ tk => XS.aloadN X0.here hx rfl (hb hby d9_10) rfl rfl tk) ?_
  show Goes _ _ _ _ _ (s₁.setTop (mkF m 11 #[.val (.ref x), .val (.int (0 : Int32)), .val (.ref y), .val (.int (0 : Int32)), .val (.int (4 : Int32)), .val (.int (0 : Int32)), .unset] [(.ref x)]))
  refine Gs (fun _ tk => XS.iloadN X0.here hx rfl (hb hby d9_11) rfl tk) ?_
  obtain ⟨cl1, Ar1, -, S1, N1z, H1, -⟩ := id V_x
  have hin1 : ¬ ((0 : Int32) < 0 ∨ cl1.slots.size ≤ ((0 : Int32)).toNatClampNeg) := inb_of S1 ⟨by decide, by decide⟩
  have hat1 : cl1.slots[((0 : Int32)).toNatClampNeg]? = some (.int c0) := Has.at H1 hin1 rfl
  refine Gs (fun _ tk => X0.caload hx (j := (0 : Int32)) (v := (.int c0)) (by rw [e0]; exact Ar1.1) (State.isArrayOf_alike hZ.alike Ar1.2.1) Ar1.2.2 hin1 hat1 (g := (mkF m 12 #[.val (.ref x), .val (.int (0 : Int32)), .val (.ref y), .val (.int (0 : Int32)), .val (.int (4 : Int32)), .val (.int (0 : Int32)), .unset] [(.int (0 : Int32)), (.ref x)])) rfl rfl (hb hby d9_12) _ tk) ?_
  show Goes _ _ _ _ _ (s₁.setTop (mkF m 13 #[.val (.ref x), .val (.int (0 : Int32)), .val (.ref y), .val (.int (0 : Int32)), .val (.int (4 : Int32)), .val (.int (0 : Int32)), .unset] [(.int c0)]))
  refine Gs (fun _ tk => XS.istore X0.here hx rfl (hb hby d9_13) rfl (l' := #[.val (.ref x), .val (.int (0 : Int32)), .val (.ref y), .val (.int (0 : Int32)), .val (.int (4 : Int32)), .val (.int (0 : Int32)), .val (.int c0)]) rfl tk) ?_
  refine Gs (fun _ tk => XS.iload X0.here hx rfl (hb hby d9_15) rfl tk) ?_
  refine Gs (fun _ tk => XS.sipush X0.here hx rfl (hb hby d9_17) tk) ?_
  refine Gs (fun _ tk => XS.icmpYes X0.here hx rfl (pc0 := 20) (pc' := 26) rfl (hb hby d9_20) rfl (flt hn_c0).2.2.2 (by decide) (by decide) tk) ?_
  refine Gs (fun _ tk => XS.aloadN X0.here hx rfl (hb hby d9_26) rfl rfl tk) ?_
  refine Gs (fun _ tk => XS.iloadN X0.here hx rfl (hb hby d9_27) rfl tk) ?_
  show Goes _ _ _ _ _ (s₁.setTop (mkF m 28 #[.val (.ref x), .val (.int (0 : Int32)), .val (.ref y), .val (.int (0 : Int32)), .val (.int (4 : Int32)), .val (.int (0 : Int32)), .val (.int c0)] [(.int (0 : Int32)), (.ref y)]))
  refine Gs (fun _ tk => XS.iload X0.here hx rfl (hb hby d9_28) rfl tk) ?_
  show Goes _ _ _ _ _ (s₁.setTop (mkF m 30 #[.val (.ref x), .val (.int (0 : Int32)), .val (.ref y), .val (.int (0 : Int32)), .val (.int (4 : Int32)), .val (.int (0 : Int32)), .val (.int c0)] [(.int c0), (.int (0 : Int32)), (.ref y)]))
  refine Gs (fun _ tk => XS.i2b X0.here hx rfl (hb hby d9_30) rfl tk) ?_
  show Goes _ _ _ _ _ (s₁.setTop (mkF m 31 #[.val (.ref x), .val (.int (0 : Int32)), .val (.ref y), .val (.int (0 : Int32)), .val (.int (4 : Int32)), .val (.int (0 : Int32)), .val (.int c0)] [(.int (c0.toInt8.toInt32)), (.int (0 : Int32)), (.ref y)]))
  obtain ⟨cl2, Ar2, q2, S2, N2z, H2, G2⟩ := V_y
  have hin2 : ¬ ((0 : Int32) < 0 ∨ cl2.slots.size ≤ ((0 : Int32)).toNatClampNeg) := inb_of S2 ⟨by decide, by decide⟩
  obtain ⟨T2, h2, X2, e2, W2, st2⟩ := stB X0 hx hZ e0 Ar2 (j := (0 : Int32)) hin2 (g := (mkF m 31 #[.val (.ref x), .val (.int (0 : Int32)), .val (.ref y), .val (.int (0 : Int32)), .val (.int (4 : Int32)), .val (.int (0 : Int32)), .val (.int c0)] [(.int (c0.toInt8.toInt32)), (.int (0 : Int32)), (.ref y)])) rfl rfl (hb hby d9_31)
  have Vn2 := Arv.set Ar2 q2 S2 N2z H2 G2 (fits_nar_byte _) W2 0 rfl (Nat.le_of_ble_eq_true rfl)
  have N2 := Fr.snoc X2 N0 g_y
  replace V_x := V_x.other W2 ne_x_y
  replace KP := KP.wr W2 (Or.inl (List.mem_of_getElem? (i := 0) rfl))
  have V_y : Arv Z h2 y ky .byte (4 : Int32) [(.int (lo8 c0)), (.int (0 : Int32)), (.int (0 : Int32)), (.int (0 : Int32))] (.int (0 : Int32)) := by have q := Vn2; rw [own_nb2] at q; exact q
  replace Z0 : n0 ≤ h2.size := by rw [W2.size]; exact Z0
  refine Gs st2 ?_
  show Goes _ _ _ _ _ (T2.setTop (mkF m 32 #[.val (.ref x), .val (.int (0 : Int32)), .val (.ref y), .val (.int (0 : Int32)), .val (.int (4 : Int32)), .val (.int (0 : Int32)), .val (.int c0)] []))
  refine Gs (fun _ tk => XS.iinc X2.here hx rfl (hb hby d9_32) rfl (l' := #[.val (.ref x), .val (.int ((0 : Int32) + (1 : Int32))), .val (.ref y), .val (.int (0 : Int32)), .val (.int (4 : Int32)), .val (.int (0 : Int32)), .val (.int c0)]) rfl tk) ?_
  rw [show ((0 : Int32) + (1 : Int32)) = (1 : Int32) from by decide]
  show Goes _ _ _ _ _ (T2.setTop (mkF m 35 #[.val (.ref x), .val (.int (1 : Int32)), .val (.ref y), .val (.int (0 : Int32)), .val (.int (4 : Int32)), .val (.int (0 : Int32)), .val (.int c0)] []))
  refine Gs (fun _ tk => XS.iinc X2.here hx rfl (hb hby d9_35) rfl (l' := #[.val (.ref x), .val (.int (1 : Int32)), .val (.ref y), .val (.int ((0 : Int32) + (1 : Int32))), .val (.int (4 : Int32)), .val (.int (0 : Int32)), .val (.int c0)]) rfl tk) ?_
  rw [show ((0 : Int32) + (1 : Int32)) = (1 : Int32) from by decide]
  show Goes _ _ _ _ _ (T2.setTop (mkF m 38 #[.val (.ref x), .val (.int (1 : Int32)), .val (.ref y), .val (.int (1 : Int32)), .val (.int (4 : Int32)), .val (.int (0 : Int32)), .val (.int c0)] []))
  refine Gs (fun _ tk => XS.iinc X2.here hx rfl (hb hby d9_38) rfl (l' := #[.val (.ref x), .val (.int (1 : Int32)), .val (.ref y), .val (.int (1 : Int32)), .val (.int (4 : Int32)), .val (.int ((0 : Int32) + (1 : Int32))), .val (.int c0)]) rfl tk) ?_
  rw [show ((0 : Int32) + (1 : Int32)) = (1 : Int32) from by decide]
  show Goes _ _ _ _ _ (T2.setTop (mkF m 41 #[.val (.ref x), .val (.int (1 : Int32)), .val (.ref y), .val (.int (1 : Int32)), .val (.int (4 : Int32)), .val (.int (1 : Int32)), .val (.int c0)] []))
  refine Gs (fun _ tk => XS.goto X2.here hx rfl (pc0 := 41) (pc' := 3) rfl (hb hby d9_41) (by decide) (by decide) tk) ?_
  refine Gs (fun _ tk => XS.iload X2.here hx rfl (hb hby d9_3) rfl tk) ?_
  refine Gs (fun _ tk => XS.iload X2.here hx rfl (hb hby d9_5) rfl tk) ?_
  refine Gs (fun _ tk => XS.icmpNo X2.here hx rfl (hb hby d9_7) rfl (tlt (by decide : ((1 : Int32) < (4 : Int32)))).2.1 tk) ?_
  refine Gs (fun _ tk => XS.aloadN X2.here hx rfl (hb hby d9_10) rfl rfl tk) ?_
  refine Gs (fun _ tk => XS.iloadN X2.here hx rfl (hb hby d9_11) rfl tk) ?_
  show Goes _ _ _ _ _ (T2.setTop (mkF m 12 #[.val (.ref x), .val (.int (1 : Int32)), .val (.ref y), .val (.int (1 : Int32)), .val (.int (4 : Int32)), .val (.int (1 : Int32)), .val (.int c0)] [(.int (1 : Int32)), (.ref x)]))
  obtain ⟨cl3, Ar3, -, S3, N3z, H3, -⟩ := id V_x
  have hin3 : ¬ ((1 : Int32) < 0 ∨ cl3.slots.size ≤ ((1 : Int32)).toNatClampNeg) := inb_of S3 ⟨by decide, by decide⟩
  have hat3 : cl3.slots[((1 : Int32)).toNatClampNeg]? = some (.int c1) := Has.at H3 hin3 rfl
  refine Gs (fun _ tk => X2.caload hx (j := (1 : Int32)) (v := (.int c1)) (by rw [e2]; exact Ar3.1) (State.isArrayOf_alike hZ.alike Ar3.2.1) Ar3.2.2 hin3 hat3 (g := (mkF m 12 #[.val (.ref x), .val (.int (1 : Int32)), .val (.ref y), .val (.int (1 : Int32)), .val (.int (4 : Int32)), .val (.int (1 : Int32)), .val (.int c0)] [(.int (1 : Int32)), (.ref x)])) rfl rfl (hb hby d9_12) _ tk) ?_
  show Goes _ _ _ _ _ (T2.setTop (mkF m 13 #[.val (.ref x), .val (.int (1 : Int32)), .val (.ref y), .val (.int (1 : Int32)), .val (.int (4 : Int32)), .val (.int (1 : Int32)), .val (.int c0)] [(.int c1)]))
  refine Gs (fun _ tk => XS.istore X2.here hx rfl (hb hby d9_13) rfl (l' := #[.val (.ref x), .val (.int (1 : Int32)), .val (.ref y), .val (.int (1 : Int32)), .val (.int (4 : Int32)), .val (.int (1 : Int32)), .val (.int c1)]) rfl tk) ?_
  refine Gs (fun _ tk => XS.iload X2.here hx rfl (hb hby d9_15) rfl tk) ?_
  refine Gs (fun _ tk => XS.sipush X2.here hx rfl (hb hby d9_17) tk) ?_
  refine Gs (fun _ tk => XS.icmpYes X2.here hx rfl (pc0 := 20) (pc' := 26) rfl (hb hby d9_20) rfl (flt hn_c1).2.2.2 (by decide) (by decide) tk) ?_
  refine Gs (fun _ tk => XS.aloadN X2.here hx rfl (hb hby d9_26) rfl rfl tk) ?_
  refine Gs (fun _ tk => XS.iloadN X2.here hx rfl (hb hby d9_27) rfl tk) ?_
  show Goes _ _ _ _ _ (T2.setTop (mkF m 28 #[.val (.ref x), .val (.int (1 : Int32)), .val (.ref y), .val (.int (1 : Int32)), .val (.int (4 : Int32)), .val (.int (1 : Int32)), .val (.int c1)] [(.int (1 : Int32)), (.ref y)]))
  refine Gs (fun _ tk => XS.iload X2.here hx rfl (hb hby d9_28) rfl tk) ?_
  show Goes _ _ _ _ _ (T2.setTop (mkF m 30 #[.val (.ref x), .val (.int (1 : Int32)), .val (.ref y), .val (.int (1 : Int32)), .val (.int (4 : Int32)), .val (.int (1 : Int32)), .val (.int c1)] [(.int c1), (.int (1 : Int32)), (.ref y)]))
  refine Gs (fun _ tk => XS.i2b X2.here hx rfl (hb hby d9_30) rfl tk) ?_
  show Goes _ _ _ _ _ (T2.setTop (mkF m 31 #[.val (.ref x), .val (.int (1 : Int32)), .val (.ref y), .val (.int (1 : Int32)), .val (.int (4 : Int32)), .val (.int (1 : Int32)), .val (.int c1)] [(.int (c1.toInt8.toInt32)), (.int (1 : Int32)), (.ref y)]))
  obtain ⟨cl4, Ar4, q4, S4, N4z, H4, G4⟩ := V_y
  have hin4 : ¬ ((1 : Int32) < 0 ∨ cl4.slots.size ≤ ((1 : Int32)).toNatClampNeg) := inb_of S4 ⟨by decide, by decide⟩
  obtain ⟨T4, h4, X4, e4, W4, st4⟩ := stB X2 hx hZ e2 Ar4 (j := (1 : Int32)) hin4 (g := (mkF m 31 #[.val (.ref x), .val (.int (1 : Int32)), .val (.ref y), .val (.int (1 : Int32)), .val (.int (4 : Int32)), .val (.int (1 : Int32)), .val (.int c1)] [(.int (c1.toInt8.toInt32)), (.int (1 : Int32)), (.ref y)])) rfl rfl (hb hby d9_31)
  have Vn4 := Arv.set Ar4 q4 S4 N4z H4 G4 (fits_nar_byte _) W4 1 rfl (Nat.le_of_ble_eq_true rfl)
  have N4 := Fr.snoc X4 N2 g_y
  replace V_x := V_x.other W4 ne_x_y
  replace KP := KP.wr W4 (Or.inl (List.mem_of_getElem? (i := 0) rfl))
  have V_y : Arv Z h4 y ky .byte (4 : Int32) [(.int (lo8 c0)), (.int (lo8 c1)), (.int (0 : Int32)), (.int (0 : Int32))] (.int (0 : Int32)) := by have q := Vn4; rw [own_nb2] at q; exact q
  replace Z0 : n0 ≤ h4.size := by rw [W4.size]; exact Z0
  refine Gs st4 ?_
  show Goes _ _ _ _ _ (T4.setTop (mkF m 32 #[.val (.ref x), .val (.int (1 : Int32)), .val (.ref y), .val (.int (1 : Int32)), .val (.int (4 : Int32)), .val (.int (1 : Int32)), .val (.int c1)] []))
  refine Gs (fun _ tk => XS.iinc X4.here hx rfl (hb hby d9_32) rfl (l' := #[.val (.ref x), .val (.int ((1 : Int32) + (1 : Int32))), .val (.ref y), .val (.int (1 : Int32)), .val (.int (4 : Int32)), .val (.int (1 : Int32)), .val (.int c1)]) rfl tk) ?_
  rw [show ((1 : Int32) + (1 : Int32)) = (2 : Int32) from by decide]
  show Goes _ _ _ _ _ (T4.setTop (mkF m 35 #[.val (.ref x), .val (.int (2 : Int32)), .val (.ref y), .val (.int (1 : Int32)), .val (.int (4 : Int32)), .val (.int (1 : Int32)), .val (.int c1)] []))
  refine Gs (fun _ tk => XS.iinc X4.here hx rfl (hb hby d9_35) rfl (l' := #[.val (.ref x), .val (.int (2 : Int32)), .val (.ref y), .val (.int ((1 : Int32) + (1 : Int32))), .val (.int (4 : Int32)), .val (.int (1 : Int32)), .val (.int c1)]) rfl tk) ?_
  rw [show ((1 : Int32) + (1 : Int32)) = (2 : Int32) from by decide]
  show Goes _ _ _ _ _ (T4.setTop (mkF m 38 #[.val (.ref x), .val (.int (2 : Int32)), .val (.ref y), .val (.int (2 : Int32)), .val (.int (4 : Int32)), .val (.int (1 : Int32)), .val (.int c1)] []))
  refine Gs (fun _ tk => XS.iinc X4.here hx rfl (hb hby d9_38) rfl (l' := #[.val (.ref x), .val (.int (2 : Int32)), .val (.ref y), .val (.int (2 : Int32)), .val (.int (4 : Int32)), .val (.int ((1 : Int32) + (1 : Int32))), .val (.int c1)]) rfl tk) ?_
  rw [show ((1 : Int32) + (1 : Int32)) = (2 : Int32) from by decide]
  show Goes _ _ _ _ _ (T4.setTop (mkF m 41 #[.val (.ref x), .val (.int (2 : Int32)), .val (.ref y), .val (.int (2 : Int32)), .val (.int (4 : Int32)), .val (.int (2 : Int32)), .val (.int c1)] []))
  refine Gs (fun _ tk => XS.goto X4.here hx rfl (pc0 := 41) (pc' := 3) rfl (hb hby d9_41) (by decide) (by decide) tk) ?_
  refine Gs (fun _ tk => XS.iload X4.here hx rfl (hb hby d9_3) rfl tk) ?_
  refine Gs (fun _ tk => XS.iload X4.here hx rfl (hb hby d9_5) rfl tk) ?_
  refine Gs (fun _ tk => XS.icmpNo X4.here hx rfl (hb hby d9_7) rfl (tlt (by decide : ((2 : Int32) < (4 : Int32)))).2.1 tk) ?_
  refine Gs (fun _ tk => XS.aloadN X4.here hx rfl (hb hby d9_10) rfl rfl tk) ?_
  refine Gs (fun _ tk => XS.iloadN X4.here hx rfl (hb hby d9_11) rfl tk) ?_
  show Goes _ _ _ _ _ (T4.setTop (mkF m 12 #[.val (.ref x), .val (.int (2 : Int32)), .val (.ref y), .val (.int (2 : Int32)), .val (.int (4 : Int32)), .val (.int (2 : Int32)), .val (.int c1)] [(.int (2 : Int32)), (.ref x)]))
  obtain ⟨cl5, Ar5, -, S5, N5z, H5, -⟩ := id V_x
  have hin5 : ¬ ((2 : Int32) < 0 ∨ cl5.slots.size ≤ ((2 : Int32)).toNatClampNeg) := inb_of S5 ⟨by decide, by decide⟩
  have hat5 : cl5.slots[((2 : Int32)).toNatClampNeg]? = some (.int c2) := Has.at H5 hin5 rfl
  refine Gs (fun _ tk => X4.caload hx (j := (2 : Int32)) (v := (.int c2)) (by rw [e4]; exact Ar5.1) (State.isArrayOf_alike hZ.alike Ar5.2.1) Ar5.2.2 hin5 hat5 (g := (mkF m 12 #[.val (.ref x), .val (.int (2 : Int32)), .val (.ref y), .val (.int (2 : Int32)), .val (.int (4 : Int32)), .val (.int (2 : Int32)), .val (.int c1)] [(.int (2 : Int32)), (.ref x)])) rfl rfl (hb hby d9_12) _ tk) ?_
  show Goes _ _ _ _ _ (T4.setTop (mkF m 13 #[.val (.ref x), .val (.int (2 : Int32)), .val (.ref y), .val (.int (2 : Int32)), .val (.int (4 : Int32)), .val (.int (2 : Int32)), .val (.int c1)] [(.int c2)]))
  refine Gs (fun _ tk => XS.istore X4.here hx rfl (hb hby d9_13) rfl (l' := #[.val (.ref x), .val (.int (2 : Int32)), .val (.ref y), .val (.int (2 : Int32)), .val (.int (4 : Int32)), .val (.int (2 : Int32)), .val (.int c2)]) rfl tk) ?_
  refine Gs (fun _ tk => XS.iload X4.here hx rfl (hb hby d9_15) rfl tk) ?_
  refine Gs (fun _ tk => XS.sipush X4.here hx rfl (hb hby d9_17) tk) ?_
  refine Gs (fun _ tk => XS.icmpYes X4.here hx rfl (pc0 := 20) (pc' := 26) rfl (hb hby d9_20) rfl (flt hn_c2).2.2.2 (by decide) (by decide) tk) ?_
  refine Gs (fun _ tk => XS.aloadN X4.here hx rfl (hb hby d9_26) rfl rfl tk) ?_
  refine Gs (fun _ tk => XS.iloadN X4.here hx rfl (hb hby d9_27) rfl tk) ?_
  show Goes _ _ _ _ _ (T4.setTop (mkF m 28 #[.val (.ref x), .val (.int (2 : Int32)), .val (.ref y), .val (.int (2 : Int32)), .val (.int (4 : Int32)), .val (.int (2 : Int32)), .val (.int c2)] [(.int (2 : Int32)), (.ref y)]))
  refine Gs (fun _ tk => XS.iload X4.here hx rfl (hb hby d9_28) rfl tk) ?_
  show Goes _ _ _ _ _ (T4.setTop (mkF m 30 #[.val (.ref x), .val (.int (2 : Int32)), .val (.ref y), .val (.int (2 : Int32)), .val (.int (4 : Int32)), .val (.int (2 : Int32)), .val (.int c2)] [(.int c2), (.int (2 : Int32)), (.ref y)]))
  refine Gs (fun _ tk => XS.i2b X4.here hx rfl (hb hby d9_30) rfl tk) ?_
  show Goes _ _ _ _ _ (T4.setTop (mkF m 31 #[.val (.ref x), .val (.int (2 : Int32)), .val (.ref y), .val (.int (2 : Int32)), .val (.int (4 : Int32)), .val (.int (2 : Int32)), .val (.int c2)] [(.int (c2.toInt8.toInt32)), (.int (2 : Int32)), (.ref y)]))
  obtain ⟨cl6, Ar6, q6, S6, N6z, H6, G6⟩ := V_y
  have hin6 : ¬ ((2 : Int32) < 0 ∨ cl6.slots.size ≤ ((2 : Int32)).toNatClampNeg) := inb_of S6 ⟨by decide, by decide⟩
  obtain ⟨T6, h6, X6, e6, W6, st6⟩ := stB X4 hx hZ e4 Ar6 (j := (2 : Int32)) hin6 (g := (mkF m 31 #[.val (.ref x), .val (.int (2 : Int32)), .val (.ref y), .val (.int (2 : Int32)), .val (.int (4 : Int32)), .val (.int (2 : Int32)), .val (.int c2)] [(.int (c2.toInt8.toInt32)), (.int (2 : Int32)), (.ref y)])) rfl rfl (hb hby d9_31)
  have Vn6 := Arv.set Ar6 q6 S6 N6z H6 G6 (fits_nar_byte _) W6 2 rfl (Nat.le_of_ble_eq_true rfl)
  have N6 := Fr.snoc X6 N4 g_y
  replace V_x := V_x.other W6 ne_x_y
  replace KP := KP.wr W6 (Or.inl (List.mem_of_getElem? (i := 0) rfl))
  have V_y : Arv Z h6 y ky .byte (4 : Int32) [(.int (lo8 c0)), (.int (lo8 c1)), (.int (lo8 c2)), (.int (0 : Int32))] (.int (0 : Int32)) := by have q := Vn6; rw [own_nb2] at q; exact q
  replace Z0 : n0 ≤ h6.size := by rw [W6.size]; exact Z0
  refine Gs st6 ?_
  show Goes _ _ _ _ _ (T6.setTop (mkF m 32 #[.val (.ref x), .val (.int (2 : Int32)), .val (.ref y), .val (.int (2 : Int32)), .val (.int (4 : Int32)), .val (.int (2 : Int32)), .val (.int c2)] []))
  refine Gs (fun _ tk => XS.iinc X6.here hx rfl (hb hby d9_32) rfl (l' := #[.val (.ref x), .val (.int ((2 : Int32) + (1 : Int32))), .val (.ref y), .val (.int (2 : Int32)), .val (.int (4 : Int32)), .val (.int (2 : Int32)), .val (.int c2)]) rfl tk) ?_
  rw [show ((2 : Int32) + (1 : Int32)) = (3 : Int32) from by decide]
  show Goes _ _ _ _ _ (T6.setTop (mkF m 35 #[.val (.ref x), .val (.int (3 : Int32)), .val (.ref y), .val (.int (2 : Int32)), .val (.int (4 : Int32)), .val (.int (2 : Int32)), .val (.int c2)] []))
  refine Gs (fun _ tk => XS.iinc X6.here hx rfl (hb hby d9_35) rfl (l' := #[.val (.ref x), .val (.int (3 : Int32)), .val (.ref y), .val (.int ((2 : Int32) + (1 : Int32))), .val (.int (4 : Int32)), .val (.int (2 : Int32)), .val (.int c2)]) rfl tk) ?_
  rw [show ((2 : Int32) + (1 : Int32)) = (3 : Int32) from by decide]
  show Goes _ _ _ _ _ (T6.setTop (mkF m 38 #[.val (.ref x), .val (.int (3 : Int32)), .val (.ref y), .val (.int (3 : Int32)), .val (.int (4 : Int32)), .val (.int (2 : Int32)), .val (.int c2)] []))
  refine Gs (fun _ tk => XS.iinc X6.here hx rfl (hb hby d9_38) rfl (l' := #[.val (.ref x), .val (.int (3 : Int32)), .val (.ref y), .val (.int (3 : Int32)), .val (.int (4 : Int32)), .val (.int ((2 : Int32) + (1 : Int32))), .val (.int c2)]) rfl tk) ?_
  rw [show ((2 : Int32) + (1 : Int32)) = (3 : Int32) from by decide]
  show Goes _ _ _ _ _ (T6.setTop (mkF m 41 #[.val (.ref x), .val (.int (3 : Int32)), .val (.ref y), .val (.int (3 : Int32)), .val (.int (4 : Int32)), .val (.int (3 : Int32)), .val (.int c2)] []))
  refine Gs (fun _ tk => XS.goto X6.here hx rfl (pc0 := 41) (pc' := 3) rfl (hb hby d9_41) (by decide) (by decide) tk) ?_
  refine Gs (fun _ tk => XS.iload X6.here hx rfl (hb hby d9_3) rfl tk) ?_
  refine Gs (fun _ tk => XS.iload X6.here hx rfl (hb hby d9_5) rfl tk) ?_
  refine Gs (fun _ tk => XS.icmpNo X6.here hx rfl (hb hby d9_7) rfl (tlt (by decide : ((3 : Int32) < (4 : Int32)))).2.1 tk) ?_
  refine Gs (fun _ tk => XS.aloadN X6.here hx rfl (hb hby d9_10) rfl rfl tk) ?_
  refine Gs (fun _ tk => XS.iloadN X6.here hx rfl (hb hby d9_11) rfl tk) ?_
  show Goes _ _ _ _ _ (T6.setTop (mkF m 12 #[.val (.ref x), .val (.int (3 : Int32)), .val (.ref y), .val (.int (3 : Int32)), .val (.int (4 : Int32)), .val (.int (3 : Int32)), .val (.int c2)] [(.int (3 : Int32)), (.ref x)]))
  obtain ⟨cl7, Ar7, -, S7, N7z, H7, -⟩ := id V_x
  have hin7 : ¬ ((3 : Int32) < 0 ∨ cl7.slots.size ≤ ((3 : Int32)).toNatClampNeg) := inb_of S7 ⟨by decide, by decide⟩
  have hat7 : cl7.slots[((3 : Int32)).toNatClampNeg]? = some (.int c3) := Has.at H7 hin7 rfl
  refine Gs (fun _ tk => X6.caload hx (j := (3 : Int32)) (v := (.int c3)) (by rw [e6]; exact Ar7.1) (State.isArrayOf_alike hZ.alike Ar7.2.1) Ar7.2.2 hin7 hat7 (g := (mkF m 12 #[.val (.ref x), .val (.int (3 : Int32)), .val (.ref y), .val (.int (3 : Int32)), .val (.int (4 : Int32)), .val (.int (3 : Int32)), .val (.int c2)] [(.int (3 : Int32)), (.ref x)])) rfl rfl (hb hby d9_12) _ tk) ?_
  show Goes _ _ _ _ _ (T6.setTop (mkF m 13 #[.val (.ref x), .val (.int (3 : Int32)), .val (.ref y), .val (.int (3 : Int32)), .val (.int (4 : Int32)), .val (.int (3 : Int32)), .val (.int c2)] [(.int c3)]))
  refine Gs (fun _ tk => XS.istore X6.here hx rfl (hb hby d9_13) rfl (l' := #[.val (.ref x), .val (.int (3 : Int32)), .val (.ref y), .val (.int (3 : Int32)), .val (.int (4 : Int32)), .val (.int (3 : Int32)), .val (.int c3)]) rfl tk) ?_
  refine Gs (fun _ tk => XS.iload X6.here hx rfl (hb hby d9_15) rfl tk) ?_
  refine Gs (fun _ tk => XS.sipush X6.here hx rfl (hb hby d9_17) tk) ?_
  refine Gs (fun _ tk => XS.icmpYes X6.here hx rfl (pc0 := 20) (pc' := 26) rfl (hb hby d9_20) rfl (flt hn_c3).2.2.2 (by decide) (by decide) tk) ?_
  refine Gs (fun _ tk => XS.aloadN X6.here hx rfl (hb hby d9_26) rfl rfl tk) ?_
  refine Gs (fun _ tk => XS.iloadN X6.here hx rfl (hb hby d9_27) rfl tk) ?_
  show Goes _ _ _ _ _ (T6.setTop (mkF m 28 #[.val (.ref x), .val (.int (3 : Int32)), .val (.ref y), .val (.int (3 : Int32)), .val (.int (4 : Int32)), .val (.int (3 : Int32)), .val (.int c3)] [(.int (3 : Int32)), (.ref y)]))
  refine Gs (fun _ tk => XS.iload X6.here hx rfl (hb hby d9_28) rfl tk) ?_
  show Goes _ _ _ _ _ (T6.setTop (mkF m 30 #[.val (.ref x), .val (.int (3 : Int32)), .val (.ref y), .val (.int (3 : Int32)), .val (.int (4 : Int32)), .val (.int (3 : Int32)), .val (.int c3)] [(.int c3), (.int (3 : Int32)), (.ref y)]))
  refine Gs (fun _ tk => XS.i2b X6.here hx rfl (hb hby d9_30) rfl tk) ?_
  show Goes _ _ _ _ _ (T6.setTop (mkF m 31 #[.val (.ref x), .val (.int (3 : Int32)), .val (.ref y), .val (.int (3 : Int32)), .val (.int (4 : Int32)), .val (.int (3 : Int32)), .val (.int c3)] [(.int (c3.toInt8.toInt32)), (.int (3 : Int32)), (.ref y)]))
  obtain ⟨cl8, Ar8, q8, S8, N8z, H8, G8⟩ := V_y
  have hin8 : ¬ ((3 : Int32) < 0 ∨ cl8.slots.size ≤ ((3 : Int32)).toNatClampNeg) := inb_of S8 ⟨by decide, by decide⟩
  obtain ⟨T8, h8, X8, e8, W8, st8⟩ := stB X6 hx hZ e6 Ar8 (j := (3 : Int32)) hin8 (g := (mkF m 31 #[.val (.ref x), .val (.int (3 : Int32)), .val (.ref y), .val (.int (3 : Int32)), .val (.int (4 : Int32)), .val (.int (3 : Int32)), .val (.int c3)] [(.int (c3.toInt8.toInt32)), (.int (3 : Int32)), (.ref y)])) rfl rfl (hb hby d9_31)
  have Vn8 := Arv.set Ar8 q8 S8 N8z H8 G8 (fits_nar_byte _) W8 3 rfl (Nat.le_of_ble_eq_true rfl)
  have N8 := Fr.snoc X8 N6 g_y
  replace KP := KP.wr W8 (Or.inl (List.mem_of_getElem? (i := 0) rfl))
  have V_y : Arv Z h8 y ky .byte (4 : Int32) [(.int (lo8 c0)), (.int (lo8 c1)), (.int (lo8 c2)), (.int (lo8 c3))] (.int (0 : Int32)) := by have q := Vn8; rw [own_nb2] at q; exact q
  replace Z0 : n0 ≤ h8.size := by rw [W8.size]; exact Z0
  refine Gs st8 ?_
  show Goes _ _ _ _ _ (T8.setTop (mkF m 32 #[.val (.ref x), .val (.int (3 : Int32)), .val (.ref y), .val (.int (3 : Int32)), .val (.int (4 : Int32)), .val (.int (3 : Int32)), .val (.int c3)] []))
  refine Gs (fun _ tk => XS.iinc X8.here hx rfl (hb hby d9_32) rfl (l' := #[.val (.ref x), .val (.int ((3 : Int32) + (1 : Int32))), .val (.ref y), .val (.int (3 : Int32)), .val (.int (4 : Int32)), .val (.int (3 : Int32)), .val (.int c3)]) rfl tk) ?_
  rw [show ((3 : Int32) + (1 : Int32)) = (4 : Int32) from by decide]
  show Goes _ _ _ _ _ (T8.setTop (mkF m 35 #[.val (.ref x), .val (.int (4 : Int32)), .val (.ref y), .val (.int (3 : Int32)), .val (.int (4 : Int32)), .val (.int (3 : Int32)), .val (.int c3)] []))
  refine Gs (fun _ tk => XS.iinc X8.here hx rfl (hb hby d9_35) rfl (l' := #[.val (.ref x), .val (.int (4 : Int32)), .val (.ref y), .val (.int ((3 : Int32) + (1 : Int32))), .val (.int (4 : Int32)), .val (.int (3 : Int32)), .val (.int c3)]) rfl tk) ?_
  rw [show ((3 : Int32) + (1 : Int32)) = (4 : Int32) from by decide]
  show Goes _ _ _ _ _ (T8.setTop (mkF m 38 #[.val (.ref x), .val (.int (4 : Int32)), .val (.ref y), .val (.int (4 : Int32)), .val (.int (4 : Int32)), .val (.int (3 : Int32)), .val (.int c3)] []))
  refine Gs (fun _ tk => XS.iinc X8.here hx rfl (hb hby d9_38) rfl (l' := #[.val (.ref x), .val (.int (4 : Int32)), .val (.ref y), .val (.int (4 : Int32)), .val (.int (4 : Int32)), .val (.int ((3 : Int32) + (1 : Int32))), .val (.int c3)]) rfl tk) ?_
  rw [show ((3 : Int32) + (1 : Int32)) = (4 : Int32) from by decide]
  show Goes _ _ _ _ _ (T8.setTop (mkF m 41 #[.val (.ref x), .val (.int (4 : Int32)), .val (.ref y), .val (.int (4 : Int32)), .val (.int (4 : Int32)), .val (.int (4 : Int32)), .val (.int c3)] []))
  refine Gs (fun _ tk => XS.goto X8.here hx rfl (pc0 := 41) (pc' := 3) rfl (hb hby d9_41) (by decide) (by decide) tk) ?_
  refine Gs (fun _ tk => XS.iload X8.here hx rfl (hb hby d9_3) rfl tk) ?_
  refine Gs (fun _ tk => XS.iload X8.here hx rfl (hb hby d9_5) rfl tk) ?_
  refine Gs (fun _ tk => XS.icmpYes X8.here hx rfl (pc0 := 7) (pc' := 44) rfl (hb hby d9_7) rfl (flt (by decide : ¬ ((4 : Int32) < (4 : Int32)))).2.1 (by decide) (by decide) tk) ?_
  refine Gs (fun _ tk => XS.iload X8.here hx rfl (hb hby d9_44) rfl tk) ?_
  refine Goes.ret X8 (some (.int (4 : Int32))) (fun h => by rw [hret] at h; cases h) hlk (by decide) (by decide) ?_ (fun fs hr => ?_)
  · rw [e8]; exact ⟨rfl, N8, KP, V_y⟩
  · exact retI X8 hx hret (hb hby d9_46) hr
theorem own_ef_rs_c3_4 (m : MethodId) (x0 : Addr) : entryFrame m #[(.ref x0), (.int (0 : Int32)), (.int (4 : Int32))] 6 = mkF m 0 #[.val (.ref x0), .val (.int (0 : Int32)), .val (.int (4 : Int32)), .unset, .unset, .unset] [] := by first | (simp [entryFrame, mkF, argsToLocals, Value.category]; done) | rfl
def Q_rs_c3_4 (Z : State) (x : Addr) (kx : ClassId) (c0 : Int32) (c1 : Int32) (c2 : Int32) (c3 : Int32) (h0 : Heap) (n0 : Nat) (v : Option Value) (h : Heap) (L : List Loc) : Prop := ∃ y : Addr, ∃ ky : ClassId, v = some (.ref y) ∧ Fr n0 L ∧ Keep h0 h [] ∧ Arv Z h y ky .byte (4 : Int32) [(.int (lo8 c0)), (.int (lo8 c1)), (.int (lo8 c2)), (.int (lo8 c3))] (.int (0 : Int32)) ∧ n0 ≤ y ∧ h0.size ≤ y
set_option maxRecDepth 65536 in
set_option maxHeartbeats 40000000 in
theorem rs_c3_4 (l : Launch) (Z : State) (a0 : Array Value) (hw : ∀ d ∈ tables_1, d.before a0 Z = true) (ws : List Jvm.Cond) (x : Addr) (kx : ClassId) (c0 : Int32) (c1 : Int32) (c2 : Int32) (c3 : Int32) (h0 : Heap) (n0 : Nat) (Z0 : n0 ≤ h0.size) (V_x : Arv Z h0 x kx .char (4 : Int32) [(.int c0), (.int c1), (.int c2), (.int c3)] (.int (0 : Int32))) (hL_c0 : Lat c0) (hL_c1 : Lat c1) (hL_c2 : Lat c2) (hL_c3 : Lat c3) :
    Met l Z mN10 jdk_52_method_16_code 6 (some (.array .byte)) ({ frames := 1, cells := 1, slots := 4, locals := 18 } : Room) ws #[(.ref x), (.int (0 : Int32)), (.int (4 : Int32))] h0 (Q_rs_c3_4 Z x kx c0 c1 c2 c3 h0 n0) := by
  refine own_met (plainFor_of_name own_pn3) ?_
  intro p e s m below meth c s₁ hret hx hby hlk hml hown hnm X0 e0 hZ hh
  have N0 := Fr.nil n0
  refine Gs (fun _ tk => castTop (own_ef_rs_c3_4 m x) tk) ?_
  have KP : Keep h0 h0 [] := Keep.refl _ _
  show Goes _ _ _ _ _ (s₁.setTop (mkF m 0 #[.val (.ref x), .val (.int (0 : Int32)), .val (.int (4 : Int32)), .unset, .unset, .unset] []))
  refine Gs (fun _ tk => XS.iloadN X0.here hx rfl (hb hby d10_0) rfl tk) ?_
  obtain ⟨T1, h1, k1, X1, e1, E1, A1, st1⟩ := newP X0 hx hZ (gw hw 29 rfl) e0 (g := (mkF m 1 #[.val (.ref x), .val (.int (0 : Int32)), .val (.int (4 : Int32)), .unset, .unset, .unset] [(.int (4 : Int32))])) rfl (hb hby d10_1) rfl (by decide) (cap := 4) (by decide) (by decide) (by decide) (by decide)
  obtain ⟨b1, gq1⟩ : ∃ z, z = h0.size := ⟨_, rfl⟩
  rw [← gq1] at A1 st1
  have g_b1 : n0 ≤ b1 := by rw [gq1]; exact Z0
  have sz_b1 : h0.size ≤ b1 := by rw [gq1]; exact KP.1
  have ne_x_b1 : x ≠ b1 := by rw [gq1]; exact Nat.ne_of_lt V_x.lt
  replace V_x := V_x.ext E1
  replace KP := KP.ext E1
  replace Z0 : n0 ≤ h1.size := Nat.le_trans Z0 E1.1
  have V_b1 : Arv Z h1 b1 k1 .byte (4 : Int32) [(.int (0 : Int32)), (.int (0 : Int32)), (.int (0 : Int32)), (.int (0 : Int32))] (.int (0 : Int32)) := (Arv.new A1 (by decide)).pad (pad_rep [] (.int (0 : Int32)) 4)
  refine Gs st1 ?_
  show Goes _ _ _ _ _ (T1.setTop (mkF m 3 #[.val (.ref x), .val (.int (0 : Int32)), .val (.int (4 : Int32)), .unset, .unset, .unset] [(.ref b1)]))
  refine Gs (fun _ tk => XS.astoreN X1.here hx rfl (hb hby d10_3) rfl rfl (l' := #[.val (.ref x), .val (.int (0 : Int32)), .val (.int (4 : Int32)), .val (.ref b1), .unset, .unset]) rfl tk) ?_
  refine Gs (fun _ tk => XS.aloadN X1.here hx rfl (hb hby d10_4) rfl rfl tk) ?_
  refine Gs (fun _ tk => XS.iloadN X1.here hx rfl (hb hby d10_5) rfl tk) ?_
  refine Gs (fun _ tk => XS.aloadN X1.here hx rfl (hb hby d10_6) rfl rfl tk) ?_
  refine Gs (fun _ tk => XS.iconst X1.here hx rfl (hb hby d10_7) tk) ?_
  refine Gs (fun _ tk => XS.iloadN X1.here hx rfl (hb hby d10_8) rfl tk) ?_
  show Goes _ _ _ _ _ (T1.setTop (mkF m 9 #[.val (.ref x), .val (.int (0 : Int32)), .val (.int (4 : Int32)), .val (.ref b1), .unset, .unset] [(.int (4 : Int32)), (.int (0 : Int32)), (.ref b1), (.int (0 : Int32)), (.ref x)]))
  obtain ⟨_, _, ⟨T2, L2, k2, n2⟩, -, X2, ⟨Lc2, hQ2, l2, y2, z2⟩, st2⟩ := Jvm.LawKit.callS X1 hx (y := mN9) hown (mvT hZ (gw hw 55 rfl)) (mvT hZ (gw hw 56 rfl)) (mvT hZ (gw hw 53 rfl)) (mvT hZ (gw hw 57 rfl)) (by decide) (backOf (W := 0) (rs_c5_4 l Z a0 hw [] x kx b1 k1 c0 c1 c2 c3 h1 n0 Z0 V_x V_b1 g_b1 ne_x_b1 (by first | assumption | decide) (by first | assumption | decide) (by first | assumption | decide) (by first | assumption | decide)) hZ (gw hw 57 rfl) (gw hw 53 rfl) (by decide) (by decide)) (g := (mkF m 9 #[.val (.ref x), .val (.int (0 : Int32)), .val (.int (4 : Int32)), .val (.ref b1), .unset, .unset] [(.int (4 : Int32)), (.int (0 : Int32)), (.ref b1), (.int (0 : Int32)), (.ref x)])) rfl (by rw [hml]; rfl) (argsL := [(.ref x), (.int (0 : Int32)), (.ref b1), (.int (0 : Int32)), (.int (4 : Int32))]) (rest := []) (lenOf own_pd6 rfl) rfl (w0 (Nat.le_of_eq rfl)) (hb hby d10_9) (fun _ _ => ⟨rfl, e1, (by decide : 1 + 0 ≤ _), (by decide : 4 + 0 ≤ _)⟩)
  dsimp only [Pt.U, Pt.locs, Pt.cells, Pt.slots] at X2 l2 y2 z2 st2 hQ2
  subst l2 y2 z2
  obtain ⟨rfl, N2q, K2, V_b1_2'⟩ := hQ2
  have N2 := Fr.app N0 N2q
  replace KP := KP.trans K2 (allS (Or.inr sz_b1) all0)
  replace Z0 := Nat.le_trans Z0 K2.1
  have V_b1 := V_b1_2'
  refine Gs st2 ?_
  show Goes _ _ _ _ _ (T2.setTop (mkF m 12 #[.val (.ref x), .val (.int (0 : Int32)), .val (.int (4 : Int32)), .val (.ref b1), .unset, .unset] [(.int (4 : Int32))]))
  refine Gs (fun _ tk => XS.istore X2.here hx rfl (hb hby d10_12) rfl (l' := #[.val (.ref x), .val (.int (0 : Int32)), .val (.int (4 : Int32)), .val (.ref b1), .val (.int (4 : Int32)), .unset]) rfl tk) ?_
  refine Gs (fun _ tk => XS.iload X2.here hx rfl (hb hby d10_14) rfl tk) ?_
  refine Gs (fun _ tk => XS.iloadN X2.here hx rfl (hb hby d10_16) rfl tk) ?_
  refine Gs (fun _ tk => XS.icmpYes X2.here hx rfl (pc0 := 17) (pc' := 57) rfl (hb hby d10_17) rfl (teq (by decide : ((4 : Int32) = (4 : Int32)))).1 (by decide) (by decide) tk) ?_
  refine Gs (fun _ tk => XS.aloadN X2.here hx rfl (hb hby d10_57) rfl rfl tk) ?_
  refine Goes.ret X2 (some (.ref b1)) (fun h => by rw [hret] at h; cases h) hlk (by decide) (by decide) ?_ (fun fs hr => ?_)
  · exact ⟨b1, k1, rfl, N2, KP, V_b1, g_b1, sz_b1⟩
  · exact own_retA X2 hx hret rfl rfl (hb hby d10_58) hr
theorem own_ef_rs_cf_4 (m : MethodId) (x0 : Addr) : entryFrame m #[(.ref x0), (.int (4 : Int32))] 2 = mkF m 0 #[.val (.ref x0), .val (.int (4 : Int32))] [] := by first | (simp [entryFrame, mkF, argsToLocals, Value.category]; done) | rfl
def Q_rs_cf_4 (Z : State) (y : Addr) (ky : ClassId) (vs : List Value) (h0 : Heap) (n0 : Nat) (v : Option Value) (h : Heap) (L : List Loc) : Prop := v = some (.int (0 : Int32)) ∧ Fr n0 L ∧ h = h0
set_option maxRecDepth 65536 in
set_option maxHeartbeats 40000000 in
theorem rs_cf_4 (l : Launch) (Z : State) (a0 : Array Value) (hw : ∀ d ∈ tables_1, d.before a0 Z = true) (ws : List Jvm.Cond) (y : Addr) (ky : ClassId) (vs : List Value) (h0 : Heap) (n0 : Nat) (Z0 : n0 ≤ h0.size) (V_y : Arv Z h0 y ky .byte (4 : Int32) vs (.int (0 : Int32))) :
    Met l Z mN11 jdk_52_method_15_code 2 (some .byte) ({ frames := 0, cells := 0, slots := 0, locals := 0 } : Room) ws #[(.ref y), (.int (4 : Int32))] h0 (Q_rs_cf_4 Z y ky vs h0 n0) := by
  refine own_met (plainFor_of_name own_pn3) ?_
  intro p e s m below meth c s₁ hret hx hby hlk hml hown hnm X0 e0 hZ hh
  have N0 := Fr.nil n0
  refine Gs (fun _ tk => castTop (own_ef_rs_cf_4 m y) tk) ?_
  show Goes _ _ _ _ _ (s₁.setTop (mkF m 0 #[.val (.ref y), .val (.int (4 : Int32))] []))
  refine Gs (fun _ tk => XS.iloadN X0.here hx rfl (hb hby d11_0) rfl tk) ?_
  refine Gs (fun _ tk => XS.aloadN X0.here hx rfl (hb hby d11_1) rfl rfl tk) ?_
  obtain ⟨cl1, Ar1, -, S1, N1z, -, -⟩ := id V_y
  refine Gs (fun _ tk => X0.arraylength hx (by rw [e0]; exact Ar1.1) (State.isArrayOf_alike hZ.alike Ar1.2.1) (g := (mkF m 2 #[.val (.ref y), .val (.int (4 : Int32))] [(.ref y), (.int (4 : Int32))])) rfl rfl (hb hby d11_2) _ tk) ?_
  rw [len_of S1 N1z]
  show Goes _ _ _ _ _ (s₁.setTop (mkF m 3 #[.val (.ref y), .val (.int (4 : Int32))] [(.int (4 : Int32)), (.int (4 : Int32))]))
  refine Gs (fun _ tk => XS.isub X0.here hx rfl (hb hby d11_3) rfl tk) ?_
  rw [show ((4 : Int32) - (4 : Int32)) = (0 : Int32) from by decide]
  show Goes _ _ _ _ _ (s₁.setTop (mkF m 4 #[.val (.ref y), .val (.int (4 : Int32))] [(.int (0 : Int32))]))
  refine Gs (fun _ tk => XS.bipush X0.here hx rfl (hb hby d11_4) tk) ?_
  show Goes _ _ _ _ _ (s₁.setTop (mkF m 6 #[.val (.ref y), .val (.int (4 : Int32))] [(.int (31 : Int32)), (.int (0 : Int32))]))
  refine Gs (fun _ tk => XS.iushr X0.here hx rfl (hb hby d11_6) rfl tk) ?_
  rw [show (((0 : Int32).toUInt32 >>> ((31 : Int32) &&& 31).toUInt32).toInt32) = (0 : Int32) from by decide]
  show Goes _ _ _ _ _ (s₁.setTop (mkF m 7 #[.val (.ref y), .val (.int (4 : Int32))] [(.int (0 : Int32))]))
  refine Gs (fun _ tk => XS.i2b X0.here hx rfl (hb hby d11_7) rfl tk) ?_
  rw [show ((0 : Int32).toInt8.toInt32) = (0 : Int32) from by decide]
  show Goes _ _ _ _ _ (s₁.setTop (mkF m 8 #[.val (.ref y), .val (.int (4 : Int32))] [(.int (0 : Int32))]))
  refine Goes.ret X0 (some (.int (0 : Int32))) (fun h => by rw [hret] at h; cases h) hlk (by decide) (by decide) ?_ (fun fs hr => ?_)
  · exact ⟨rfl, N0, e0⟩
  · exact own_retN X0 hx (t := .byte) hret (by simp) rfl (hb hby d11_8) hr
theorem own_ef_rs_i4_4 (m : MethodId) (x0 : Addr) (x1 : Addr) : entryFrame m #[(.ref x0), (.ref x1), (.int (0 : Int32)), (.int (4 : Int32)), .null] 6 = mkF m 0 #[.val (.ref x0), .val (.ref x1), .val (.int (0 : Int32)), .val (.int (4 : Int32)), .val .null, .unset] [] := by first | (simp [entryFrame, mkF, argsToLocals, Value.category]; done) | rfl
def Q_rs_i4_4 (Z : State) (a : Addr) (x : Addr) (kx : ClassId) (c0 : Int32) (c1 : Int32) (c2 : Int32) (c3 : Int32) (cz : Int32) (h0 : Heap) (n0 : Nat) (v : Option Value) (h : Heap) (L : List Loc) : Prop := v = none ∧ Fr n0 L ∧ Keep h0 h [a] ∧ StrOf Z h a [c0, c1, c2, c3]
set_option maxRecDepth 65536 in
set_option maxHeartbeats 40000000 in
theorem rs_i4_4 (l : Launch) (Z : State) (a0 : Array Value) (hw : ∀ d ∈ tables_1, d.before a0 Z = true) (ws : List Jvm.Cond) (a : Addr) (x : Addr) (kx : ClassId) (c0 : Int32) (c1 : Int32) (c2 : Int32) (c3 : Int32) (cz : Int32) (h0 : Heap) (n0 : Nat) (Z0 : n0 ≤ h0.size) (A_a : Exa Z h0 a "java/lang/String") (F_value_a : Fld Z h0 a "java/lang/String" "value" "[B" .null) (F_coder_a : Fld Z h0 a "java/lang/String" "coder" "B" (.int (0 : Int32))) (V_x : Arv Z h0 x kx .char (4 : Int32) [(.int c0), (.int c1), (.int c2), (.int c3)] (.int (0 : Int32))) (g_a : n0 ≤ a) (ne_x_a : x ≠ a) (S_COMPACT_STRINGS : Sta Z h0 "java/lang/String" "COMPACT_STRINGS" "Z" (.int cz)) (hcz : ¬ (cz = (0 : Int32))) (hL_c0 : Lat c0) (hL_c1 : Lat c1) (hL_c2 : Lat c2) (hL_c3 : Lat c3) :
    Met l Z mN7 jdk_42_method_149_code 6 none ({ frames := 2, cells := 1, slots := 4, locals := 35 } : Room) ws #[(.ref a), (.ref x), (.int (0 : Int32)), (.int (4 : Int32)), .null] h0 (Q_rs_i4_4 Z a x kx c0 c1 c2 c3 cz h0 n0) := by
  refine own_met (plainFor_of_name own_pn0) ?_
  intro p e s m below meth c s₁ hret hx hby hlk hml hown hnm X0 e0 hZ hh
  have N0 := Fr.nil n0
  refine Gs (fun _ tk => castTop (own_ef_rs_i4_4 m a x) tk) ?_
  have KP : Keep h0 h0 [a] := Keep.refl _ _
  show Goes _ _ _ _ _ (s₁.setTop (mkF m 0 #[.val (.ref a), .val (.ref x), .val (.int (0 : Int32)), .val (.int (4 : Int32)), .val .null, .unset] []))
  have hn_c0 := own_latN hL_c0
  have hn_c1 := own_latN hL_c1
  have hn_c2 := own_latN hL_c2
  have hn_c3 := own_latN hL_c3
  refine Gs (fun _ tk => XS.aloadN X0.here hx rfl (hb hby d7_0) rfl rfl tk) ?_
  obtain ⟨T1, X1, e1, st1⟩ := initO X0 hx hZ hown (gw hw 25 rfl) (gw hw 26 rfl) (gw hw 27 rfl) e0 (g := (mkF m 1 #[.val (.ref a), .val (.ref x), .val (.int (0 : Int32)), .val (.int (4 : Int32)), .val .null, .unset] [(.ref a)])) rfl (by rw [hml]; rfl) rfl (hb hby d7_1) (by decide) (W := 0) (w0 (Nat.le_of_eq rfl)) (by decide)
  refine Gs st1 ?_
  show Goes _ _ _ _ _ (T1.setTop (mkF m 4 #[.val (.ref a), .val (.ref x), .val (.int (0 : Int32)), .val (.int (4 : Int32)), .val .null, .unset] []))
  refine Gs (fun _ tk => XS.iloadN X1.here hx rfl (hb hby d7_4) rfl tk) ?_
  refine Gs (fun _ tk => XS.ifYes X1.here hx rfl (pc0 := 5) (pc' := 27) rfl (hb hby d7_5) rfl ((if0 _ _).trans (feq (by decide : ¬ ((4 : Int32) = (0 : Int32)))).2) (by decide) (by decide) tk) ?_
  obtain ⟨T2, X2, e2, st2⟩ := getS2 X1 hx hZ hown (host := "") (Or.inl (gw hw 50 rfl)) Via.refl e1 S_COMPACT_STRINGS (g := (mkF m 27 #[.val (.ref a), .val (.ref x), .val (.int (0 : Int32)), .val (.int (4 : Int32)), .val .null, .unset] [])) rfl (hb hby d7_27)
  refine Gs st2 ?_
  show Goes _ _ _ _ _ (T2.setTop (mkF m 30 #[.val (.ref a), .val (.ref x), .val (.int (0 : Int32)), .val (.int (4 : Int32)), .val .null, .unset] [(.int cz)]))
  refine Gs (fun _ tk => XS.ifNo X2.here hx rfl (hb hby d7_30) rfl ((if0 _ _).trans (feq hcz).1) tk) ?_
  refine Gs (fun _ tk => XS.aloadN X2.here hx rfl (hb hby d7_33) rfl rfl tk) ?_
  refine Gs (fun _ tk => XS.iloadN X2.here hx rfl (hb hby d7_34) rfl tk) ?_
  refine Gs (fun _ tk => XS.iloadN X2.here hx rfl (hb hby d7_35) rfl tk) ?_
  have ltc3_a : a < h0.size := A_a.lt
  have ltc3_x : x < h0.size := V_x.lt
  obtain ⟨_, _, ⟨T3, L3, k3, n3⟩, -, X3, ⟨Lc3, hQ3, l3, y3, z3⟩, st3⟩ := Jvm.LawKit.callS X2 hx (y := mN10) hown (mvT hZ (gw hw 51 rfl)) (mvT hZ (gw hw 52 rfl)) (mvT hZ (gw hw 53 rfl)) (mvT hZ (gw hw 54 rfl)) (by decide) (backOf (W := 0) (rs_c3_4 l Z a0 hw [] x kx c0 c1 c2 c3 h0 n0 Z0 V_x (by first | assumption | decide) (by first | assumption | decide) (by first | assumption | decide) (by first | assumption | decide)) hZ (gw hw 54 rfl) (gw hw 53 rfl) (by decide) (by decide)) (g := (mkF m 36 #[.val (.ref a), .val (.ref x), .val (.int (0 : Int32)), .val (.int (4 : Int32)), .val .null, .unset] [(.int (4 : Int32)), (.int (0 : Int32)), (.ref x)])) rfl (by rw [hml]; rfl) (argsL := [(.ref x), (.int (0 : Int32)), (.int (4 : Int32))]) (rest := []) (lenOf own_pd7 rfl) rfl (w0 (Nat.le_of_eq rfl)) (hb hby d7_36) (fun _ _ => ⟨rfl, e2, (by decide : 0 + 1 ≤ _), (by decide : 0 + 4 ≤ _)⟩)
  dsimp only [Pt.U, Pt.locs, Pt.cells, Pt.slots] at X3 l3 y3 z3 st3 hQ3
  subst l3 y3 z3
  obtain ⟨y3, ky3, rfl, N3q, K3, V_y3_3', g_y3_3', sz_y3_3'⟩ := hQ3
  have N3 := Fr.app N0 N3q
  replace A_a := A_a.keep K3
  replace F_value_a := F_value_a.keep K3 nin0
  replace F_coder_a := F_coder_a.keep K3 nin0
  replace KP := KP.trans K3 all0
  replace Z0 := Nat.le_trans Z0 K3.1
  have V_y3 := V_y3_3'
  have g_y3 := g_y3_3'
  have szc_y3 := sz_y3_3'
  have ne_a_y3 : a ≠ y3 := Nat.ne_of_lt (Nat.lt_of_lt_of_le ltc3_a szc_y3)
  have ne_x_y3 : x ≠ y3 := Nat.ne_of_lt (Nat.lt_of_lt_of_le ltc3_x szc_y3)
  refine Gs st3 ?_
  show Goes _ _ _ _ _ (T3.setTop (mkF m 39 #[.val (.ref a), .val (.ref x), .val (.int (0 : Int32)), .val (.int (4 : Int32)), .val .null, .unset] [(.ref y3)]))
  refine Gs (fun _ tk => XS.astore X3.here hx rfl (hb hby d7_39) rfl rfl (l' := #[.val (.ref a), .val (.ref x), .val (.int (0 : Int32)), .val (.int (4 : Int32)), .val .null, .val (.ref y3)]) rfl tk) ?_
  refine Gs (fun _ tk => XS.aloadN X3.here hx rfl (hb hby d7_41) rfl rfl tk) ?_
  refine Gs (fun _ tk => XS.aload X3.here hx rfl (hb hby d7_42) rfl rfl tk) ?_
  refine Gs (fun _ tk => XS.iloadN X3.here hx rfl (hb hby d7_44) rfl tk) ?_
  obtain ⟨_, _, ⟨T4, L4, k4, n4⟩, -, X4, ⟨Lc4, hQ4, l4, y4, z4⟩, st4⟩ := Jvm.LawKit.callS X3 hx (y := mN11) hown (mvT hZ (gw hw 58 rfl)) (mvT hZ (gw hw 59 rfl)) (mvT hZ (gw hw 53 rfl)) (mvT hZ (gw hw 60 rfl)) (by decide) (backOf (W := 1) (rs_cf_4 l Z a0 hw [] y3 ky3 [(.int (lo8 c0)), (.int (lo8 c1)), (.int (lo8 c2)), (.int (lo8 c3))] T3.heap n0 Z0 V_y3) hZ (gw hw 60 rfl) (gw hw 53 rfl) (by decide) (by decide)) (g := (mkF m 45 #[.val (.ref a), .val (.ref x), .val (.int (0 : Int32)), .val (.int (4 : Int32)), .val .null, .val (.ref y3)] [(.int (4 : Int32)), (.ref y3), (.ref a)])) rfl (by rw [hml]; rfl) (argsL := [(.ref y3), (.int (4 : Int32))]) (rest := [(.ref a)]) (lenOf own_pd8 rfl) rfl (w0 (Nat.le_of_eq rfl)) (hb hby d7_45) (fun _ _ => ⟨rfl, rfl, (by decide : 1 + 0 ≤ _), (by decide : 4 + 0 ≤ _)⟩)
  dsimp only [Pt.U, Pt.locs, Pt.cells, Pt.slots] at X4 l4 y4 z4 st4 hQ4
  subst l4 y4 z4
  obtain ⟨rfl, N4q, e4⟩ := hQ4
  have N4 := Fr.app N3 N4q
  refine Gs st4 ?_
  show Goes _ _ _ _ _ (T4.setTop (mkF m 48 #[.val (.ref a), .val (.ref x), .val (.int (0 : Int32)), .val (.int (4 : Int32)), .val .null, .val (.ref y3)] [(.int (0 : Int32)), (.ref a)]))
  obtain ⟨T5, h5, X5, e5, W5, st5⟩ := putFN X4 hx hZ hown (gw hw 35 rfl) Via.refl e4 F_coder_a A_a (Or.inr ⟨(gw hw 31 rfl), rfl, hnm⟩) (gw hw 15 rfl) (ty := .byte) (v' := .int (0 : Int32)) (by decide) rfl rfl (g := (mkF m 48 #[.val (.ref a), .val (.ref x), .val (.int (0 : Int32)), .val (.int (4 : Int32)), .val .null, .val (.ref y3)] [(.int (0 : Int32)), (.ref a)])) rfl rfl (hb hby d7_48)
  have N5 := Fr.snoc X5 N4 g_a
  replace A_a := A_a.wr W5
  replace F_value_a := F_value_a.other W5 (Or.inr (slot_ne (Or.inr (gw hw 30 rfl)) (Or.inr (gw hw 31 rfl)) (by decide) (t := (.array .byte)) (t' := .byte) (by decide) (by decide)))
  replace V_y3 := V_y3.other W5 (Ne.symm ne_a_y3)
  replace KP := KP.wr W5 (Or.inl (List.mem_of_getElem? (i := 0) rfl))
  replace F_coder_a := F_coder_a.same W5
  replace Z0 : n0 ≤ h5.size := by rw [W5.size]; exact Z0
  refine Gs st5 ?_
  show Goes _ _ _ _ _ (T5.setTop (mkF m 51 #[.val (.ref a), .val (.ref x), .val (.int (0 : Int32)), .val (.int (4 : Int32)), .val .null, .val (.ref y3)] []))
  refine Gs (fun _ tk => XS.aloadN X5.here hx rfl (hb hby d7_51) rfl rfl tk) ?_
  refine Gs (fun _ tk => XS.aload X5.here hx rfl (hb hby d7_52) rfl rfl tk) ?_
  obtain ⟨T6, h6, X6, e6, W6, st6⟩ := putF X5 hx hZ hown (host := "") (Or.inl (gw hw 34 rfl)) Via.refl e5 F_value_a A_a (Or.inr ⟨(gw hw 30 rfl), rfl, hnm⟩) (gw hw 15 rfl) (ty := (.array .byte)) (by decide) rfl rfl (g := (mkF m 54 #[.val (.ref a), .val (.ref x), .val (.int (0 : Int32)), .val (.int (4 : Int32)), .val .null, .val (.ref y3)] [(.ref y3), (.ref a)])) rfl rfl (hb hby d7_54)
  have N6 := Fr.snoc X6 N5 g_a
  replace A_a := A_a.wr W6
  replace F_coder_a := F_coder_a.other W6 (Or.inr (slot_ne (Or.inr (gw hw 31 rfl)) (Or.inr (gw hw 30 rfl)) (by decide) (t := .byte) (t' := (.array .byte)) (by decide) (by decide)))
  replace V_y3 := V_y3.other W6 (Ne.symm ne_a_y3)
  replace KP := KP.wr W6 (Or.inl (List.mem_of_getElem? (i := 0) rfl))
  replace F_value_a := F_value_a.same W6
  replace Z0 : n0 ≤ h6.size := by rw [W6.size]; exact Z0
  refine Gs st6 ?_
  show Goes _ _ _ _ _ (T6.setTop (mkF m 57 #[.val (.ref a), .val (.ref x), .val (.int (0 : Int32)), .val (.int (4 : Int32)), .val .null, .val (.ref y3)] []))
  have T_a : StrOf Z h6 a [c0, c1, c2, c3] := StrOf.latin A_a F_value_a F_coder_a V_y3 (by intro c hc; simp only [List.mem_cons, List.not_mem_nil, or_false] at hc; rcases hc with rfl | rfl | rfl | rfl <;> assumption) rfl rfl (Nat.le_of_ble_eq_true rfl)
  refine Goes.ret X6 none (fun _ => rfl) hlk (by decide) (by decide) ?_ (fun fs hr => ?_)
  · rw [e6]; exact ⟨rfl, N6, KP, T_a⟩
  · exact X6.returnOut hx hret (hb hby d7_57) hr
theorem own_ef_rs_i1_4 (m : MethodId) (x0 : Addr) (x1 : Addr) : entryFrame m #[(.ref x0), (.ref x1)] 2 = mkF m 0 #[.val (.ref x0), .val (.ref x1)] [] := by first | (simp [entryFrame, mkF, argsToLocals, Value.category]; done) | rfl
def Q_rs_i1_4 (Z : State) (a : Addr) (x : Addr) (kx : ClassId) (c0 : Int32) (c1 : Int32) (c2 : Int32) (c3 : Int32) (cz : Int32) (h0 : Heap) (n0 : Nat) (v : Option Value) (h : Heap) (L : List Loc) : Prop := v = none ∧ Fr n0 L ∧ Keep h0 h [a] ∧ StrOf Z h a [c0, c1, c2, c3]
set_option maxRecDepth 65536 in
set_option maxHeartbeats 40000000 in
theorem rs_i1_4 (l : Launch) (Z : State) (a0 : Array Value) (hw : ∀ d ∈ tables_1, d.before a0 Z = true) (ws : List Jvm.Cond) (a : Addr) (x : Addr) (kx : ClassId) (c0 : Int32) (c1 : Int32) (c2 : Int32) (c3 : Int32) (cz : Int32) (h0 : Heap) (n0 : Nat) (Z0 : n0 ≤ h0.size) (A_a : Exa Z h0 a "java/lang/String") (F_value_a : Fld Z h0 a "java/lang/String" "value" "[B" .null) (F_coder_a : Fld Z h0 a "java/lang/String" "coder" "B" (.int (0 : Int32))) (V_x : Arv Z h0 x kx .char (4 : Int32) [(.int c0), (.int c1), (.int c2), (.int c3)] (.int (0 : Int32))) (g_a : n0 ≤ a) (ne_x_a : x ≠ a) (S_COMPACT_STRINGS : Sta Z h0 "java/lang/String" "COMPACT_STRINGS" "Z" (.int cz)) (hcz : ¬ (cz = (0 : Int32))) (hL_c0 : Lat c0) (hL_c1 : Lat c1) (hL_c2 : Lat c2) (hL_c3 : Lat c3) :
    Met l Z mN8 jdk_42_method_3_code 2 none ({ frames := 3, cells := 1, slots := 4, locals := 52 } : Room) ws #[(.ref a), (.ref x)] h0 (Q_rs_i1_4 Z a x kx c0 c1 c2 c3 cz h0 n0) := by
  refine own_met (plainFor_of_name own_pn0) ?_
  intro p e s m below meth c s₁ hret hx hby hlk hml hown hnm X0 e0 hZ hh
  have N0 := Fr.nil n0
  refine Gs (fun _ tk => castTop (own_ef_rs_i1_4 m a x) tk) ?_
  have KP : Keep h0 h0 [a] := Keep.refl _ _
  show Goes _ _ _ _ _ (s₁.setTop (mkF m 0 #[.val (.ref a), .val (.ref x)] []))
  refine Gs (fun _ tk => XS.aloadN X0.here hx rfl (hb hby d8_0) rfl rfl tk) ?_
  refine Gs (fun _ tk => XS.aloadN X0.here hx rfl (hb hby d8_1) rfl rfl tk) ?_
  refine Gs (fun _ tk => XS.iconst X0.here hx rfl (hb hby d8_2) tk) ?_
  refine Gs (fun _ tk => XS.aloadN X0.here hx rfl (hb hby d8_3) rfl rfl tk) ?_
  obtain ⟨cl1, Ar1, -, S1, N1z, -, -⟩ := id V_x
  refine Gs (fun _ tk => X0.arraylength hx (by rw [e0]; exact Ar1.1) (State.isArrayOf_alike hZ.alike Ar1.2.1) (g := (mkF m 4 #[.val (.ref a), .val (.ref x)] [(.ref x), (.int (0 : Int32)), (.ref x), (.ref a)])) rfl rfl (hb hby d8_4) _ tk) ?_
  rw [len_of S1 N1z]
  show Goes _ _ _ _ _ (s₁.setTop (mkF m 5 #[.val (.ref a), .val (.ref x)] [(.int (4 : Int32)), (.int (0 : Int32)), (.ref x), (.ref a)]))
  refine Gs (fun _ tk => XS.aconstNull X0.here hx rfl (hb hby d8_5) tk) ?_
  obtain ⟨_, _, ⟨T2, L2, k2, n2⟩, -, X2, ⟨Lc2, hQ2, l2, y2, z2⟩, st2⟩ := X0.specialBack hx (y := mN7) rfl hown (mvT hZ (gw hw 21 rfl)) (mvT hZ (gw hw 22 rfl)) (mvT hZ (gw hw 24 rfl)) (by decide) (backOf (W := 0) (rs_i4_4 l Z a0 hw [] a x kx c0 c1 c2 c3 cz h0 n0 Z0 A_a F_value_a F_coder_a V_x g_a ne_x_a S_COMPACT_STRINGS (by first | assumption | decide) (by first | assumption | decide) (by first | assumption | decide) (by first | assumption | decide) (by first | assumption | decide)) hZ (gw hw 24 rfl) (gw hw 16 rfl) (by decide) (by decide)) (g := (mkF m 6 #[.val (.ref a), .val (.ref x)] [.null, (.int (4 : Int32)), (.int (0 : Int32)), (.ref x), (.ref a)])) rfl (by rw [hml]; rfl) (Steps.refl _) (a := a) (argsL := [(.ref x), (.int (0 : Int32)), (.int (4 : Int32)), .null]) (rest := []) (lenOf own_pd5 rfl) rfl (w0 (Nat.le_of_eq rfl)) (hb hby d8_6) (fun _ _ => ⟨rfl, e0, (by decide : 0 + 1 ≤ _), (by decide : 0 + 4 ≤ _)⟩)
  dsimp only [Pt.U, Pt.locs, Pt.cells, Pt.slots] at X2 l2 y2 z2 st2 hQ2
  subst l2 y2 z2
  obtain ⟨rfl, N2q, K2, T_a_2'⟩ := hQ2
  have N2 := Fr.app N0 N2q
  replace KP := KP.trans K2 (allS (Or.inl (List.mem_of_getElem? (i := 0) rfl)) all0)
  replace Z0 := Nat.le_trans Z0 K2.1
  have T_a := T_a_2'
  refine Gs (fun _ tk => st2.trans tk) ?_
  show Goes _ _ _ _ _ (T2.setTop (mkF m 9 #[.val (.ref a), .val (.ref x)] []))
  refine Goes.ret X2 none (fun _ => rfl) hlk (by decide) (by decide) ?_ (fun fs hr => ?_)
  · exact ⟨rfl, N2, KP, T_a⟩
  · exact X2.returnOut hx hret (hb hby d8_9) hr
theorem d12_0 : decode method_3_code 0 = .ok (.lload_n 0, 1) := by decide +kernel
theorem d12_1 : decode method_3_code 1 = .ok (.bipush 8, 2) := by decide +kernel
theorem d12_3 : decode method_3_code 3 = .ok (.iload_n 2, 1) := by decide +kernel
theorem d12_4 : decode method_3_code 4 = .ok (.imul, 1) := by decide +kernel
theorem d12_5 : decode method_3_code 5 = .ok (.lushr, 1) := by decide +kernel
theorem d12_6 : decode method_3_code 6 = .ok (.ldc2_w 35, 3) := by decide +kernel
theorem d12_9 : decode method_3_code 9 = .ok (.land, 1) := by decide +kernel
theorem d12_10 : decode method_3_code 10 = .ok (.l2i, 1) := by decide +kernel
theorem d12_11 : decode method_3_code 11 = .ok (.ireturn, 1) := by decide +kernel
theorem own_pn4 : plainName "com/example/token_into_keys/tokenintokeys/text/TextShapeStartsWithPinLaw" = true := by first | (simp [plainName, overriddenIn]; done) | decide +kernel
theorem own_ef_rm_raw (m : MethodId) (x0 : Int64) (x1 : Int32) : entryFrame m #[(.long x0), (.int x1)] 3 = mkF m 0 #[.val (.long x0), .second, .val (.int x1)] [] := by first | (simp [entryFrame, mkF, argsToLocals, Value.category]; done) | rfl
def Q_rm_raw (Z : State) (xx : Int64) (i : Int32) (h0 : Heap) (n0 : Nat) (v : Option Value) (h : Heap) (L : List Loc) : Prop := ∃ r : Int32, v = some (.int r) ∧ Fr n0 L ∧ h = h0 ∧ Lat r
set_option maxRecDepth 65536 in
set_option maxHeartbeats 40000000 in
theorem rm_raw (l : Launch) (Z : State) (a0 : Array Value) (hw : ∀ d ∈ tables_1, d.before a0 Z = true) (ws : List Jvm.Cond) (xx : Int64) (i : Int32) (h0 : Heap) (n0 : Nat) (Z0 : n0 ≤ h0.size) :
    Met l Z mN12 method_3_code 3 (some .int) ({ frames := 0, cells := 0, slots := 0, locals := 0 } : Room) ws #[(.long xx), (.int i)] h0 (Q_rm_raw Z xx i h0 n0) := by
  refine own_met (plainFor_of_name own_pn4) ?_
  intro p e s m below meth c s₁ hret hx hby hlk hml hown hnm X0 e0 hZ hh
  have N0 := Fr.nil n0
  refine Gs (fun _ tk => castTop (own_ef_rm_raw m xx i) tk) ?_
  show Goes _ _ _ _ _ (s₁.setTop (mkF m 0 #[.val (.long xx), .second, .val (.int i)] []))
  refine Gs (fun _ tk => XS.lloadN X0.here hx rfl (hb hby d12_0) rfl tk) ?_
  refine Gs (fun _ tk => XS.bipush X0.here hx rfl (hb hby d12_1) tk) ?_
  refine Gs (fun _ tk => XS.iloadN X0.here hx rfl (hb hby d12_3) rfl tk) ?_
  show Goes _ _ _ _ _ (s₁.setTop (mkF m 4 #[.val (.long xx), .second, .val (.int i)] [(.int i), (.int (8 : Int32)), (.long xx)]))
  refine Gs (fun _ tk => XS.imul X0.here hx rfl (hb hby d12_4) rfl tk) ?_
  show Goes _ _ _ _ _ (s₁.setTop (mkF m 5 #[.val (.long xx), .second, .val (.int i)] [(.int ((8 : Int32) * i)), (.long xx)]))
  refine Gs (fun _ tk => XS.lushr X0.here hx rfl (hb hby d12_5) rfl tk) ?_
  show Goes _ _ _ _ _ (s₁.setTop (mkF m 6 #[.val (.long xx), .second, .val (.int i)] [(.long ((xx.toUInt64 >>> (((8 : Int32) * i) &&& 0x3f).toInt64.toUInt64).toInt64))]))
  refine Gs (fun _ tk => Jvm.Stand.ldc2J X0 hx hown (mvT hZ (gw hw 7 rfl)) rfl (hb hby d12_6) tk) ?_
  show Goes _ _ _ _ _ (s₁.setTop (mkF m 9 #[.val (.long xx), .second, .val (.int i)] [(.long (255 : Int64)), (.long ((xx.toUInt64 >>> (((8 : Int32) * i) &&& 0x3f).toInt64.toUInt64).toInt64))]))
  refine Gs (fun _ tk => XS.land X0.here hx rfl (hb hby d12_9) rfl tk) ?_
  show Goes _ _ _ _ _ (s₁.setTop (mkF m 10 #[.val (.long xx), .second, .val (.int i)] [(.long (((xx.toUInt64 >>> (((8 : Int32) * i) &&& 0x3f).toInt64.toUInt64).toInt64) &&& (255 : Int64)))]))
  refine Gs (fun _ tk => XS.l2i X0.here hx rfl (hb hby d12_10) rfl tk) ?_
  show Goes _ _ _ _ _ (s₁.setTop (mkF m 11 #[.val (.long xx), .second, .val (.int i)] [(.int ((((xx.toUInt64 >>> (((8 : Int32) * i) &&& 0x3f).toInt64.toUInt64).toInt64) &&& (255 : Int64)).toInt32))]))
  refine Goes.ret X0 (some (.int ((((xx.toUInt64 >>> (((8 : Int32) * i) &&& 0x3f).toInt64.toUInt64).toInt64) &&& (255 : Int64)).toInt32))) (fun h => by rw [hret] at h; cases h) hlk (by decide) (by decide) ?_ (fun fs hr => ?_)
  · exact ⟨_, rfl, N0, e0, (own_rawLat _)⟩
  · exact retI X0 hx hret (hb hby d12_11) hr
theorem d13_0 : decode method_4_code 0 = .ok (.iload_n 2, 1) := by decide +kernel
theorem d13_1 : decode method_4_code 1 = .ok (.iload_n 3, 1) := by decide +kernel
theorem d13_2 : decode method_4_code 2 = .ok (.iushr, 1) := by decide +kernel
theorem d13_3 : decode method_4_code 3 = .ok (.iconst 1, 1) := by decide +kernel
theorem d13_4 : decode method_4_code 4 = .ok (.iand, 1) := by decide +kernel
theorem d13_5 : decode method_4_code 5 = .ok (.ifCond .eq 6, 3) := by decide +kernel
theorem d13_11 : decode method_4_code 11 = .ok (.lload_n 0, 1) := by decide +kernel
theorem d13_12 : decode method_4_code 12 = .ok (.iload_n 3, 1) := by decide +kernel
theorem d13_13 : decode method_4_code 13 = .ok (.invokestatic 17, 3) := by decide +kernel
theorem own_pd9 : parseMethodDescriptor "(JI)I" = some ⟨[.long, .int], some .int⟩ := by decide +kernel
theorem d13_16 : decode method_4_code 16 = .ok (.i2c, 1) := by decide +kernel
theorem d13_17 : decode method_4_code 17 = .ok (.ireturn, 1) := by decide +kernel
theorem d13_8 : decode method_4_code 8 = .ok (.bipush 48, 2) := by decide +kernel
theorem d13_10 : decode method_4_code 10 = .ok (.ireturn, 1) := by decide +kernel
theorem own_ef_rm_tpl (m : MethodId) (x0 : Int64) (x1 : Int32) (x2 : Int32) : entryFrame m #[(.long x0), (.int x1), (.int x2)] 4 = mkF m 0 #[.val (.long x0), .second, .val (.int x1), .val (.int x2)] [] := by first | (simp [entryFrame, mkF, argsToLocals, Value.category]; done) | rfl
def Q_rm_tpl (Z : State) (xx : Int64) (mm : Int32) (i : Int32) (h0 : Heap) (n0 : Nat) (v : Option Value) (h : Heap) (L : List Loc) : Prop := ∃ r : Int32, v = some (.int r) ∧ Fr n0 L ∧ h = h0 ∧ Lat r
set_option maxRecDepth 65536 in
set_option maxHeartbeats 40000000 in
theorem rm_tpl (l : Launch) (Z : State) (a0 : Array Value) (hw : ∀ d ∈ tables_1, d.before a0 Z = true) (ws : List Jvm.Cond) (xx : Int64) (mm : Int32) (i : Int32) (h0 : Heap) (n0 : Nat) (Z0 : n0 ≤ h0.size) :
    Met l Z mN13 method_4_code 4 (some .char) ({ frames := 1, cells := 0, slots := 0, locals := 14 } : Room) ws #[(.long xx), (.int mm), (.int i)] h0 (Q_rm_tpl Z xx mm i h0 n0) := by
  refine own_met (plainFor_of_name own_pn4) ?_
  intro p e s m below meth c s₁ hret hx hby hlk hml hown hnm X0 e0 hZ hh
  have N0 := Fr.nil n0
  refine Gs (fun _ tk => castTop (own_ef_rm_tpl m xx mm i) tk) ?_
  show Goes _ _ _ _ _ (s₁.setTop (mkF m 0 #[.val (.long xx), .second, .val (.int mm), .val (.int i)] []))
  refine Gs (fun _ tk => XS.iloadN X0.here hx rfl (hb hby d13_0) rfl tk) ?_
  refine Gs (fun _ tk => XS.iloadN X0.here hx rfl (hb hby d13_1) rfl tk) ?_
  show Goes _ _ _ _ _ (s₁.setTop (mkF m 2 #[.val (.long xx), .second, .val (.int mm), .val (.int i)] [(.int i), (.int mm)]))
  refine Gs (fun _ tk => XS.iushr X0.here hx rfl (hb hby d13_2) rfl tk) ?_
  show Goes _ _ _ _ _ (s₁.setTop (mkF m 3 #[.val (.long xx), .second, .val (.int mm), .val (.int i)] [(.int ((mm.toUInt32 >>> (i &&& 31).toUInt32).toInt32))]))
  refine Gs (fun _ tk => XS.iconst X0.here hx rfl (hb hby d13_3) tk) ?_
  show Goes _ _ _ _ _ (s₁.setTop (mkF m 4 #[.val (.long xx), .second, .val (.int mm), .val (.int i)] [(.int (1 : Int32)), (.int ((mm.toUInt32 >>> (i &&& 31).toUInt32).toInt32))]))
  refine Gs (fun _ tk => XS.iand X0.here hx rfl (hb hby d13_4) rfl tk) ?_
  show Goes _ _ _ _ _ (s₁.setTop (mkF m 5 #[.val (.long xx), .second, .val (.int mm), .val (.int i)] [(.int (((mm.toUInt32 >>> (i &&& 31).toUInt32).toInt32) &&& (1 : Int32)))]))
  by_cases hc5_1 : (((mm.toUInt32 >>> (i &&& 31).toUInt32).toInt32) &&& (1 : Int32)) = (0 : Int32)
  · refine Gs (fun _ tk => XS.ifYes X0.here hx rfl (pc0 := 5) (pc' := 11) rfl (hb hby d13_5) rfl ((if0 _ _).trans (teq hc5_1).1) (by decide) (by decide) tk) ?_
    refine Gs (fun _ tk => XS.lloadN X0.here hx rfl (hb hby d13_11) rfl tk) ?_
    refine Gs (fun _ tk => XS.iloadN X0.here hx rfl (hb hby d13_12) rfl tk) ?_
    obtain ⟨_, _, ⟨T2, L2, k2, n2⟩, -, X2, ⟨Lc2, hQ2, l2, y2, z2⟩, st2⟩ := Jvm.LawKit.callS X0 hx (y := mN12) hown (mvT hZ (gw hw 4 rfl)) (mvT hZ (gw hw 5 rfl)) (mvT hZ (gw hw 2 rfl)) (mvT hZ (gw hw 6 rfl)) (by decide) (backOf (W := 0) (rm_raw l Z a0 hw [] xx i h0 n0 Z0) hZ (gw hw 6 rfl) (gw hw 2 rfl) (by decide) (by decide)) (g := (mkF m 13 #[.val (.long xx), .second, .val (.int mm), .val (.int i)] [(.int i), (.long xx)])) rfl (by rw [hml]; rfl) (argsL := [(.long xx), (.int i)]) (rest := []) (lenOf own_pd9 rfl) rfl (w0 (Nat.le_of_eq rfl)) (hb hby d13_13) (fun _ _ => ⟨rfl, e0, (by decide : 0 + 0 ≤ _), (by decide : 0 + 0 ≤ _)⟩)
    dsimp only [Pt.U, Pt.locs, Pt.cells, Pt.slots] at X2 l2 y2 z2 st2 hQ2
    subst l2 y2 z2
    obtain ⟨r2, rfl, N2q, e2, hLr_2⟩ := hQ2
    have N2 := Fr.app N0 N2q
    refine Gs st2 ?_
    show Goes _ _ _ _ _ (T2.setTop (mkF m 16 #[.val (.long xx), .second, .val (.int mm), .val (.int i)] [(.int r2)]))
    refine Gs (fun _ tk => XS.i2c X2.here hx rfl (hb hby d13_16) rfl tk) ?_
    show Goes _ _ _ _ _ (T2.setTop (mkF m 17 #[.val (.long xx), .second, .val (.int mm), .val (.int i)] [(.int (r2.toUInt32.toUInt16.toUInt32.toInt32))]))
    rw [own_i2c hLr_2.chr]
    show Goes _ _ _ _ _ (T2.setTop (mkF m 17 #[.val (.long xx), .second, .val (.int mm), .val (.int i)] [(.int r2)]))
    refine Goes.ret X2 (some (.int r2)) (fun h => by rw [hret] at h; cases h) hlk (by decide) (by decide) ?_ (fun fs hr => ?_)
    · exact ⟨r2, rfl, N2, e2, hLr_2⟩
    · exact own_retN X2 hx (t := .char) hret (by simp) (own_nc hLr_2.chr) (hb hby d13_17) hr
  · refine Gs (fun _ tk => XS.ifNo X0.here hx rfl (hb hby d13_5) rfl ((if0 _ _).trans (feq hc5_1).1) tk) ?_
    refine Gs (fun _ tk => XS.bipush X0.here hx rfl (hb hby d13_8) tk) ?_
    refine Goes.ret X0 (some (.int (48 : Int32))) (fun h => by rw [hret] at h; cases h) hlk (by decide) (by decide) ?_ (fun fs hr => ?_)
    · exact ⟨(48 : Int32), rfl, N0, e0, ⟨by decide, by decide⟩⟩
    · exact own_retN X0 hx (t := .char) hret (by simp) rfl (hb hby d13_10) hr
theorem d14_0 : decode method_5_code 0 = .ok (.lload_n 0, 1) := by decide +kernel
theorem d14_1 : decode method_5_code 1 = .ok (.iload_n 3, 1) := by decide +kernel
theorem d14_2 : decode method_5_code 2 = .ok (.invokestatic 17, 3) := by decide +kernel
theorem d14_5 : decode method_5_code 5 = .ok (.istore 5, 2) := by decide +kernel
theorem d14_7 : decode method_5_code 7 = .ok (.iload_n 2, 1) := by decide +kernel
theorem d14_8 : decode method_5_code 8 = .ok (.iconst 4, 1) := by decide +kernel
theorem d14_9 : decode method_5_code 9 = .ok (.iconst 2, 1) := by decide +kernel
theorem d14_10 : decode method_5_code 10 = .ok (.iload_n 3, 1) := by decide +kernel
theorem d14_11 : decode method_5_code 11 = .ok (.imul, 1) := by decide +kernel
theorem d14_12 : decode method_5_code 12 = .ok (.iadd, 1) := by decide +kernel
theorem d14_13 : decode method_5_code 13 = .ok (.iushr, 1) := by decide +kernel
theorem d14_14 : decode method_5_code 14 = .ok (.iconst 3, 1) := by decide +kernel
theorem d14_15 : decode method_5_code 15 = .ok (.iand, 1) := by decide +kernel
theorem d14_16 : decode method_5_code 16 = .ok (.istore 6, 2) := by decide +kernel
theorem d14_18 : decode method_5_code 18 = .ok (.iload 6, 2) := by decide +kernel
theorem d14_20 : decode method_5_code 20 = .ok (.iconst 1, 1) := by decide +kernel
theorem d14_21 : decode method_5_code 21 = .ok (.if_icmp .ne 6, 3) := by decide +kernel
theorem d14_24 : decode method_5_code 24 = .ok (.iload 4, 2) := by decide +kernel
theorem d14_26 : decode method_5_code 26 = .ok (.ireturn, 1) := by decide +kernel
theorem d14_27 : decode method_5_code 27 = .ok (.iload 6, 2) := by decide +kernel
theorem d14_29 : decode method_5_code 29 = .ok (.iconst 2, 1) := by decide +kernel
theorem d14_30 : decode method_5_code 30 = .ok (.if_icmp .ne 13, 3) := by decide +kernel
theorem d14_33 : decode method_5_code 33 = .ok (.bipush 47, 2) := by decide +kernel
theorem d14_35 : decode method_5_code 35 = .ok (.iload 5, 2) := by decide +kernel
theorem d14_37 : decode method_5_code 37 = .ok (.bipush 12, 2) := by decide +kernel
theorem d14_39 : decode method_5_code 39 = .ok (.irem, 1) := by decide +kernel
theorem d14_40 : decode method_5_code 40 = .ok (.iadd, 1) := by decide +kernel
theorem d14_41 : decode method_5_code 41 = .ok (.i2c, 1) := by decide +kernel
theorem d14_42 : decode method_5_code 42 = .ok (.ireturn, 1) := by decide +kernel
theorem d14_43 : decode method_5_code 43 = .ok (.iload 5, 2) := by decide +kernel
theorem d14_45 : decode method_5_code 45 = .ok (.i2c, 1) := by decide +kernel
theorem d14_46 : decode method_5_code 46 = .ok (.ireturn, 1) := by decide +kernel
theorem own_ef_rm_txt (m : MethodId) (x0 : Int64) (x1 : Int32) (x2 : Int32) (x3 : Int32) : entryFrame m #[(.long x0), (.int x1), (.int x2), (.int x3)] 7 = mkF m 0 #[.val (.long x0), .second, .val (.int x1), .val (.int x2), .val (.int x3), .unset, .unset] [] := by first | (simp [entryFrame, mkF, argsToLocals, Value.category]; done) | rfl
def Q_rm_txt (Z : State) (xx : Int64) (mm : Int32) (i : Int32) (sm : Int32) (h0 : Heap) (n0 : Nat) (v : Option Value) (h : Heap) (L : List Loc) : Prop := ∃ r : Int32, v = some (.int r) ∧ Fr n0 L ∧ h = h0 ∧ Lat r
set_option maxRecDepth 65536 in
set_option maxHeartbeats 40000000 in
theorem rm_txt (l : Launch) (Z : State) (a0 : Array Value) (hw : ∀ d ∈ tables_1, d.before a0 Z = true) (ws : List Jvm.Cond) (xx : Int64) (mm : Int32) (i : Int32) (sm : Int32) (h0 : Heap) (n0 : Nat) (Z0 : n0 ≤ h0.size) (hLs : Lat sm) :
    Met l Z mN14 method_5_code 7 (some .char) ({ frames := 1, cells := 0, slots := 0, locals := 14 } : Room) ws #[(.long xx), (.int mm), (.int i), (.int sm)] h0 (Q_rm_txt Z xx mm i sm h0 n0) := by
  refine own_met (plainFor_of_name own_pn4) ?_
  intro p e s m below meth c s₁ hret hx hby hlk hml hown hnm X0 e0 hZ hh
  have N0 := Fr.nil n0
  refine Gs (fun _ tk => castTop (own_ef_rm_txt m xx mm i sm) tk) ?_
  show Goes _ _ _ _ _ (s₁.setTop (mkF m 0 #[.val (.long xx), .second, .val (.int mm), .val (.int i), .val (.int sm), .unset, .unset] []))
  refine Gs (fun _ tk => XS.lloadN X0.here hx rfl (hb hby d14_0) rfl tk) ?_
  refine Gs (fun _ tk => XS.iloadN X0.here hx rfl (hb hby d14_1) rfl tk) ?_
  obtain ⟨_, _, ⟨T1, L1, k1, n1⟩, -, X1, ⟨Lc1, hQ1, l1, y1, z1⟩, st1⟩ := Jvm.LawKit.callS X0 hx (y := mN12) hown (mvT hZ (gw hw 4 rfl)) (mvT hZ (gw hw 5 rfl)) (mvT hZ (gw hw 2 rfl)) (mvT hZ (gw hw 6 rfl)) (by decide) (backOf (W := 0) (rm_raw l Z a0 hw [] xx i h0 n0 Z0) hZ (gw hw 6 rfl) (gw hw 2 rfl) (by decide) (by decide)) (g := (mkF m 2 #[.val (.long xx), .second, .val (.int mm), .val (.int i), .val (.int sm), .unset, .unset] [(.int i), (.long xx)])) rfl (by rw [hml]; rfl) (argsL := [(.long xx), (.int i)]) (rest := []) (lenOf own_pd9 rfl) rfl (w0 (Nat.le_of_eq rfl)) (hb hby d14_2) (fun _ _ => ⟨rfl, e0, (by decide : 0 + 0 ≤ _), (by decide : 0 + 0 ≤ _)⟩)
  dsimp only [Pt.U, Pt.locs, Pt.cells, Pt.slots] at X1 l1 y1 z1 st1 hQ1
  subst l1 y1 z1
  obtain ⟨r1, rfl, N1q, e1, hLr_1⟩ := hQ1
  have N1 := Fr.app N0 N1q
  refine Gs st1 ?_
  show Goes _ _ _ _ _ (T1.setTop (mkF m 5 #[.val (.long xx), .second, .val (.int mm), .val (.int i), .val (.int sm), .unset, .unset] [(.int r1)]))
  refine Gs (fun _ tk => XS.istore X1.here hx rfl (hb hby d14_5) rfl (l' := #[.val (.long xx), .second, .val (.int mm), .val (.int i), .val (.int sm), .val (.int r1), .unset]) rfl tk) ?_
  refine Gs (fun _ tk => XS.iloadN X1.here hx rfl (hb hby d14_7) rfl tk) ?_
  refine Gs (fun _ tk => XS.iconst X1.here hx rfl (hb hby d14_8) tk) ?_
  refine Gs (fun _ tk => XS.iconst X1.here hx rfl (hb hby d14_9) tk) ?_
  refine Gs (fun _ tk => XS.iloadN X1.here hx rfl (hb hby d14_10) rfl tk) ?_
  show Goes _ _ _ _ _ (T1.setTop (mkF m 11 #[.val (.long xx), .second, .val (.int mm), .val (.int i), .val (.int sm), .val (.int r1), .unset] [(.int i), (.int (2 : Int32)), (.int (4 : Int32)), (.int mm)]))
  refine Gs (fun _ tk => XS.imul X1.here hx rfl (hb hby d14_11) rfl tk) ?_
  show Goes _ _ _ _ _ (T1.setTop (mkF m 12 #[.val (.long xx), .second, .val (.int mm), .val (.int i), .val (.int sm), .val (.int r1), .unset] [(.int ((2 : Int32) * i)), (.int (4 : Int32)), (.int mm)]))
  refine Gs (fun _ tk => XS.iadd X1.here hx rfl (hb hby d14_12) rfl tk) ?_
  show Goes _ _ _ _ _ (T1.setTop (mkF m 13 #[.val (.long xx), .second, .val (.int mm), .val (.int i), .val (.int sm), .val (.int r1), .unset] [(.int ((4 : Int32) + ((2 : Int32) * i))), (.int mm)]))
  refine Gs (fun _ tk => XS.iushr X1.here hx rfl (hb hby d14_13) rfl tk) ?_
  show Goes _ _ _ _ _ (T1.setTop (mkF m 14 #[.val (.long xx), .second, .val (.int mm), .val (.int i), .val (.int sm), .val (.int r1), .unset] [(.int ((mm.toUInt32 >>> (((4 : Int32) + ((2 : Int32) * i)) &&& 31).toUInt32).toInt32))]))
  refine Gs (fun _ tk => XS.iconst X1.here hx rfl (hb hby d14_14) tk) ?_
  show Goes _ _ _ _ _ (T1.setTop (mkF m 15 #[.val (.long xx), .second, .val (.int mm), .val (.int i), .val (.int sm), .val (.int r1), .unset] [(.int (3 : Int32)), (.int ((mm.toUInt32 >>> (((4 : Int32) + ((2 : Int32) * i)) &&& 31).toUInt32).toInt32))]))
  refine Gs (fun _ tk => XS.iand X1.here hx rfl (hb hby d14_15) rfl tk) ?_
  show Goes _ _ _ _ _ (T1.setTop (mkF m 16 #[.val (.long xx), .second, .val (.int mm), .val (.int i), .val (.int sm), .val (.int r1), .unset] [(.int (((mm.toUInt32 >>> (((4 : Int32) + ((2 : Int32) * i)) &&& 31).toUInt32).toInt32) &&& (3 : Int32)))]))
  refine Gs (fun _ tk => XS.istore X1.here hx rfl (hb hby d14_16) rfl (l' := #[.val (.long xx), .second, .val (.int mm), .val (.int i), .val (.int sm), .val (.int r1), .val (.int (((mm.toUInt32 >>> (((4 : Int32) + ((2 : Int32) * i)) &&& 31).toUInt32).toInt32) &&& (3 : Int32)))]) rfl tk) ?_
  refine Gs (fun _ tk => XS.iload X1.here hx rfl (hb hby d14_18) rfl tk) ?_
  refine Gs (fun _ tk => XS.iconst X1.here hx rfl (hb hby d14_20) tk) ?_
  by_cases hc21_2 : (((mm.toUInt32 >>> (((4 : Int32) + ((2 : Int32) * i)) &&& 31).toUInt32).toInt32) &&& (3 : Int32)) = (1 : Int32)
  · refine Gs (fun _ tk => XS.icmpNo X1.here hx rfl (hb hby d14_21) rfl (teq hc21_2).2 tk) ?_
    refine Gs (fun _ tk => XS.iload X1.here hx rfl (hb hby d14_24) rfl tk) ?_
    refine Goes.ret X1 (some (.int sm)) (fun h => by rw [hret] at h; cases h) hlk (by decide) (by decide) ?_ (fun fs hr => ?_)
    · exact ⟨sm, rfl, N1, e1, hLs⟩
    · exact own_retN X1 hx (t := .char) hret (by simp) (own_nc (hLs).chr) (hb hby d14_26) hr
  · refine Gs (fun _ tk => XS.icmpYes X1.here hx rfl (pc0 := 21) (pc' := 27) rfl (hb hby d14_21) rfl (feq hc21_2).2 (by decide) (by decide) tk) ?_
    refine Gs (fun _ tk => XS.iload X1.here hx rfl (hb hby d14_27) rfl tk) ?_
    refine Gs (fun _ tk => XS.iconst X1.here hx rfl (hb hby d14_29) tk) ?_
    show Goes _ _ _ _ _ (T1.setTop (mkF m 30 #[.val (.long xx), .second, .val (.int mm), .val (.int i), .val (.int sm), .val (.int r1), .val (.int (((mm.toUInt32 >>> (((4 : Int32) + ((2 : Int32) * i)) &&& 31).toUInt32).toInt32) &&& (3 : Int32)))] [(.int (2 : Int32)), (.int (((mm.toUInt32 >>> (((4 : Int32) + ((2 : Int32) * i)) &&& 31).toUInt32).toInt32) &&& (3 : Int32)))]))
    by_cases hc30_3 : (((mm.toUInt32 >>> (((4 : Int32) + ((2 : Int32) * i)) &&& 31).toUInt32).toInt32) &&& (3 : Int32)) = (2 : Int32)
    · refine Gs (fun _ tk => XS.icmpNo X1.here hx rfl (hb hby d14_30) rfl (teq hc30_3).2 tk) ?_
      refine Gs (fun _ tk => XS.bipush X1.here hx rfl (hb hby d14_33) tk) ?_
      refine Gs (fun _ tk => XS.iload X1.here hx rfl (hb hby d14_35) rfl tk) ?_
      refine Gs (fun _ tk => XS.bipush X1.here hx rfl (hb hby d14_37) tk) ?_
      show Goes _ _ _ _ _ (T1.setTop (mkF m 39 #[.val (.long xx), .second, .val (.int mm), .val (.int i), .val (.int sm), .val (.int r1), .val (.int (((mm.toUInt32 >>> (((4 : Int32) + ((2 : Int32) * i)) &&& 31).toUInt32).toInt32) &&& (3 : Int32)))] [(.int (12 : Int32)), (.int r1), (.int (47 : Int32))]))
      refine Gs (fun _ tk => XS.irem X1.here hx rfl (hb hby d14_39) rfl (by decide) tk) ?_
      rw [Jvm.irem_eq_mod]
      show Goes _ _ _ _ _ (T1.setTop (mkF m 40 #[.val (.long xx), .second, .val (.int mm), .val (.int i), .val (.int sm), .val (.int r1), .val (.int (((mm.toUInt32 >>> (((4 : Int32) + ((2 : Int32) * i)) &&& 31).toUInt32).toInt32) &&& (3 : Int32)))] [(.int (r1 % (12 : Int32))), (.int (47 : Int32))]))
      refine Gs (fun _ tk => XS.iadd X1.here hx rfl (hb hby d14_40) rfl tk) ?_
      show Goes _ _ _ _ _ (T1.setTop (mkF m 41 #[.val (.long xx), .second, .val (.int mm), .val (.int i), .val (.int sm), .val (.int r1), .val (.int (((mm.toUInt32 >>> (((4 : Int32) + ((2 : Int32) * i)) &&& 31).toUInt32).toInt32) &&& (3 : Int32)))] [(.int ((47 : Int32) + (r1 % (12 : Int32))))]))
      refine Gs (fun _ tk => XS.i2c X1.here hx rfl (hb hby d14_41) rfl tk) ?_
      show Goes _ _ _ _ _ (T1.setTop (mkF m 42 #[.val (.long xx), .second, .val (.int mm), .val (.int i), .val (.int sm), .val (.int r1), .val (.int (((mm.toUInt32 >>> (((4 : Int32) + ((2 : Int32) * i)) &&& 31).toUInt32).toInt32) &&& (3 : Int32)))] [(.int (((47 : Int32) + (r1 % (12 : Int32))).toUInt32.toUInt16.toUInt32.toInt32))]))
      rw [own_i2c ((own_slash hLr_1)).chr]
      show Goes _ _ _ _ _ (T1.setTop (mkF m 42 #[.val (.long xx), .second, .val (.int mm), .val (.int i), .val (.int sm), .val (.int r1), .val (.int (((mm.toUInt32 >>> (((4 : Int32) + ((2 : Int32) * i)) &&& 31).toUInt32).toInt32) &&& (3 : Int32)))] [(.int ((47 : Int32) + (r1 % (12 : Int32))))]))
      refine Goes.ret X1 (some (.int ((47 : Int32) + (r1 % (12 : Int32))))) (fun h => by rw [hret] at h; cases h) hlk (by decide) (by decide) ?_ (fun fs hr => ?_)
      · exact ⟨((47 : Int32) + (r1 % (12 : Int32))), rfl, N1, e1, (own_slash hLr_1)⟩
      · exact own_retN X1 hx (t := .char) hret (by simp) (own_nc ((own_slash hLr_1)).chr) (hb hby d14_42) hr
    · refine Gs (fun _ tk => XS.icmpYes X1.here hx rfl (pc0 := 30) (pc' := 43) rfl (hb hby d14_30) rfl (feq hc30_3).2 (by decide) (by decide) tk) ?_
      refine Gs (fun _ tk => XS.iload X1.here hx rfl (hb hby d14_43) rfl tk) ?_
      show Goes _ _ _ _ _ (T1.setTop (mkF m 45 #[.val (.long xx), .second, .val (.int mm), .val (.int i), .val (.int sm), .val (.int r1), .val (.int (((mm.toUInt32 >>> (((4 : Int32) + ((2 : Int32) * i)) &&& 31).toUInt32).toInt32) &&& (3 : Int32)))] [(.int r1)]))
      refine Gs (fun _ tk => XS.i2c X1.here hx rfl (hb hby d14_45) rfl tk) ?_
      show Goes _ _ _ _ _ (T1.setTop (mkF m 46 #[.val (.long xx), .second, .val (.int mm), .val (.int i), .val (.int sm), .val (.int r1), .val (.int (((mm.toUInt32 >>> (((4 : Int32) + ((2 : Int32) * i)) &&& 31).toUInt32).toInt32) &&& (3 : Int32)))] [(.int (r1.toUInt32.toUInt16.toUInt32.toInt32))]))
      rw [own_i2c (hLr_1).chr]
      show Goes _ _ _ _ _ (T1.setTop (mkF m 46 #[.val (.long xx), .second, .val (.int mm), .val (.int i), .val (.int sm), .val (.int r1), .val (.int (((mm.toUInt32 >>> (((4 : Int32) + ((2 : Int32) * i)) &&& 31).toUInt32).toInt32) &&& (3 : Int32)))] [(.int r1)]))
      refine Goes.ret X1 (some (.int r1)) (fun h => by rw [hret] at h; cases h) hlk (by decide) (by decide) ?_ (fun fs hr => ?_)
      · exact ⟨r1, rfl, N1, e1, hLr_1⟩
      · exact own_retN X1 hx (t := .char) hret (by simp) (own_nc (hLr_1).chr) (hb hby d14_46) hr
theorem d15_0 : decode method_6_code 0 = .ok (.iload_n 0, 1) := by decide +kernel
theorem d15_1 : decode method_6_code 1 = .ok (.bipush 48, 2) := by decide +kernel
theorem d15_3 : decode method_6_code 3 = .ok (.if_icmp .ne 24, 3) := by decide +kernel
theorem d15_6 : decode method_6_code 6 = .ok (.iload_n 1, 1) := by decide +kernel
theorem d15_7 : decode method_6_code 7 = .ok (.bipush 48, 2) := by decide +kernel
theorem d15_9 : decode method_6_code 9 = .ok (.isub, 1) := by decide +kernel
theorem d15_10 : decode method_6_code 10 = .ok (.istore_n 2, 1) := by decide +kernel
theorem d15_11 : decode method_6_code 11 = .ok (.iload_n 2, 1) := by decide +kernel
theorem d15_12 : decode method_6_code 12 = .ok (.ifCond .lt 13, 3) := by decide +kernel
theorem d15_25 : decode method_6_code 25 = .ok (.iconst 0, 1) := by decide +kernel
theorem d15_26 : decode method_6_code 26 = .ok (.ireturn, 1) := by decide +kernel
theorem d15_15 : decode method_6_code 15 = .ok (.iload_n 2, 1) := by decide +kernel
theorem d15_16 : decode method_6_code 16 = .ok (.bipush 10, 2) := by decide +kernel
theorem d15_18 : decode method_6_code 18 = .ok (.if_icmp .ge 7, 3) := by decide +kernel
theorem d15_21 : decode method_6_code 21 = .ok (.iconst 1, 1) := by decide +kernel
theorem d15_22 : decode method_6_code 22 = .ok (.goto 4, 3) := by decide +kernel
theorem d15_27 : decode method_6_code 27 = .ok (.iload_n 1, 1) := by decide +kernel
theorem d15_28 : decode method_6_code 28 = .ok (.iload_n 0, 1) := by decide +kernel
theorem d15_29 : decode method_6_code 29 = .ok (.if_icmp .ne 7, 3) := by decide +kernel
theorem d15_32 : decode method_6_code 32 = .ok (.iconst 1, 1) := by decide +kernel
theorem d15_33 : decode method_6_code 33 = .ok (.goto 4, 3) := by decide +kernel
theorem d15_37 : decode method_6_code 37 = .ok (.ireturn, 1) := by decide +kernel
theorem d15_36 : decode method_6_code 36 = .ok (.iconst 0, 1) := by decide +kernel
theorem own_ef_rm_fits (m : MethodId) (x0 : Int32) (x1 : Int32) : entryFrame m #[(.int x0), (.int x1)] 3 = mkF m 0 #[.val (.int x0), .val (.int x1), .unset] [] := by first | (simp [entryFrame, mkF, argsToLocals, Value.category]; done) | rfl
def Q_rm_fits (Z : State) (q : Int32) (cc : Int32) (h0 : Heap) (n0 : Nat) (v : Option Value) (h : Heap) (L : List Loc) : Prop := v = some (.int (own_fit2 q cc)) ∧ Fr n0 L ∧ h = h0
set_option maxRecDepth 65536 in
set_option maxHeartbeats 40000000 in
theorem rm_fits (l : Launch) (Z : State) (a0 : Array Value) (hw : ∀ d ∈ tables_1, d.before a0 Z = true) (ws : List Jvm.Cond) (q : Int32) (cc : Int32) (h0 : Heap) (n0 : Nat) (Z0 : n0 ≤ h0.size) (hLc : Lat cc) :
    Met l Z mN15 method_6_code 3 (some .boolean) ({ frames := 0, cells := 0, slots := 0, locals := 0 } : Room) ws #[(.int q), (.int cc)] h0 (Q_rm_fits Z q cc h0 n0) := by
  refine own_met (plainFor_of_name own_pn4) ?_
  intro p e s m below meth c s₁ hret hx hby hlk hml hown hnm X0 e0 hZ hh
  have N0 := Fr.nil n0
  refine Gs (fun _ tk => castTop (own_ef_rm_fits m q cc) tk) ?_
  show Goes _ _ _ _ _ (s₁.setTop (mkF m 0 #[.val (.int q), .val (.int cc), .unset] []))
  have hsub := own_sub48 hLc
  refine Gs (fun _ tk => XS.iloadN X0.here hx rfl (hb hby d15_0) rfl tk) ?_
  refine Gs (fun _ tk => XS.bipush X0.here hx rfl (hb hby d15_1) tk) ?_
  by_cases hc3_1 : q = (48 : Int32)
  · refine Gs (fun _ tk => XS.icmpNo X0.here hx rfl (hb hby d15_3) rfl (teq hc3_1).2 tk) ?_
    refine Gs (fun _ tk => XS.iloadN X0.here hx rfl (hb hby d15_6) rfl tk) ?_
    refine Gs (fun _ tk => XS.bipush X0.here hx rfl (hb hby d15_7) tk) ?_
    show Goes _ _ _ _ _ (s₁.setTop (mkF m 9 #[.val (.int q), .val (.int cc), .unset] [(.int (48 : Int32)), (.int cc)]))
    refine Gs (fun _ tk => XS.isub X0.here hx rfl (hb hby d15_9) rfl tk) ?_
    show Goes _ _ _ _ _ (s₁.setTop (mkF m 10 #[.val (.int q), .val (.int cc), .unset] [(.int (cc - (48 : Int32)))]))
    refine Gs (fun _ tk => XS.istoreN X0.here hx rfl (hb hby d15_10) rfl (l' := #[.val (.int q), .val (.int cc), .val (.int (cc - (48 : Int32)))]) rfl tk) ?_
    refine Gs (fun _ tk => XS.iloadN X0.here hx rfl (hb hby d15_11) rfl tk) ?_
    by_cases hc12_2 : (cc - (48 : Int32)) < (0 : Int32)
    · refine Gs (fun _ tk => XS.ifYes X0.here hx rfl (pc0 := 12) (pc' := 25) rfl (hb hby d15_12) rfl ((if0 _ _).trans (tlt hc12_2).1) (by decide) (by decide) tk) ?_
      refine Gs (fun _ tk => XS.iconst X0.here hx rfl (hb hby d15_25) tk) ?_
      refine Goes.ret X0 (some (.int (0 : Int32))) (fun h => by rw [hret] at h; cases h) hlk (by decide) (by decide) ?_ (fun fs hr => ?_)
      · exact ⟨(by rw [own_fit2, if_pos hc3_1, if_pos (hsub.1.mp hc12_2)]), N0, e0⟩
      · exact own_retN X0 hx (t := .boolean) hret (by simp) rfl (hb hby d15_26) hr
    · refine Gs (fun _ tk => XS.ifNo X0.here hx rfl (hb hby d15_12) rfl ((if0 _ _).trans (flt hc12_2).1) tk) ?_
      refine Gs (fun _ tk => XS.iloadN X0.here hx rfl (hb hby d15_15) rfl tk) ?_
      refine Gs (fun _ tk => XS.bipush X0.here hx rfl (hb hby d15_16) tk) ?_
      by_cases hc18_3 : (cc - (48 : Int32)) < (10 : Int32)
      · refine Gs (fun _ tk => XS.icmpNo X0.here hx rfl (hb hby d15_18) rfl (tlt hc18_3).2.1 tk) ?_
        show Goes _ _ _ _ _ (s₁.setTop (mkF m 21 #[.val (.int q), .val (.int cc), .val (.int (cc - (48 : Int32)))] []))
        refine Gs (fun _ tk => XS.iconst X0.here hx rfl (hb hby d15_21) tk) ?_
        refine Gs (fun _ tk => XS.goto X0.here hx rfl (pc0 := 22) (pc' := 26) rfl (hb hby d15_22) (by decide) (by decide) tk) ?_
        refine Goes.ret X0 (some (.int (1 : Int32))) (fun h => by rw [hret] at h; cases h) hlk (by decide) (by decide) ?_ (fun fs hr => ?_)
        · exact ⟨(by rw [own_fit2, if_pos hc3_1, if_neg (fun q => hc12_2 (hsub.1.mpr q)), if_neg (hsub.2.mp hc18_3)]), N0, e0⟩
        · exact own_retN X0 hx (t := .boolean) hret (by simp) rfl (hb hby d15_26) hr
      · refine Gs (fun _ tk => XS.icmpYes X0.here hx rfl (pc0 := 18) (pc' := 25) rfl (hb hby d15_18) rfl (flt hc18_3).2.1 (by decide) (by decide) tk) ?_
        show Goes _ _ _ _ _ (s₁.setTop (mkF m 25 #[.val (.int q), .val (.int cc), .val (.int (cc - (48 : Int32)))] []))
        refine Gs (fun _ tk => XS.iconst X0.here hx rfl (hb hby d15_25) tk) ?_
        refine Goes.ret X0 (some (.int (0 : Int32))) (fun h => by rw [hret] at h; cases h) hlk (by decide) (by decide) ?_ (fun fs hr => ?_)
        · exact ⟨(by rw [own_fit2, if_pos hc3_1, if_neg (fun q => hc12_2 (hsub.1.mpr q)), if_pos (Decidable.byContradiction fun q => hc18_3 (hsub.2.mpr q))]), N0, e0⟩
        · exact own_retN X0 hx (t := .boolean) hret (by simp) rfl (hb hby d15_26) hr
  · refine Gs (fun _ tk => XS.icmpYes X0.here hx rfl (pc0 := 3) (pc' := 27) rfl (hb hby d15_3) rfl (feq hc3_1).2 (by decide) (by decide) tk) ?_
    refine Gs (fun _ tk => XS.iloadN X0.here hx rfl (hb hby d15_27) rfl tk) ?_
    refine Gs (fun _ tk => XS.iloadN X0.here hx rfl (hb hby d15_28) rfl tk) ?_
    by_cases hc29_4 : cc = q
    · refine Gs (fun _ tk => XS.icmpNo X0.here hx rfl (hb hby d15_29) rfl (teq hc29_4).2 tk) ?_
      show Goes _ _ _ _ _ (s₁.setTop (mkF m 32 #[.val (.int q), .val (.int cc), .unset] []))
      refine Gs (fun _ tk => XS.iconst X0.here hx rfl (hb hby d15_32) tk) ?_
      refine Gs (fun _ tk => XS.goto X0.here hx rfl (pc0 := 33) (pc' := 37) rfl (hb hby d15_33) (by decide) (by decide) tk) ?_
      refine Goes.ret X0 (some (.int (1 : Int32))) (fun h => by rw [hret] at h; cases h) hlk (by decide) (by decide) ?_ (fun fs hr => ?_)
      · exact ⟨(by rw [own_fit2, if_neg hc3_1, if_pos hc29_4]), N0, e0⟩
      · exact own_retN X0 hx (t := .boolean) hret (by simp) rfl (hb hby d15_37) hr
    · refine Gs (fun _ tk => XS.icmpYes X0.here hx rfl (pc0 := 29) (pc' := 36) rfl (hb hby d15_29) rfl (feq hc29_4).2 (by decide) (by decide) tk) ?_
      show Goes _ _ _ _ _ (s₁.setTop (mkF m 36 #[.val (.int q), .val (.int cc), .unset] []))
      refine Gs (fun _ tk => XS.iconst X0.here hx rfl (hb hby d15_36) tk) ?_
      refine Goes.ret X0 (some (.int (0 : Int32))) (fun h => by rw [hret] at h; cases h) hlk (by decide) (by decide) ?_ (fun fs hr => ?_)
      · exact ⟨(by rw [own_fit2, if_neg hc3_1, if_neg hc29_4]), N0, e0⟩
      · exact own_retN X0 hx (t := .boolean) hret (by simp) rfl (hb hby d15_37) hr
theorem d16_0 : decode method_7_code 0 = .ok (.iload_n 0, 1) := by decide +kernel
theorem d16_1 : decode method_7_code 1 = .ok (.ifCond .ne 14, 3) := by decide +kernel
theorem d16_4 : decode method_7_code 4 = .ok (.new 37, 3) := by decide +kernel
theorem d16_7 : decode method_7_code 7 = .ok (.dup, 1) := by decide +kernel
theorem d16_8 : decode method_7_code 8 = .ok (.iconst 0, 1) := by decide +kernel
theorem d16_9 : decode method_7_code 9 = .ok (.newarray .char, 2) := by decide +kernel
theorem d16_11 : decode method_7_code 11 = .ok (.invokespecial 39, 3) := by decide +kernel
theorem own_pd10 : parseMethodDescriptor "([C)V" = some ⟨[(.array .char)], none⟩ := by decide +kernel
theorem d16_14 : decode method_7_code 14 = .ok (.areturn, 1) := by decide +kernel
theorem d16_15 : decode method_7_code 15 = .ok (.iload_n 0, 1) := by decide +kernel
theorem d16_16 : decode method_7_code 16 = .ok (.iconst 1, 1) := by decide +kernel
theorem d16_17 : decode method_7_code 17 = .ok (.if_icmp .ne 18, 3) := by decide +kernel
theorem d16_20 : decode method_7_code 20 = .ok (.new 37, 3) := by decide +kernel
theorem d16_23 : decode method_7_code 23 = .ok (.dup, 1) := by decide +kernel
theorem d16_24 : decode method_7_code 24 = .ok (.iconst 1, 1) := by decide +kernel
theorem d16_25 : decode method_7_code 25 = .ok (.newarray .char, 2) := by decide +kernel
theorem d16_27 : decode method_7_code 27 = .ok (.dup, 1) := by decide +kernel
theorem d16_28 : decode method_7_code 28 = .ok (.iconst 0, 1) := by decide +kernel
theorem d16_29 : decode method_7_code 29 = .ok (.iload_n 1, 1) := by decide +kernel
theorem d16_30 : decode method_7_code 30 = .ok (.castore, 1) := by decide +kernel
theorem d16_31 : decode method_7_code 31 = .ok (.invokespecial 39, 3) := by decide +kernel
theorem d16_34 : decode method_7_code 34 = .ok (.areturn, 1) := by decide +kernel
theorem d16_35 : decode method_7_code 35 = .ok (.iload_n 0, 1) := by decide +kernel
theorem d16_36 : decode method_7_code 36 = .ok (.iconst 2, 1) := by decide +kernel
theorem d16_37 : decode method_7_code 37 = .ok (.if_icmp .ne 22, 3) := by decide +kernel
theorem d16_40 : decode method_7_code 40 = .ok (.new 37, 3) := by decide +kernel
theorem d16_43 : decode method_7_code 43 = .ok (.dup, 1) := by decide +kernel
theorem d16_44 : decode method_7_code 44 = .ok (.iconst 2, 1) := by decide +kernel
theorem d16_45 : decode method_7_code 45 = .ok (.newarray .char, 2) := by decide +kernel
theorem d16_47 : decode method_7_code 47 = .ok (.dup, 1) := by decide +kernel
theorem d16_48 : decode method_7_code 48 = .ok (.iconst 0, 1) := by decide +kernel
theorem d16_49 : decode method_7_code 49 = .ok (.iload_n 1, 1) := by decide +kernel
theorem d16_50 : decode method_7_code 50 = .ok (.castore, 1) := by decide +kernel
theorem d16_51 : decode method_7_code 51 = .ok (.dup, 1) := by decide +kernel
theorem d16_52 : decode method_7_code 52 = .ok (.iconst 1, 1) := by decide +kernel
theorem d16_53 : decode method_7_code 53 = .ok (.iload_n 2, 1) := by decide +kernel
theorem d16_54 : decode method_7_code 54 = .ok (.castore, 1) := by decide +kernel
theorem d16_55 : decode method_7_code 55 = .ok (.invokespecial 39, 3) := by decide +kernel
theorem d16_58 : decode method_7_code 58 = .ok (.areturn, 1) := by decide +kernel
theorem d16_59 : decode method_7_code 59 = .ok (.iload_n 0, 1) := by decide +kernel
theorem d16_60 : decode method_7_code 60 = .ok (.iconst 3, 1) := by decide +kernel
theorem d16_61 : decode method_7_code 61 = .ok (.if_icmp .ne 26, 3) := by decide +kernel
theorem d16_64 : decode method_7_code 64 = .ok (.new 37, 3) := by decide +kernel
theorem d16_67 : decode method_7_code 67 = .ok (.dup, 1) := by decide +kernel
theorem d16_68 : decode method_7_code 68 = .ok (.iconst 3, 1) := by decide +kernel
theorem d16_69 : decode method_7_code 69 = .ok (.newarray .char, 2) := by decide +kernel
theorem d16_71 : decode method_7_code 71 = .ok (.dup, 1) := by decide +kernel
theorem d16_72 : decode method_7_code 72 = .ok (.iconst 0, 1) := by decide +kernel
theorem d16_73 : decode method_7_code 73 = .ok (.iload_n 1, 1) := by decide +kernel
theorem d16_74 : decode method_7_code 74 = .ok (.castore, 1) := by decide +kernel
theorem d16_75 : decode method_7_code 75 = .ok (.dup, 1) := by decide +kernel
theorem d16_76 : decode method_7_code 76 = .ok (.iconst 1, 1) := by decide +kernel
theorem d16_77 : decode method_7_code 77 = .ok (.iload_n 2, 1) := by decide +kernel
theorem d16_78 : decode method_7_code 78 = .ok (.castore, 1) := by decide +kernel
theorem d16_79 : decode method_7_code 79 = .ok (.dup, 1) := by decide +kernel
theorem d16_80 : decode method_7_code 80 = .ok (.iconst 2, 1) := by decide +kernel
theorem d16_81 : decode method_7_code 81 = .ok (.iload_n 3, 1) := by decide +kernel
theorem d16_82 : decode method_7_code 82 = .ok (.castore, 1) := by decide +kernel
theorem d16_83 : decode method_7_code 83 = .ok (.invokespecial 39, 3) := by decide +kernel
theorem d16_86 : decode method_7_code 86 = .ok (.areturn, 1) := by decide +kernel
theorem d16_87 : decode method_7_code 87 = .ok (.new 37, 3) := by decide +kernel
theorem d16_90 : decode method_7_code 90 = .ok (.dup, 1) := by decide +kernel
theorem d16_91 : decode method_7_code 91 = .ok (.iconst 4, 1) := by decide +kernel
theorem d16_92 : decode method_7_code 92 = .ok (.newarray .char, 2) := by decide +kernel
theorem d16_94 : decode method_7_code 94 = .ok (.dup, 1) := by decide +kernel
theorem d16_95 : decode method_7_code 95 = .ok (.iconst 0, 1) := by decide +kernel
theorem d16_96 : decode method_7_code 96 = .ok (.iload_n 1, 1) := by decide +kernel
theorem d16_97 : decode method_7_code 97 = .ok (.castore, 1) := by decide +kernel
theorem d16_98 : decode method_7_code 98 = .ok (.dup, 1) := by decide +kernel
theorem d16_99 : decode method_7_code 99 = .ok (.iconst 1, 1) := by decide +kernel
theorem d16_100 : decode method_7_code 100 = .ok (.iload_n 2, 1) := by decide +kernel
theorem d16_101 : decode method_7_code 101 = .ok (.castore, 1) := by decide +kernel
theorem d16_102 : decode method_7_code 102 = .ok (.dup, 1) := by decide +kernel
theorem d16_103 : decode method_7_code 103 = .ok (.iconst 2, 1) := by decide +kernel
theorem d16_104 : decode method_7_code 104 = .ok (.iload_n 3, 1) := by decide +kernel
theorem d16_105 : decode method_7_code 105 = .ok (.castore, 1) := by decide +kernel
theorem d16_106 : decode method_7_code 106 = .ok (.dup, 1) := by decide +kernel
theorem d16_107 : decode method_7_code 107 = .ok (.iconst 3, 1) := by decide +kernel
theorem d16_108 : decode method_7_code 108 = .ok (.iload 4, 2) := by decide +kernel
theorem d16_110 : decode method_7_code 110 = .ok (.castore, 1) := by decide +kernel
theorem d16_111 : decode method_7_code 111 = .ok (.invokespecial 39, 3) := by decide +kernel
theorem d16_114 : decode method_7_code 114 = .ok (.areturn, 1) := by decide +kernel
theorem own_ef_rm_str (m : MethodId) (x0 : Int32) (x1 : Int32) (x2 : Int32) (x3 : Int32) (x4 : Int32) : entryFrame m #[(.int x0), (.int x1), (.int x2), (.int x3), (.int x4)] 5 = mkF m 0 #[.val (.int x0), .val (.int x1), .val (.int x2), .val (.int x3), .val (.int x4)] [] := by first | (simp [entryFrame, mkF, argsToLocals, Value.category]; done) | rfl
def Q_rm_str (Z : State) (n : Int32) (a : Int32) (b : Int32) (cc : Int32) (dd : Int32) (cz : Int32) (h0 : Heap) (n0 : Nat) (v : Option Value) (h : Heap) (L : List Loc) : Prop := ∃ u : Addr, v = some (.ref u) ∧ Fr n0 L ∧ Keep h0 h [] ∧ StrOf Z h u (own_str n a b cc dd)
set_option maxRecDepth 65536 in
set_option maxHeartbeats 40000000 in
theorem rm_str (l : Launch) (Z : State) (a0 : Array Value) (hw : ∀ d ∈ tables_1, d.before a0 Z = true) (ws : List Jvm.Cond) (n : Int32) (a : Int32) (b : Int32) (cc : Int32) (dd : Int32) (cz : Int32) (h0 : Heap) (n0 : Nat) (Z0 : n0 ≤ h0.size) (hL_a : Lat a) (hL_b : Lat b) (hL_cc : Lat cc) (hL_dd : Lat dd) (S_COMPACT_STRINGS : Sta Z h0 "java/lang/String" "COMPACT_STRINGS" "Z" (.int cz)) (hcz : ¬ (cz = (0 : Int32))) :
    MetH l Z mN16 method_7_code 5 (some (.object "java/lang/String")) ({ frames := 4, cells := 6, slots := 12, locals := 66 } : Room) ws #[(.int n), (.int a), (.int b), (.int cc), (.int dd)] h0 (Q_rm_str Z n a b cc dd cz h0 n0) := by
  refine own_metH (plainFor_of_name own_pn4) ?_
  intro p e s m below meth c s₁ hret hx hby hlk hml hown hnm X0 e0 hZ hh hC0
  have N0 := Fr.nil n0
  have hS : s.Since s.vm h0.size := (State.WarmedH.refl s).since _
  have hk : h0.size ≤ h0.size := Nat.le_refl _
  replace hZ : Z.Warmed39 (s.setVm s.vm).vm := hZ
  have hR : CHr Z consts_1 s.vm h0 s.vm h0 := CHr.refl hC0
  refine Gs (fun _ tk => castTop (own_ef_rm_str m n a b cc dd) tk) ?_
  have KP : Keep h0 h0 [] := Keep.refl _ _
  show Goes _ _ _ _ _ (s₁.setTop (mkF m 0 #[.val (.int n), .val (.int a), .val (.int b), .val (.int cc), .val (.int dd)] []))
  refine Gs (fun _ tk => XS.iloadN X0.here hx rfl (hb hby d16_0) rfl tk) ?_
  by_cases hc1_1 : n = (0 : Int32)
  · refine Gs (fun _ tk => XS.ifNo X0.here hx rfl (hb hby d16_1) rfl ((if0 _ _).trans (teq hc1_1).2) tk) ?_
    obtain ⟨T2, h2, X2, e2, E2, A2, D2, -, st2⟩ := newO X0 hx hZ hown (gw hw 14 rfl) (gw hw 15 rfl) (gw hw 16 rfl) e0 (g := (mkF m 4 #[.val (.int n), .val (.int a), .val (.int b), .val (.int cc), .val (.int dd)] [])) rfl (hb hby d16_4) (by decide) (by decide)
    obtain ⟨b2, gq2⟩ : ∃ z, z = h0.size := ⟨_, rfl⟩
    rw [← gq2] at A2 st2 D2
    have g_b2 : n0 ≤ b2 := by rw [gq2]; exact Z0
    have sz_b2 : h0.size ≤ b2 := by rw [gq2]; exact KP.1
    replace hR := hR.trans (CHr.ext E2 hR.1)
    replace S_COMPACT_STRINGS := S_COMPACT_STRINGS.ext E2
    replace KP := KP.ext E2
    replace Z0 : n0 ≤ h2.size := Nat.le_trans Z0 E2.1
    replace hk := Nat.le_trans hk E2.1
    have A_b2 : Exa Z h2 b2 "java/lang/String" := A2
    have F_value_b2 : Fld Z h2 b2 "java/lang/String" "value" "[B" .null := D2 (Or.inr (gw hw 30 rfl)) (ty := (.array .byte)) (by decide)
    have F_coder_b2 : Fld Z h2 b2 "java/lang/String" "coder" "B" (.int (0 : Int32)) := D2 (Or.inr (gw hw 31 rfl)) (ty := .byte) (by decide)
    refine Gs st2 ?_
    show Goes _ _ _ _ _ (T2.setTop (mkF m 7 #[.val (.int n), .val (.int a), .val (.int b), .val (.int cc), .val (.int dd)] [(.ref b2)]))
    refine Gs (fun _ tk => XS.dup X2.here hx rfl (hb hby d16_7) rfl rfl tk) ?_
    refine Gs (fun _ tk => XS.iconst X2.here hx rfl (hb hby d16_8) tk) ?_
    obtain ⟨T3, h3, k3, X3, e3, E3, A3, st3⟩ := newP X2 hx hZ (gw hw 17 rfl) e2 (g := (mkF m 9 #[.val (.int n), .val (.int a), .val (.int b), .val (.int cc), .val (.int dd)] [(.int (0 : Int32)), (.ref b2), (.ref b2)])) rfl (hb hby d16_9) rfl (by decide) (cap := 0) (by decide) (by decide) (by decide) (by decide)
    obtain ⟨b3, gq3⟩ : ∃ z, z = h2.size := ⟨_, rfl⟩
    rw [← gq3] at A3 st3
    have g_b3 : n0 ≤ b3 := by rw [gq3]; exact Z0
    have ne_b2_b3 : b2 ≠ b3 := by rw [gq3]; exact Nat.ne_of_lt A_b2.lt
    replace hR := hR.trans (CHr.ext E3 hR.1)
    replace S_COMPACT_STRINGS := S_COMPACT_STRINGS.ext E3
    replace A_b2 := A_b2.ext E3
    replace F_value_b2 := F_value_b2.ext E3
    replace F_coder_b2 := F_coder_b2.ext E3
    replace KP := KP.ext E3
    replace Z0 : n0 ≤ h3.size := Nat.le_trans Z0 E3.1
    replace hk := Nat.le_trans hk E3.1
    have V_b3 : Arv Z h3 b3 k3 .char (0 : Int32) [] (.int (0 : Int32)) := Arv.new A3 (by decide)
    refine Gs st3 ?_
    show Goes _ _ _ _ _ (T3.setTop (mkF m 11 #[.val (.int n), .val (.int a), .val (.int b), .val (.int cc), .val (.int dd)] [(.ref b3), (.ref b2), (.ref b2)]))
    obtain ⟨_, _, ⟨T4, L4, k4, n4⟩, -, X4, hS4, gr4, ⟨Lc4, hQ4, l4, y4, z4, hC4⟩, st4⟩ := X3.specialBackS hx (y := mN8) rfl hown (mvT hZ (gw hw 18 rfl)) (mvT hZ (gw hw 19 rfl)) (mvT hZ (gw hw 20 rfl)) (by decide) (backOfSH (W := 1) (rs_i1_0 l Z a0 hw [] b2 b3 k3 h3 n0 Z0 A_b2 F_value_b2 F_coder_b2 V_b3 g_b2 (Ne.symm ne_b2_b3)) hZ (gw hw 20 rfl) (gw hw 16 rfl) (by decide) (by decide) (own_EW hw) hR.1) (g := (mkF m 11 #[.val (.int n), .val (.int a), .val (.int b), .val (.int cc), .val (.int dd)] [(.ref b3), (.ref b2), (.ref b2)])) rfl (by rw [hml]; rfl) (Steps.refl _) (a := b2) (argsL := [(.ref b3)]) (rest := [(.ref b2)]) (lenOf own_pd10 rfl) rfl (w0 (Nat.le_of_eq rfl)) (hb hby d16_11) (fun _ _ => ⟨rfl, e3, (by decide : 2 + 4 ≤ _), (by decide : 4 + 8 ≤ _)⟩)
    dsimp only [Pt.U, Pt.locs, Pt.cells, Pt.slots] at X4 l4 y4 z4 st4 hQ4 hS4 gr4 hC4
    subst l4 y4 z4
    obtain ⟨X4, hS, hZ, hown⟩ := rebS hS hk X4 hS4 (by have q := gr4; rw [e3] at q; exact q) hZ hown
    replace hk : T4.heap.size ≤ T4.heap.size := Nat.le_refl _
    obtain ⟨rfl, N4q, K4, T_b2_4'⟩ := hQ4
    have N4 := Fr.app N0 N4q
    replace hR := hR.trans hC4
    replace S_COMPACT_STRINGS := own_staK S_COMPACT_STRINGS K4 (allS (own_obE A_b2) all0)
    replace KP := KP.trans K4 (allS (Or.inr sz_b2) all0)
    replace Z0 := Nat.le_trans Z0 K4.1
    have T_b2 := T_b2_4'
    refine Gs (fun _ tk => st4.trans tk) ?_
    show Goes _ _ _ _ _ (T4.setTop (mkF m 14 #[.val (.int n), .val (.int a), .val (.int b), .val (.int cc), .val (.int dd)] [(.ref b2)]))
    have Tn : StrOf Z T4.heap b2 (own_str n a b cc dd) := by rw [show (own_str n a b cc dd) = [] from by simp_all [own_str]]; exact T_b2
    refine Goes.retH X4 hS rfl hk hZ (own_EW hw) hh hR (some (.ref b2)) (fun h => by rw [hret] at h; cases h) hlk (by decide) (by decide) ?_ (fun fs hr => ?_)
    · exact ⟨b2, rfl, N4, KP, Tn⟩
    · exact own_retA X4 hx hret rfl rfl (hb hby d16_14) hr
  · refine Gs (fun _ tk => XS.ifYes X0.here hx rfl (pc0 := 1) (pc' := 15) rfl (hb hby d16_1) rfl ((if0 _ _).trans (feq hc1_1).2) (by decide) (by decide) tk) ?_
    refine Gs (fun _ tk => XS.iloadN X0.here hx rfl (hb hby d16_15) rfl tk) ?_
    refine Gs (fun _ tk => XS.iconst X0.here hx rfl (hb hby d16_16) tk) ?_
    by_cases hc17_5 : n = (1 : Int32)
    · refine Gs (fun _ tk => XS.icmpNo X0.here hx rfl (hb hby d16_17) rfl (teq hc17_5).2 tk) ?_
      obtain ⟨T6, h6, X6, e6, E6, A6, D6, -, st6⟩ := newO X0 hx hZ hown (gw hw 14 rfl) (gw hw 15 rfl) (gw hw 16 rfl) e0 (g := (mkF m 20 #[.val (.int n), .val (.int a), .val (.int b), .val (.int cc), .val (.int dd)] [])) rfl (hb hby d16_20) (by decide) (by decide)
      obtain ⟨b6, gq6⟩ : ∃ z, z = h0.size := ⟨_, rfl⟩
      rw [← gq6] at A6 st6 D6
      have g_b6 : n0 ≤ b6 := by rw [gq6]; exact Z0
      have sz_b6 : h0.size ≤ b6 := by rw [gq6]; exact KP.1
      have Sf_b6 : Safe Z consts_1 s.vm h0 b6 := Safe.new (Nat.le_of_eq gq6.symm)
      replace Sf_b6 := Safe.ext E6 hR.1 Sf_b6
      replace hR := hR.trans (CHr.ext E6 hR.1)
      replace S_COMPACT_STRINGS := S_COMPACT_STRINGS.ext E6
      replace KP := KP.ext E6
      replace Z0 : n0 ≤ h6.size := Nat.le_trans Z0 E6.1
      replace hk := Nat.le_trans hk E6.1
      have A_b6 : Exa Z h6 b6 "java/lang/String" := A6
      have F_value_b6 : Fld Z h6 b6 "java/lang/String" "value" "[B" .null := D6 (Or.inr (gw hw 30 rfl)) (ty := (.array .byte)) (by decide)
      have F_coder_b6 : Fld Z h6 b6 "java/lang/String" "coder" "B" (.int (0 : Int32)) := D6 (Or.inr (gw hw 31 rfl)) (ty := .byte) (by decide)
      refine Gs st6 ?_
      show Goes _ _ _ _ _ (T6.setTop (mkF m 23 #[.val (.int n), .val (.int a), .val (.int b), .val (.int cc), .val (.int dd)] [(.ref b6)]))
      refine Gs (fun _ tk => XS.dup X6.here hx rfl (hb hby d16_23) rfl rfl tk) ?_
      refine Gs (fun _ tk => XS.iconst X6.here hx rfl (hb hby d16_24) tk) ?_
      obtain ⟨T7, h7, k7, X7, e7, E7, A7, st7⟩ := newP X6 hx hZ (gw hw 17 rfl) e6 (g := (mkF m 25 #[.val (.int n), .val (.int a), .val (.int b), .val (.int cc), .val (.int dd)] [(.int (1 : Int32)), (.ref b6), (.ref b6)])) rfl (hb hby d16_25) rfl (by decide) (cap := 1) (by decide) (by decide) (by decide) (by decide)
      obtain ⟨b7, gq7⟩ : ∃ z, z = h6.size := ⟨_, rfl⟩
      rw [← gq7] at A7 st7
      have g_b7 : n0 ≤ b7 := by rw [gq7]; exact Z0
      have sz_b7 : h0.size ≤ b7 := by rw [gq7]; exact KP.1
      have ne_b6_b7 : b6 ≠ b7 := by rw [gq7]; exact Nat.ne_of_lt A_b6.lt
      have Sf_b7 : Safe Z consts_1 s.vm h6 b7 := Safe.new (Nat.le_of_eq gq7.symm)
      replace Sf_b6 := Safe.ext E7 hR.1 Sf_b6
      replace Sf_b7 := Safe.ext E7 hR.1 Sf_b7
      replace hR := hR.trans (CHr.ext E7 hR.1)
      replace S_COMPACT_STRINGS := S_COMPACT_STRINGS.ext E7
      replace A_b6 := A_b6.ext E7
      replace F_value_b6 := F_value_b6.ext E7
      replace F_coder_b6 := F_coder_b6.ext E7
      replace KP := KP.ext E7
      replace Z0 : n0 ≤ h7.size := Nat.le_trans Z0 E7.1
      replace hk := Nat.le_trans hk E7.1
      have V_b7 : Arv Z h7 b7 k7 .char (1 : Int32) [(.int (0 : Int32))] (.int (0 : Int32)) := (Arv.new A7 (by decide)).pad (pad_rep [] (.int (0 : Int32)) 1)
      refine Gs st7 ?_
      show Goes _ _ _ _ _ (T7.setTop (mkF m 27 #[.val (.int n), .val (.int a), .val (.int b), .val (.int cc), .val (.int dd)] [(.ref b7), (.ref b6), (.ref b6)]))
      refine Gs (fun _ tk => XS.dup X7.here hx rfl (hb hby d16_27) rfl rfl tk) ?_
      refine Gs (fun _ tk => XS.iconst X7.here hx rfl (hb hby d16_28) tk) ?_
      refine Gs (fun _ tk => XS.iloadN X7.here hx rfl (hb hby d16_29) rfl tk) ?_
      obtain ⟨cl8, Ar8, q8, S8, N8z, H8, G8⟩ := V_b7
      have hin8 : ¬ ((0 : Int32) < 0 ∨ cl8.slots.size ≤ ((0 : Int32)).toNatClampNeg) := inb_of S8 ⟨by decide, by decide⟩
      obtain ⟨T8, h8, X8, e8, W8, st8⟩ := stC X7 hx hZ e7 Ar8 (j := (0 : Int32)) hin8 (g := (mkF m 30 #[.val (.int n), .val (.int a), .val (.int b), .val (.int cc), .val (.int dd)] [(.int a), (.int (0 : Int32)), (.ref b7), (.ref b7), (.ref b6), (.ref b6)])) rfl rfl (hb hby d16_30)
      have Vn8 := Arv.set Ar8 q8 S8 N8z H8 G8 (fits_nar_char _) W8 0 rfl (Nat.le_of_ble_eq_true rfl)
      have N8 := Fr.snoc X8 N0 g_b7
      have Sf_b6' := Safe.wr W8 Sf_b7 hR.1 Sf_b6
      replace hR := hR.trans (CHr.wr W8 Sf_b7 hR.1)
      replace Sf_b6 := Sf_b6'
      replace S_COMPACT_STRINGS := S_COMPACT_STRINGS.wr W8
      replace A_b6 := A_b6.wr W8
      replace F_value_b6 := F_value_b6.other W8 (Or.inl ne_b6_b7)
      replace F_coder_b6 := F_coder_b6.other W8 (Or.inl ne_b6_b7)
      replace KP := KP.wr W8 (Or.inr sz_b7)
      have V_b7 : Arv Z h8 b7 k7 .char (1 : Int32) [(.int a)] (.int (0 : Int32)) := by have q := Vn8; rw [own_nc hL_a.chr] at q; exact q
      replace Z0 : n0 ≤ h8.size := by rw [W8.size]; exact Z0
      replace hk := Nat.le_trans hk (Nat.le_of_eq W8.size.symm)
      refine Gs st8 ?_
      show Goes _ _ _ _ _ (T8.setTop (mkF m 31 #[.val (.int n), .val (.int a), .val (.int b), .val (.int cc), .val (.int dd)] [(.ref b7), (.ref b6), (.ref b6)]))
      obtain ⟨_, _, ⟨T9, L9, k9, n9⟩, -, X9, ⟨Lc9, hQ9, l9, y9, z9⟩, st9⟩ := X8.specialBack hx (y := mN8) rfl hown (mvT hZ (gw hw 18 rfl)) (mvT hZ (gw hw 19 rfl)) (mvT hZ (gw hw 20 rfl)) (by decide) (backOf (W := 1) (rs_i1_1 l Z a0 hw [] b6 b7 k7 a cz h8 n0 Z0 A_b6 F_value_b6 F_coder_b6 V_b7 g_b6 (Ne.symm ne_b6_b7) S_COMPACT_STRINGS (by first | assumption | decide) hL_a) hZ (gw hw 20 rfl) (gw hw 16 rfl) (by decide) (by decide)) (g := (mkF m 31 #[.val (.int n), .val (.int a), .val (.int b), .val (.int cc), .val (.int dd)] [(.ref b7), (.ref b6), (.ref b6)])) rfl (by rw [hml]; rfl) (Steps.refl _) (a := b6) (argsL := [(.ref b7)]) (rest := [(.ref b6)]) (lenOf own_pd10 rfl) rfl (w0 (Nat.le_of_eq rfl)) (hb hby d16_31) (fun _ _ => ⟨rfl, e8, (by decide : 2 + 1 ≤ _), (by decide : 5 + 1 ≤ _)⟩)
      dsimp only [Pt.U, Pt.locs, Pt.cells, Pt.slots] at X9 l9 y9 z9 st9 hQ9
      subst l9 y9 z9
      obtain ⟨rfl, N9q, K9, T_b6_9'⟩ := hQ9
      have N9 := Fr.app N8 N9q
      replace S_COMPACT_STRINGS := own_staK S_COMPACT_STRINGS K9 (allS (own_obE A_b6) all0)
      replace hR := hR.trans (CHr.keep K9 (allS Sf_b6 all0) hR.1)
      replace KP := KP.trans K9 (allS (Or.inr sz_b6) all0)
      replace Z0 := Nat.le_trans Z0 K9.1
      replace hk := Nat.le_trans hk K9.1
      have T_b6 := T_b6_9'
      refine Gs (fun _ tk => st9.trans tk) ?_
      show Goes _ _ _ _ _ (T9.setTop (mkF m 34 #[.val (.int n), .val (.int a), .val (.int b), .val (.int cc), .val (.int dd)] [(.ref b6)]))
      have Tn : StrOf Z T9.heap b6 (own_str n a b cc dd) := by rw [show (own_str n a b cc dd) = [a] from by simp_all [own_str]]; exact T_b6
      refine Goes.retH X9 hS rfl hk hZ (own_EW hw) hh hR (some (.ref b6)) (fun h => by rw [hret] at h; cases h) hlk (by decide) (by decide) ?_ (fun fs hr => ?_)
      · exact ⟨b6, rfl, N9, KP, Tn⟩
      · exact own_retA X9 hx hret rfl rfl (hb hby d16_34) hr
    · refine Gs (fun _ tk => XS.icmpYes X0.here hx rfl (pc0 := 17) (pc' := 35) rfl (hb hby d16_17) rfl (feq hc17_5).2 (by decide) (by decide) tk) ?_
      refine Gs (fun _ tk => XS.iloadN X0.here hx rfl (hb hby d16_35) rfl tk) ?_
      show Goes _ _ _ _ _ (s₁.setTop (mkF m 36 #[.val (.int n), .val (.int a), .val (.int b), .val (.int cc), .val (.int dd)] [(.int n)]))
      refine Gs (fun _ tk => XS.iconst X0.here hx rfl (hb hby d16_36) tk) ?_
      by_cases hc37_10 : n = (2 : Int32)
      · refine Gs (fun _ tk => XS.icmpNo X0.here hx rfl (hb hby d16_37) rfl (teq hc37_10).2 tk) ?_
        obtain ⟨T11, h11, X11, e11, E11, A11, D11, -, st11⟩ := newO X0 hx hZ hown (gw hw 14 rfl) (gw hw 15 rfl) (gw hw 16 rfl) e0 (g := (mkF m 40 #[.val (.int n), .val (.int a), .val (.int b), .val (.int cc), .val (.int dd)] [])) rfl (hb hby d16_40) (by decide) (by decide)
        obtain ⟨b11, gq11⟩ : ∃ z, z = h0.size := ⟨_, rfl⟩
        rw [← gq11] at A11 st11 D11
        have g_b11 : n0 ≤ b11 := by rw [gq11]; exact Z0
        have sz_b11 : h0.size ≤ b11 := by rw [gq11]; exact KP.1
        have Sf_b11 : Safe Z consts_1 s.vm h0 b11 := Safe.new (Nat.le_of_eq gq11.symm)
        replace Sf_b11 := Safe.ext E11 hR.1 Sf_b11
        replace hR := hR.trans (CHr.ext E11 hR.1)
        replace S_COMPACT_STRINGS := S_COMPACT_STRINGS.ext E11
        replace KP := KP.ext E11
        replace Z0 : n0 ≤ h11.size := Nat.le_trans Z0 E11.1
        replace hk := Nat.le_trans hk E11.1
        have A_b11 : Exa Z h11 b11 "java/lang/String" := A11
        have F_value_b11 : Fld Z h11 b11 "java/lang/String" "value" "[B" .null := D11 (Or.inr (gw hw 30 rfl)) (ty := (.array .byte)) (by decide)
        have F_coder_b11 : Fld Z h11 b11 "java/lang/String" "coder" "B" (.int (0 : Int32)) := D11 (Or.inr (gw hw 31 rfl)) (ty := .byte) (by decide)
        refine Gs st11 ?_
        show Goes _ _ _ _ _ (T11.setTop (mkF m 43 #[.val (.int n), .val (.int a), .val (.int b), .val (.int cc), .val (.int dd)] [(.ref b11)]))
        refine Gs (fun _ tk => XS.dup X11.here hx rfl (hb hby d16_43) rfl rfl tk) ?_
        refine Gs (fun _ tk => XS.iconst X11.here hx rfl (hb hby d16_44) tk) ?_
        obtain ⟨T12, h12, k12, X12, e12, E12, A12, st12⟩ := newP X11 hx hZ (gw hw 17 rfl) e11 (g := (mkF m 45 #[.val (.int n), .val (.int a), .val (.int b), .val (.int cc), .val (.int dd)] [(.int (2 : Int32)), (.ref b11), (.ref b11)])) rfl (hb hby d16_45) rfl (by decide) (cap := 2) (by decide) (by decide) (by decide) (by decide)
        obtain ⟨b12, gq12⟩ : ∃ z, z = h11.size := ⟨_, rfl⟩
        rw [← gq12] at A12 st12
        have g_b12 : n0 ≤ b12 := by rw [gq12]; exact Z0
        have sz_b12 : h0.size ≤ b12 := by rw [gq12]; exact KP.1
        have ne_b11_b12 : b11 ≠ b12 := by rw [gq12]; exact Nat.ne_of_lt A_b11.lt
        have Sf_b12 : Safe Z consts_1 s.vm h11 b12 := Safe.new (Nat.le_of_eq gq12.symm)
        replace Sf_b11 := Safe.ext E12 hR.1 Sf_b11
        replace Sf_b12 := Safe.ext E12 hR.1 Sf_b12
        replace hR := hR.trans (CHr.ext E12 hR.1)
        replace S_COMPACT_STRINGS := S_COMPACT_STRINGS.ext E12
        replace A_b11 := A_b11.ext E12
        replace F_value_b11 := F_value_b11.ext E12
        replace F_coder_b11 := F_coder_b11.ext E12
        replace KP := KP.ext E12
        replace Z0 : n0 ≤ h12.size := Nat.le_trans Z0 E12.1
        replace hk := Nat.le_trans hk E12.1
        have V_b12 : Arv Z h12 b12 k12 .char (2 : Int32) [(.int (0 : Int32)), (.int (0 : Int32))] (.int (0 : Int32)) := (Arv.new A12 (by decide)).pad (pad_rep [] (.int (0 : Int32)) 2)
        refine Gs st12 ?_
        show Goes _ _ _ _ _ (T12.setTop (mkF m 47 #[.val (.int n), .val (.int a), .val (.int b), .val (.int cc), .val (.int dd)] [(.ref b12), (.ref b11), (.ref b11)]))
        refine Gs (fun _ tk => XS.dup X12.here hx rfl (hb hby d16_47) rfl rfl tk) ?_
        refine Gs (fun _ tk => XS.iconst X12.here hx rfl (hb hby d16_48) tk) ?_
        refine Gs (fun _ tk => XS.iloadN X12.here hx rfl (hb hby d16_49) rfl tk) ?_
        obtain ⟨cl13, Ar13, q13, S13, N13z, H13, G13⟩ := V_b12
        have hin13 : ¬ ((0 : Int32) < 0 ∨ cl13.slots.size ≤ ((0 : Int32)).toNatClampNeg) := inb_of S13 ⟨by decide, by decide⟩
        obtain ⟨T13, h13, X13, e13, W13, st13⟩ := stC X12 hx hZ e12 Ar13 (j := (0 : Int32)) hin13 (g := (mkF m 50 #[.val (.int n), .val (.int a), .val (.int b), .val (.int cc), .val (.int dd)] [(.int a), (.int (0 : Int32)), (.ref b12), (.ref b12), (.ref b11), (.ref b11)])) rfl rfl (hb hby d16_50)
        have Vn13 := Arv.set Ar13 q13 S13 N13z H13 G13 (fits_nar_char _) W13 0 rfl (Nat.le_of_ble_eq_true rfl)
        have N13 := Fr.snoc X13 N0 g_b12
        have Sf_b11' := Safe.wr W13 Sf_b12 hR.1 Sf_b11
        have Sf_b12' := Safe.wr W13 Sf_b12 hR.1 Sf_b12
        replace hR := hR.trans (CHr.wr W13 Sf_b12 hR.1)
        replace Sf_b11 := Sf_b11'
        replace Sf_b12 := Sf_b12'
        replace S_COMPACT_STRINGS := S_COMPACT_STRINGS.wr W13
        replace A_b11 := A_b11.wr W13
        replace F_value_b11 := F_value_b11.other W13 (Or.inl ne_b11_b12)
        replace F_coder_b11 := F_coder_b11.other W13 (Or.inl ne_b11_b12)
        replace KP := KP.wr W13 (Or.inr sz_b12)
        have V_b12 : Arv Z h13 b12 k12 .char (2 : Int32) [(.int a), (.int (0 : Int32))] (.int (0 : Int32)) := by have q := Vn13; rw [own_nc hL_a.chr] at q; exact q
        replace Z0 : n0 ≤ h13.size := by rw [W13.size]; exact Z0
        replace hk := Nat.le_trans hk (Nat.le_of_eq W13.size.symm)
        refine Gs st13 ?_
        show Goes _ _ _ _ _ (T13.setTop (mkF m 51 #[.val (.int n), .val (.int a), .val (.int b), .val (.int cc), .val (.int dd)] [(.ref b12), (.ref b11), (.ref b11)]))
        refine Gs (fun _ tk => XS.dup X13.here hx rfl (hb hby d16_51) rfl rfl tk) ?_
        refine Gs (fun _ tk => XS.iconst X13.here hx rfl (hb hby d16_52) tk) ?_
        refine Gs (fun _ tk => XS.iloadN X13.here hx rfl (hb hby d16_53) rfl tk) ?_
        obtain ⟨cl14, Ar14, q14, S14, N14z, H14, G14⟩ := V_b12
        have hin14 : ¬ ((1 : Int32) < 0 ∨ cl14.slots.size ≤ ((1 : Int32)).toNatClampNeg) := inb_of S14 ⟨by decide, by decide⟩
        obtain ⟨T14, h14, X14, e14, W14, st14⟩ := stC X13 hx hZ e13 Ar14 (j := (1 : Int32)) hin14 (g := (mkF m 54 #[.val (.int n), .val (.int a), .val (.int b), .val (.int cc), .val (.int dd)] [(.int b), (.int (1 : Int32)), (.ref b12), (.ref b12), (.ref b11), (.ref b11)])) rfl rfl (hb hby d16_54)
        have Vn14 := Arv.set Ar14 q14 S14 N14z H14 G14 (fits_nar_char _) W14 1 rfl (Nat.le_of_ble_eq_true rfl)
        have N14 := Fr.snoc X14 N13 g_b12
        have Sf_b11' := Safe.wr W14 Sf_b12 hR.1 Sf_b11
        replace hR := hR.trans (CHr.wr W14 Sf_b12 hR.1)
        replace Sf_b11 := Sf_b11'
        replace S_COMPACT_STRINGS := S_COMPACT_STRINGS.wr W14
        replace A_b11 := A_b11.wr W14
        replace F_value_b11 := F_value_b11.other W14 (Or.inl ne_b11_b12)
        replace F_coder_b11 := F_coder_b11.other W14 (Or.inl ne_b11_b12)
        replace KP := KP.wr W14 (Or.inr sz_b12)
        have V_b12 : Arv Z h14 b12 k12 .char (2 : Int32) [(.int a), (.int b)] (.int (0 : Int32)) := by have q := Vn14; rw [own_nc hL_b.chr] at q; exact q
        replace Z0 : n0 ≤ h14.size := by rw [W14.size]; exact Z0
        replace hk := Nat.le_trans hk (Nat.le_of_eq W14.size.symm)
        refine Gs st14 ?_
        show Goes _ _ _ _ _ (T14.setTop (mkF m 55 #[.val (.int n), .val (.int a), .val (.int b), .val (.int cc), .val (.int dd)] [(.ref b12), (.ref b11), (.ref b11)]))
        obtain ⟨_, _, ⟨T15, L15, k15, n15⟩, -, X15, ⟨Lc15, hQ15, l15, y15, z15⟩, st15⟩ := X14.specialBack hx (y := mN8) rfl hown (mvT hZ (gw hw 18 rfl)) (mvT hZ (gw hw 19 rfl)) (mvT hZ (gw hw 20 rfl)) (by decide) (backOf (W := 1) (rs_i1_2 l Z a0 hw [] b11 b12 k12 a b cz h14 n0 Z0 A_b11 F_value_b11 F_coder_b11 V_b12 g_b11 (Ne.symm ne_b11_b12) S_COMPACT_STRINGS (by first | assumption | decide) hL_a hL_b) hZ (gw hw 20 rfl) (gw hw 16 rfl) (by decide) (by decide)) (g := (mkF m 55 #[.val (.int n), .val (.int a), .val (.int b), .val (.int cc), .val (.int dd)] [(.ref b12), (.ref b11), (.ref b11)])) rfl (by rw [hml]; rfl) (Steps.refl _) (a := b11) (argsL := [(.ref b12)]) (rest := [(.ref b11)]) (lenOf own_pd10 rfl) rfl (w0 (Nat.le_of_eq rfl)) (hb hby d16_55) (fun _ _ => ⟨rfl, e14, (by decide : 2 + 1 ≤ _), (by decide : 6 + 2 ≤ _)⟩)
        dsimp only [Pt.U, Pt.locs, Pt.cells, Pt.slots] at X15 l15 y15 z15 st15 hQ15
        subst l15 y15 z15
        obtain ⟨rfl, N15q, K15, T_b11_15'⟩ := hQ15
        have N15 := Fr.app N14 N15q
        replace S_COMPACT_STRINGS := own_staK S_COMPACT_STRINGS K15 (allS (own_obE A_b11) all0)
        replace hR := hR.trans (CHr.keep K15 (allS Sf_b11 all0) hR.1)
        replace KP := KP.trans K15 (allS (Or.inr sz_b11) all0)
        replace Z0 := Nat.le_trans Z0 K15.1
        replace hk := Nat.le_trans hk K15.1
        have T_b11 := T_b11_15'
        refine Gs (fun _ tk => st15.trans tk) ?_
        show Goes _ _ _ _ _ (T15.setTop (mkF m 58 #[.val (.int n), .val (.int a), .val (.int b), .val (.int cc), .val (.int dd)] [(.ref b11)]))
        have Tn : StrOf Z T15.heap b11 (own_str n a b cc dd) := by rw [show (own_str n a b cc dd) = [a, b] from by simp_all [own_str]]; exact T_b11
        refine Goes.retH X15 hS rfl hk hZ (own_EW hw) hh hR (some (.ref b11)) (fun h => by rw [hret] at h; cases h) hlk (by decide) (by decide) ?_ (fun fs hr => ?_)
        · exact ⟨b11, rfl, N15, KP, Tn⟩
        · exact own_retA X15 hx hret rfl rfl (hb hby d16_58) hr
      · refine Gs (fun _ tk => XS.icmpYes X0.here hx rfl (pc0 := 37) (pc' := 59) rfl (hb hby d16_37) rfl (feq hc37_10).2 (by decide) (by decide) tk) ?_
        refine Gs (fun _ tk => XS.iloadN X0.here hx rfl (hb hby d16_59) rfl tk) ?_
        refine Gs (fun _ tk => XS.iconst X0.here hx rfl (hb hby d16_60) tk) ?_
        by_cases hc61_16 : n = (3 : Int32)
        · refine Gs (fun _ tk => XS.icmpNo X0.here hx rfl (hb hby d16_61) rfl (teq hc61_16).2 tk) ?_
          obtain ⟨T17, h17, X17, e17, E17, A17, D17, -, st17⟩ := newO X0 hx hZ hown (gw hw 14 rfl) (gw hw 15 rfl) (gw hw 16 rfl) e0 (g := (mkF m 64 #[.val (.int n), .val (.int a), .val (.int b), .val (.int cc), .val (.int dd)] [])) rfl (hb hby d16_64) (by decide) (by decide)
          obtain ⟨b17, gq17⟩ : ∃ z, z = h0.size := ⟨_, rfl⟩
          rw [← gq17] at A17 st17 D17
          have g_b17 : n0 ≤ b17 := by rw [gq17]; exact Z0
          have sz_b17 : h0.size ≤ b17 := by rw [gq17]; exact KP.1
          have Sf_b17 : Safe Z consts_1 s.vm h0 b17 := Safe.new (Nat.le_of_eq gq17.symm)
          replace Sf_b17 := Safe.ext E17 hR.1 Sf_b17
          replace hR := hR.trans (CHr.ext E17 hR.1)
          replace S_COMPACT_STRINGS := S_COMPACT_STRINGS.ext E17
          replace KP := KP.ext E17
          replace Z0 : n0 ≤ h17.size := Nat.le_trans Z0 E17.1
          replace hk := Nat.le_trans hk E17.1
          have A_b17 : Exa Z h17 b17 "java/lang/String" := A17
          have F_value_b17 : Fld Z h17 b17 "java/lang/String" "value" "[B" .null := D17 (Or.inr (gw hw 30 rfl)) (ty := (.array .byte)) (by decide)
          have F_coder_b17 : Fld Z h17 b17 "java/lang/String" "coder" "B" (.int (0 : Int32)) := D17 (Or.inr (gw hw 31 rfl)) (ty := .byte) (by decide)
          refine Gs st17 ?_
          show Goes _ _ _ _ _ (T17.setTop (mkF m 67 #[.val (.int n), .val (.int a), .val (.int b), .val (.int cc), .val (.int dd)] [(.ref b17)]))
          refine Gs (fun _ tk => XS.dup X17.here hx rfl (hb hby d16_67) rfl rfl tk) ?_
          refine Gs (fun _ tk => XS.iconst X17.here hx rfl (hb hby d16_68) tk) ?_
          obtain ⟨T18, h18, k18, X18, e18, E18, A18, st18⟩ := newP X17 hx hZ (gw hw 17 rfl) e17 (g := (mkF m 69 #[.val (.int n), .val (.int a), .val (.int b), .val (.int cc), .val (.int dd)] [(.int (3 : Int32)), (.ref b17), (.ref b17)])) rfl (hb hby d16_69) rfl (by decide) (cap := 3) (by decide) (by decide) (by decide) (by decide)
          obtain ⟨b18, gq18⟩ : ∃ z, z = h17.size := ⟨_, rfl⟩
          rw [← gq18] at A18 st18
          have g_b18 : n0 ≤ b18 := by rw [gq18]; exact Z0
          have sz_b18 : h0.size ≤ b18 := by rw [gq18]; exact KP.1
          have ne_b17_b18 : b17 ≠ b18 := by rw [gq18]; exact Nat.ne_of_lt A_b17.lt
          have Sf_b18 : Safe Z consts_1 s.vm h17 b18 := Safe.new (Nat.le_of_eq gq18.symm)
          replace Sf_b17 := Safe.ext E18 hR.1 Sf_b17
          replace Sf_b18 := Safe.ext E18 hR.1 Sf_b18
          replace hR := hR.trans (CHr.ext E18 hR.1)
          replace S_COMPACT_STRINGS := S_COMPACT_STRINGS.ext E18
          replace A_b17 := A_b17.ext E18
          replace F_value_b17 := F_value_b17.ext E18
          replace F_coder_b17 := F_coder_b17.ext E18
          replace KP := KP.ext E18
          replace Z0 : n0 ≤ h18.size := Nat.le_trans Z0 E18.1
          replace hk := Nat.le_trans hk E18.1
          have V_b18 : Arv Z h18 b18 k18 .char (3 : Int32) [(.int (0 : Int32)), (.int (0 : Int32)), (.int (0 : Int32))] (.int (0 : Int32)) := (Arv.new A18 (by decide)).pad (pad_rep [] (.int (0 : Int32)) 3)
          refine Gs st18 ?_
          show Goes _ _ _ _ _ (T18.setTop (mkF m 71 #[.val (.int n), .val (.int a), .val (.int b), .val (.int cc), .val (.int dd)] [(.ref b18), (.ref b17), (.ref b17)]))
          refine Gs (fun _ tk => XS.dup X18.here hx rfl (hb hby d16_71) rfl rfl tk) ?_
          refine Gs (fun _ tk => XS.iconst X18.here hx rfl (hb hby d16_72) tk) ?_
          refine Gs (fun _ tk => XS.iloadN X18.here hx rfl (hb hby d16_73) rfl tk) ?_
          obtain ⟨cl19, Ar19, q19, S19, N19z, H19, G19⟩ := V_b18
          have hin19 : ¬ ((0 : Int32) < 0 ∨ cl19.slots.size ≤ ((0 : Int32)).toNatClampNeg) := inb_of S19 ⟨by decide, by decide⟩
          obtain ⟨T19, h19, X19, e19, W19, st19⟩ := stC X18 hx hZ e18 Ar19 (j := (0 : Int32)) hin19 (g := (mkF m 74 #[.val (.int n), .val (.int a), .val (.int b), .val (.int cc), .val (.int dd)] [(.int a), (.int (0 : Int32)), (.ref b18), (.ref b18), (.ref b17), (.ref b17)])) rfl rfl (hb hby d16_74)
          have Vn19 := Arv.set Ar19 q19 S19 N19z H19 G19 (fits_nar_char _) W19 0 rfl (Nat.le_of_ble_eq_true rfl)
          have N19 := Fr.snoc X19 N0 g_b18
          have Sf_b17' := Safe.wr W19 Sf_b18 hR.1 Sf_b17
          have Sf_b18' := Safe.wr W19 Sf_b18 hR.1 Sf_b18
          replace hR := hR.trans (CHr.wr W19 Sf_b18 hR.1)
          replace Sf_b17 := Sf_b17'
          replace Sf_b18 := Sf_b18'
          replace S_COMPACT_STRINGS := S_COMPACT_STRINGS.wr W19
          replace A_b17 := A_b17.wr W19
          replace F_value_b17 := F_value_b17.other W19 (Or.inl ne_b17_b18)
          replace F_coder_b17 := F_coder_b17.other W19 (Or.inl ne_b17_b18)
          replace KP := KP.wr W19 (Or.inr sz_b18)
          have V_b18 : Arv Z h19 b18 k18 .char (3 : Int32) [(.int a), (.int (0 : Int32)), (.int (0 : Int32))] (.int (0 : Int32)) := by have q := Vn19; rw [own_nc hL_a.chr] at q; exact q
          replace Z0 : n0 ≤ h19.size := by rw [W19.size]; exact Z0
          replace hk := Nat.le_trans hk (Nat.le_of_eq W19.size.symm)
          refine Gs st19 ?_
          show Goes _ _ _ _ _ (T19.setTop (mkF m 75 #[.val (.int n), .val (.int a), .val (.int b), .val (.int cc), .val (.int dd)] [(.ref b18), (.ref b17), (.ref b17)]))
          refine Gs (fun _ tk => XS.dup X19.here hx rfl (hb hby d16_75) rfl rfl tk) ?_
          refine Gs (fun _ tk => XS.iconst X19.here hx rfl (hb hby d16_76) tk) ?_
          refine Gs (fun _ tk => XS.iloadN X19.here hx rfl (hb hby d16_77) rfl tk) ?_
          obtain ⟨cl20, Ar20, q20, S20, N20z, H20, G20⟩ := V_b18
          have hin20 : ¬ ((1 : Int32) < 0 ∨ cl20.slots.size ≤ ((1 : Int32)).toNatClampNeg) := inb_of S20 ⟨by decide, by decide⟩
          obtain ⟨T20, h20, X20, e20, W20, st20⟩ := stC X19 hx hZ e19 Ar20 (j := (1 : Int32)) hin20 (g := (mkF m 78 #[.val (.int n), .val (.int a), .val (.int b), .val (.int cc), .val (.int dd)] [(.int b), (.int (1 : Int32)), (.ref b18), (.ref b18), (.ref b17), (.ref b17)])) rfl rfl (hb hby d16_78)
          have Vn20 := Arv.set Ar20 q20 S20 N20z H20 G20 (fits_nar_char _) W20 1 rfl (Nat.le_of_ble_eq_true rfl)
          have N20 := Fr.snoc X20 N19 g_b18
          have Sf_b17' := Safe.wr W20 Sf_b18 hR.1 Sf_b17
          have Sf_b18' := Safe.wr W20 Sf_b18 hR.1 Sf_b18
          replace hR := hR.trans (CHr.wr W20 Sf_b18 hR.1)
          replace Sf_b17 := Sf_b17'
          replace Sf_b18 := Sf_b18'
          replace S_COMPACT_STRINGS := S_COMPACT_STRINGS.wr W20
          replace A_b17 := A_b17.wr W20
          replace F_value_b17 := F_value_b17.other W20 (Or.inl ne_b17_b18)
          replace F_coder_b17 := F_coder_b17.other W20 (Or.inl ne_b17_b18)
          replace KP := KP.wr W20 (Or.inr sz_b18)
          have V_b18 : Arv Z h20 b18 k18 .char (3 : Int32) [(.int a), (.int b), (.int (0 : Int32))] (.int (0 : Int32)) := by have q := Vn20; rw [own_nc hL_b.chr] at q; exact q
          replace Z0 : n0 ≤ h20.size := by rw [W20.size]; exact Z0
          replace hk := Nat.le_trans hk (Nat.le_of_eq W20.size.symm)
          refine Gs st20 ?_
          show Goes _ _ _ _ _ (T20.setTop (mkF m 79 #[.val (.int n), .val (.int a), .val (.int b), .val (.int cc), .val (.int dd)] [(.ref b18), (.ref b17), (.ref b17)]))
          refine Gs (fun _ tk => XS.dup X20.here hx rfl (hb hby d16_79) rfl rfl tk) ?_
          refine Gs (fun _ tk => XS.iconst X20.here hx rfl (hb hby d16_80) tk) ?_
          refine Gs (fun _ tk => XS.iloadN X20.here hx rfl (hb hby d16_81) rfl tk) ?_
          obtain ⟨cl21, Ar21, q21, S21, N21z, H21, G21⟩ := V_b18
          have hin21 : ¬ ((2 : Int32) < 0 ∨ cl21.slots.size ≤ ((2 : Int32)).toNatClampNeg) := inb_of S21 ⟨by decide, by decide⟩
          obtain ⟨T21, h21, X21, e21, W21, st21⟩ := stC X20 hx hZ e20 Ar21 (j := (2 : Int32)) hin21 (g := (mkF m 82 #[.val (.int n), .val (.int a), .val (.int b), .val (.int cc), .val (.int dd)] [(.int cc), (.int (2 : Int32)), (.ref b18), (.ref b18), (.ref b17), (.ref b17)])) rfl rfl (hb hby d16_82)
          have Vn21 := Arv.set Ar21 q21 S21 N21z H21 G21 (fits_nar_char _) W21 2 rfl (Nat.le_of_ble_eq_true rfl)
          have N21 := Fr.snoc X21 N20 g_b18
          have Sf_b17' := Safe.wr W21 Sf_b18 hR.1 Sf_b17
          replace hR := hR.trans (CHr.wr W21 Sf_b18 hR.1)
          replace Sf_b17 := Sf_b17'
          replace S_COMPACT_STRINGS := S_COMPACT_STRINGS.wr W21
          replace A_b17 := A_b17.wr W21
          replace F_value_b17 := F_value_b17.other W21 (Or.inl ne_b17_b18)
          replace F_coder_b17 := F_coder_b17.other W21 (Or.inl ne_b17_b18)
          replace KP := KP.wr W21 (Or.inr sz_b18)
          have V_b18 : Arv Z h21 b18 k18 .char (3 : Int32) [(.int a), (.int b), (.int cc)] (.int (0 : Int32)) := by have q := Vn21; rw [own_nc hL_cc.chr] at q; exact q
          replace Z0 : n0 ≤ h21.size := by rw [W21.size]; exact Z0
          replace hk := Nat.le_trans hk (Nat.le_of_eq W21.size.symm)
          refine Gs st21 ?_
          show Goes _ _ _ _ _ (T21.setTop (mkF m 83 #[.val (.int n), .val (.int a), .val (.int b), .val (.int cc), .val (.int dd)] [(.ref b18), (.ref b17), (.ref b17)]))
          obtain ⟨_, _, ⟨T22, L22, k22, n22⟩, -, X22, ⟨Lc22, hQ22, l22, y22, z22⟩, st22⟩ := X21.specialBack hx (y := mN8) rfl hown (mvT hZ (gw hw 18 rfl)) (mvT hZ (gw hw 19 rfl)) (mvT hZ (gw hw 20 rfl)) (by decide) (backOf (W := 1) (rs_i1_3 l Z a0 hw [] b17 b18 k18 a b cc cz h21 n0 Z0 A_b17 F_value_b17 F_coder_b17 V_b18 g_b17 (Ne.symm ne_b17_b18) S_COMPACT_STRINGS (by first | assumption | decide) hL_a hL_b hL_cc) hZ (gw hw 20 rfl) (gw hw 16 rfl) (by decide) (by decide)) (g := (mkF m 83 #[.val (.int n), .val (.int a), .val (.int b), .val (.int cc), .val (.int dd)] [(.ref b18), (.ref b17), (.ref b17)])) rfl (by rw [hml]; rfl) (Steps.refl _) (a := b17) (argsL := [(.ref b18)]) (rest := [(.ref b17)]) (lenOf own_pd10 rfl) rfl (w0 (Nat.le_of_eq rfl)) (hb hby d16_83) (fun _ _ => ⟨rfl, e21, (by decide : 2 + 1 ≤ _), (by decide : 7 + 3 ≤ _)⟩)
          dsimp only [Pt.U, Pt.locs, Pt.cells, Pt.slots] at X22 l22 y22 z22 st22 hQ22
          subst l22 y22 z22
          obtain ⟨rfl, N22q, K22, T_b17_22'⟩ := hQ22
          have N22 := Fr.app N21 N22q
          replace S_COMPACT_STRINGS := own_staK S_COMPACT_STRINGS K22 (allS (own_obE A_b17) all0)
          replace hR := hR.trans (CHr.keep K22 (allS Sf_b17 all0) hR.1)
          replace KP := KP.trans K22 (allS (Or.inr sz_b17) all0)
          replace Z0 := Nat.le_trans Z0 K22.1
          replace hk := Nat.le_trans hk K22.1
          have T_b17 := T_b17_22'
          refine Gs (fun _ tk => st22.trans tk) ?_
          show Goes _ _ _ _ _ (T22.setTop (mkF m 86 #[.val (.int n), .val (.int a), .val (.int b), .val (.int cc), .val (.int dd)] [(.ref b17)]))
          have Tn : StrOf Z T22.heap b17 (own_str n a b cc dd) := by rw [show (own_str n a b cc dd) = [a, b, cc] from by simp_all [own_str]]; exact T_b17
          refine Goes.retH X22 hS rfl hk hZ (own_EW hw) hh hR (some (.ref b17)) (fun h => by rw [hret] at h; cases h) hlk (by decide) (by decide) ?_ (fun fs hr => ?_)
          · exact ⟨b17, rfl, N22, KP, Tn⟩
          · exact own_retA X22 hx hret rfl rfl (hb hby d16_86) hr
        · refine Gs (fun _ tk => XS.icmpYes X0.here hx rfl (pc0 := 61) (pc' := 87) rfl (hb hby d16_61) rfl (feq hc61_16).2 (by decide) (by decide) tk) ?_
          obtain ⟨T23, h23, X23, e23, E23, A23, D23, -, st23⟩ := newO X0 hx hZ hown (gw hw 14 rfl) (gw hw 15 rfl) (gw hw 16 rfl) e0 (g := (mkF m 87 #[.val (.int n), .val (.int a), .val (.int b), .val (.int cc), .val (.int dd)] [])) rfl (hb hby d16_87) (by decide) (by decide)
          obtain ⟨b23, gq23⟩ : ∃ z, z = h0.size := ⟨_, rfl⟩
          rw [← gq23] at A23 st23 D23
          have g_b23 : n0 ≤ b23 := by rw [gq23]; exact Z0
          have sz_b23 : h0.size ≤ b23 := by rw [gq23]; exact KP.1
          have Sf_b23 : Safe Z consts_1 s.vm h0 b23 := Safe.new (Nat.le_of_eq gq23.symm)
          replace Sf_b23 := Safe.ext E23 hR.1 Sf_b23
          replace hR := hR.trans (CHr.ext E23 hR.1)
          replace S_COMPACT_STRINGS := S_COMPACT_STRINGS.ext E23
          replace KP := KP.ext E23
          replace Z0 : n0 ≤ h23.size := Nat.le_trans Z0 E23.1
          replace hk := Nat.le_trans hk E23.1
          have A_b23 : Exa Z h23 b23 "java/lang/String" := A23
          have F_value_b23 : Fld Z h23 b23 "java/lang/String" "value" "[B" .null := D23 (Or.inr (gw hw 30 rfl)) (ty := (.array .byte)) (by decide)
          have F_coder_b23 : Fld Z h23 b23 "java/lang/String" "coder" "B" (.int (0 : Int32)) := D23 (Or.inr (gw hw 31 rfl)) (ty := .byte) (by decide)
          refine Gs st23 ?_
          show Goes _ _ _ _ _ (T23.setTop (mkF m 90 #[.val (.int n), .val (.int a), .val (.int b), .val (.int cc), .val (.int dd)] [(.ref b23)]))
          refine Gs (fun _ tk => XS.dup X23.here hx rfl (hb hby d16_90) rfl rfl tk) ?_
          refine Gs (fun _ tk => XS.iconst X23.here hx rfl (hb hby d16_91) tk) ?_
          obtain ⟨T24, h24, k24, X24, e24, E24, A24, st24⟩ := newP X23 hx hZ (gw hw 17 rfl) e23 (g := (mkF m 92 #[.val (.int n), .val (.int a), .val (.int b), .val (.int cc), .val (.int dd)] [(.int (4 : Int32)), (.ref b23), (.ref b23)])) rfl (hb hby d16_92) rfl (by decide) (cap := 4) (by decide) (by decide) (by decide) (by decide)
          obtain ⟨b24, gq24⟩ : ∃ z, z = h23.size := ⟨_, rfl⟩
          rw [← gq24] at A24 st24
          have g_b24 : n0 ≤ b24 := by rw [gq24]; exact Z0
          have sz_b24 : h0.size ≤ b24 := by rw [gq24]; exact KP.1
          have ne_b23_b24 : b23 ≠ b24 := by rw [gq24]; exact Nat.ne_of_lt A_b23.lt
          have Sf_b24 : Safe Z consts_1 s.vm h23 b24 := Safe.new (Nat.le_of_eq gq24.symm)
          replace Sf_b23 := Safe.ext E24 hR.1 Sf_b23
          replace Sf_b24 := Safe.ext E24 hR.1 Sf_b24
          replace hR := hR.trans (CHr.ext E24 hR.1)
          replace S_COMPACT_STRINGS := S_COMPACT_STRINGS.ext E24
          replace A_b23 := A_b23.ext E24
          replace F_value_b23 := F_value_b23.ext E24
          replace F_coder_b23 := F_coder_b23.ext E24
          replace KP := KP.ext E24
          replace Z0 : n0 ≤ h24.size := Nat.le_trans Z0 E24.1
          replace hk := Nat.le_trans hk E24.1
          have V_b24 : Arv Z h24 b24 k24 .char (4 : Int32) [(.int (0 : Int32)), (.int (0 : Int32)), (.int (0 : Int32)), (.int (0 : Int32))] (.int (0 : Int32)) := (Arv.new A24 (by decide)).pad (pad_rep [] (.int (0 : Int32)) 4)
          refine Gs st24 ?_
          show Goes _ _ _ _ _ (T24.setTop (mkF m 94 #[.val (.int n), .val (.int a), .val (.int b), .val (.int cc), .val (.int dd)] [(.ref b24), (.ref b23), (.ref b23)]))
          refine Gs (fun _ tk => XS.dup X24.here hx rfl (hb hby d16_94) rfl rfl tk) ?_
          refine Gs (fun _ tk => XS.iconst X24.here hx rfl (hb hby d16_95) tk) ?_
          refine Gs (fun _ tk => XS.iloadN X24.here hx rfl (hb hby d16_96) rfl tk) ?_
          obtain ⟨cl25, Ar25, q25, S25, N25z, H25, G25⟩ := V_b24
          have hin25 : ¬ ((0 : Int32) < 0 ∨ cl25.slots.size ≤ ((0 : Int32)).toNatClampNeg) := inb_of S25 ⟨by decide, by decide⟩
          obtain ⟨T25, h25, X25, e25, W25, st25⟩ := stC X24 hx hZ e24 Ar25 (j := (0 : Int32)) hin25 (g := (mkF m 97 #[.val (.int n), .val (.int a), .val (.int b), .val (.int cc), .val (.int dd)] [(.int a), (.int (0 : Int32)), (.ref b24), (.ref b24), (.ref b23), (.ref b23)])) rfl rfl (hb hby d16_97)
          have Vn25 := Arv.set Ar25 q25 S25 N25z H25 G25 (fits_nar_char _) W25 0 rfl (Nat.le_of_ble_eq_true rfl)
          have N25 := Fr.snoc X25 N0 g_b24
          have Sf_b23' := Safe.wr W25 Sf_b24 hR.1 Sf_b23
          have Sf_b24' := Safe.wr W25 Sf_b24 hR.1 Sf_b24
          replace hR := hR.trans (CHr.wr W25 Sf_b24 hR.1)
          replace Sf_b23 := Sf_b23'
          replace Sf_b24 := Sf_b24'
          replace S_COMPACT_STRINGS := S_COMPACT_STRINGS.wr W25
          replace A_b23 := A_b23.wr W25
          replace F_value_b23 := F_value_b23.other W25 (Or.inl ne_b23_b24)
          replace F_coder_b23 := F_coder_b23.other W25 (Or.inl ne_b23_b24)
          replace KP := KP.wr W25 (Or.inr sz_b24)
          have V_b24 : Arv Z h25 b24 k24 .char (4 : Int32) [(.int a), (.int (0 : Int32)), (.int (0 : Int32)), (.int (0 : Int32))] (.int (0 : Int32)) := by have q := Vn25; rw [own_nc hL_a.chr] at q; exact q
          replace Z0 : n0 ≤ h25.size := by rw [W25.size]; exact Z0
          replace hk := Nat.le_trans hk (Nat.le_of_eq W25.size.symm)
          refine Gs st25 ?_
          show Goes _ _ _ _ _ (T25.setTop (mkF m 98 #[.val (.int n), .val (.int a), .val (.int b), .val (.int cc), .val (.int dd)] [(.ref b24), (.ref b23), (.ref b23)]))
          refine Gs (fun _ tk => XS.dup X25.here hx rfl (hb hby d16_98) rfl rfl tk) ?_
          refine Gs (fun _ tk => XS.iconst X25.here hx rfl (hb hby d16_99) tk) ?_
          refine Gs (fun _ tk => XS.iloadN X25.here hx rfl (hb hby d16_100) rfl tk) ?_
          obtain ⟨cl26, Ar26, q26, S26, N26z, H26, G26⟩ := V_b24
          have hin26 : ¬ ((1 : Int32) < 0 ∨ cl26.slots.size ≤ ((1 : Int32)).toNatClampNeg) := inb_of S26 ⟨by decide, by decide⟩
          obtain ⟨T26, h26, X26, e26, W26, st26⟩ := stC X25 hx hZ e25 Ar26 (j := (1 : Int32)) hin26 (g := (mkF m 101 #[.val (.int n), .val (.int a), .val (.int b), .val (.int cc), .val (.int dd)] [(.int b), (.int (1 : Int32)), (.ref b24), (.ref b24), (.ref b23), (.ref b23)])) rfl rfl (hb hby d16_101)
          have Vn26 := Arv.set Ar26 q26 S26 N26z H26 G26 (fits_nar_char _) W26 1 rfl (Nat.le_of_ble_eq_true rfl)
          have N26 := Fr.snoc X26 N25 g_b24
          have Sf_b23' := Safe.wr W26 Sf_b24 hR.1 Sf_b23
          have Sf_b24' := Safe.wr W26 Sf_b24 hR.1 Sf_b24
          replace hR := hR.trans (CHr.wr W26 Sf_b24 hR.1)
          replace Sf_b23 := Sf_b23'
          replace Sf_b24 := Sf_b24'
          replace S_COMPACT_STRINGS := S_COMPACT_STRINGS.wr W26
          replace A_b23 := A_b23.wr W26
          replace F_value_b23 := F_value_b23.other W26 (Or.inl ne_b23_b24)
          replace F_coder_b23 := F_coder_b23.other W26 (Or.inl ne_b23_b24)
          replace KP := KP.wr W26 (Or.inr sz_b24)
          have V_b24 : Arv Z h26 b24 k24 .char (4 : Int32) [(.int a), (.int b), (.int (0 : Int32)), (.int (0 : Int32))] (.int (0 : Int32)) := by have q := Vn26; rw [own_nc hL_b.chr] at q; exact q
          replace Z0 : n0 ≤ h26.size := by rw [W26.size]; exact Z0
          replace hk := Nat.le_trans hk (Nat.le_of_eq W26.size.symm)
          refine Gs st26 ?_
          show Goes _ _ _ _ _ (T26.setTop (mkF m 102 #[.val (.int n), .val (.int a), .val (.int b), .val (.int cc), .val (.int dd)] [(.ref b24), (.ref b23), (.ref b23)]))
          refine Gs (fun _ tk => XS.dup X26.here hx rfl (hb hby d16_102) rfl rfl tk) ?_
          refine Gs (fun _ tk => XS.iconst X26.here hx rfl (hb hby d16_103) tk) ?_
          refine Gs (fun _ tk => XS.iloadN X26.here hx rfl (hb hby d16_104) rfl tk) ?_
          obtain ⟨cl27, Ar27, q27, S27, N27z, H27, G27⟩ := V_b24
          have hin27 : ¬ ((2 : Int32) < 0 ∨ cl27.slots.size ≤ ((2 : Int32)).toNatClampNeg) := inb_of S27 ⟨by decide, by decide⟩
          obtain ⟨T27, h27, X27, e27, W27, st27⟩ := stC X26 hx hZ e26 Ar27 (j := (2 : Int32)) hin27 (g := (mkF m 105 #[.val (.int n), .val (.int a), .val (.int b), .val (.int cc), .val (.int dd)] [(.int cc), (.int (2 : Int32)), (.ref b24), (.ref b24), (.ref b23), (.ref b23)])) rfl rfl (hb hby d16_105)
          have Vn27 := Arv.set Ar27 q27 S27 N27z H27 G27 (fits_nar_char _) W27 2 rfl (Nat.le_of_ble_eq_true rfl)
          have N27 := Fr.snoc X27 N26 g_b24
          have Sf_b23' := Safe.wr W27 Sf_b24 hR.1 Sf_b23
          have Sf_b24' := Safe.wr W27 Sf_b24 hR.1 Sf_b24
          replace hR := hR.trans (CHr.wr W27 Sf_b24 hR.1)
          replace Sf_b23 := Sf_b23'
          replace Sf_b24 := Sf_b24'
          replace S_COMPACT_STRINGS := S_COMPACT_STRINGS.wr W27
          replace A_b23 := A_b23.wr W27
          replace F_value_b23 := F_value_b23.other W27 (Or.inl ne_b23_b24)
          replace F_coder_b23 := F_coder_b23.other W27 (Or.inl ne_b23_b24)
          replace KP := KP.wr W27 (Or.inr sz_b24)
          have V_b24 : Arv Z h27 b24 k24 .char (4 : Int32) [(.int a), (.int b), (.int cc), (.int (0 : Int32))] (.int (0 : Int32)) := by have q := Vn27; rw [own_nc hL_cc.chr] at q; exact q
          replace Z0 : n0 ≤ h27.size := by rw [W27.size]; exact Z0
          replace hk := Nat.le_trans hk (Nat.le_of_eq W27.size.symm)
          refine Gs st27 ?_
          show Goes _ _ _ _ _ (T27.setTop (mkF m 106 #[.val (.int n), .val (.int a), .val (.int b), .val (.int cc), .val (.int dd)] [(.ref b24), (.ref b23), (.ref b23)]))
          refine Gs (fun _ tk => XS.dup X27.here hx rfl (hb hby d16_106) rfl rfl tk) ?_
          refine Gs (fun _ tk => XS.iconst X27.here hx rfl (hb hby d16_107) tk) ?_
          refine Gs (fun _ tk => XS.iload X27.here hx rfl (hb hby d16_108) rfl tk) ?_
          obtain ⟨cl28, Ar28, q28, S28, N28z, H28, G28⟩ := V_b24
          have hin28 : ¬ ((3 : Int32) < 0 ∨ cl28.slots.size ≤ ((3 : Int32)).toNatClampNeg) := inb_of S28 ⟨by decide, by decide⟩
          obtain ⟨T28, h28, X28, e28, W28, st28⟩ := stC X27 hx hZ e27 Ar28 (j := (3 : Int32)) hin28 (g := (mkF m 110 #[.val (.int n), .val (.int a), .val (.int b), .val (.int cc), .val (.int dd)] [(.int dd), (.int (3 : Int32)), (.ref b24), (.ref b24), (.ref b23), (.ref b23)])) rfl rfl (hb hby d16_110)
          have Vn28 := Arv.set Ar28 q28 S28 N28z H28 G28 (fits_nar_char _) W28 3 rfl (Nat.le_of_ble_eq_true rfl)
          have N28 := Fr.snoc X28 N27 g_b24
          have Sf_b23' := Safe.wr W28 Sf_b24 hR.1 Sf_b23
          replace hR := hR.trans (CHr.wr W28 Sf_b24 hR.1)
          replace Sf_b23 := Sf_b23'
          replace S_COMPACT_STRINGS := S_COMPACT_STRINGS.wr W28
          replace A_b23 := A_b23.wr W28
          replace F_value_b23 := F_value_b23.other W28 (Or.inl ne_b23_b24)
          replace F_coder_b23 := F_coder_b23.other W28 (Or.inl ne_b23_b24)
          replace KP := KP.wr W28 (Or.inr sz_b24)
          have V_b24 : Arv Z h28 b24 k24 .char (4 : Int32) [(.int a), (.int b), (.int cc), (.int dd)] (.int (0 : Int32)) := by have q := Vn28; rw [own_nc hL_dd.chr] at q; exact q
          replace Z0 : n0 ≤ h28.size := by rw [W28.size]; exact Z0
          replace hk := Nat.le_trans hk (Nat.le_of_eq W28.size.symm)
          refine Gs st28 ?_
          show Goes _ _ _ _ _ (T28.setTop (mkF m 111 #[.val (.int n), .val (.int a), .val (.int b), .val (.int cc), .val (.int dd)] [(.ref b24), (.ref b23), (.ref b23)]))
          obtain ⟨_, _, ⟨T29, L29, k29, n29⟩, -, X29, ⟨Lc29, hQ29, l29, y29, z29⟩, st29⟩ := X28.specialBack hx (y := mN8) rfl hown (mvT hZ (gw hw 18 rfl)) (mvT hZ (gw hw 19 rfl)) (mvT hZ (gw hw 20 rfl)) (by decide) (backOf (W := 1) (rs_i1_4 l Z a0 hw [] b23 b24 k24 a b cc dd cz h28 n0 Z0 A_b23 F_value_b23 F_coder_b23 V_b24 g_b23 (Ne.symm ne_b23_b24) S_COMPACT_STRINGS (by first | assumption | decide) hL_a hL_b hL_cc hL_dd) hZ (gw hw 20 rfl) (gw hw 16 rfl) (by decide) (by decide)) (g := (mkF m 111 #[.val (.int n), .val (.int a), .val (.int b), .val (.int cc), .val (.int dd)] [(.ref b24), (.ref b23), (.ref b23)])) rfl (by rw [hml]; rfl) (Steps.refl _) (a := b23) (argsL := [(.ref b24)]) (rest := [(.ref b23)]) (lenOf own_pd10 rfl) rfl (w0 (Nat.le_of_eq rfl)) (hb hby d16_111) (fun _ _ => ⟨rfl, e28, (by decide : 2 + 1 ≤ _), (by decide : 8 + 4 ≤ _)⟩)
          dsimp only [Pt.U, Pt.locs, Pt.cells, Pt.slots] at X29 l29 y29 z29 st29 hQ29
          subst l29 y29 z29
          obtain ⟨rfl, N29q, K29, T_b23_29'⟩ := hQ29
          have N29 := Fr.app N28 N29q
          replace hR := hR.trans (CHr.keep K29 (allS Sf_b23 all0) hR.1)
          replace KP := KP.trans K29 (allS (Or.inr sz_b23) all0)
          replace Z0 := Nat.le_trans Z0 K29.1
          replace hk := Nat.le_trans hk K29.1
          have T_b23 := T_b23_29'
          refine Gs (fun _ tk => st29.trans tk) ?_
          show Goes _ _ _ _ _ (T29.setTop (mkF m 114 #[.val (.int n), .val (.int a), .val (.int b), .val (.int cc), .val (.int dd)] [(.ref b23)]))
          have Tn : StrOf Z T29.heap b23 (own_str n a b cc dd) := by rw [show (own_str n a b cc dd) = [a, b, cc, dd] from by simp_all [own_str]]; exact T_b23
          refine Goes.retH X29 hS rfl hk hZ (own_EW hw) hh hR (some (.ref b23)) (fun h => by rw [hret] at h; cases h) hlk (by decide) (by decide) ?_ (fun fs hr => ?_)
          · exact ⟨b23, rfl, N29, KP, Tn⟩
          · exact own_retA X29 hx hret rfl rfl (hb hby d16_114) hr
theorem d17_0 : decode prog_18_method_3_code 0 = .ok (.aload_n 0, 1) := by decide +kernel
theorem d17_1 : decode prog_18_method_3_code 1 = .ok (.invokevirtual 7, 3) := by decide +kernel
theorem own_pd11 : parseMethodDescriptor "()I" = some ⟨[], some .int⟩ := by decide +kernel
theorem d17_4 : decode prog_18_method_3_code 4 = .ok (.aload_n 1, 1) := by decide +kernel
theorem d17_5 : decode prog_18_method_3_code 5 = .ok (.invokevirtual 7, 3) := by decide +kernel
theorem d17_8 : decode prog_18_method_3_code 8 = .ok (.if_icmp .ge 5, 3) := by decide +kernel
theorem d17_11 : decode prog_18_method_3_code 11 = .ok (.iconst 0, 1) := by decide +kernel
theorem d17_12 : decode prog_18_method_3_code 12 = .ok (.ireturn, 1) := by decide +kernel
theorem d17_13 : decode prog_18_method_3_code 13 = .ok (.iconst 0, 1) := by decide +kernel
theorem d17_14 : decode prog_18_method_3_code 14 = .ok (.istore_n 2, 1) := by decide +kernel
theorem d17_15 : decode prog_18_method_3_code 15 = .ok (.iload_n 2, 1) := by decide +kernel
theorem d17_16 : decode prog_18_method_3_code 16 = .ok (.aload_n 1, 1) := by decide +kernel
theorem d17_17 : decode prog_18_method_3_code 17 = .ok (.invokevirtual 7, 3) := by decide +kernel
theorem d17_20 : decode prog_18_method_3_code 20 = .ok (.if_icmp .ge 70, 3) := by decide +kernel
theorem d17_90 : decode prog_18_method_3_code 90 = .ok (.iconst 1, 1) := by decide +kernel
theorem d17_91 : decode prog_18_method_3_code 91 = .ok (.ireturn, 1) := by decide +kernel
theorem d17_23 : decode prog_18_method_3_code 23 = .ok (.aload_n 1, 1) := by decide +kernel
theorem d17_24 : decode prog_18_method_3_code 24 = .ok (.iload_n 2, 1) := by decide +kernel
theorem d17_25 : decode prog_18_method_3_code 25 = .ok (.invokevirtual 19, 3) := by decide +kernel
theorem own_pd12 : parseMethodDescriptor "(I)C" = some ⟨[.int], some .char⟩ := by decide +kernel
theorem d17_28 : decode prog_18_method_3_code 28 = .ok (.istore_n 3, 1) := by decide +kernel
theorem d17_29 : decode prog_18_method_3_code 29 = .ok (.aload_n 0, 1) := by decide +kernel
theorem d17_30 : decode prog_18_method_3_code 30 = .ok (.iload_n 2, 1) := by decide +kernel
theorem d17_31 : decode prog_18_method_3_code 31 = .ok (.invokevirtual 19, 3) := by decide +kernel
theorem d17_34 : decode prog_18_method_3_code 34 = .ok (.istore 4, 2) := by decide +kernel
theorem d17_36 : decode prog_18_method_3_code 36 = .ok (.iload_n 3, 1) := by decide +kernel
theorem d17_37 : decode prog_18_method_3_code 37 = .ok (.bipush 48, 2) := by decide +kernel
theorem d17_39 : decode prog_18_method_3_code 39 = .ok (.if_icmp .ne 25, 3) := by decide +kernel
theorem d17_75 : decode prog_18_method_3_code 75 = .ok (.istore 5, 2) := by decide +kernel
theorem d17_77 : decode prog_18_method_3_code 77 = .ok (.iload 5, 2) := by decide +kernel
theorem d17_79 : decode prog_18_method_3_code 79 = .ok (.ifCond .ne 5, 3) := by decide +kernel
theorem d17_82 : decode prog_18_method_3_code 82 = .ok (.iconst 0, 1) := by decide +kernel
theorem d17_83 : decode prog_18_method_3_code 83 = .ok (.ireturn, 1) := by decide +kernel
theorem d17_84 : decode prog_18_method_3_code 84 = .ok (.iinc 2 1, 3) := by decide +kernel
theorem d17_87 : decode prog_18_method_3_code 87 = .ok (.goto (-72), 3) := by decide +kernel
theorem d17_42 : decode prog_18_method_3_code 42 = .ok (.iload 4, 2) := by decide +kernel
theorem d17_44 : decode prog_18_method_3_code 44 = .ok (.bipush 48, 2) := by decide +kernel
theorem d17_46 : decode prog_18_method_3_code 46 = .ok (.if_icmp .lt 14, 3) := by decide +kernel
theorem d17_60 : decode prog_18_method_3_code 60 = .ok (.iconst 0, 1) := by decide +kernel
theorem d17_61 : decode prog_18_method_3_code 61 = .ok (.goto 14, 3) := by decide +kernel
theorem d17_49 : decode prog_18_method_3_code 49 = .ok (.iload 4, 2) := by decide +kernel
theorem d17_51 : decode prog_18_method_3_code 51 = .ok (.bipush 57, 2) := by decide +kernel
theorem d17_53 : decode prog_18_method_3_code 53 = .ok (.if_icmp .gt 7, 3) := by decide +kernel
theorem d17_56 : decode prog_18_method_3_code 56 = .ok (.iconst 1, 1) := by decide +kernel
theorem d17_57 : decode prog_18_method_3_code 57 = .ok (.goto 18, 3) := by decide +kernel
theorem d17_64 : decode prog_18_method_3_code 64 = .ok (.iload 4, 2) := by decide +kernel
theorem d17_66 : decode prog_18_method_3_code 66 = .ok (.iload_n 3, 1) := by decide +kernel
theorem d17_67 : decode prog_18_method_3_code 67 = .ok (.if_icmp .ne 7, 3) := by decide +kernel
theorem d17_70 : decode prog_18_method_3_code 70 = .ok (.iconst 1, 1) := by decide +kernel
theorem d17_71 : decode prog_18_method_3_code 71 = .ok (.goto 4, 3) := by decide +kernel
theorem d17_74 : decode prog_18_method_3_code 74 = .ok (.iconst 0, 1) := by decide +kernel
theorem own_pn5 : plainName "com/example/token_into_keys/tokenintokeys/text/TextShape" = true := by first | (simp [plainName, overriddenIn]; done) | decide +kernel
theorem own_ef_rm_sw (m : MethodId) (x0 : Addr) (x1 : Addr) : entryFrame m #[(.ref x0), (.ref x1)] 6 = mkF m 0 #[.val (.ref x0), .val (.ref x1), .unset, .unset, .unset, .unset] [] := by first | (simp [entryFrame, mkF, argsToLocals, Value.category]; done) | rfl
def Q_rm_sw (Z : State) (a : Addr) (b : Addr) (xs : List Int32) (ps : List Int32) (cz : Int32) (fo : Value) (h0 : Heap) (n0 : Nat) (v : Option Value) (h : Heap) (L : List Loc) : Prop := v = some (.int (own_sw ps xs)) ∧ Fr n0 L ∧ h = h0
set_option maxRecDepth 65536 in
set_option maxHeartbeats 40000000 in
theorem rm_sw (l : Launch) (Z : State) (a0 : Array Value) (hw : ∀ d ∈ tables_1, d.before a0 Z = true) (ws : List Jvm.Cond) (a : Addr) (b : Addr) (xs : List Int32) (ps : List Int32) (cz : Int32) (fo : Value) (h0 : Heap) (n0 : Nat) (Z0 : n0 ≤ h0.size) (T_a : StrOf Z h0 a xs) (T_b : StrOf Z h0 b ps) (hps : ps.length ≤ 3) (S_COMPACT_STRINGS : Sta Z h0 "java/lang/String" "COMPACT_STRINGS" "Z" (.int cz)) (hcz : ¬ (cz = (0 : Int32))) (S_SIOOBE_FORMATTER : Sta Z h0 "jdk/internal/util/Preconditions" "SIOOBE_FORMATTER" "Ljava/util/function/BiFunction;" fo) (r_fo : fo.isRef = true) :
    Met l Z mN17 prog_18_method_3_code 6 (some .boolean) ({ frames := 4, cells := 0, slots := 0, locals := 53 } : Room) ws #[(.ref a), (.ref b)] h0 (Q_rm_sw Z a b xs ps cz fo h0 n0) := by
  refine own_met (plainFor_of_name own_pn5) ?_
  intro p e s m below meth c s₁ hret hx hby hlk hml hown hnm X0 e0 hZ hh
  have N0 := Fr.nil n0
  refine Gs (fun _ tk => castTop (own_ef_rm_sw m a b) tk) ?_
  show Goes _ _ _ _ _ (s₁.setTop (mkF m 0 #[.val (.ref a), .val (.ref b), .unset, .unset, .unset, .unset] []))
  rcases ps with _ | ⟨p0, _ | ⟨p1, _ | ⟨p2, _ | ⟨p3, ps⟩⟩⟩⟩
  · show Goes _ _ _ _ _ (s₁.setTop (mkF m 0 #[.val (.ref a), .val (.ref b), .unset, .unset, .unset, .unset] []))
    refine Gs (fun _ tk => XS.aloadN X0.here hx rfl (hb hby d17_0) rfl rfl tk) ?_
    obtain ⟨cq1, kq1, q1a, q1b, q1c⟩ := isOf hZ e0 T_a.exa
    obtain ⟨_, _, ⟨T1, L1, k1, n1⟩, -, X1, ⟨Lc1, hQ1, l1, y1, z1⟩, st1⟩ := X0.virtualBack hx (y := mN2) (z := mN2) hown (mvT hZ (gw hw 40 rfl)) (mvT hZ (gw hw 41 rfl)) (notFace_of_selects (args := #[]) (mvT hZ (gw hw 43 rfl))) (mvT hZ (gw hw 43 rfl)) (mvT hZ (gw hw 42 rfl)) (by decide) (backOf (W := 0) (rs_len l Z a0 hw [] a xs cz h0 n0 Z0 T_a S_COMPACT_STRINGS (by first | assumption | decide)) hZ (gw hw 44 rfl) (gw hw 16 rfl) (by decide) (by decide)) q1a q1c (g := (mkF m 1 #[.val (.ref a), .val (.ref b), .unset, .unset, .unset, .unset] [(.ref a)])) rfl (by rw [hml]; rfl) (Steps.refl _) (argsL := []) (rest := []) (lenOf own_pd11 rfl) rfl (w0 (Nat.le_of_eq rfl)) (hb hby d17_1) (fun _ _ => ⟨rfl, e0, (by decide : 0 + 0 ≤ _), (by decide : 0 + 0 ≤ _)⟩)
    dsimp only [Pt.U, Pt.locs, Pt.cells, Pt.slots] at X1 l1 y1 z1 st1 hQ1
    subst l1 y1 z1
    obtain ⟨rfl, N1q, e1⟩ := hQ1
    have N1 := Fr.app N0 N1q
    refine Gs (fun _ tk => st1.trans tk) ?_
    show Goes _ _ _ _ _ (T1.setTop (mkF m 4 #[.val (.ref a), .val (.ref b), .unset, .unset, .unset, .unset] [(.int (Int32.ofNat xs.length))]))
    refine Gs (fun _ tk => XS.aloadN X1.here hx rfl (hb hby d17_4) rfl rfl tk) ?_
    obtain ⟨cq2, kq2, q2a, q2b, q2c⟩ := isOf hZ e1 T_b.exa
    obtain ⟨_, _, ⟨T2, L2, k2, n2⟩, -, X2, ⟨Lc2, hQ2, l2, y2, z2⟩, st2⟩ := X1.virtualBack hx (y := mN2) (z := mN2) hown (mvT hZ (gw hw 40 rfl)) (mvT hZ (gw hw 41 rfl)) (notFace_of_selects (args := #[]) (mvT hZ (gw hw 43 rfl))) (mvT hZ (gw hw 43 rfl)) (mvT hZ (gw hw 42 rfl)) (by decide) (backOf (W := 1) (rs_len l Z a0 hw [] b [] cz h0 n0 Z0 T_b S_COMPACT_STRINGS (by first | assumption | decide)) hZ (gw hw 44 rfl) (gw hw 16 rfl) (by decide) (by decide)) q2a q2c (g := (mkF m 5 #[.val (.ref a), .val (.ref b), .unset, .unset, .unset, .unset] [(.ref b), (.int (Int32.ofNat xs.length))])) rfl (by rw [hml]; rfl) (Steps.refl _) (argsL := []) (rest := [(.int (Int32.ofNat xs.length))]) (lenOf own_pd11 rfl) rfl (w0 (Nat.le_of_eq rfl)) (hb hby d17_5) (fun _ _ => ⟨rfl, e1, (by decide : 0 + 0 ≤ _), (by decide : 0 + 0 ≤ _)⟩)
    dsimp only [Pt.U, Pt.locs, Pt.cells, Pt.slots] at X2 l2 y2 z2 st2 hQ2
    subst l2 y2 z2
    obtain ⟨rfl, N2q, e2⟩ := hQ2
    have N2 := Fr.app N1 N2q
    refine Gs (fun _ tk => st2.trans tk) ?_
    show Goes _ _ _ _ _ (T2.setTop (mkF m 8 #[.val (.ref a), .val (.ref b), .unset, .unset, .unset, .unset] [(.int (Int32.ofNat [].length)), (.int (Int32.ofNat xs.length))]))
    rw [show (Int32.ofNat [].length) = (0 : Int32) from rfl]
    show Goes _ _ _ _ _ (T2.setTop (mkF m 8 #[.val (.ref a), .val (.ref b), .unset, .unset, .unset, .unset] [(.int (0 : Int32)), (.int (Int32.ofNat xs.length))]))
    by_cases hcmp : (Int32.ofNat xs.length) < (0 : Int32)
    · refine Gs (fun _ tk => XS.icmpNo X2.here hx rfl (hb hby d17_8) rfl (tlt hcmp).2.1 tk) ?_
      have hshort := (own_len_lt (n := 0) (by decide) T_a.len).mp hcmp
      refine Gs (fun _ tk => XS.iconst X2.here hx rfl (hb hby d17_11) tk) ?_
      refine Goes.ret X2 (some (.int (0 : Int32))) (fun h => by rw [hret] at h; cases h) hlk (by decide) (by decide) ?_ (fun fs hr => ?_)
      · exact ⟨(by rw [own_swShort _ _ hshort]), N2, e2⟩
      · exact own_retN X2 hx (t := .boolean) hret (by simp) rfl (hb hby d17_12) hr
    · refine Gs (fun _ tk => XS.icmpYes X2.here hx rfl (pc0 := 8) (pc' := 13) rfl (hb hby d17_8) rfl (flt hcmp).2.1 (by decide) (by decide) tk) ?_
      have hlong := fun q => hcmp ((own_len_lt (n := 0) (by decide) T_a.len).mpr q)
      show Goes _ _ _ _ _ (T2.setTop (mkF m 13 #[.val (.ref a), .val (.ref b), .unset, .unset, .unset, .unset] []))
      refine Gs (fun _ tk => XS.iconst X2.here hx rfl (hb hby d17_13) tk) ?_
      refine Gs (fun _ tk => XS.istoreN X2.here hx rfl (hb hby d17_14) rfl (l' := #[.val (.ref a), .val (.ref b), .val (.int (0 : Int32)), .unset, .unset, .unset]) rfl tk) ?_
      refine Gs (fun _ tk => XS.iloadN X2.here hx rfl (hb hby d17_15) rfl tk) ?_
      refine Gs (fun _ tk => XS.aloadN X2.here hx rfl (hb hby d17_16) rfl rfl tk) ?_
      obtain ⟨cq3, kq3, q3a, q3b, q3c⟩ := isOf hZ e2 T_b.exa
      obtain ⟨_, _, ⟨T3, L3, k3, n3⟩, -, X3, ⟨Lc3, hQ3, l3, y3, z3⟩, st3⟩ := X2.virtualBack hx (y := mN2) (z := mN2) hown (mvT hZ (gw hw 40 rfl)) (mvT hZ (gw hw 41 rfl)) (notFace_of_selects (args := #[]) (mvT hZ (gw hw 43 rfl))) (mvT hZ (gw hw 43 rfl)) (mvT hZ (gw hw 42 rfl)) (by decide) (backOf (W := 1) (rs_len l Z a0 hw [] b [] cz h0 n0 Z0 T_b S_COMPACT_STRINGS (by first | assumption | decide)) hZ (gw hw 44 rfl) (gw hw 16 rfl) (by decide) (by decide)) q3a q3c (g := (mkF m 17 #[.val (.ref a), .val (.ref b), .val (.int (0 : Int32)), .unset, .unset, .unset] [(.ref b), (.int (0 : Int32))])) rfl (by rw [hml]; rfl) (Steps.refl _) (argsL := []) (rest := [(.int (0 : Int32))]) (lenOf own_pd11 rfl) rfl (w0 (Nat.le_of_eq rfl)) (hb hby d17_17) (fun _ _ => ⟨rfl, e2, (by decide : 0 + 0 ≤ _), (by decide : 0 + 0 ≤ _)⟩)
      dsimp only [Pt.U, Pt.locs, Pt.cells, Pt.slots] at X3 l3 y3 z3 st3 hQ3
      subst l3 y3 z3
      obtain ⟨rfl, N3q, e3⟩ := hQ3
      have N3 := Fr.app N2 N3q
      refine Gs (fun _ tk => st3.trans tk) ?_
      show Goes _ _ _ _ _ (T3.setTop (mkF m 20 #[.val (.ref a), .val (.ref b), .val (.int (0 : Int32)), .unset, .unset, .unset] [(.int (Int32.ofNat [].length)), (.int (0 : Int32))]))
      rw [show (Int32.ofNat [].length) = (0 : Int32) from rfl]
      show Goes _ _ _ _ _ (T3.setTop (mkF m 20 #[.val (.ref a), .val (.ref b), .val (.int (0 : Int32)), .unset, .unset, .unset] [(.int (0 : Int32)), (.int (0 : Int32))]))
      refine Gs (fun _ tk => XS.icmpYes X3.here hx rfl (pc0 := 20) (pc' := 90) rfl (hb hby d17_20) rfl (flt (by decide : ¬ ((0 : Int32) < (0 : Int32)))).2.1 (by decide) (by decide) tk) ?_
      refine Gs (fun _ tk => XS.iconst X3.here hx rfl (hb hby d17_90) tk) ?_
      refine Goes.ret X3 (some (.int (1 : Int32))) (fun h => by rw [hret] at h; cases h) hlk (by decide) (by decide) ?_ (fun fs hr => ?_)
      · exact ⟨(by rw [own_sw]), N3, e3⟩
      · exact own_retN X3 hx (t := .boolean) hret (by simp) rfl (hb hby d17_91) hr
  · show Goes _ _ _ _ _ (s₁.setTop (mkF m 0 #[.val (.ref a), .val (.ref b), .unset, .unset, .unset, .unset] []))
    refine Gs (fun _ tk => XS.aloadN X0.here hx rfl (hb hby d17_0) rfl rfl tk) ?_
    obtain ⟨cq4, kq4, q4a, q4b, q4c⟩ := isOf hZ e0 T_a.exa
    obtain ⟨_, _, ⟨T4, L4, k4, n4⟩, -, X4, ⟨Lc4, hQ4, l4, y4, z4⟩, st4⟩ := X0.virtualBack hx (y := mN2) (z := mN2) hown (mvT hZ (gw hw 40 rfl)) (mvT hZ (gw hw 41 rfl)) (notFace_of_selects (args := #[]) (mvT hZ (gw hw 43 rfl))) (mvT hZ (gw hw 43 rfl)) (mvT hZ (gw hw 42 rfl)) (by decide) (backOf (W := 0) (rs_len l Z a0 hw [] a xs cz h0 n0 Z0 T_a S_COMPACT_STRINGS (by first | assumption | decide)) hZ (gw hw 44 rfl) (gw hw 16 rfl) (by decide) (by decide)) q4a q4c (g := (mkF m 1 #[.val (.ref a), .val (.ref b), .unset, .unset, .unset, .unset] [(.ref a)])) rfl (by rw [hml]; rfl) (Steps.refl _) (argsL := []) (rest := []) (lenOf own_pd11 rfl) rfl (w0 (Nat.le_of_eq rfl)) (hb hby d17_1) (fun _ _ => ⟨rfl, e0, (by decide : 0 + 0 ≤ _), (by decide : 0 + 0 ≤ _)⟩)
    dsimp only [Pt.U, Pt.locs, Pt.cells, Pt.slots] at X4 l4 y4 z4 st4 hQ4
    subst l4 y4 z4
    obtain ⟨rfl, N4q, e4⟩ := hQ4
    have N4 := Fr.app N0 N4q
    refine Gs (fun _ tk => st4.trans tk) ?_
    show Goes _ _ _ _ _ (T4.setTop (mkF m 4 #[.val (.ref a), .val (.ref b), .unset, .unset, .unset, .unset] [(.int (Int32.ofNat xs.length))]))
    refine Gs (fun _ tk => XS.aloadN X4.here hx rfl (hb hby d17_4) rfl rfl tk) ?_
    obtain ⟨cq5, kq5, q5a, q5b, q5c⟩ := isOf hZ e4 T_b.exa
    obtain ⟨_, _, ⟨T5, L5, k5, n5⟩, -, X5, ⟨Lc5, hQ5, l5, y5, z5⟩, st5⟩ := X4.virtualBack hx (y := mN2) (z := mN2) hown (mvT hZ (gw hw 40 rfl)) (mvT hZ (gw hw 41 rfl)) (notFace_of_selects (args := #[]) (mvT hZ (gw hw 43 rfl))) (mvT hZ (gw hw 43 rfl)) (mvT hZ (gw hw 42 rfl)) (by decide) (backOf (W := 1) (rs_len l Z a0 hw [] b [p0] cz h0 n0 Z0 T_b S_COMPACT_STRINGS (by first | assumption | decide)) hZ (gw hw 44 rfl) (gw hw 16 rfl) (by decide) (by decide)) q5a q5c (g := (mkF m 5 #[.val (.ref a), .val (.ref b), .unset, .unset, .unset, .unset] [(.ref b), (.int (Int32.ofNat xs.length))])) rfl (by rw [hml]; rfl) (Steps.refl _) (argsL := []) (rest := [(.int (Int32.ofNat xs.length))]) (lenOf own_pd11 rfl) rfl (w0 (Nat.le_of_eq rfl)) (hb hby d17_5) (fun _ _ => ⟨rfl, e4, (by decide : 0 + 0 ≤ _), (by decide : 0 + 0 ≤ _)⟩)
    dsimp only [Pt.U, Pt.locs, Pt.cells, Pt.slots] at X5 l5 y5 z5 st5 hQ5
    subst l5 y5 z5
    obtain ⟨rfl, N5q, e5⟩ := hQ5
    have N5 := Fr.app N4 N5q
    refine Gs (fun _ tk => st5.trans tk) ?_
    show Goes _ _ _ _ _ (T5.setTop (mkF m 8 #[.val (.ref a), .val (.ref b), .unset, .unset, .unset, .unset] [(.int (Int32.ofNat [p0].length)), (.int (Int32.ofNat xs.length))]))
    rw [show (Int32.ofNat [p0].length) = (1 : Int32) from rfl]
    show Goes _ _ _ _ _ (T5.setTop (mkF m 8 #[.val (.ref a), .val (.ref b), .unset, .unset, .unset, .unset] [(.int (1 : Int32)), (.int (Int32.ofNat xs.length))]))
    by_cases hcmp : (Int32.ofNat xs.length) < (1 : Int32)
    · refine Gs (fun _ tk => XS.icmpNo X5.here hx rfl (hb hby d17_8) rfl (tlt hcmp).2.1 tk) ?_
      have hshort := (own_len_lt (n := 1) (by decide) T_a.len).mp hcmp
      refine Gs (fun _ tk => XS.iconst X5.here hx rfl (hb hby d17_11) tk) ?_
      refine Goes.ret X5 (some (.int (0 : Int32))) (fun h => by rw [hret] at h; cases h) hlk (by decide) (by decide) ?_ (fun fs hr => ?_)
      · exact ⟨(by rw [own_swShort _ _ hshort]), N5, e5⟩
      · exact own_retN X5 hx (t := .boolean) hret (by simp) rfl (hb hby d17_12) hr
    · refine Gs (fun _ tk => XS.icmpYes X5.here hx rfl (pc0 := 8) (pc' := 13) rfl (hb hby d17_8) rfl (flt hcmp).2.1 (by decide) (by decide) tk) ?_
      have hlong := fun q => hcmp ((own_len_lt (n := 1) (by decide) T_a.len).mpr q)
      obtain ⟨t0, ts, rfl⟩ : ∃ t0 ts, xs = t0 :: ts := by
        match xs, hlong with
        | [], h => exact absurd (by simp) h
        | t0 :: ts, _ => exact ⟨t0, ts, rfl⟩
      show Goes _ _ _ _ _ (T5.setTop (mkF m 13 #[.val (.ref a), .val (.ref b), .unset, .unset, .unset, .unset] []))
      refine Gs (fun _ tk => XS.iconst X5.here hx rfl (hb hby d17_13) tk) ?_
      refine Gs (fun _ tk => XS.istoreN X5.here hx rfl (hb hby d17_14) rfl (l' := #[.val (.ref a), .val (.ref b), .val (.int (0 : Int32)), .unset, .unset, .unset]) rfl tk) ?_
      refine Gs (fun _ tk => XS.iloadN X5.here hx rfl (hb hby d17_15) rfl tk) ?_
      refine Gs (fun _ tk => XS.aloadN X5.here hx rfl (hb hby d17_16) rfl rfl tk) ?_
      obtain ⟨cq6, kq6, q6a, q6b, q6c⟩ := isOf hZ e5 T_b.exa
      obtain ⟨_, _, ⟨T6, L6, k6, n6⟩, -, X6, ⟨Lc6, hQ6, l6, y6, z6⟩, st6⟩ := X5.virtualBack hx (y := mN2) (z := mN2) hown (mvT hZ (gw hw 40 rfl)) (mvT hZ (gw hw 41 rfl)) (notFace_of_selects (args := #[]) (mvT hZ (gw hw 43 rfl))) (mvT hZ (gw hw 43 rfl)) (mvT hZ (gw hw 42 rfl)) (by decide) (backOf (W := 1) (rs_len l Z a0 hw [] b [p0] cz h0 n0 Z0 T_b S_COMPACT_STRINGS (by first | assumption | decide)) hZ (gw hw 44 rfl) (gw hw 16 rfl) (by decide) (by decide)) q6a q6c (g := (mkF m 17 #[.val (.ref a), .val (.ref b), .val (.int (0 : Int32)), .unset, .unset, .unset] [(.ref b), (.int (0 : Int32))])) rfl (by rw [hml]; rfl) (Steps.refl _) (argsL := []) (rest := [(.int (0 : Int32))]) (lenOf own_pd11 rfl) rfl (w0 (Nat.le_of_eq rfl)) (hb hby d17_17) (fun _ _ => ⟨rfl, e5, (by decide : 0 + 0 ≤ _), (by decide : 0 + 0 ≤ _)⟩)
      dsimp only [Pt.U, Pt.locs, Pt.cells, Pt.slots] at X6 l6 y6 z6 st6 hQ6
      subst l6 y6 z6
      obtain ⟨rfl, N6q, e6⟩ := hQ6
      have N6 := Fr.app N5 N6q
      refine Gs (fun _ tk => st6.trans tk) ?_
      show Goes _ _ _ _ _ (T6.setTop (mkF m 20 #[.val (.ref a), .val (.ref b), .val (.int (0 : Int32)), .unset, .unset, .unset] [(.int (Int32.ofNat [p0].length)), (.int (0 : Int32))]))
      rw [show (Int32.ofNat [p0].length) = (1 : Int32) from rfl]
      show Goes _ _ _ _ _ (T6.setTop (mkF m 20 #[.val (.ref a), .val (.ref b), .val (.int (0 : Int32)), .unset, .unset, .unset] [(.int (1 : Int32)), (.int (0 : Int32))]))
      refine Gs (fun _ tk => XS.icmpNo X6.here hx rfl (hb hby d17_20) rfl (tlt (by decide : ((0 : Int32) < (1 : Int32)))).2.1 tk) ?_
      refine Gs (fun _ tk => XS.aloadN X6.here hx rfl (hb hby d17_23) rfl rfl tk) ?_
      refine Gs (fun _ tk => XS.iloadN X6.here hx rfl (hb hby d17_24) rfl tk) ?_
      obtain ⟨cq7, kq7, q7a, q7b, q7c⟩ := isOf hZ e6 T_b.exa
      obtain ⟨_, _, ⟨T7, L7, k7, n7⟩, -, X7, ⟨Lc7, hQ7, l7, y7, z7⟩, st7⟩ := X6.virtualBack hx (y := mN6) (z := mN6) hown (mvT hZ (gw hw 64 rfl)) (mvT hZ (gw hw 65 rfl)) (notFace_of_selects (args := #[]) (mvT hZ (gw hw 67 rfl))) (mvT hZ (gw hw 67 rfl)) (mvT hZ (gw hw 66 rfl)) (by decide) (backOf (W := 0) (rs_chr l Z a0 hw [] b [p0] (0 : Int32) p0 cz fo h0 n0 Z0 T_b S_COMPACT_STRINGS (by first | assumption | decide) (by first | assumption | decide) (own_il 0 _ (by decide) (by simp) T_b.len) rfl S_SIOOBE_FORMATTER (by first | assumption | decide)) hZ (gw hw 68 rfl) (gw hw 16 rfl) (by decide) (by decide)) q7a q7c (g := (mkF m 25 #[.val (.ref a), .val (.ref b), .val (.int (0 : Int32)), .unset, .unset, .unset] [(.int (0 : Int32)), (.ref b)])) rfl (by rw [hml]; rfl) (Steps.refl _) (argsL := [(.int (0 : Int32))]) (rest := []) (lenOf own_pd12 rfl) rfl (w0 (Nat.le_of_eq rfl)) (hb hby d17_25) (fun _ _ => ⟨rfl, e6, (by decide : 0 + 0 ≤ _), (by decide : 0 + 0 ≤ _)⟩)
      dsimp only [Pt.U, Pt.locs, Pt.cells, Pt.slots] at X7 l7 y7 z7 st7 hQ7
      subst l7 y7 z7
      obtain ⟨rfl, N7q, e7⟩ := hQ7
      have N7 := Fr.app N6 N7q
      refine Gs (fun _ tk => st7.trans tk) ?_
      show Goes _ _ _ _ _ (T7.setTop (mkF m 28 #[.val (.ref a), .val (.ref b), .val (.int (0 : Int32)), .unset, .unset, .unset] [(.int p0)]))
      refine Gs (fun _ tk => XS.istoreN X7.here hx rfl (hb hby d17_28) rfl (l' := #[.val (.ref a), .val (.ref b), .val (.int (0 : Int32)), .val (.int p0), .unset, .unset]) rfl tk) ?_
      refine Gs (fun _ tk => XS.aloadN X7.here hx rfl (hb hby d17_29) rfl rfl tk) ?_
      refine Gs (fun _ tk => XS.iloadN X7.here hx rfl (hb hby d17_30) rfl tk) ?_
      obtain ⟨cq8, kq8, q8a, q8b, q8c⟩ := isOf hZ e7 T_a.exa
      obtain ⟨_, _, ⟨T8, L8, k8, n8⟩, -, X8, ⟨Lc8, hQ8, l8, y8, z8⟩, st8⟩ := X7.virtualBack hx (y := mN6) (z := mN6) hown (mvT hZ (gw hw 64 rfl)) (mvT hZ (gw hw 65 rfl)) (notFace_of_selects (args := #[]) (mvT hZ (gw hw 67 rfl))) (mvT hZ (gw hw 67 rfl)) (mvT hZ (gw hw 66 rfl)) (by decide) (backOf (W := 0) (rs_chr l Z a0 hw [] a (t0 :: ts) (0 : Int32) t0 cz fo h0 n0 Z0 T_a S_COMPACT_STRINGS (by first | assumption | decide) (by first | assumption | decide) (own_il 0 _ (by decide) (by simp) T_a.len) rfl S_SIOOBE_FORMATTER (by first | assumption | decide)) hZ (gw hw 68 rfl) (gw hw 16 rfl) (by decide) (by decide)) q8a q8c (g := (mkF m 31 #[.val (.ref a), .val (.ref b), .val (.int (0 : Int32)), .val (.int p0), .unset, .unset] [(.int (0 : Int32)), (.ref a)])) rfl (by rw [hml]; rfl) (Steps.refl _) (argsL := [(.int (0 : Int32))]) (rest := []) (lenOf own_pd12 rfl) rfl (w0 (Nat.le_of_eq rfl)) (hb hby d17_31) (fun _ _ => ⟨rfl, e7, (by decide : 0 + 0 ≤ _), (by decide : 0 + 0 ≤ _)⟩)
      dsimp only [Pt.U, Pt.locs, Pt.cells, Pt.slots] at X8 l8 y8 z8 st8 hQ8
      subst l8 y8 z8
      obtain ⟨rfl, N8q, e8⟩ := hQ8
      have N8 := Fr.app N7 N8q
      refine Gs (fun _ tk => st8.trans tk) ?_
      show Goes _ _ _ _ _ (T8.setTop (mkF m 34 #[.val (.ref a), .val (.ref b), .val (.int (0 : Int32)), .val (.int p0), .unset, .unset] [(.int t0)]))
      refine Gs (fun _ tk => XS.istore X8.here hx rfl (hb hby d17_34) rfl (l' := #[.val (.ref a), .val (.ref b), .val (.int (0 : Int32)), .val (.int p0), .val (.int t0), .unset]) rfl tk) ?_
      refine Gs (fun _ tk => XS.iloadN X8.here hx rfl (hb hby d17_36) rfl tk) ?_
      refine Gs (fun _ tk => XS.bipush X8.here hx rfl (hb hby d17_37) tk) ?_
      show Goes _ _ _ _ _ (T8.setTop (mkF m 39 #[.val (.ref a), .val (.ref b), .val (.int (0 : Int32)), .val (.int p0), .val (.int t0), .unset] [(.int (48 : Int32)), (.int p0)]))
      refine own_join (B := T8.setTop (mkF m 75 #[.val (.ref a), .val (.ref b), .val (.int (0 : Int32)), .val (.int p0), .val (.int t0), .unset] [(.int (own_fit2 p0 t0))])) ?_ ?_
      · show Goes _ _ _ _ _ (T8.setTop (mkF m 75 #[.val (.ref a), .val (.ref b), .val (.int (0 : Int32)), .val (.int p0), .val (.int t0), .unset] [(.int (own_fit2 p0 t0))]))
        refine Gs (fun _ tk => XS.istore X8.here hx rfl (hb hby d17_75) rfl (l' := #[.val (.ref a), .val (.ref b), .val (.int (0 : Int32)), .val (.int p0), .val (.int t0), .val (.int (own_fit2 p0 t0))]) rfl tk) ?_
        refine Gs (fun _ tk => XS.iload X8.here hx rfl (hb hby d17_77) rfl tk) ?_
        by_cases hc79_10 : (own_fit2 p0 t0) = (0 : Int32)
        · refine Gs (fun _ tk => XS.ifNo X8.here hx rfl (hb hby d17_79) rfl ((if0 _ _).trans (teq hc79_10).2) tk) ?_
          refine Gs (fun _ tk => XS.iconst X8.here hx rfl (hb hby d17_82) tk) ?_
          refine Goes.ret X8 (some (.int (0 : Int32))) (fun h => by rw [hret] at h; cases h) hlk (by decide) (by decide) ?_ (fun fs hr => ?_)
          · exact ⟨(by rw [own_sw, if_pos hc79_10]), N8, e8⟩
          · exact own_retN X8 hx (t := .boolean) hret (by simp) rfl (hb hby d17_83) hr
        · refine Gs (fun _ tk => XS.ifYes X8.here hx rfl (pc0 := 79) (pc' := 84) rfl (hb hby d17_79) rfl ((if0 _ _).trans (feq hc79_10).2) (by decide) (by decide) tk) ?_
          show Goes _ _ _ _ _ (T8.setTop (mkF m 84 #[.val (.ref a), .val (.ref b), .val (.int (0 : Int32)), .val (.int p0), .val (.int t0), .val (.int (own_fit2 p0 t0))] []))
          refine Gs (fun _ tk => XS.iinc X8.here hx rfl (hb hby d17_84) rfl (l' := #[.val (.ref a), .val (.ref b), .val (.int ((0 : Int32) + (1 : Int32))), .val (.int p0), .val (.int t0), .val (.int (own_fit2 p0 t0))]) rfl tk) ?_
          rw [show ((0 : Int32) + (1 : Int32)) = (1 : Int32) from by decide]
          show Goes _ _ _ _ _ (T8.setTop (mkF m 87 #[.val (.ref a), .val (.ref b), .val (.int (1 : Int32)), .val (.int p0), .val (.int t0), .val (.int (own_fit2 p0 t0))] []))
          refine Gs (fun _ tk => XS.goto X8.here hx rfl (pc0 := 87) (pc' := 15) rfl (hb hby d17_87) (by decide) (by decide) tk) ?_
          refine Gs (fun _ tk => XS.iloadN X8.here hx rfl (hb hby d17_15) rfl tk) ?_
          refine Gs (fun _ tk => XS.aloadN X8.here hx rfl (hb hby d17_16) rfl rfl tk) ?_
          obtain ⟨cq11, kq11, q11a, q11b, q11c⟩ := isOf hZ e8 T_b.exa
          obtain ⟨_, _, ⟨T11, L11, k11, n11⟩, -, X11, ⟨Lc11, hQ11, l11, y11, z11⟩, st11⟩ := X8.virtualBack hx (y := mN2) (z := mN2) hown (mvT hZ (gw hw 40 rfl)) (mvT hZ (gw hw 41 rfl)) (notFace_of_selects (args := #[]) (mvT hZ (gw hw 43 rfl))) (mvT hZ (gw hw 43 rfl)) (mvT hZ (gw hw 42 rfl)) (by decide) (backOf (W := 1) (rs_len l Z a0 hw [] b [p0] cz h0 n0 Z0 T_b S_COMPACT_STRINGS (by first | assumption | decide)) hZ (gw hw 44 rfl) (gw hw 16 rfl) (by decide) (by decide)) q11a q11c (g := (mkF m 17 #[.val (.ref a), .val (.ref b), .val (.int (1 : Int32)), .val (.int p0), .val (.int t0), .val (.int (own_fit2 p0 t0))] [(.ref b), (.int (1 : Int32))])) rfl (by rw [hml]; rfl) (Steps.refl _) (argsL := []) (rest := [(.int (1 : Int32))]) (lenOf own_pd11 rfl) rfl (w0 (Nat.le_of_eq rfl)) (hb hby d17_17) (fun _ _ => ⟨rfl, e8, (by decide : 0 + 0 ≤ _), (by decide : 0 + 0 ≤ _)⟩)
          dsimp only [Pt.U, Pt.locs, Pt.cells, Pt.slots] at X11 l11 y11 z11 st11 hQ11
          subst l11 y11 z11
          obtain ⟨rfl, N11q, e11⟩ := hQ11
          have N11 := Fr.app N8 N11q
          refine Gs (fun _ tk => st11.trans tk) ?_
          show Goes _ _ _ _ _ (T11.setTop (mkF m 20 #[.val (.ref a), .val (.ref b), .val (.int (1 : Int32)), .val (.int p0), .val (.int t0), .val (.int (own_fit2 p0 t0))] [(.int (Int32.ofNat [p0].length)), (.int (1 : Int32))]))
          rw [show (Int32.ofNat [p0].length) = (1 : Int32) from rfl]
          show Goes _ _ _ _ _ (T11.setTop (mkF m 20 #[.val (.ref a), .val (.ref b), .val (.int (1 : Int32)), .val (.int p0), .val (.int t0), .val (.int (own_fit2 p0 t0))] [(.int (1 : Int32)), (.int (1 : Int32))]))
          refine Gs (fun _ tk => XS.icmpYes X11.here hx rfl (pc0 := 20) (pc' := 90) rfl (hb hby d17_20) rfl (flt (by decide : ¬ ((1 : Int32) < (1 : Int32)))).2.1 (by decide) (by decide) tk) ?_
          refine Gs (fun _ tk => XS.iconst X11.here hx rfl (hb hby d17_90) tk) ?_
          refine Goes.ret X11 (some (.int (1 : Int32))) (fun h => by rw [hret] at h; cases h) hlk (by decide) (by decide) ?_ (fun fs hr => ?_)
          · exact ⟨(by rw [own_sw, if_neg hc79_10, own_sw]), N11, e11⟩
          · exact own_retN X11 hx (t := .boolean) hret (by simp) rfl (hb hby d17_91) hr
      intro J75_9
      by_cases hc39_12 : p0 = (48 : Int32)
      · refine Gs (fun _ tk => XS.icmpNo X8.here hx rfl (hb hby d17_39) rfl (teq hc39_12).2 tk) ?_
        refine Gs (fun _ tk => XS.iload X8.here hx rfl (hb hby d17_42) rfl tk) ?_
        refine Gs (fun _ tk => XS.bipush X8.here hx rfl (hb hby d17_44) tk) ?_
        by_cases hc46_13 : t0 < (48 : Int32)
        · refine Gs (fun _ tk => XS.icmpYes X8.here hx rfl (pc0 := 46) (pc' := 60) rfl (hb hby d17_46) rfl (tlt hc46_13).1 (by decide) (by decide) tk) ?_
          refine Gs (fun _ tk => XS.iconst X8.here hx rfl (hb hby d17_60) tk) ?_
          refine Gs (fun _ tk => XS.goto X8.here hx rfl (pc0 := 61) (pc' := 75) rfl (hb hby d17_61) (by decide) (by decide) tk) ?_
          show Goes _ _ _ _ _ (T8.setTop (mkF m 75 #[.val (.ref a), .val (.ref b), .val (.int (0 : Int32)), .val (.int p0), .val (.int t0), .unset] [(.int (0 : Int32))]))
          rw [show (own_fit2 p0 t0) = (0 : Int32) from by rw [own_fit2, if_pos hc39_12, if_pos hc46_13]] at J75_9
          exact J75_9
        · refine Gs (fun _ tk => XS.icmpNo X8.here hx rfl (hb hby d17_46) rfl (flt hc46_13).1 tk) ?_
          refine Gs (fun _ tk => XS.iload X8.here hx rfl (hb hby d17_49) rfl tk) ?_
          refine Gs (fun _ tk => XS.bipush X8.here hx rfl (hb hby d17_51) tk) ?_
          show Goes _ _ _ _ _ (T8.setTop (mkF m 53 #[.val (.ref a), .val (.ref b), .val (.int (0 : Int32)), .val (.int p0), .val (.int t0), .unset] [(.int (57 : Int32)), (.int t0)]))
          by_cases hc53_14 : (57 : Int32) < t0
          · refine Gs (fun _ tk => XS.icmpYes X8.here hx rfl (pc0 := 53) (pc' := 60) rfl (hb hby d17_53) rfl (tlt hc53_14).2.2.1 (by decide) (by decide) tk) ?_
            refine Gs (fun _ tk => XS.iconst X8.here hx rfl (hb hby d17_60) tk) ?_
            refine Gs (fun _ tk => XS.goto X8.here hx rfl (pc0 := 61) (pc' := 75) rfl (hb hby d17_61) (by decide) (by decide) tk) ?_
            rw [show (own_fit2 p0 t0) = (0 : Int32) from by rw [own_fit2, if_pos hc39_12, if_neg hc46_13, if_pos hc53_14]] at J75_9
            exact J75_9
          · refine Gs (fun _ tk => XS.icmpNo X8.here hx rfl (hb hby d17_53) rfl (flt hc53_14).2.2.1 tk) ?_
            refine Gs (fun _ tk => XS.iconst X8.here hx rfl (hb hby d17_56) tk) ?_
            refine Gs (fun _ tk => XS.goto X8.here hx rfl (pc0 := 57) (pc' := 75) rfl (hb hby d17_57) (by decide) (by decide) tk) ?_
            rw [show (own_fit2 p0 t0) = (1 : Int32) from by rw [own_fit2, if_pos hc39_12, if_neg hc46_13, if_neg hc53_14]] at J75_9
            exact J75_9
      · refine Gs (fun _ tk => XS.icmpYes X8.here hx rfl (pc0 := 39) (pc' := 64) rfl (hb hby d17_39) rfl (feq hc39_12).2 (by decide) (by decide) tk) ?_
        refine Gs (fun _ tk => XS.iload X8.here hx rfl (hb hby d17_64) rfl tk) ?_
        refine Gs (fun _ tk => XS.iloadN X8.here hx rfl (hb hby d17_66) rfl tk) ?_
        by_cases hc67_15 : t0 = p0
        · refine Gs (fun _ tk => XS.icmpNo X8.here hx rfl (hb hby d17_67) rfl (teq hc67_15).2 tk) ?_
          refine Gs (fun _ tk => XS.iconst X8.here hx rfl (hb hby d17_70) tk) ?_
          refine Gs (fun _ tk => XS.goto X8.here hx rfl (pc0 := 71) (pc' := 75) rfl (hb hby d17_71) (by decide) (by decide) tk) ?_
          show Goes _ _ _ _ _ (T8.setTop (mkF m 75 #[.val (.ref a), .val (.ref b), .val (.int (0 : Int32)), .val (.int p0), .val (.int t0), .unset] [(.int (1 : Int32))]))
          rw [show (own_fit2 p0 t0) = (1 : Int32) from by rw [own_fit2, if_neg hc39_12, if_pos hc67_15]] at J75_9
          exact J75_9
        · refine Gs (fun _ tk => XS.icmpYes X8.here hx rfl (pc0 := 67) (pc' := 74) rfl (hb hby d17_67) rfl (feq hc67_15).2 (by decide) (by decide) tk) ?_
          refine Gs (fun _ tk => XS.iconst X8.here hx rfl (hb hby d17_74) tk) ?_
          rw [show (own_fit2 p0 t0) = (0 : Int32) from by rw [own_fit2, if_neg hc39_12, if_neg hc67_15]] at J75_9
          exact J75_9
  · show Goes _ _ _ _ _ (s₁.setTop (mkF m 0 #[.val (.ref a), .val (.ref b), .unset, .unset, .unset, .unset] []))
    refine Gs (fun _ tk => XS.aloadN X0.here hx rfl (hb hby d17_0) rfl rfl tk) ?_
    obtain ⟨cq16, kq16, q16a, q16b, q16c⟩ := isOf hZ e0 T_a.exa
    obtain ⟨_, _, ⟨T16, L16, k16, n16⟩, -, X16, ⟨Lc16, hQ16, l16, y16, z16⟩, st16⟩ := X0.virtualBack hx (y := mN2) (z := mN2) hown (mvT hZ (gw hw 40 rfl)) (mvT hZ (gw hw 41 rfl)) (notFace_of_selects (args := #[]) (mvT hZ (gw hw 43 rfl))) (mvT hZ (gw hw 43 rfl)) (mvT hZ (gw hw 42 rfl)) (by decide) (backOf (W := 0) (rs_len l Z a0 hw [] a xs cz h0 n0 Z0 T_a S_COMPACT_STRINGS (by first | assumption | decide)) hZ (gw hw 44 rfl) (gw hw 16 rfl) (by decide) (by decide)) q16a q16c (g := (mkF m 1 #[.val (.ref a), .val (.ref b), .unset, .unset, .unset, .unset] [(.ref a)])) rfl (by rw [hml]; rfl) (Steps.refl _) (argsL := []) (rest := []) (lenOf own_pd11 rfl) rfl (w0 (Nat.le_of_eq rfl)) (hb hby d17_1) (fun _ _ => ⟨rfl, e0, (by decide : 0 + 0 ≤ _), (by decide : 0 + 0 ≤ _)⟩)
    dsimp only [Pt.U, Pt.locs, Pt.cells, Pt.slots] at X16 l16 y16 z16 st16 hQ16
    subst l16 y16 z16
    obtain ⟨rfl, N16q, e16⟩ := hQ16
    have N16 := Fr.app N0 N16q
    refine Gs (fun _ tk => st16.trans tk) ?_
    show Goes _ _ _ _ _ (T16.setTop (mkF m 4 #[.val (.ref a), .val (.ref b), .unset, .unset, .unset, .unset] [(.int (Int32.ofNat xs.length))]))
    refine Gs (fun _ tk => XS.aloadN X16.here hx rfl (hb hby d17_4) rfl rfl tk) ?_
    obtain ⟨cq17, kq17, q17a, q17b, q17c⟩ := isOf hZ e16 T_b.exa
    obtain ⟨_, _, ⟨T17, L17, k17, n17⟩, -, X17, ⟨Lc17, hQ17, l17, y17, z17⟩, st17⟩ := X16.virtualBack hx (y := mN2) (z := mN2) hown (mvT hZ (gw hw 40 rfl)) (mvT hZ (gw hw 41 rfl)) (notFace_of_selects (args := #[]) (mvT hZ (gw hw 43 rfl))) (mvT hZ (gw hw 43 rfl)) (mvT hZ (gw hw 42 rfl)) (by decide) (backOf (W := 1) (rs_len l Z a0 hw [] b [p0, p1] cz h0 n0 Z0 T_b S_COMPACT_STRINGS (by first | assumption | decide)) hZ (gw hw 44 rfl) (gw hw 16 rfl) (by decide) (by decide)) q17a q17c (g := (mkF m 5 #[.val (.ref a), .val (.ref b), .unset, .unset, .unset, .unset] [(.ref b), (.int (Int32.ofNat xs.length))])) rfl (by rw [hml]; rfl) (Steps.refl _) (argsL := []) (rest := [(.int (Int32.ofNat xs.length))]) (lenOf own_pd11 rfl) rfl (w0 (Nat.le_of_eq rfl)) (hb hby d17_5) (fun _ _ => ⟨rfl, e16, (by decide : 0 + 0 ≤ _), (by decide : 0 + 0 ≤ _)⟩)
    dsimp only [Pt.U, Pt.locs, Pt.cells, Pt.slots] at X17 l17 y17 z17 st17 hQ17
    subst l17 y17 z17
    obtain ⟨rfl, N17q, e17⟩ := hQ17
    have N17 := Fr.app N16 N17q
    refine Gs (fun _ tk => st17.trans tk) ?_
    show Goes _ _ _ _ _ (T17.setTop (mkF m 8 #[.val (.ref a), .val (.ref b), .unset, .unset, .unset, .unset] [(.int (Int32.ofNat [p0, p1].length)), (.int (Int32.ofNat xs.length))]))
    rw [show (Int32.ofNat [p0, p1].length) = (2 : Int32) from rfl]
    show Goes _ _ _ _ _ (T17.setTop (mkF m 8 #[.val (.ref a), .val (.ref b), .unset, .unset, .unset, .unset] [(.int (2 : Int32)), (.int (Int32.ofNat xs.length))]))
    by_cases hcmp : (Int32.ofNat xs.length) < (2 : Int32)
    · refine Gs (fun _ tk => XS.icmpNo X17.here hx rfl (hb hby d17_8) rfl (tlt hcmp).2.1 tk) ?_
      have hshort := (own_len_lt (n := 2) (by decide) T_a.len).mp hcmp
      refine Gs (fun _ tk => XS.iconst X17.here hx rfl (hb hby d17_11) tk) ?_
      refine Goes.ret X17 (some (.int (0 : Int32))) (fun h => by rw [hret] at h; cases h) hlk (by decide) (by decide) ?_ (fun fs hr => ?_)
      · exact ⟨(by rw [own_swShort _ _ hshort]), N17, e17⟩
      · exact own_retN X17 hx (t := .boolean) hret (by simp) rfl (hb hby d17_12) hr
    · refine Gs (fun _ tk => XS.icmpYes X17.here hx rfl (pc0 := 8) (pc' := 13) rfl (hb hby d17_8) rfl (flt hcmp).2.1 (by decide) (by decide) tk) ?_
      have hlong := fun q => hcmp ((own_len_lt (n := 2) (by decide) T_a.len).mpr q)
      obtain ⟨t0, t1, ts, rfl⟩ : ∃ t0 t1 ts, xs = t0 :: t1 :: ts := by
        match xs, hlong with
        | [], h => exact absurd (by simp) h
        | [_], h => exact absurd (by simp) h
        | t0 :: t1 :: ts, _ => exact ⟨t0, t1, ts, rfl⟩
      show Goes _ _ _ _ _ (T17.setTop (mkF m 13 #[.val (.ref a), .val (.ref b), .unset, .unset, .unset, .unset] []))
      refine Gs (fun _ tk => XS.iconst X17.here hx rfl (hb hby d17_13) tk) ?_
      refine Gs (fun _ tk => XS.istoreN X17.here hx rfl (hb hby d17_14) rfl (l' := #[.val (.ref a), .val (.ref b), .val (.int (0 : Int32)), .unset, .unset, .unset]) rfl tk) ?_
      refine Gs (fun _ tk => XS.iloadN X17.here hx rfl (hb hby d17_15) rfl tk) ?_
      refine Gs (fun _ tk => XS.aloadN X17.here hx rfl (hb hby d17_16) rfl rfl tk) ?_
      obtain ⟨cq18, kq18, q18a, q18b, q18c⟩ := isOf hZ e17 T_b.exa
      obtain ⟨_, _, ⟨T18, L18, k18, n18⟩, -, X18, ⟨Lc18, hQ18, l18, y18, z18⟩, st18⟩ := X17.virtualBack hx (y := mN2) (z := mN2) hown (mvT hZ (gw hw 40 rfl)) (mvT hZ (gw hw 41 rfl)) (notFace_of_selects (args := #[]) (mvT hZ (gw hw 43 rfl))) (mvT hZ (gw hw 43 rfl)) (mvT hZ (gw hw 42 rfl)) (by decide) (backOf (W := 1) (rs_len l Z a0 hw [] b [p0, p1] cz h0 n0 Z0 T_b S_COMPACT_STRINGS (by first | assumption | decide)) hZ (gw hw 44 rfl) (gw hw 16 rfl) (by decide) (by decide)) q18a q18c (g := (mkF m 17 #[.val (.ref a), .val (.ref b), .val (.int (0 : Int32)), .unset, .unset, .unset] [(.ref b), (.int (0 : Int32))])) rfl (by rw [hml]; rfl) (Steps.refl _) (argsL := []) (rest := [(.int (0 : Int32))]) (lenOf own_pd11 rfl) rfl (w0 (Nat.le_of_eq rfl)) (hb hby d17_17) (fun _ _ => ⟨rfl, e17, (by decide : 0 + 0 ≤ _), (by decide : 0 + 0 ≤ _)⟩)
      dsimp only [Pt.U, Pt.locs, Pt.cells, Pt.slots] at X18 l18 y18 z18 st18 hQ18
      subst l18 y18 z18
      obtain ⟨rfl, N18q, e18⟩ := hQ18
      have N18 := Fr.app N17 N18q
      refine Gs (fun _ tk => st18.trans tk) ?_
      show Goes _ _ _ _ _ (T18.setTop (mkF m 20 #[.val (.ref a), .val (.ref b), .val (.int (0 : Int32)), .unset, .unset, .unset] [(.int (Int32.ofNat [p0, p1].length)), (.int (0 : Int32))]))
      rw [show (Int32.ofNat [p0, p1].length) = (2 : Int32) from rfl]
      show Goes _ _ _ _ _ (T18.setTop (mkF m 20 #[.val (.ref a), .val (.ref b), .val (.int (0 : Int32)), .unset, .unset, .unset] [(.int (2 : Int32)), (.int (0 : Int32))]))
      refine Gs (fun _ tk => XS.icmpNo X18.here hx rfl (hb hby d17_20) rfl (tlt (by decide : ((0 : Int32) < (2 : Int32)))).2.1 tk) ?_
      refine Gs (fun _ tk => XS.aloadN X18.here hx rfl (hb hby d17_23) rfl rfl tk) ?_
      refine Gs (fun _ tk => XS.iloadN X18.here hx rfl (hb hby d17_24) rfl tk) ?_
      obtain ⟨cq19, kq19, q19a, q19b, q19c⟩ := isOf hZ e18 T_b.exa
      obtain ⟨_, _, ⟨T19, L19, k19, n19⟩, -, X19, ⟨Lc19, hQ19, l19, y19, z19⟩, st19⟩ := X18.virtualBack hx (y := mN6) (z := mN6) hown (mvT hZ (gw hw 64 rfl)) (mvT hZ (gw hw 65 rfl)) (notFace_of_selects (args := #[]) (mvT hZ (gw hw 67 rfl))) (mvT hZ (gw hw 67 rfl)) (mvT hZ (gw hw 66 rfl)) (by decide) (backOf (W := 0) (rs_chr l Z a0 hw [] b [p0, p1] (0 : Int32) p0 cz fo h0 n0 Z0 T_b S_COMPACT_STRINGS (by first | assumption | decide) (by first | assumption | decide) (own_il 0 _ (by decide) (by simp) T_b.len) rfl S_SIOOBE_FORMATTER (by first | assumption | decide)) hZ (gw hw 68 rfl) (gw hw 16 rfl) (by decide) (by decide)) q19a q19c (g := (mkF m 25 #[.val (.ref a), .val (.ref b), .val (.int (0 : Int32)), .unset, .unset, .unset] [(.int (0 : Int32)), (.ref b)])) rfl (by rw [hml]; rfl) (Steps.refl _) (argsL := [(.int (0 : Int32))]) (rest := []) (lenOf own_pd12 rfl) rfl (w0 (Nat.le_of_eq rfl)) (hb hby d17_25) (fun _ _ => ⟨rfl, e18, (by decide : 0 + 0 ≤ _), (by decide : 0 + 0 ≤ _)⟩)
      dsimp only [Pt.U, Pt.locs, Pt.cells, Pt.slots] at X19 l19 y19 z19 st19 hQ19
      subst l19 y19 z19
      obtain ⟨rfl, N19q, e19⟩ := hQ19
      have N19 := Fr.app N18 N19q
      refine Gs (fun _ tk => st19.trans tk) ?_
      show Goes _ _ _ _ _ (T19.setTop (mkF m 28 #[.val (.ref a), .val (.ref b), .val (.int (0 : Int32)), .unset, .unset, .unset] [(.int p0)]))
      refine Gs (fun _ tk => XS.istoreN X19.here hx rfl (hb hby d17_28) rfl (l' := #[.val (.ref a), .val (.ref b), .val (.int (0 : Int32)), .val (.int p0), .unset, .unset]) rfl tk) ?_
      refine Gs (fun _ tk => XS.aloadN X19.here hx rfl (hb hby d17_29) rfl rfl tk) ?_
      refine Gs (fun _ tk => XS.iloadN X19.here hx rfl (hb hby d17_30) rfl tk) ?_
      obtain ⟨cq20, kq20, q20a, q20b, q20c⟩ := isOf hZ e19 T_a.exa
      obtain ⟨_, _, ⟨T20, L20, k20, n20⟩, -, X20, ⟨Lc20, hQ20, l20, y20, z20⟩, st20⟩ := X19.virtualBack hx (y := mN6) (z := mN6) hown (mvT hZ (gw hw 64 rfl)) (mvT hZ (gw hw 65 rfl)) (notFace_of_selects (args := #[]) (mvT hZ (gw hw 67 rfl))) (mvT hZ (gw hw 67 rfl)) (mvT hZ (gw hw 66 rfl)) (by decide) (backOf (W := 0) (rs_chr l Z a0 hw [] a (t0 :: t1 :: ts) (0 : Int32) t0 cz fo h0 n0 Z0 T_a S_COMPACT_STRINGS (by first | assumption | decide) (by first | assumption | decide) (own_il 0 _ (by decide) (by simp) T_a.len) rfl S_SIOOBE_FORMATTER (by first | assumption | decide)) hZ (gw hw 68 rfl) (gw hw 16 rfl) (by decide) (by decide)) q20a q20c (g := (mkF m 31 #[.val (.ref a), .val (.ref b), .val (.int (0 : Int32)), .val (.int p0), .unset, .unset] [(.int (0 : Int32)), (.ref a)])) rfl (by rw [hml]; rfl) (Steps.refl _) (argsL := [(.int (0 : Int32))]) (rest := []) (lenOf own_pd12 rfl) rfl (w0 (Nat.le_of_eq rfl)) (hb hby d17_31) (fun _ _ => ⟨rfl, e19, (by decide : 0 + 0 ≤ _), (by decide : 0 + 0 ≤ _)⟩)
      dsimp only [Pt.U, Pt.locs, Pt.cells, Pt.slots] at X20 l20 y20 z20 st20 hQ20
      subst l20 y20 z20
      obtain ⟨rfl, N20q, e20⟩ := hQ20
      have N20 := Fr.app N19 N20q
      refine Gs (fun _ tk => st20.trans tk) ?_
      show Goes _ _ _ _ _ (T20.setTop (mkF m 34 #[.val (.ref a), .val (.ref b), .val (.int (0 : Int32)), .val (.int p0), .unset, .unset] [(.int t0)]))
      refine Gs (fun _ tk => XS.istore X20.here hx rfl (hb hby d17_34) rfl (l' := #[.val (.ref a), .val (.ref b), .val (.int (0 : Int32)), .val (.int p0), .val (.int t0), .unset]) rfl tk) ?_
      refine Gs (fun _ tk => XS.iloadN X20.here hx rfl (hb hby d17_36) rfl tk) ?_
      refine Gs (fun _ tk => XS.bipush X20.here hx rfl (hb hby d17_37) tk) ?_
      show Goes _ _ _ _ _ (T20.setTop (mkF m 39 #[.val (.ref a), .val (.ref b), .val (.int (0 : Int32)), .val (.int p0), .val (.int t0), .unset] [(.int (48 : Int32)), (.int p0)]))
      refine own_join (B := T20.setTop (mkF m 75 #[.val (.ref a), .val (.ref b), .val (.int (0 : Int32)), .val (.int p0), .val (.int t0), .unset] [(.int (own_fit2 p0 t0))])) ?_ ?_
      · show Goes _ _ _ _ _ (T20.setTop (mkF m 75 #[.val (.ref a), .val (.ref b), .val (.int (0 : Int32)), .val (.int p0), .val (.int t0), .unset] [(.int (own_fit2 p0 t0))]))
        refine Gs (fun _ tk => XS.istore X20.here hx rfl (hb hby d17_75) rfl (l' := #[.val (.ref a), .val (.ref b), .val (.int (0 : Int32)), .val (.int p0), .val (.int t0), .val (.int (own_fit2 p0 t0))]) rfl tk) ?_
        refine Gs (fun _ tk => XS.iload X20.here hx rfl (hb hby d17_77) rfl tk) ?_
        by_cases hc79_22 : (own_fit2 p0 t0) = (0 : Int32)
        · refine Gs (fun _ tk => XS.ifNo X20.here hx rfl (hb hby d17_79) rfl ((if0 _ _).trans (teq hc79_22).2) tk) ?_
          refine Gs (fun _ tk => XS.iconst X20.here hx rfl (hb hby d17_82) tk) ?_
          refine Goes.ret X20 (some (.int (0 : Int32))) (fun h => by rw [hret] at h; cases h) hlk (by decide) (by decide) ?_ (fun fs hr => ?_)
          · exact ⟨(by rw [own_sw, if_pos hc79_22]), N20, e20⟩
          · exact own_retN X20 hx (t := .boolean) hret (by simp) rfl (hb hby d17_83) hr
        · refine Gs (fun _ tk => XS.ifYes X20.here hx rfl (pc0 := 79) (pc' := 84) rfl (hb hby d17_79) rfl ((if0 _ _).trans (feq hc79_22).2) (by decide) (by decide) tk) ?_
          show Goes _ _ _ _ _ (T20.setTop (mkF m 84 #[.val (.ref a), .val (.ref b), .val (.int (0 : Int32)), .val (.int p0), .val (.int t0), .val (.int (own_fit2 p0 t0))] []))
          refine Gs (fun _ tk => XS.iinc X20.here hx rfl (hb hby d17_84) rfl (l' := #[.val (.ref a), .val (.ref b), .val (.int ((0 : Int32) + (1 : Int32))), .val (.int p0), .val (.int t0), .val (.int (own_fit2 p0 t0))]) rfl tk) ?_
          rw [show ((0 : Int32) + (1 : Int32)) = (1 : Int32) from by decide]
          show Goes _ _ _ _ _ (T20.setTop (mkF m 87 #[.val (.ref a), .val (.ref b), .val (.int (1 : Int32)), .val (.int p0), .val (.int t0), .val (.int (own_fit2 p0 t0))] []))
          refine Gs (fun _ tk => XS.goto X20.here hx rfl (pc0 := 87) (pc' := 15) rfl (hb hby d17_87) (by decide) (by decide) tk) ?_
          refine Gs (fun _ tk => XS.iloadN X20.here hx rfl (hb hby d17_15) rfl tk) ?_
          refine Gs (fun _ tk => XS.aloadN X20.here hx rfl (hb hby d17_16) rfl rfl tk) ?_
          obtain ⟨cq23, kq23, q23a, q23b, q23c⟩ := isOf hZ e20 T_b.exa
          obtain ⟨_, _, ⟨T23, L23, k23, n23⟩, -, X23, ⟨Lc23, hQ23, l23, y23, z23⟩, st23⟩ := X20.virtualBack hx (y := mN2) (z := mN2) hown (mvT hZ (gw hw 40 rfl)) (mvT hZ (gw hw 41 rfl)) (notFace_of_selects (args := #[]) (mvT hZ (gw hw 43 rfl))) (mvT hZ (gw hw 43 rfl)) (mvT hZ (gw hw 42 rfl)) (by decide) (backOf (W := 1) (rs_len l Z a0 hw [] b [p0, p1] cz h0 n0 Z0 T_b S_COMPACT_STRINGS (by first | assumption | decide)) hZ (gw hw 44 rfl) (gw hw 16 rfl) (by decide) (by decide)) q23a q23c (g := (mkF m 17 #[.val (.ref a), .val (.ref b), .val (.int (1 : Int32)), .val (.int p0), .val (.int t0), .val (.int (own_fit2 p0 t0))] [(.ref b), (.int (1 : Int32))])) rfl (by rw [hml]; rfl) (Steps.refl _) (argsL := []) (rest := [(.int (1 : Int32))]) (lenOf own_pd11 rfl) rfl (w0 (Nat.le_of_eq rfl)) (hb hby d17_17) (fun _ _ => ⟨rfl, e20, (by decide : 0 + 0 ≤ _), (by decide : 0 + 0 ≤ _)⟩)
          dsimp only [Pt.U, Pt.locs, Pt.cells, Pt.slots] at X23 l23 y23 z23 st23 hQ23
          subst l23 y23 z23
          obtain ⟨rfl, N23q, e23⟩ := hQ23
          have N23 := Fr.app N20 N23q
          refine Gs (fun _ tk => st23.trans tk) ?_
          show Goes _ _ _ _ _ (T23.setTop (mkF m 20 #[.val (.ref a), .val (.ref b), .val (.int (1 : Int32)), .val (.int p0), .val (.int t0), .val (.int (own_fit2 p0 t0))] [(.int (Int32.ofNat [p0, p1].length)), (.int (1 : Int32))]))
          rw [show (Int32.ofNat [p0, p1].length) = (2 : Int32) from rfl]
          show Goes _ _ _ _ _ (T23.setTop (mkF m 20 #[.val (.ref a), .val (.ref b), .val (.int (1 : Int32)), .val (.int p0), .val (.int t0), .val (.int (own_fit2 p0 t0))] [(.int (2 : Int32)), (.int (1 : Int32))]))
          refine Gs (fun _ tk => XS.icmpNo X23.here hx rfl (hb hby d17_20) rfl (tlt (by decide : ((1 : Int32) < (2 : Int32)))).2.1 tk) ?_
          refine Gs (fun _ tk => XS.aloadN X23.here hx rfl (hb hby d17_23) rfl rfl tk) ?_
          refine Gs (fun _ tk => XS.iloadN X23.here hx rfl (hb hby d17_24) rfl tk) ?_
          obtain ⟨cq24, kq24, q24a, q24b, q24c⟩ := isOf hZ e23 T_b.exa
          obtain ⟨_, _, ⟨T24, L24, k24, n24⟩, -, X24, ⟨Lc24, hQ24, l24, y24, z24⟩, st24⟩ := X23.virtualBack hx (y := mN6) (z := mN6) hown (mvT hZ (gw hw 64 rfl)) (mvT hZ (gw hw 65 rfl)) (notFace_of_selects (args := #[]) (mvT hZ (gw hw 67 rfl))) (mvT hZ (gw hw 67 rfl)) (mvT hZ (gw hw 66 rfl)) (by decide) (backOf (W := 0) (rs_chr l Z a0 hw [] b [p0, p1] (1 : Int32) p1 cz fo h0 n0 Z0 T_b S_COMPACT_STRINGS (by first | assumption | decide) (by first | assumption | decide) (own_il 1 _ (by decide) (by simp) T_b.len) rfl S_SIOOBE_FORMATTER (by first | assumption | decide)) hZ (gw hw 68 rfl) (gw hw 16 rfl) (by decide) (by decide)) q24a q24c (g := (mkF m 25 #[.val (.ref a), .val (.ref b), .val (.int (1 : Int32)), .val (.int p0), .val (.int t0), .val (.int (own_fit2 p0 t0))] [(.int (1 : Int32)), (.ref b)])) rfl (by rw [hml]; rfl) (Steps.refl _) (argsL := [(.int (1 : Int32))]) (rest := []) (lenOf own_pd12 rfl) rfl (w0 (Nat.le_of_eq rfl)) (hb hby d17_25) (fun _ _ => ⟨rfl, e23, (by decide : 0 + 0 ≤ _), (by decide : 0 + 0 ≤ _)⟩)
          dsimp only [Pt.U, Pt.locs, Pt.cells, Pt.slots] at X24 l24 y24 z24 st24 hQ24
          subst l24 y24 z24
          obtain ⟨rfl, N24q, e24⟩ := hQ24
          have N24 := Fr.app N23 N24q
          refine Gs (fun _ tk => st24.trans tk) ?_
          show Goes _ _ _ _ _ (T24.setTop (mkF m 28 #[.val (.ref a), .val (.ref b), .val (.int (1 : Int32)), .val (.int p0), .val (.int t0), .val (.int (own_fit2 p0 t0))] [(.int p1)]))
          refine Gs (fun _ tk => XS.istoreN X24.here hx rfl (hb hby d17_28) rfl (l' := #[.val (.ref a), .val (.ref b), .val (.int (1 : Int32)), .val (.int p1), .val (.int t0), .val (.int (own_fit2 p0 t0))]) rfl tk) ?_
          refine Gs (fun _ tk => XS.aloadN X24.here hx rfl (hb hby d17_29) rfl rfl tk) ?_
          refine Gs (fun _ tk => XS.iloadN X24.here hx rfl (hb hby d17_30) rfl tk) ?_
          obtain ⟨cq25, kq25, q25a, q25b, q25c⟩ := isOf hZ e24 T_a.exa
          obtain ⟨_, _, ⟨T25, L25, k25, n25⟩, -, X25, ⟨Lc25, hQ25, l25, y25, z25⟩, st25⟩ := X24.virtualBack hx (y := mN6) (z := mN6) hown (mvT hZ (gw hw 64 rfl)) (mvT hZ (gw hw 65 rfl)) (notFace_of_selects (args := #[]) (mvT hZ (gw hw 67 rfl))) (mvT hZ (gw hw 67 rfl)) (mvT hZ (gw hw 66 rfl)) (by decide) (backOf (W := 0) (rs_chr l Z a0 hw [] a (t0 :: t1 :: ts) (1 : Int32) t1 cz fo h0 n0 Z0 T_a S_COMPACT_STRINGS (by first | assumption | decide) (by first | assumption | decide) (own_il 1 _ (by decide) (by simp) T_a.len) rfl S_SIOOBE_FORMATTER (by first | assumption | decide)) hZ (gw hw 68 rfl) (gw hw 16 rfl) (by decide) (by decide)) q25a q25c (g := (mkF m 31 #[.val (.ref a), .val (.ref b), .val (.int (1 : Int32)), .val (.int p1), .val (.int t0), .val (.int (own_fit2 p0 t0))] [(.int (1 : Int32)), (.ref a)])) rfl (by rw [hml]; rfl) (Steps.refl _) (argsL := [(.int (1 : Int32))]) (rest := []) (lenOf own_pd12 rfl) rfl (w0 (Nat.le_of_eq rfl)) (hb hby d17_31) (fun _ _ => ⟨rfl, e24, (by decide : 0 + 0 ≤ _), (by decide : 0 + 0 ≤ _)⟩)
          dsimp only [Pt.U, Pt.locs, Pt.cells, Pt.slots] at X25 l25 y25 z25 st25 hQ25
          subst l25 y25 z25
          obtain ⟨rfl, N25q, e25⟩ := hQ25
          have N25 := Fr.app N24 N25q
          refine Gs (fun _ tk => st25.trans tk) ?_
          show Goes _ _ _ _ _ (T25.setTop (mkF m 34 #[.val (.ref a), .val (.ref b), .val (.int (1 : Int32)), .val (.int p1), .val (.int t0), .val (.int (own_fit2 p0 t0))] [(.int t1)]))
          refine Gs (fun _ tk => XS.istore X25.here hx rfl (hb hby d17_34) rfl (l' := #[.val (.ref a), .val (.ref b), .val (.int (1 : Int32)), .val (.int p1), .val (.int t1), .val (.int (own_fit2 p0 t0))]) rfl tk) ?_
          refine Gs (fun _ tk => XS.iloadN X25.here hx rfl (hb hby d17_36) rfl tk) ?_
          refine Gs (fun _ tk => XS.bipush X25.here hx rfl (hb hby d17_37) tk) ?_
          show Goes _ _ _ _ _ (T25.setTop (mkF m 39 #[.val (.ref a), .val (.ref b), .val (.int (1 : Int32)), .val (.int p1), .val (.int t1), .val (.int (own_fit2 p0 t0))] [(.int (48 : Int32)), (.int p1)]))
          refine own_join (B := T25.setTop (mkF m 75 #[.val (.ref a), .val (.ref b), .val (.int (1 : Int32)), .val (.int p1), .val (.int t1), .val (.int (own_fit2 p0 t0))] [(.int (own_fit2 p1 t1))])) ?_ ?_
          · show Goes _ _ _ _ _ (T25.setTop (mkF m 75 #[.val (.ref a), .val (.ref b), .val (.int (1 : Int32)), .val (.int p1), .val (.int t1), .val (.int (own_fit2 p0 t0))] [(.int (own_fit2 p1 t1))]))
            refine Gs (fun _ tk => XS.istore X25.here hx rfl (hb hby d17_75) rfl (l' := #[.val (.ref a), .val (.ref b), .val (.int (1 : Int32)), .val (.int p1), .val (.int t1), .val (.int (own_fit2 p1 t1))]) rfl tk) ?_
            refine Gs (fun _ tk => XS.iload X25.here hx rfl (hb hby d17_77) rfl tk) ?_
            by_cases hc79_27 : (own_fit2 p1 t1) = (0 : Int32)
            · refine Gs (fun _ tk => XS.ifNo X25.here hx rfl (hb hby d17_79) rfl ((if0 _ _).trans (teq hc79_27).2) tk) ?_
              refine Gs (fun _ tk => XS.iconst X25.here hx rfl (hb hby d17_82) tk) ?_
              refine Goes.ret X25 (some (.int (0 : Int32))) (fun h => by rw [hret] at h; cases h) hlk (by decide) (by decide) ?_ (fun fs hr => ?_)
              · exact ⟨(by rw [own_sw, if_neg hc79_22, own_sw, if_pos hc79_27]), N25, e25⟩
              · exact own_retN X25 hx (t := .boolean) hret (by simp) rfl (hb hby d17_83) hr
            · refine Gs (fun _ tk => XS.ifYes X25.here hx rfl (pc0 := 79) (pc' := 84) rfl (hb hby d17_79) rfl ((if0 _ _).trans (feq hc79_27).2) (by decide) (by decide) tk) ?_
              show Goes _ _ _ _ _ (T25.setTop (mkF m 84 #[.val (.ref a), .val (.ref b), .val (.int (1 : Int32)), .val (.int p1), .val (.int t1), .val (.int (own_fit2 p1 t1))] []))
              refine Gs (fun _ tk => XS.iinc X25.here hx rfl (hb hby d17_84) rfl (l' := #[.val (.ref a), .val (.ref b), .val (.int ((1 : Int32) + (1 : Int32))), .val (.int p1), .val (.int t1), .val (.int (own_fit2 p1 t1))]) rfl tk) ?_
              rw [show ((1 : Int32) + (1 : Int32)) = (2 : Int32) from by decide]
              show Goes _ _ _ _ _ (T25.setTop (mkF m 87 #[.val (.ref a), .val (.ref b), .val (.int (2 : Int32)), .val (.int p1), .val (.int t1), .val (.int (own_fit2 p1 t1))] []))
              refine Gs (fun _ tk => XS.goto X25.here hx rfl (pc0 := 87) (pc' := 15) rfl (hb hby d17_87) (by decide) (by decide) tk) ?_
              refine Gs (fun _ tk => XS.iloadN X25.here hx rfl (hb hby d17_15) rfl tk) ?_
              refine Gs (fun _ tk => XS.aloadN X25.here hx rfl (hb hby d17_16) rfl rfl tk) ?_
              obtain ⟨cq28, kq28, q28a, q28b, q28c⟩ := isOf hZ e25 T_b.exa
              obtain ⟨_, _, ⟨T28, L28, k28, n28⟩, -, X28, ⟨Lc28, hQ28, l28, y28, z28⟩, st28⟩ := X25.virtualBack hx (y := mN2) (z := mN2) hown (mvT hZ (gw hw 40 rfl)) (mvT hZ (gw hw 41 rfl)) (notFace_of_selects (args := #[]) (mvT hZ (gw hw 43 rfl))) (mvT hZ (gw hw 43 rfl)) (mvT hZ (gw hw 42 rfl)) (by decide) (backOf (W := 1) (rs_len l Z a0 hw [] b [p0, p1] cz h0 n0 Z0 T_b S_COMPACT_STRINGS (by first | assumption | decide)) hZ (gw hw 44 rfl) (gw hw 16 rfl) (by decide) (by decide)) q28a q28c (g := (mkF m 17 #[.val (.ref a), .val (.ref b), .val (.int (2 : Int32)), .val (.int p1), .val (.int t1), .val (.int (own_fit2 p1 t1))] [(.ref b), (.int (2 : Int32))])) rfl (by rw [hml]; rfl) (Steps.refl _) (argsL := []) (rest := [(.int (2 : Int32))]) (lenOf own_pd11 rfl) rfl (w0 (Nat.le_of_eq rfl)) (hb hby d17_17) (fun _ _ => ⟨rfl, e25, (by decide : 0 + 0 ≤ _), (by decide : 0 + 0 ≤ _)⟩)
              dsimp only [Pt.U, Pt.locs, Pt.cells, Pt.slots] at X28 l28 y28 z28 st28 hQ28
              subst l28 y28 z28
              obtain ⟨rfl, N28q, e28⟩ := hQ28
              have N28 := Fr.app N25 N28q
              refine Gs (fun _ tk => st28.trans tk) ?_
              show Goes _ _ _ _ _ (T28.setTop (mkF m 20 #[.val (.ref a), .val (.ref b), .val (.int (2 : Int32)), .val (.int p1), .val (.int t1), .val (.int (own_fit2 p1 t1))] [(.int (Int32.ofNat [p0, p1].length)), (.int (2 : Int32))]))
              rw [show (Int32.ofNat [p0, p1].length) = (2 : Int32) from rfl]
              show Goes _ _ _ _ _ (T28.setTop (mkF m 20 #[.val (.ref a), .val (.ref b), .val (.int (2 : Int32)), .val (.int p1), .val (.int t1), .val (.int (own_fit2 p1 t1))] [(.int (2 : Int32)), (.int (2 : Int32))]))
              refine Gs (fun _ tk => XS.icmpYes X28.here hx rfl (pc0 := 20) (pc' := 90) rfl (hb hby d17_20) rfl (flt (by decide : ¬ ((2 : Int32) < (2 : Int32)))).2.1 (by decide) (by decide) tk) ?_
              refine Gs (fun _ tk => XS.iconst X28.here hx rfl (hb hby d17_90) tk) ?_
              refine Goes.ret X28 (some (.int (1 : Int32))) (fun h => by rw [hret] at h; cases h) hlk (by decide) (by decide) ?_ (fun fs hr => ?_)
              · exact ⟨(by rw [own_sw, if_neg hc79_22, own_sw, if_neg hc79_27, own_sw]), N28, e28⟩
              · exact own_retN X28 hx (t := .boolean) hret (by simp) rfl (hb hby d17_91) hr
          intro J75_26
          by_cases hc39_29 : p1 = (48 : Int32)
          · refine Gs (fun _ tk => XS.icmpNo X25.here hx rfl (hb hby d17_39) rfl (teq hc39_29).2 tk) ?_
            refine Gs (fun _ tk => XS.iload X25.here hx rfl (hb hby d17_42) rfl tk) ?_
            refine Gs (fun _ tk => XS.bipush X25.here hx rfl (hb hby d17_44) tk) ?_
            by_cases hc46_30 : t1 < (48 : Int32)
            · refine Gs (fun _ tk => XS.icmpYes X25.here hx rfl (pc0 := 46) (pc' := 60) rfl (hb hby d17_46) rfl (tlt hc46_30).1 (by decide) (by decide) tk) ?_
              refine Gs (fun _ tk => XS.iconst X25.here hx rfl (hb hby d17_60) tk) ?_
              refine Gs (fun _ tk => XS.goto X25.here hx rfl (pc0 := 61) (pc' := 75) rfl (hb hby d17_61) (by decide) (by decide) tk) ?_
              show Goes _ _ _ _ _ (T25.setTop (mkF m 75 #[.val (.ref a), .val (.ref b), .val (.int (1 : Int32)), .val (.int p1), .val (.int t1), .val (.int (own_fit2 p0 t0))] [(.int (0 : Int32))]))
              rw [show (own_fit2 p1 t1) = (0 : Int32) from by rw [own_fit2, if_pos hc39_29, if_pos hc46_30]] at J75_26
              exact J75_26
            · refine Gs (fun _ tk => XS.icmpNo X25.here hx rfl (hb hby d17_46) rfl (flt hc46_30).1 tk) ?_
              refine Gs (fun _ tk => XS.iload X25.here hx rfl (hb hby d17_49) rfl tk) ?_
              refine Gs (fun _ tk => XS.bipush X25.here hx rfl (hb hby d17_51) tk) ?_
              show Goes _ _ _ _ _ (T25.setTop (mkF m 53 #[.val (.ref a), .val (.ref b), .val (.int (1 : Int32)), .val (.int p1), .val (.int t1), .val (.int (own_fit2 p0 t0))] [(.int (57 : Int32)), (.int t1)]))
              by_cases hc53_31 : (57 : Int32) < t1
              · refine Gs (fun _ tk => XS.icmpYes X25.here hx rfl (pc0 := 53) (pc' := 60) rfl (hb hby d17_53) rfl (tlt hc53_31).2.2.1 (by decide) (by decide) tk) ?_
                refine Gs (fun _ tk => XS.iconst X25.here hx rfl (hb hby d17_60) tk) ?_
                refine Gs (fun _ tk => XS.goto X25.here hx rfl (pc0 := 61) (pc' := 75) rfl (hb hby d17_61) (by decide) (by decide) tk) ?_
                rw [show (own_fit2 p1 t1) = (0 : Int32) from by rw [own_fit2, if_pos hc39_29, if_neg hc46_30, if_pos hc53_31]] at J75_26
                exact J75_26
              · refine Gs (fun _ tk => XS.icmpNo X25.here hx rfl (hb hby d17_53) rfl (flt hc53_31).2.2.1 tk) ?_
                refine Gs (fun _ tk => XS.iconst X25.here hx rfl (hb hby d17_56) tk) ?_
                refine Gs (fun _ tk => XS.goto X25.here hx rfl (pc0 := 57) (pc' := 75) rfl (hb hby d17_57) (by decide) (by decide) tk) ?_
                rw [show (own_fit2 p1 t1) = (1 : Int32) from by rw [own_fit2, if_pos hc39_29, if_neg hc46_30, if_neg hc53_31]] at J75_26
                exact J75_26
          · refine Gs (fun _ tk => XS.icmpYes X25.here hx rfl (pc0 := 39) (pc' := 64) rfl (hb hby d17_39) rfl (feq hc39_29).2 (by decide) (by decide) tk) ?_
            refine Gs (fun _ tk => XS.iload X25.here hx rfl (hb hby d17_64) rfl tk) ?_
            refine Gs (fun _ tk => XS.iloadN X25.here hx rfl (hb hby d17_66) rfl tk) ?_
            by_cases hc67_32 : t1 = p1
            · refine Gs (fun _ tk => XS.icmpNo X25.here hx rfl (hb hby d17_67) rfl (teq hc67_32).2 tk) ?_
              refine Gs (fun _ tk => XS.iconst X25.here hx rfl (hb hby d17_70) tk) ?_
              refine Gs (fun _ tk => XS.goto X25.here hx rfl (pc0 := 71) (pc' := 75) rfl (hb hby d17_71) (by decide) (by decide) tk) ?_
              show Goes _ _ _ _ _ (T25.setTop (mkF m 75 #[.val (.ref a), .val (.ref b), .val (.int (1 : Int32)), .val (.int p1), .val (.int t1), .val (.int (own_fit2 p0 t0))] [(.int (1 : Int32))]))
              rw [show (own_fit2 p1 t1) = (1 : Int32) from by rw [own_fit2, if_neg hc39_29, if_pos hc67_32]] at J75_26
              exact J75_26
            · refine Gs (fun _ tk => XS.icmpYes X25.here hx rfl (pc0 := 67) (pc' := 74) rfl (hb hby d17_67) rfl (feq hc67_32).2 (by decide) (by decide) tk) ?_
              refine Gs (fun _ tk => XS.iconst X25.here hx rfl (hb hby d17_74) tk) ?_
              rw [show (own_fit2 p1 t1) = (0 : Int32) from by rw [own_fit2, if_neg hc39_29, if_neg hc67_32]] at J75_26
              exact J75_26
      intro J75_21
      by_cases hc39_33 : p0 = (48 : Int32)
      · refine Gs (fun _ tk => XS.icmpNo X20.here hx rfl (hb hby d17_39) rfl (teq hc39_33).2 tk) ?_
        refine Gs (fun _ tk => XS.iload X20.here hx rfl (hb hby d17_42) rfl tk) ?_
        refine Gs (fun _ tk => XS.bipush X20.here hx rfl (hb hby d17_44) tk) ?_
        by_cases hc46_34 : t0 < (48 : Int32)
        · refine Gs (fun _ tk => XS.icmpYes X20.here hx rfl (pc0 := 46) (pc' := 60) rfl (hb hby d17_46) rfl (tlt hc46_34).1 (by decide) (by decide) tk) ?_
          refine Gs (fun _ tk => XS.iconst X20.here hx rfl (hb hby d17_60) tk) ?_
          refine Gs (fun _ tk => XS.goto X20.here hx rfl (pc0 := 61) (pc' := 75) rfl (hb hby d17_61) (by decide) (by decide) tk) ?_
          show Goes _ _ _ _ _ (T20.setTop (mkF m 75 #[.val (.ref a), .val (.ref b), .val (.int (0 : Int32)), .val (.int p0), .val (.int t0), .unset] [(.int (0 : Int32))]))
          rw [show (own_fit2 p0 t0) = (0 : Int32) from by rw [own_fit2, if_pos hc39_33, if_pos hc46_34]] at J75_21
          exact J75_21
        · refine Gs (fun _ tk => XS.icmpNo X20.here hx rfl (hb hby d17_46) rfl (flt hc46_34).1 tk) ?_
          refine Gs (fun _ tk => XS.iload X20.here hx rfl (hb hby d17_49) rfl tk) ?_
          refine Gs (fun _ tk => XS.bipush X20.here hx rfl (hb hby d17_51) tk) ?_
          show Goes _ _ _ _ _ (T20.setTop (mkF m 53 #[.val (.ref a), .val (.ref b), .val (.int (0 : Int32)), .val (.int p0), .val (.int t0), .unset] [(.int (57 : Int32)), (.int t0)]))
          by_cases hc53_35 : (57 : Int32) < t0
          · refine Gs (fun _ tk => XS.icmpYes X20.here hx rfl (pc0 := 53) (pc' := 60) rfl (hb hby d17_53) rfl (tlt hc53_35).2.2.1 (by decide) (by decide) tk) ?_
            refine Gs (fun _ tk => XS.iconst X20.here hx rfl (hb hby d17_60) tk) ?_
            refine Gs (fun _ tk => XS.goto X20.here hx rfl (pc0 := 61) (pc' := 75) rfl (hb hby d17_61) (by decide) (by decide) tk) ?_
            rw [show (own_fit2 p0 t0) = (0 : Int32) from by rw [own_fit2, if_pos hc39_33, if_neg hc46_34, if_pos hc53_35]] at J75_21
            exact J75_21
          · refine Gs (fun _ tk => XS.icmpNo X20.here hx rfl (hb hby d17_53) rfl (flt hc53_35).2.2.1 tk) ?_
            refine Gs (fun _ tk => XS.iconst X20.here hx rfl (hb hby d17_56) tk) ?_
            refine Gs (fun _ tk => XS.goto X20.here hx rfl (pc0 := 57) (pc' := 75) rfl (hb hby d17_57) (by decide) (by decide) tk) ?_
            rw [show (own_fit2 p0 t0) = (1 : Int32) from by rw [own_fit2, if_pos hc39_33, if_neg hc46_34, if_neg hc53_35]] at J75_21
            exact J75_21
      · refine Gs (fun _ tk => XS.icmpYes X20.here hx rfl (pc0 := 39) (pc' := 64) rfl (hb hby d17_39) rfl (feq hc39_33).2 (by decide) (by decide) tk) ?_
        refine Gs (fun _ tk => XS.iload X20.here hx rfl (hb hby d17_64) rfl tk) ?_
        refine Gs (fun _ tk => XS.iloadN X20.here hx rfl (hb hby d17_66) rfl tk) ?_
        by_cases hc67_36 : t0 = p0
        · refine Gs (fun _ tk => XS.icmpNo X20.here hx rfl (hb hby d17_67) rfl (teq hc67_36).2 tk) ?_
          refine Gs (fun _ tk => XS.iconst X20.here hx rfl (hb hby d17_70) tk) ?_
          refine Gs (fun _ tk => XS.goto X20.here hx rfl (pc0 := 71) (pc' := 75) rfl (hb hby d17_71) (by decide) (by decide) tk) ?_
          show Goes _ _ _ _ _ (T20.setTop (mkF m 75 #[.val (.ref a), .val (.ref b), .val (.int (0 : Int32)), .val (.int p0), .val (.int t0), .unset] [(.int (1 : Int32))]))
          rw [show (own_fit2 p0 t0) = (1 : Int32) from by rw [own_fit2, if_neg hc39_33, if_pos hc67_36]] at J75_21
          exact J75_21
        · refine Gs (fun _ tk => XS.icmpYes X20.here hx rfl (pc0 := 67) (pc' := 74) rfl (hb hby d17_67) rfl (feq hc67_36).2 (by decide) (by decide) tk) ?_
          refine Gs (fun _ tk => XS.iconst X20.here hx rfl (hb hby d17_74) tk) ?_
          rw [show (own_fit2 p0 t0) = (0 : Int32) from by rw [own_fit2, if_neg hc39_33, if_neg hc67_36]] at J75_21
          exact J75_21
  · show Goes _ _ _ _ _ (s₁.setTop (mkF m 0 #[.val (.ref a), .val (.ref b), .unset, .unset, .unset, .unset] []))
    refine Gs (fun _ tk => XS.aloadN X0.here hx rfl (hb hby d17_0) rfl rfl tk) ?_
    obtain ⟨cq37, kq37, q37a, q37b, q37c⟩ := isOf hZ e0 T_a.exa
    obtain ⟨_, _, ⟨T37, L37, k37, n37⟩, -, X37, ⟨Lc37, hQ37, l37, y37, z37⟩, st37⟩ := X0.virtualBack hx (y := mN2) (z := mN2) hown (mvT hZ (gw hw 40 rfl)) (mvT hZ (gw hw 41 rfl)) (notFace_of_selects (args := #[]) (mvT hZ (gw hw 43 rfl))) (mvT hZ (gw hw 43 rfl)) (mvT hZ (gw hw 42 rfl)) (by decide) (backOf (W := 0) (rs_len l Z a0 hw [] a xs cz h0 n0 Z0 T_a S_COMPACT_STRINGS (by first | assumption | decide)) hZ (gw hw 44 rfl) (gw hw 16 rfl) (by decide) (by decide)) q37a q37c (g := (mkF m 1 #[.val (.ref a), .val (.ref b), .unset, .unset, .unset, .unset] [(.ref a)])) rfl (by rw [hml]; rfl) (Steps.refl _) (argsL := []) (rest := []) (lenOf own_pd11 rfl) rfl (w0 (Nat.le_of_eq rfl)) (hb hby d17_1) (fun _ _ => ⟨rfl, e0, (by decide : 0 + 0 ≤ _), (by decide : 0 + 0 ≤ _)⟩)
    dsimp only [Pt.U, Pt.locs, Pt.cells, Pt.slots] at X37 l37 y37 z37 st37 hQ37
    subst l37 y37 z37
    obtain ⟨rfl, N37q, e37⟩ := hQ37
    have N37 := Fr.app N0 N37q
    refine Gs (fun _ tk => st37.trans tk) ?_
    show Goes _ _ _ _ _ (T37.setTop (mkF m 4 #[.val (.ref a), .val (.ref b), .unset, .unset, .unset, .unset] [(.int (Int32.ofNat xs.length))]))
    refine Gs (fun _ tk => XS.aloadN X37.here hx rfl (hb hby d17_4) rfl rfl tk) ?_
    obtain ⟨cq38, kq38, q38a, q38b, q38c⟩ := isOf hZ e37 T_b.exa
    obtain ⟨_, _, ⟨T38, L38, k38, n38⟩, -, X38, ⟨Lc38, hQ38, l38, y38, z38⟩, st38⟩ := X37.virtualBack hx (y := mN2) (z := mN2) hown (mvT hZ (gw hw 40 rfl)) (mvT hZ (gw hw 41 rfl)) (notFace_of_selects (args := #[]) (mvT hZ (gw hw 43 rfl))) (mvT hZ (gw hw 43 rfl)) (mvT hZ (gw hw 42 rfl)) (by decide) (backOf (W := 1) (rs_len l Z a0 hw [] b [p0, p1, p2] cz h0 n0 Z0 T_b S_COMPACT_STRINGS (by first | assumption | decide)) hZ (gw hw 44 rfl) (gw hw 16 rfl) (by decide) (by decide)) q38a q38c (g := (mkF m 5 #[.val (.ref a), .val (.ref b), .unset, .unset, .unset, .unset] [(.ref b), (.int (Int32.ofNat xs.length))])) rfl (by rw [hml]; rfl) (Steps.refl _) (argsL := []) (rest := [(.int (Int32.ofNat xs.length))]) (lenOf own_pd11 rfl) rfl (w0 (Nat.le_of_eq rfl)) (hb hby d17_5) (fun _ _ => ⟨rfl, e37, (by decide : 0 + 0 ≤ _), (by decide : 0 + 0 ≤ _)⟩)
    dsimp only [Pt.U, Pt.locs, Pt.cells, Pt.slots] at X38 l38 y38 z38 st38 hQ38
    subst l38 y38 z38
    obtain ⟨rfl, N38q, e38⟩ := hQ38
    have N38 := Fr.app N37 N38q
    refine Gs (fun _ tk => st38.trans tk) ?_
    show Goes _ _ _ _ _ (T38.setTop (mkF m 8 #[.val (.ref a), .val (.ref b), .unset, .unset, .unset, .unset] [(.int (Int32.ofNat [p0, p1, p2].length)), (.int (Int32.ofNat xs.length))]))
    rw [show (Int32.ofNat [p0, p1, p2].length) = (3 : Int32) from rfl]
    show Goes _ _ _ _ _ (T38.setTop (mkF m 8 #[.val (.ref a), .val (.ref b), .unset, .unset, .unset, .unset] [(.int (3 : Int32)), (.int (Int32.ofNat xs.length))]))
    by_cases hcmp : (Int32.ofNat xs.length) < (3 : Int32)
    · refine Gs (fun _ tk => XS.icmpNo X38.here hx rfl (hb hby d17_8) rfl (tlt hcmp).2.1 tk) ?_
      have hshort := (own_len_lt (n := 3) (by decide) T_a.len).mp hcmp
      refine Gs (fun _ tk => XS.iconst X38.here hx rfl (hb hby d17_11) tk) ?_
      refine Goes.ret X38 (some (.int (0 : Int32))) (fun h => by rw [hret] at h; cases h) hlk (by decide) (by decide) ?_ (fun fs hr => ?_)
      · exact ⟨(by rw [own_swShort _ _ hshort]), N38, e38⟩
      · exact own_retN X38 hx (t := .boolean) hret (by simp) rfl (hb hby d17_12) hr
    · refine Gs (fun _ tk => XS.icmpYes X38.here hx rfl (pc0 := 8) (pc' := 13) rfl (hb hby d17_8) rfl (flt hcmp).2.1 (by decide) (by decide) tk) ?_
      have hlong := fun q => hcmp ((own_len_lt (n := 3) (by decide) T_a.len).mpr q)
      obtain ⟨t0, t1, t2, ts, rfl⟩ : ∃ t0 t1 t2 ts, xs = t0 :: t1 :: t2 :: ts := by
        match xs, hlong with
        | [], h => exact absurd (by simp) h
        | [_], h => exact absurd (by simp) h
        | [_, _], h => exact absurd (by simp) h
        | t0 :: t1 :: t2 :: ts, _ => exact ⟨t0, t1, t2, ts, rfl⟩
      show Goes _ _ _ _ _ (T38.setTop (mkF m 13 #[.val (.ref a), .val (.ref b), .unset, .unset, .unset, .unset] []))
      refine Gs (fun _ tk => XS.iconst X38.here hx rfl (hb hby d17_13) tk) ?_
      refine Gs (fun _ tk => XS.istoreN X38.here hx rfl (hb hby d17_14) rfl (l' := #[.val (.ref a), .val (.ref b), .val (.int (0 : Int32)), .unset, .unset, .unset]) rfl tk) ?_
      refine Gs (fun _ tk => XS.iloadN X38.here hx rfl (hb hby d17_15) rfl tk) ?_
      refine Gs (fun _ tk => XS.aloadN X38.here hx rfl (hb hby d17_16) rfl rfl tk) ?_
      obtain ⟨cq39, kq39, q39a, q39b, q39c⟩ := isOf hZ e38 T_b.exa
      obtain ⟨_, _, ⟨T39, L39, k39, n39⟩, -, X39, ⟨Lc39, hQ39, l39, y39, z39⟩, st39⟩ := X38.virtualBack hx (y := mN2) (z := mN2) hown (mvT hZ (gw hw 40 rfl)) (mvT hZ (gw hw 41 rfl)) (notFace_of_selects (args := #[]) (mvT hZ (gw hw 43 rfl))) (mvT hZ (gw hw 43 rfl)) (mvT hZ (gw hw 42 rfl)) (by decide) (backOf (W := 1) (rs_len l Z a0 hw [] b [p0, p1, p2] cz h0 n0 Z0 T_b S_COMPACT_STRINGS (by first | assumption | decide)) hZ (gw hw 44 rfl) (gw hw 16 rfl) (by decide) (by decide)) q39a q39c (g := (mkF m 17 #[.val (.ref a), .val (.ref b), .val (.int (0 : Int32)), .unset, .unset, .unset] [(.ref b), (.int (0 : Int32))])) rfl (by rw [hml]; rfl) (Steps.refl _) (argsL := []) (rest := [(.int (0 : Int32))]) (lenOf own_pd11 rfl) rfl (w0 (Nat.le_of_eq rfl)) (hb hby d17_17) (fun _ _ => ⟨rfl, e38, (by decide : 0 + 0 ≤ _), (by decide : 0 + 0 ≤ _)⟩)
      dsimp only [Pt.U, Pt.locs, Pt.cells, Pt.slots] at X39 l39 y39 z39 st39 hQ39
      subst l39 y39 z39
      obtain ⟨rfl, N39q, e39⟩ := hQ39
      have N39 := Fr.app N38 N39q
      refine Gs (fun _ tk => st39.trans tk) ?_
      show Goes _ _ _ _ _ (T39.setTop (mkF m 20 #[.val (.ref a), .val (.ref b), .val (.int (0 : Int32)), .unset, .unset, .unset] [(.int (Int32.ofNat [p0, p1, p2].length)), (.int (0 : Int32))]))
      rw [show (Int32.ofNat [p0, p1, p2].length) = (3 : Int32) from rfl]
      show Goes _ _ _ _ _ (T39.setTop (mkF m 20 #[.val (.ref a), .val (.ref b), .val (.int (0 : Int32)), .unset, .unset, .unset] [(.int (3 : Int32)), (.int (0 : Int32))]))
      refine Gs (fun _ tk => XS.icmpNo X39.here hx rfl (hb hby d17_20) rfl (tlt (by decide : ((0 : Int32) < (3 : Int32)))).2.1 tk) ?_
      refine Gs (fun _ tk => XS.aloadN X39.here hx rfl (hb hby d17_23) rfl rfl tk) ?_
      refine Gs (fun _ tk => XS.iloadN X39.here hx rfl (hb hby d17_24) rfl tk) ?_
      obtain ⟨cq40, kq40, q40a, q40b, q40c⟩ := isOf hZ e39 T_b.exa
      obtain ⟨_, _, ⟨T40, L40, k40, n40⟩, -, X40, ⟨Lc40, hQ40, l40, y40, z40⟩, st40⟩ := X39.virtualBack hx (y := mN6) (z := mN6) hown (mvT hZ (gw hw 64 rfl)) (mvT hZ (gw hw 65 rfl)) (notFace_of_selects (args := #[]) (mvT hZ (gw hw 67 rfl))) (mvT hZ (gw hw 67 rfl)) (mvT hZ (gw hw 66 rfl)) (by decide) (backOf (W := 0) (rs_chr l Z a0 hw [] b [p0, p1, p2] (0 : Int32) p0 cz fo h0 n0 Z0 T_b S_COMPACT_STRINGS (by first | assumption | decide) (by first | assumption | decide) (own_il 0 _ (by decide) (by simp) T_b.len) rfl S_SIOOBE_FORMATTER (by first | assumption | decide)) hZ (gw hw 68 rfl) (gw hw 16 rfl) (by decide) (by decide)) q40a q40c (g := (mkF m 25 #[.val (.ref a), .val (.ref b), .val (.int (0 : Int32)), .unset, .unset, .unset] [(.int (0 : Int32)), (.ref b)])) rfl (by rw [hml]; rfl) (Steps.refl _) (argsL := [(.int (0 : Int32))]) (rest := []) (lenOf own_pd12 rfl) rfl (w0 (Nat.le_of_eq rfl)) (hb hby d17_25) (fun _ _ => ⟨rfl, e39, (by decide : 0 + 0 ≤ _), (by decide : 0 + 0 ≤ _)⟩)
      dsimp only [Pt.U, Pt.locs, Pt.cells, Pt.slots] at X40 l40 y40 z40 st40 hQ40
      subst l40 y40 z40
      obtain ⟨rfl, N40q, e40⟩ := hQ40
      have N40 := Fr.app N39 N40q
      refine Gs (fun _ tk => st40.trans tk) ?_
      show Goes _ _ _ _ _ (T40.setTop (mkF m 28 #[.val (.ref a), .val (.ref b), .val (.int (0 : Int32)), .unset, .unset, .unset] [(.int p0)]))
      refine Gs (fun _ tk => XS.istoreN X40.here hx rfl (hb hby d17_28) rfl (l' := #[.val (.ref a), .val (.ref b), .val (.int (0 : Int32)), .val (.int p0), .unset, .unset]) rfl tk) ?_
      refine Gs (fun _ tk => XS.aloadN X40.here hx rfl (hb hby d17_29) rfl rfl tk) ?_
      refine Gs (fun _ tk => XS.iloadN X40.here hx rfl (hb hby d17_30) rfl tk) ?_
      obtain ⟨cq41, kq41, q41a, q41b, q41c⟩ := isOf hZ e40 T_a.exa
      obtain ⟨_, _, ⟨T41, L41, k41, n41⟩, -, X41, ⟨Lc41, hQ41, l41, y41, z41⟩, st41⟩ := X40.virtualBack hx (y := mN6) (z := mN6) hown (mvT hZ (gw hw 64 rfl)) (mvT hZ (gw hw 65 rfl)) (notFace_of_selects (args := #[]) (mvT hZ (gw hw 67 rfl))) (mvT hZ (gw hw 67 rfl)) (mvT hZ (gw hw 66 rfl)) (by decide) (backOf (W := 0) (rs_chr l Z a0 hw [] a (t0 :: t1 :: t2 :: ts) (0 : Int32) t0 cz fo h0 n0 Z0 T_a S_COMPACT_STRINGS (by first | assumption | decide) (by first | assumption | decide) (own_il 0 _ (by decide) (by simp) T_a.len) rfl S_SIOOBE_FORMATTER (by first | assumption | decide)) hZ (gw hw 68 rfl) (gw hw 16 rfl) (by decide) (by decide)) q41a q41c (g := (mkF m 31 #[.val (.ref a), .val (.ref b), .val (.int (0 : Int32)), .val (.int p0), .unset, .unset] [(.int (0 : Int32)), (.ref a)])) rfl (by rw [hml]; rfl) (Steps.refl _) (argsL := [(.int (0 : Int32))]) (rest := []) (lenOf own_pd12 rfl) rfl (w0 (Nat.le_of_eq rfl)) (hb hby d17_31) (fun _ _ => ⟨rfl, e40, (by decide : 0 + 0 ≤ _), (by decide : 0 + 0 ≤ _)⟩)
      dsimp only [Pt.U, Pt.locs, Pt.cells, Pt.slots] at X41 l41 y41 z41 st41 hQ41
      subst l41 y41 z41
      obtain ⟨rfl, N41q, e41⟩ := hQ41
      have N41 := Fr.app N40 N41q
      refine Gs (fun _ tk => st41.trans tk) ?_
      show Goes _ _ _ _ _ (T41.setTop (mkF m 34 #[.val (.ref a), .val (.ref b), .val (.int (0 : Int32)), .val (.int p0), .unset, .unset] [(.int t0)]))
      refine Gs (fun _ tk => XS.istore X41.here hx rfl (hb hby d17_34) rfl (l' := #[.val (.ref a), .val (.ref b), .val (.int (0 : Int32)), .val (.int p0), .val (.int t0), .unset]) rfl tk) ?_
      refine Gs (fun _ tk => XS.iloadN X41.here hx rfl (hb hby d17_36) rfl tk) ?_
      refine Gs (fun _ tk => XS.bipush X41.here hx rfl (hb hby d17_37) tk) ?_
      show Goes _ _ _ _ _ (T41.setTop (mkF m 39 #[.val (.ref a), .val (.ref b), .val (.int (0 : Int32)), .val (.int p0), .val (.int t0), .unset] [(.int (48 : Int32)), (.int p0)]))
      refine own_join (B := T41.setTop (mkF m 75 #[.val (.ref a), .val (.ref b), .val (.int (0 : Int32)), .val (.int p0), .val (.int t0), .unset] [(.int (own_fit2 p0 t0))])) ?_ ?_
      · show Goes _ _ _ _ _ (T41.setTop (mkF m 75 #[.val (.ref a), .val (.ref b), .val (.int (0 : Int32)), .val (.int p0), .val (.int t0), .unset] [(.int (own_fit2 p0 t0))]))
        refine Gs (fun _ tk => XS.istore X41.here hx rfl (hb hby d17_75) rfl (l' := #[.val (.ref a), .val (.ref b), .val (.int (0 : Int32)), .val (.int p0), .val (.int t0), .val (.int (own_fit2 p0 t0))]) rfl tk) ?_
        refine Gs (fun _ tk => XS.iload X41.here hx rfl (hb hby d17_77) rfl tk) ?_
        by_cases hc79_43 : (own_fit2 p0 t0) = (0 : Int32)
        · refine Gs (fun _ tk => XS.ifNo X41.here hx rfl (hb hby d17_79) rfl ((if0 _ _).trans (teq hc79_43).2) tk) ?_
          refine Gs (fun _ tk => XS.iconst X41.here hx rfl (hb hby d17_82) tk) ?_
          refine Goes.ret X41 (some (.int (0 : Int32))) (fun h => by rw [hret] at h; cases h) hlk (by decide) (by decide) ?_ (fun fs hr => ?_)
          · exact ⟨(by rw [own_sw, if_pos hc79_43]), N41, e41⟩
          · exact own_retN X41 hx (t := .boolean) hret (by simp) rfl (hb hby d17_83) hr
        · refine Gs (fun _ tk => XS.ifYes X41.here hx rfl (pc0 := 79) (pc' := 84) rfl (hb hby d17_79) rfl ((if0 _ _).trans (feq hc79_43).2) (by decide) (by decide) tk) ?_
          show Goes _ _ _ _ _ (T41.setTop (mkF m 84 #[.val (.ref a), .val (.ref b), .val (.int (0 : Int32)), .val (.int p0), .val (.int t0), .val (.int (own_fit2 p0 t0))] []))
          refine Gs (fun _ tk => XS.iinc X41.here hx rfl (hb hby d17_84) rfl (l' := #[.val (.ref a), .val (.ref b), .val (.int ((0 : Int32) + (1 : Int32))), .val (.int p0), .val (.int t0), .val (.int (own_fit2 p0 t0))]) rfl tk) ?_
          rw [show ((0 : Int32) + (1 : Int32)) = (1 : Int32) from by decide]
          show Goes _ _ _ _ _ (T41.setTop (mkF m 87 #[.val (.ref a), .val (.ref b), .val (.int (1 : Int32)), .val (.int p0), .val (.int t0), .val (.int (own_fit2 p0 t0))] []))
          refine Gs (fun _ tk => XS.goto X41.here hx rfl (pc0 := 87) (pc' := 15) rfl (hb hby d17_87) (by decide) (by decide) tk) ?_
          refine Gs (fun _ tk => XS.iloadN X41.here hx rfl (hb hby d17_15) rfl tk) ?_
          refine Gs (fun _ tk => XS.aloadN X41.here hx rfl (hb hby d17_16) rfl rfl tk) ?_
          obtain ⟨cq44, kq44, q44a, q44b, q44c⟩ := isOf hZ e41 T_b.exa
          obtain ⟨_, _, ⟨T44, L44, k44, n44⟩, -, X44, ⟨Lc44, hQ44, l44, y44, z44⟩, st44⟩ := X41.virtualBack hx (y := mN2) (z := mN2) hown (mvT hZ (gw hw 40 rfl)) (mvT hZ (gw hw 41 rfl)) (notFace_of_selects (args := #[]) (mvT hZ (gw hw 43 rfl))) (mvT hZ (gw hw 43 rfl)) (mvT hZ (gw hw 42 rfl)) (by decide) (backOf (W := 1) (rs_len l Z a0 hw [] b [p0, p1, p2] cz h0 n0 Z0 T_b S_COMPACT_STRINGS (by first | assumption | decide)) hZ (gw hw 44 rfl) (gw hw 16 rfl) (by decide) (by decide)) q44a q44c (g := (mkF m 17 #[.val (.ref a), .val (.ref b), .val (.int (1 : Int32)), .val (.int p0), .val (.int t0), .val (.int (own_fit2 p0 t0))] [(.ref b), (.int (1 : Int32))])) rfl (by rw [hml]; rfl) (Steps.refl _) (argsL := []) (rest := [(.int (1 : Int32))]) (lenOf own_pd11 rfl) rfl (w0 (Nat.le_of_eq rfl)) (hb hby d17_17) (fun _ _ => ⟨rfl, e41, (by decide : 0 + 0 ≤ _), (by decide : 0 + 0 ≤ _)⟩)
          dsimp only [Pt.U, Pt.locs, Pt.cells, Pt.slots] at X44 l44 y44 z44 st44 hQ44
          subst l44 y44 z44
          obtain ⟨rfl, N44q, e44⟩ := hQ44
          have N44 := Fr.app N41 N44q
          refine Gs (fun _ tk => st44.trans tk) ?_
          show Goes _ _ _ _ _ (T44.setTop (mkF m 20 #[.val (.ref a), .val (.ref b), .val (.int (1 : Int32)), .val (.int p0), .val (.int t0), .val (.int (own_fit2 p0 t0))] [(.int (Int32.ofNat [p0, p1, p2].length)), (.int (1 : Int32))]))
          rw [show (Int32.ofNat [p0, p1, p2].length) = (3 : Int32) from rfl]
          show Goes _ _ _ _ _ (T44.setTop (mkF m 20 #[.val (.ref a), .val (.ref b), .val (.int (1 : Int32)), .val (.int p0), .val (.int t0), .val (.int (own_fit2 p0 t0))] [(.int (3 : Int32)), (.int (1 : Int32))]))
          refine Gs (fun _ tk => XS.icmpNo X44.here hx rfl (hb hby d17_20) rfl (tlt (by decide : ((1 : Int32) < (3 : Int32)))).2.1 tk) ?_
          refine Gs (fun _ tk => XS.aloadN X44.here hx rfl (hb hby d17_23) rfl rfl tk) ?_
          refine Gs (fun _ tk => XS.iloadN X44.here hx rfl (hb hby d17_24) rfl tk) ?_
          obtain ⟨cq45, kq45, q45a, q45b, q45c⟩ := isOf hZ e44 T_b.exa
          obtain ⟨_, _, ⟨T45, L45, k45, n45⟩, -, X45, ⟨Lc45, hQ45, l45, y45, z45⟩, st45⟩ := X44.virtualBack hx (y := mN6) (z := mN6) hown (mvT hZ (gw hw 64 rfl)) (mvT hZ (gw hw 65 rfl)) (notFace_of_selects (args := #[]) (mvT hZ (gw hw 67 rfl))) (mvT hZ (gw hw 67 rfl)) (mvT hZ (gw hw 66 rfl)) (by decide) (backOf (W := 0) (rs_chr l Z a0 hw [] b [p0, p1, p2] (1 : Int32) p1 cz fo h0 n0 Z0 T_b S_COMPACT_STRINGS (by first | assumption | decide) (by first | assumption | decide) (own_il 1 _ (by decide) (by simp) T_b.len) rfl S_SIOOBE_FORMATTER (by first | assumption | decide)) hZ (gw hw 68 rfl) (gw hw 16 rfl) (by decide) (by decide)) q45a q45c (g := (mkF m 25 #[.val (.ref a), .val (.ref b), .val (.int (1 : Int32)), .val (.int p0), .val (.int t0), .val (.int (own_fit2 p0 t0))] [(.int (1 : Int32)), (.ref b)])) rfl (by rw [hml]; rfl) (Steps.refl _) (argsL := [(.int (1 : Int32))]) (rest := []) (lenOf own_pd12 rfl) rfl (w0 (Nat.le_of_eq rfl)) (hb hby d17_25) (fun _ _ => ⟨rfl, e44, (by decide : 0 + 0 ≤ _), (by decide : 0 + 0 ≤ _)⟩)
          dsimp only [Pt.U, Pt.locs, Pt.cells, Pt.slots] at X45 l45 y45 z45 st45 hQ45
          subst l45 y45 z45
          obtain ⟨rfl, N45q, e45⟩ := hQ45
          have N45 := Fr.app N44 N45q
          refine Gs (fun _ tk => st45.trans tk) ?_
          show Goes _ _ _ _ _ (T45.setTop (mkF m 28 #[.val (.ref a), .val (.ref b), .val (.int (1 : Int32)), .val (.int p0), .val (.int t0), .val (.int (own_fit2 p0 t0))] [(.int p1)]))
          refine Gs (fun _ tk => XS.istoreN X45.here hx rfl (hb hby d17_28) rfl (l' := #[.val (.ref a), .val (.ref b), .val (.int (1 : Int32)), .val (.int p1), .val (.int t0), .val (.int (own_fit2 p0 t0))]) rfl tk) ?_
          refine Gs (fun _ tk => XS.aloadN X45.here hx rfl (hb hby d17_29) rfl rfl tk) ?_
          refine Gs (fun _ tk => XS.iloadN X45.here hx rfl (hb hby d17_30) rfl tk) ?_
          obtain ⟨cq46, kq46, q46a, q46b, q46c⟩ := isOf hZ e45 T_a.exa
          obtain ⟨_, _, ⟨T46, L46, k46, n46⟩, -, X46, ⟨Lc46, hQ46, l46, y46, z46⟩, st46⟩ := X45.virtualBack hx (y := mN6) (z := mN6) hown (mvT hZ (gw hw 64 rfl)) (mvT hZ (gw hw 65 rfl)) (notFace_of_selects (args := #[]) (mvT hZ (gw hw 67 rfl))) (mvT hZ (gw hw 67 rfl)) (mvT hZ (gw hw 66 rfl)) (by decide) (backOf (W := 0) (rs_chr l Z a0 hw [] a (t0 :: t1 :: t2 :: ts) (1 : Int32) t1 cz fo h0 n0 Z0 T_a S_COMPACT_STRINGS (by first | assumption | decide) (by first | assumption | decide) (own_il 1 _ (by decide) (by simp) T_a.len) rfl S_SIOOBE_FORMATTER (by first | assumption | decide)) hZ (gw hw 68 rfl) (gw hw 16 rfl) (by decide) (by decide)) q46a q46c (g := (mkF m 31 #[.val (.ref a), .val (.ref b), .val (.int (1 : Int32)), .val (.int p1), .val (.int t0), .val (.int (own_fit2 p0 t0))] [(.int (1 : Int32)), (.ref a)])) rfl (by rw [hml]; rfl) (Steps.refl _) (argsL := [(.int (1 : Int32))]) (rest := []) (lenOf own_pd12 rfl) rfl (w0 (Nat.le_of_eq rfl)) (hb hby d17_31) (fun _ _ => ⟨rfl, e45, (by decide : 0 + 0 ≤ _), (by decide : 0 + 0 ≤ _)⟩)
          dsimp only [Pt.U, Pt.locs, Pt.cells, Pt.slots] at X46 l46 y46 z46 st46 hQ46
          subst l46 y46 z46
          obtain ⟨rfl, N46q, e46⟩ := hQ46
          have N46 := Fr.app N45 N46q
          refine Gs (fun _ tk => st46.trans tk) ?_
          show Goes _ _ _ _ _ (T46.setTop (mkF m 34 #[.val (.ref a), .val (.ref b), .val (.int (1 : Int32)), .val (.int p1), .val (.int t0), .val (.int (own_fit2 p0 t0))] [(.int t1)]))
          refine Gs (fun _ tk => XS.istore X46.here hx rfl (hb hby d17_34) rfl (l' := #[.val (.ref a), .val (.ref b), .val (.int (1 : Int32)), .val (.int p1), .val (.int t1), .val (.int (own_fit2 p0 t0))]) rfl tk) ?_
          refine Gs (fun _ tk => XS.iloadN X46.here hx rfl (hb hby d17_36) rfl tk) ?_
          refine Gs (fun _ tk => XS.bipush X46.here hx rfl (hb hby d17_37) tk) ?_
          show Goes _ _ _ _ _ (T46.setTop (mkF m 39 #[.val (.ref a), .val (.ref b), .val (.int (1 : Int32)), .val (.int p1), .val (.int t1), .val (.int (own_fit2 p0 t0))] [(.int (48 : Int32)), (.int p1)]))
          refine own_join (B := T46.setTop (mkF m 75 #[.val (.ref a), .val (.ref b), .val (.int (1 : Int32)), .val (.int p1), .val (.int t1), .val (.int (own_fit2 p0 t0))] [(.int (own_fit2 p1 t1))])) ?_ ?_
          · show Goes _ _ _ _ _ (T46.setTop (mkF m 75 #[.val (.ref a), .val (.ref b), .val (.int (1 : Int32)), .val (.int p1), .val (.int t1), .val (.int (own_fit2 p0 t0))] [(.int (own_fit2 p1 t1))]))
            refine Gs (fun _ tk => XS.istore X46.here hx rfl (hb hby d17_75) rfl (l' := #[.val (.ref a), .val (.ref b), .val (.int (1 : Int32)), .val (.int p1), .val (.int t1), .val (.int (own_fit2 p1 t1))]) rfl tk) ?_
            refine Gs (fun _ tk => XS.iload X46.here hx rfl (hb hby d17_77) rfl tk) ?_
            by_cases hc79_48 : (own_fit2 p1 t1) = (0 : Int32)
            · refine Gs (fun _ tk => XS.ifNo X46.here hx rfl (hb hby d17_79) rfl ((if0 _ _).trans (teq hc79_48).2) tk) ?_
              refine Gs (fun _ tk => XS.iconst X46.here hx rfl (hb hby d17_82) tk) ?_
              refine Goes.ret X46 (some (.int (0 : Int32))) (fun h => by rw [hret] at h; cases h) hlk (by decide) (by decide) ?_ (fun fs hr => ?_)
              · exact ⟨(by rw [own_sw, if_neg hc79_43, own_sw, if_pos hc79_48]), N46, e46⟩
              · exact own_retN X46 hx (t := .boolean) hret (by simp) rfl (hb hby d17_83) hr
            · refine Gs (fun _ tk => XS.ifYes X46.here hx rfl (pc0 := 79) (pc' := 84) rfl (hb hby d17_79) rfl ((if0 _ _).trans (feq hc79_48).2) (by decide) (by decide) tk) ?_
              show Goes _ _ _ _ _ (T46.setTop (mkF m 84 #[.val (.ref a), .val (.ref b), .val (.int (1 : Int32)), .val (.int p1), .val (.int t1), .val (.int (own_fit2 p1 t1))] []))
              refine Gs (fun _ tk => XS.iinc X46.here hx rfl (hb hby d17_84) rfl (l' := #[.val (.ref a), .val (.ref b), .val (.int ((1 : Int32) + (1 : Int32))), .val (.int p1), .val (.int t1), .val (.int (own_fit2 p1 t1))]) rfl tk) ?_
              rw [show ((1 : Int32) + (1 : Int32)) = (2 : Int32) from by decide]
              show Goes _ _ _ _ _ (T46.setTop (mkF m 87 #[.val (.ref a), .val (.ref b), .val (.int (2 : Int32)), .val (.int p1), .val (.int t1), .val (.int (own_fit2 p1 t1))] []))
              refine Gs (fun _ tk => XS.goto X46.here hx rfl (pc0 := 87) (pc' := 15) rfl (hb hby d17_87) (by decide) (by decide) tk) ?_
              refine Gs (fun _ tk => XS.iloadN X46.here hx rfl (hb hby d17_15) rfl tk) ?_
              refine Gs (fun _ tk => XS.aloadN X46.here hx rfl (hb hby d17_16) rfl rfl tk) ?_
              obtain ⟨cq49, kq49, q49a, q49b, q49c⟩ := isOf hZ e46 T_b.exa
              obtain ⟨_, _, ⟨T49, L49, k49, n49⟩, -, X49, ⟨Lc49, hQ49, l49, y49, z49⟩, st49⟩ := X46.virtualBack hx (y := mN2) (z := mN2) hown (mvT hZ (gw hw 40 rfl)) (mvT hZ (gw hw 41 rfl)) (notFace_of_selects (args := #[]) (mvT hZ (gw hw 43 rfl))) (mvT hZ (gw hw 43 rfl)) (mvT hZ (gw hw 42 rfl)) (by decide) (backOf (W := 1) (rs_len l Z a0 hw [] b [p0, p1, p2] cz h0 n0 Z0 T_b S_COMPACT_STRINGS (by first | assumption | decide)) hZ (gw hw 44 rfl) (gw hw 16 rfl) (by decide) (by decide)) q49a q49c (g := (mkF m 17 #[.val (.ref a), .val (.ref b), .val (.int (2 : Int32)), .val (.int p1), .val (.int t1), .val (.int (own_fit2 p1 t1))] [(.ref b), (.int (2 : Int32))])) rfl (by rw [hml]; rfl) (Steps.refl _) (argsL := []) (rest := [(.int (2 : Int32))]) (lenOf own_pd11 rfl) rfl (w0 (Nat.le_of_eq rfl)) (hb hby d17_17) (fun _ _ => ⟨rfl, e46, (by decide : 0 + 0 ≤ _), (by decide : 0 + 0 ≤ _)⟩)
              dsimp only [Pt.U, Pt.locs, Pt.cells, Pt.slots] at X49 l49 y49 z49 st49 hQ49
              subst l49 y49 z49
              obtain ⟨rfl, N49q, e49⟩ := hQ49
              have N49 := Fr.app N46 N49q
              refine Gs (fun _ tk => st49.trans tk) ?_
              show Goes _ _ _ _ _ (T49.setTop (mkF m 20 #[.val (.ref a), .val (.ref b), .val (.int (2 : Int32)), .val (.int p1), .val (.int t1), .val (.int (own_fit2 p1 t1))] [(.int (Int32.ofNat [p0, p1, p2].length)), (.int (2 : Int32))]))
              rw [show (Int32.ofNat [p0, p1, p2].length) = (3 : Int32) from rfl]
              show Goes _ _ _ _ _ (T49.setTop (mkF m 20 #[.val (.ref a), .val (.ref b), .val (.int (2 : Int32)), .val (.int p1), .val (.int t1), .val (.int (own_fit2 p1 t1))] [(.int (3 : Int32)), (.int (2 : Int32))]))
              refine Gs (fun _ tk => XS.icmpNo X49.here hx rfl (hb hby d17_20) rfl (tlt (by decide : ((2 : Int32) < (3 : Int32)))).2.1 tk) ?_
              refine Gs (fun _ tk => XS.aloadN X49.here hx rfl (hb hby d17_23) rfl rfl tk) ?_
              refine Gs (fun _ tk => XS.iloadN X49.here hx rfl (hb hby d17_24) rfl tk) ?_
              obtain ⟨cq50, kq50, q50a, q50b, q50c⟩ := isOf hZ e49 T_b.exa
              obtain ⟨_, _, ⟨T50, L50, k50, n50⟩, -, X50, ⟨Lc50, hQ50, l50, y50, z50⟩, st50⟩ := X49.virtualBack hx (y := mN6) (z := mN6) hown (mvT hZ (gw hw 64 rfl)) (mvT hZ (gw hw 65 rfl)) (notFace_of_selects (args := #[]) (mvT hZ (gw hw 67 rfl))) (mvT hZ (gw hw 67 rfl)) (mvT hZ (gw hw 66 rfl)) (by decide) (backOf (W := 0) (rs_chr l Z a0 hw [] b [p0, p1, p2] (2 : Int32) p2 cz fo h0 n0 Z0 T_b S_COMPACT_STRINGS (by first | assumption | decide) (by first | assumption | decide) (own_il 2 _ (by decide) (by simp) T_b.len) rfl S_SIOOBE_FORMATTER (by first | assumption | decide)) hZ (gw hw 68 rfl) (gw hw 16 rfl) (by decide) (by decide)) q50a q50c (g := (mkF m 25 #[.val (.ref a), .val (.ref b), .val (.int (2 : Int32)), .val (.int p1), .val (.int t1), .val (.int (own_fit2 p1 t1))] [(.int (2 : Int32)), (.ref b)])) rfl (by rw [hml]; rfl) (Steps.refl _) (argsL := [(.int (2 : Int32))]) (rest := []) (lenOf own_pd12 rfl) rfl (w0 (Nat.le_of_eq rfl)) (hb hby d17_25) (fun _ _ => ⟨rfl, e49, (by decide : 0 + 0 ≤ _), (by decide : 0 + 0 ≤ _)⟩)
              dsimp only [Pt.U, Pt.locs, Pt.cells, Pt.slots] at X50 l50 y50 z50 st50 hQ50
              subst l50 y50 z50
              obtain ⟨rfl, N50q, e50⟩ := hQ50
              have N50 := Fr.app N49 N50q
              refine Gs (fun _ tk => st50.trans tk) ?_
              show Goes _ _ _ _ _ (T50.setTop (mkF m 28 #[.val (.ref a), .val (.ref b), .val (.int (2 : Int32)), .val (.int p1), .val (.int t1), .val (.int (own_fit2 p1 t1))] [(.int p2)]))
              refine Gs (fun _ tk => XS.istoreN X50.here hx rfl (hb hby d17_28) rfl (l' := #[.val (.ref a), .val (.ref b), .val (.int (2 : Int32)), .val (.int p2), .val (.int t1), .val (.int (own_fit2 p1 t1))]) rfl tk) ?_
              refine Gs (fun _ tk => XS.aloadN X50.here hx rfl (hb hby d17_29) rfl rfl tk) ?_
              refine Gs (fun _ tk => XS.iloadN X50.here hx rfl (hb hby d17_30) rfl tk) ?_
              obtain ⟨cq51, kq51, q51a, q51b, q51c⟩ := isOf hZ e50 T_a.exa
              obtain ⟨_, _, ⟨T51, L51, k51, n51⟩, -, X51, ⟨Lc51, hQ51, l51, y51, z51⟩, st51⟩ := X50.virtualBack hx (y := mN6) (z := mN6) hown (mvT hZ (gw hw 64 rfl)) (mvT hZ (gw hw 65 rfl)) (notFace_of_selects (args := #[]) (mvT hZ (gw hw 67 rfl))) (mvT hZ (gw hw 67 rfl)) (mvT hZ (gw hw 66 rfl)) (by decide) (backOf (W := 0) (rs_chr l Z a0 hw [] a (t0 :: t1 :: t2 :: ts) (2 : Int32) t2 cz fo h0 n0 Z0 T_a S_COMPACT_STRINGS (by first | assumption | decide) (by first | assumption | decide) (own_il 2 _ (by decide) (by simp) T_a.len) rfl S_SIOOBE_FORMATTER (by first | assumption | decide)) hZ (gw hw 68 rfl) (gw hw 16 rfl) (by decide) (by decide)) q51a q51c (g := (mkF m 31 #[.val (.ref a), .val (.ref b), .val (.int (2 : Int32)), .val (.int p2), .val (.int t1), .val (.int (own_fit2 p1 t1))] [(.int (2 : Int32)), (.ref a)])) rfl (by rw [hml]; rfl) (Steps.refl _) (argsL := [(.int (2 : Int32))]) (rest := []) (lenOf own_pd12 rfl) rfl (w0 (Nat.le_of_eq rfl)) (hb hby d17_31) (fun _ _ => ⟨rfl, e50, (by decide : 0 + 0 ≤ _), (by decide : 0 + 0 ≤ _)⟩)
              dsimp only [Pt.U, Pt.locs, Pt.cells, Pt.slots] at X51 l51 y51 z51 st51 hQ51
              subst l51 y51 z51
              obtain ⟨rfl, N51q, e51⟩ := hQ51
              have N51 := Fr.app N50 N51q
              refine Gs (fun _ tk => st51.trans tk) ?_
              show Goes _ _ _ _ _ (T51.setTop (mkF m 34 #[.val (.ref a), .val (.ref b), .val (.int (2 : Int32)), .val (.int p2), .val (.int t1), .val (.int (own_fit2 p1 t1))] [(.int t2)]))
              refine Gs (fun _ tk => XS.istore X51.here hx rfl (hb hby d17_34) rfl (l' := #[.val (.ref a), .val (.ref b), .val (.int (2 : Int32)), .val (.int p2), .val (.int t2), .val (.int (own_fit2 p1 t1))]) rfl tk) ?_
              refine Gs (fun _ tk => XS.iloadN X51.here hx rfl (hb hby d17_36) rfl tk) ?_
              refine Gs (fun _ tk => XS.bipush X51.here hx rfl (hb hby d17_37) tk) ?_
              show Goes _ _ _ _ _ (T51.setTop (mkF m 39 #[.val (.ref a), .val (.ref b), .val (.int (2 : Int32)), .val (.int p2), .val (.int t2), .val (.int (own_fit2 p1 t1))] [(.int (48 : Int32)), (.int p2)]))
              refine own_join (B := T51.setTop (mkF m 75 #[.val (.ref a), .val (.ref b), .val (.int (2 : Int32)), .val (.int p2), .val (.int t2), .val (.int (own_fit2 p1 t1))] [(.int (own_fit2 p2 t2))])) ?_ ?_
              · show Goes _ _ _ _ _ (T51.setTop (mkF m 75 #[.val (.ref a), .val (.ref b), .val (.int (2 : Int32)), .val (.int p2), .val (.int t2), .val (.int (own_fit2 p1 t1))] [(.int (own_fit2 p2 t2))]))
                refine Gs (fun _ tk => XS.istore X51.here hx rfl (hb hby d17_75) rfl (l' := #[.val (.ref a), .val (.ref b), .val (.int (2 : Int32)), .val (.int p2), .val (.int t2), .val (.int (own_fit2 p2 t2))]) rfl tk) ?_
                refine Gs (fun _ tk => XS.iload X51.here hx rfl (hb hby d17_77) rfl tk) ?_
                by_cases hc79_53 : (own_fit2 p2 t2) = (0 : Int32)
                · refine Gs (fun _ tk => XS.ifNo X51.here hx rfl (hb hby d17_79) rfl ((if0 _ _).trans (teq hc79_53).2) tk) ?_
                  refine Gs (fun _ tk => XS.iconst X51.here hx rfl (hb hby d17_82) tk) ?_
                  refine Goes.ret X51 (some (.int (0 : Int32))) (fun h => by rw [hret] at h; cases h) hlk (by decide) (by decide) ?_ (fun fs hr => ?_)
                  · exact ⟨(by rw [own_sw, if_neg hc79_43, own_sw, if_neg hc79_48, own_sw, if_pos hc79_53]), N51, e51⟩
                  · exact own_retN X51 hx (t := .boolean) hret (by simp) rfl (hb hby d17_83) hr
                · refine Gs (fun _ tk => XS.ifYes X51.here hx rfl (pc0 := 79) (pc' := 84) rfl (hb hby d17_79) rfl ((if0 _ _).trans (feq hc79_53).2) (by decide) (by decide) tk) ?_
                  show Goes _ _ _ _ _ (T51.setTop (mkF m 84 #[.val (.ref a), .val (.ref b), .val (.int (2 : Int32)), .val (.int p2), .val (.int t2), .val (.int (own_fit2 p2 t2))] []))
                  refine Gs (fun _ tk => XS.iinc X51.here hx rfl (hb hby d17_84) rfl (l' := #[.val (.ref a), .val (.ref b), .val (.int ((2 : Int32) + (1 : Int32))), .val (.int p2), .val (.int t2), .val (.int (own_fit2 p2 t2))]) rfl tk) ?_
                  rw [show ((2 : Int32) + (1 : Int32)) = (3 : Int32) from by decide]
                  show Goes _ _ _ _ _ (T51.setTop (mkF m 87 #[.val (.ref a), .val (.ref b), .val (.int (3 : Int32)), .val (.int p2), .val (.int t2), .val (.int (own_fit2 p2 t2))] []))
                  refine Gs (fun _ tk => XS.goto X51.here hx rfl (pc0 := 87) (pc' := 15) rfl (hb hby d17_87) (by decide) (by decide) tk) ?_
                  refine Gs (fun _ tk => XS.iloadN X51.here hx rfl (hb hby d17_15) rfl tk) ?_
                  refine Gs (fun _ tk => XS.aloadN X51.here hx rfl (hb hby d17_16) rfl rfl tk) ?_
                  obtain ⟨cq54, kq54, q54a, q54b, q54c⟩ := isOf hZ e51 T_b.exa
                  obtain ⟨_, _, ⟨T54, L54, k54, n54⟩, -, X54, ⟨Lc54, hQ54, l54, y54, z54⟩, st54⟩ := X51.virtualBack hx (y := mN2) (z := mN2) hown (mvT hZ (gw hw 40 rfl)) (mvT hZ (gw hw 41 rfl)) (notFace_of_selects (args := #[]) (mvT hZ (gw hw 43 rfl))) (mvT hZ (gw hw 43 rfl)) (mvT hZ (gw hw 42 rfl)) (by decide) (backOf (W := 1) (rs_len l Z a0 hw [] b [p0, p1, p2] cz h0 n0 Z0 T_b S_COMPACT_STRINGS (by first | assumption | decide)) hZ (gw hw 44 rfl) (gw hw 16 rfl) (by decide) (by decide)) q54a q54c (g := (mkF m 17 #[.val (.ref a), .val (.ref b), .val (.int (3 : Int32)), .val (.int p2), .val (.int t2), .val (.int (own_fit2 p2 t2))] [(.ref b), (.int (3 : Int32))])) rfl (by rw [hml]; rfl) (Steps.refl _) (argsL := []) (rest := [(.int (3 : Int32))]) (lenOf own_pd11 rfl) rfl (w0 (Nat.le_of_eq rfl)) (hb hby d17_17) (fun _ _ => ⟨rfl, e51, (by decide : 0 + 0 ≤ _), (by decide : 0 + 0 ≤ _)⟩)
                  dsimp only [Pt.U, Pt.locs, Pt.cells, Pt.slots] at X54 l54 y54 z54 st54 hQ54
                  subst l54 y54 z54
                  obtain ⟨rfl, N54q, e54⟩ := hQ54
                  have N54 := Fr.app N51 N54q
                  refine Gs (fun _ tk => st54.trans tk) ?_
                  show Goes _ _ _ _ _ (T54.setTop (mkF m 20 #[.val (.ref a), .val (.ref b), .val (.int (3 : Int32)), .val (.int p2), .val (.int t2), .val (.int (own_fit2 p2 t2))] [(.int (Int32.ofNat [p0, p1, p2].length)), (.int (3 : Int32))]))
                  rw [show (Int32.ofNat [p0, p1, p2].length) = (3 : Int32) from rfl]
                  show Goes _ _ _ _ _ (T54.setTop (mkF m 20 #[.val (.ref a), .val (.ref b), .val (.int (3 : Int32)), .val (.int p2), .val (.int t2), .val (.int (own_fit2 p2 t2))] [(.int (3 : Int32)), (.int (3 : Int32))]))
                  refine Gs (fun _ tk => XS.icmpYes X54.here hx rfl (pc0 := 20) (pc' := 90) rfl (hb hby d17_20) rfl (flt (by decide : ¬ ((3 : Int32) < (3 : Int32)))).2.1 (by decide) (by decide) tk) ?_
                  refine Gs (fun _ tk => XS.iconst X54.here hx rfl (hb hby d17_90) tk) ?_
                  refine Goes.ret X54 (some (.int (1 : Int32))) (fun h => by rw [hret] at h; cases h) hlk (by decide) (by decide) ?_ (fun fs hr => ?_)
                  · exact ⟨(by rw [own_sw, if_neg hc79_43, own_sw, if_neg hc79_48, own_sw, if_neg hc79_53, own_sw]), N54, e54⟩
                  · exact own_retN X54 hx (t := .boolean) hret (by simp) rfl (hb hby d17_91) hr
              intro J75_52
              by_cases hc39_55 : p2 = (48 : Int32)
              · refine Gs (fun _ tk => XS.icmpNo X51.here hx rfl (hb hby d17_39) rfl (teq hc39_55).2 tk) ?_
                refine Gs (fun _ tk => XS.iload X51.here hx rfl (hb hby d17_42) rfl tk) ?_
                refine Gs (fun _ tk => XS.bipush X51.here hx rfl (hb hby d17_44) tk) ?_
                by_cases hc46_56 : t2 < (48 : Int32)
                · refine Gs (fun _ tk => XS.icmpYes X51.here hx rfl (pc0 := 46) (pc' := 60) rfl (hb hby d17_46) rfl (tlt hc46_56).1 (by decide) (by decide) tk) ?_
                  refine Gs (fun _ tk => XS.iconst X51.here hx rfl (hb hby d17_60) tk) ?_
                  refine Gs (fun _ tk => XS.goto X51.here hx rfl (pc0 := 61) (pc' := 75) rfl (hb hby d17_61) (by decide) (by decide) tk) ?_
                  show Goes _ _ _ _ _ (T51.setTop (mkF m 75 #[.val (.ref a), .val (.ref b), .val (.int (2 : Int32)), .val (.int p2), .val (.int t2), .val (.int (own_fit2 p1 t1))] [(.int (0 : Int32))]))
                  rw [show (own_fit2 p2 t2) = (0 : Int32) from by rw [own_fit2, if_pos hc39_55, if_pos hc46_56]] at J75_52
                  exact J75_52
                · refine Gs (fun _ tk => XS.icmpNo X51.here hx rfl (hb hby d17_46) rfl (flt hc46_56).1 tk) ?_
                  refine Gs (fun _ tk => XS.iload X51.here hx rfl (hb hby d17_49) rfl tk) ?_
                  refine Gs (fun _ tk => XS.bipush X51.here hx rfl (hb hby d17_51) tk) ?_
                  show Goes _ _ _ _ _ (T51.setTop (mkF m 53 #[.val (.ref a), .val (.ref b), .val (.int (2 : Int32)), .val (.int p2), .val (.int t2), .val (.int (own_fit2 p1 t1))] [(.int (57 : Int32)), (.int t2)]))
                  by_cases hc53_57 : (57 : Int32) < t2
                  · refine Gs (fun _ tk => XS.icmpYes X51.here hx rfl (pc0 := 53) (pc' := 60) rfl (hb hby d17_53) rfl (tlt hc53_57).2.2.1 (by decide) (by decide) tk) ?_
                    refine Gs (fun _ tk => XS.iconst X51.here hx rfl (hb hby d17_60) tk) ?_
                    refine Gs (fun _ tk => XS.goto X51.here hx rfl (pc0 := 61) (pc' := 75) rfl (hb hby d17_61) (by decide) (by decide) tk) ?_
                    rw [show (own_fit2 p2 t2) = (0 : Int32) from by rw [own_fit2, if_pos hc39_55, if_neg hc46_56, if_pos hc53_57]] at J75_52
                    exact J75_52
                  · refine Gs (fun _ tk => XS.icmpNo X51.here hx rfl (hb hby d17_53) rfl (flt hc53_57).2.2.1 tk) ?_
                    refine Gs (fun _ tk => XS.iconst X51.here hx rfl (hb hby d17_56) tk) ?_
                    refine Gs (fun _ tk => XS.goto X51.here hx rfl (pc0 := 57) (pc' := 75) rfl (hb hby d17_57) (by decide) (by decide) tk) ?_
                    rw [show (own_fit2 p2 t2) = (1 : Int32) from by rw [own_fit2, if_pos hc39_55, if_neg hc46_56, if_neg hc53_57]] at J75_52
                    exact J75_52
              · refine Gs (fun _ tk => XS.icmpYes X51.here hx rfl (pc0 := 39) (pc' := 64) rfl (hb hby d17_39) rfl (feq hc39_55).2 (by decide) (by decide) tk) ?_
                refine Gs (fun _ tk => XS.iload X51.here hx rfl (hb hby d17_64) rfl tk) ?_
                refine Gs (fun _ tk => XS.iloadN X51.here hx rfl (hb hby d17_66) rfl tk) ?_
                by_cases hc67_58 : t2 = p2
                · refine Gs (fun _ tk => XS.icmpNo X51.here hx rfl (hb hby d17_67) rfl (teq hc67_58).2 tk) ?_
                  refine Gs (fun _ tk => XS.iconst X51.here hx rfl (hb hby d17_70) tk) ?_
                  refine Gs (fun _ tk => XS.goto X51.here hx rfl (pc0 := 71) (pc' := 75) rfl (hb hby d17_71) (by decide) (by decide) tk) ?_
                  show Goes _ _ _ _ _ (T51.setTop (mkF m 75 #[.val (.ref a), .val (.ref b), .val (.int (2 : Int32)), .val (.int p2), .val (.int t2), .val (.int (own_fit2 p1 t1))] [(.int (1 : Int32))]))
                  rw [show (own_fit2 p2 t2) = (1 : Int32) from by rw [own_fit2, if_neg hc39_55, if_pos hc67_58]] at J75_52
                  exact J75_52
                · refine Gs (fun _ tk => XS.icmpYes X51.here hx rfl (pc0 := 67) (pc' := 74) rfl (hb hby d17_67) rfl (feq hc67_58).2 (by decide) (by decide) tk) ?_
                  refine Gs (fun _ tk => XS.iconst X51.here hx rfl (hb hby d17_74) tk) ?_
                  rw [show (own_fit2 p2 t2) = (0 : Int32) from by rw [own_fit2, if_neg hc39_55, if_neg hc67_58]] at J75_52
                  exact J75_52
          intro J75_47
          by_cases hc39_59 : p1 = (48 : Int32)
          · refine Gs (fun _ tk => XS.icmpNo X46.here hx rfl (hb hby d17_39) rfl (teq hc39_59).2 tk) ?_
            refine Gs (fun _ tk => XS.iload X46.here hx rfl (hb hby d17_42) rfl tk) ?_
            refine Gs (fun _ tk => XS.bipush X46.here hx rfl (hb hby d17_44) tk) ?_
            by_cases hc46_60 : t1 < (48 : Int32)
            · refine Gs (fun _ tk => XS.icmpYes X46.here hx rfl (pc0 := 46) (pc' := 60) rfl (hb hby d17_46) rfl (tlt hc46_60).1 (by decide) (by decide) tk) ?_
              refine Gs (fun _ tk => XS.iconst X46.here hx rfl (hb hby d17_60) tk) ?_
              refine Gs (fun _ tk => XS.goto X46.here hx rfl (pc0 := 61) (pc' := 75) rfl (hb hby d17_61) (by decide) (by decide) tk) ?_
              show Goes _ _ _ _ _ (T46.setTop (mkF m 75 #[.val (.ref a), .val (.ref b), .val (.int (1 : Int32)), .val (.int p1), .val (.int t1), .val (.int (own_fit2 p0 t0))] [(.int (0 : Int32))]))
              rw [show (own_fit2 p1 t1) = (0 : Int32) from by rw [own_fit2, if_pos hc39_59, if_pos hc46_60]] at J75_47
              exact J75_47
            · refine Gs (fun _ tk => XS.icmpNo X46.here hx rfl (hb hby d17_46) rfl (flt hc46_60).1 tk) ?_
              refine Gs (fun _ tk => XS.iload X46.here hx rfl (hb hby d17_49) rfl tk) ?_
              refine Gs (fun _ tk => XS.bipush X46.here hx rfl (hb hby d17_51) tk) ?_
              show Goes _ _ _ _ _ (T46.setTop (mkF m 53 #[.val (.ref a), .val (.ref b), .val (.int (1 : Int32)), .val (.int p1), .val (.int t1), .val (.int (own_fit2 p0 t0))] [(.int (57 : Int32)), (.int t1)]))
              by_cases hc53_61 : (57 : Int32) < t1
              · refine Gs (fun _ tk => XS.icmpYes X46.here hx rfl (pc0 := 53) (pc' := 60) rfl (hb hby d17_53) rfl (tlt hc53_61).2.2.1 (by decide) (by decide) tk) ?_
                refine Gs (fun _ tk => XS.iconst X46.here hx rfl (hb hby d17_60) tk) ?_
                refine Gs (fun _ tk => XS.goto X46.here hx rfl (pc0 := 61) (pc' := 75) rfl (hb hby d17_61) (by decide) (by decide) tk) ?_
                rw [show (own_fit2 p1 t1) = (0 : Int32) from by rw [own_fit2, if_pos hc39_59, if_neg hc46_60, if_pos hc53_61]] at J75_47
                exact J75_47
              · refine Gs (fun _ tk => XS.icmpNo X46.here hx rfl (hb hby d17_53) rfl (flt hc53_61).2.2.1 tk) ?_
                refine Gs (fun _ tk => XS.iconst X46.here hx rfl (hb hby d17_56) tk) ?_
                refine Gs (fun _ tk => XS.goto X46.here hx rfl (pc0 := 57) (pc' := 75) rfl (hb hby d17_57) (by decide) (by decide) tk) ?_
                rw [show (own_fit2 p1 t1) = (1 : Int32) from by rw [own_fit2, if_pos hc39_59, if_neg hc46_60, if_neg hc53_61]] at J75_47
                exact J75_47
          · refine Gs (fun _ tk => XS.icmpYes X46.here hx rfl (pc0 := 39) (pc' := 64) rfl (hb hby d17_39) rfl (feq hc39_59).2 (by decide) (by decide) tk) ?_
            refine Gs (fun _ tk => XS.iload X46.here hx rfl (hb hby d17_64) rfl tk) ?_
            refine Gs (fun _ tk => XS.iloadN X46.here hx rfl (hb hby d17_66) rfl tk) ?_
            by_cases hc67_62 : t1 = p1
            · refine Gs (fun _ tk => XS.icmpNo X46.here hx rfl (hb hby d17_67) rfl (teq hc67_62).2 tk) ?_
              refine Gs (fun _ tk => XS.iconst X46.here hx rfl (hb hby d17_70) tk) ?_
              refine Gs (fun _ tk => XS.goto X46.here hx rfl (pc0 := 71) (pc' := 75) rfl (hb hby d17_71) (by decide) (by decide) tk) ?_
              show Goes _ _ _ _ _ (T46.setTop (mkF m 75 #[.val (.ref a), .val (.ref b), .val (.int (1 : Int32)), .val (.int p1), .val (.int t1), .val (.int (own_fit2 p0 t0))] [(.int (1 : Int32))]))
              rw [show (own_fit2 p1 t1) = (1 : Int32) from by rw [own_fit2, if_neg hc39_59, if_pos hc67_62]] at J75_47
              exact J75_47
            · refine Gs (fun _ tk => XS.icmpYes X46.here hx rfl (pc0 := 67) (pc' := 74) rfl (hb hby d17_67) rfl (feq hc67_62).2 (by decide) (by decide) tk) ?_
              refine Gs (fun _ tk => XS.iconst X46.here hx rfl (hb hby d17_74) tk) ?_
              rw [show (own_fit2 p1 t1) = (0 : Int32) from by rw [own_fit2, if_neg hc39_59, if_neg hc67_62]] at J75_47
              exact J75_47
      intro J75_42
      by_cases hc39_63 : p0 = (48 : Int32)
      · refine Gs (fun _ tk => XS.icmpNo X41.here hx rfl (hb hby d17_39) rfl (teq hc39_63).2 tk) ?_
        refine Gs (fun _ tk => XS.iload X41.here hx rfl (hb hby d17_42) rfl tk) ?_
        refine Gs (fun _ tk => XS.bipush X41.here hx rfl (hb hby d17_44) tk) ?_
        by_cases hc46_64 : t0 < (48 : Int32)
        · refine Gs (fun _ tk => XS.icmpYes X41.here hx rfl (pc0 := 46) (pc' := 60) rfl (hb hby d17_46) rfl (tlt hc46_64).1 (by decide) (by decide) tk) ?_
          refine Gs (fun _ tk => XS.iconst X41.here hx rfl (hb hby d17_60) tk) ?_
          refine Gs (fun _ tk => XS.goto X41.here hx rfl (pc0 := 61) (pc' := 75) rfl (hb hby d17_61) (by decide) (by decide) tk) ?_
          show Goes _ _ _ _ _ (T41.setTop (mkF m 75 #[.val (.ref a), .val (.ref b), .val (.int (0 : Int32)), .val (.int p0), .val (.int t0), .unset] [(.int (0 : Int32))]))
          rw [show (own_fit2 p0 t0) = (0 : Int32) from by rw [own_fit2, if_pos hc39_63, if_pos hc46_64]] at J75_42
          exact J75_42
        · refine Gs (fun _ tk => XS.icmpNo X41.here hx rfl (hb hby d17_46) rfl (flt hc46_64).1 tk) ?_
          refine Gs (fun _ tk => XS.iload X41.here hx rfl (hb hby d17_49) rfl tk) ?_
          refine Gs (fun _ tk => XS.bipush X41.here hx rfl (hb hby d17_51) tk) ?_
          show Goes _ _ _ _ _ (T41.setTop (mkF m 53 #[.val (.ref a), .val (.ref b), .val (.int (0 : Int32)), .val (.int p0), .val (.int t0), .unset] [(.int (57 : Int32)), (.int t0)]))
          by_cases hc53_65 : (57 : Int32) < t0
          · refine Gs (fun _ tk => XS.icmpYes X41.here hx rfl (pc0 := 53) (pc' := 60) rfl (hb hby d17_53) rfl (tlt hc53_65).2.2.1 (by decide) (by decide) tk) ?_
            refine Gs (fun _ tk => XS.iconst X41.here hx rfl (hb hby d17_60) tk) ?_
            refine Gs (fun _ tk => XS.goto X41.here hx rfl (pc0 := 61) (pc' := 75) rfl (hb hby d17_61) (by decide) (by decide) tk) ?_
            rw [show (own_fit2 p0 t0) = (0 : Int32) from by rw [own_fit2, if_pos hc39_63, if_neg hc46_64, if_pos hc53_65]] at J75_42
            exact J75_42
          · refine Gs (fun _ tk => XS.icmpNo X41.here hx rfl (hb hby d17_53) rfl (flt hc53_65).2.2.1 tk) ?_
            refine Gs (fun _ tk => XS.iconst X41.here hx rfl (hb hby d17_56) tk) ?_
            refine Gs (fun _ tk => XS.goto X41.here hx rfl (pc0 := 57) (pc' := 75) rfl (hb hby d17_57) (by decide) (by decide) tk) ?_
            rw [show (own_fit2 p0 t0) = (1 : Int32) from by rw [own_fit2, if_pos hc39_63, if_neg hc46_64, if_neg hc53_65]] at J75_42
            exact J75_42
      · refine Gs (fun _ tk => XS.icmpYes X41.here hx rfl (pc0 := 39) (pc' := 64) rfl (hb hby d17_39) rfl (feq hc39_63).2 (by decide) (by decide) tk) ?_
        refine Gs (fun _ tk => XS.iload X41.here hx rfl (hb hby d17_64) rfl tk) ?_
        refine Gs (fun _ tk => XS.iloadN X41.here hx rfl (hb hby d17_66) rfl tk) ?_
        by_cases hc67_66 : t0 = p0
        · refine Gs (fun _ tk => XS.icmpNo X41.here hx rfl (hb hby d17_67) rfl (teq hc67_66).2 tk) ?_
          refine Gs (fun _ tk => XS.iconst X41.here hx rfl (hb hby d17_70) tk) ?_
          refine Gs (fun _ tk => XS.goto X41.here hx rfl (pc0 := 71) (pc' := 75) rfl (hb hby d17_71) (by decide) (by decide) tk) ?_
          show Goes _ _ _ _ _ (T41.setTop (mkF m 75 #[.val (.ref a), .val (.ref b), .val (.int (0 : Int32)), .val (.int p0), .val (.int t0), .unset] [(.int (1 : Int32))]))
          rw [show (own_fit2 p0 t0) = (1 : Int32) from by rw [own_fit2, if_neg hc39_63, if_pos hc67_66]] at J75_42
          exact J75_42
        · refine Gs (fun _ tk => XS.icmpYes X41.here hx rfl (pc0 := 67) (pc' := 74) rfl (hb hby d17_67) rfl (feq hc67_66).2 (by decide) (by decide) tk) ?_
          refine Gs (fun _ tk => XS.iconst X41.here hx rfl (hb hby d17_74) tk) ?_
          rw [show (own_fit2 p0 t0) = (0 : Int32) from by rw [own_fit2, if_neg hc39_63, if_neg hc67_66]] at J75_42
          exact J75_42
  · simp at hps
theorem own_pd13 : parseMethodDescriptor "(JII)C" = some ⟨[.long, .int, .int], some .char⟩ := by decide +kernel
theorem own_pd14 : parseMethodDescriptor "(JIIC)C" = some ⟨[.long, .int, .int, .char], some .char⟩ := by decide +kernel
theorem own_pd15 : parseMethodDescriptor "(ICCCC)Ljava/lang/String;" = some ⟨[.int, .char, .char, .char, .char], some (.object "java/lang/String")⟩ := by decide +kernel
theorem own_pd16 : parseMethodDescriptor "(Ljava/lang/String;Ljava/lang/String;)Z" = some ⟨[(.object "java/lang/String"), (.object "java/lang/String")], some .boolean⟩ := by decide +kernel
theorem own_pd17 : parseMethodDescriptor "(CC)Z" = some ⟨[.char, .char], some .boolean⟩ := by decide +kernel
theorem own_ef_rm_law (m : MethodId) (x0 : Int32) (x1 : Int64) (x2 : Int64) (x3 : Int32) : entryFrame m #[(.int x0), (.long x1), (.long x2), (.int x3)] maxLocals = mkF m 0 #[.val (.int x0), .val (.long x1), .second, .val (.long x2), .second, .val (.int x3), .unset, .unset, .unset, .unset, .unset, .unset, .unset, .unset, .unset, .unset, .unset, .unset] [] := by first | (simp [entryFrame, mkF, argsToLocals, Value.category, maxLocals]; done) | rfl
def Q_rm_law (Z : State) (x0 : Int32) (x1 : Int64) (x2 : Int64) (x3 : Int32) (cz : Int32) (fo : Value) (h0 : Heap) (n0 : Nat) (v : Option Value) (h : Heap) (L : List Loc) : Prop := v = some (.int 1) ∧ Fr n0 L
set_option maxRecDepth 65536 in
set_option maxHeartbeats 40000000 in
theorem rm_law (l : Launch) (Z : State) (a0 : Array Value) (hw : ∀ d ∈ tables_1, d.before a0 Z = true) (ws : List Jvm.Cond) (x0 : Int32) (x1 : Int64) (x2 : Int64) (x3 : Int32) (cz : Int32) (fo : Value) (h0 : Heap) (n0 : Nat) (Z0 : n0 ≤ h0.size) (S_COMPACT_STRINGS : Sta Z h0 "java/lang/String" "COMPACT_STRINGS" "Z" (.int cz)) (hcz : ¬ (cz = (0 : Int32))) (S_SIOOBE_FORMATTER : Sta Z h0 "jdk/internal/util/Preconditions" "SIOOBE_FORMATTER" "Ljava/util/function/BiFunction;" fo) (r_fo : fo.isRef = true) :
    MetH l Z x code maxLocals ret room_1 ws #[(.int x0), (.long x1), (.long x2), (.int x3)] h0 (Q_rm_law Z x0 x1 x2 x3 cz fo h0 n0) := by
  refine own_metH (plainFor_of_name own_pn4) ?_
  intro p e s m below meth c s₁ hret hx hby hlk hml hown hnm X0 e0 hZ hh hC0
  have N0 := Fr.nil n0
  have hS : s.Since s.vm h0.size := (State.WarmedH.refl s).since _
  have hk : h0.size ≤ h0.size := Nat.le_refl _
  replace hZ : Z.Warmed39 (s.setVm s.vm).vm := hZ
  have hR : CHr Z consts_1 s.vm h0 s.vm h0 := CHr.refl hC0
  refine Gs (fun _ tk => castTop (own_ef_rm_law m x0 x1 x2 x3) tk) ?_
  show Goes _ _ _ _ _ (s₁.setTop (mkF m 0 #[.val (.int x0), .val (.long x1), .second, .val (.long x2), .second, .val (.int x3), .unset, .unset, .unset, .unset, .unset, .unset, .unset, .unset, .unset, .unset, .unset, .unset] []))
  refine Gs (fun _ tk => XS.iloadN X0.here hx rfl (hb hby at_0) rfl tk) ?_
  refine Gs (fun _ tk => XS.iconst X0.here hx rfl (hb hby at_1) tk) ?_
  show Goes _ _ _ _ _ (s₁.setTop (mkF m 2 #[.val (.int x0), .val (.long x1), .second, .val (.long x2), .second, .val (.int x3), .unset, .unset, .unset, .unset, .unset, .unset, .unset, .unset, .unset, .unset, .unset, .unset] [(.int (3 : Int32)), (.int x0)]))
  refine Gs (fun _ tk => XS.iand X0.here hx rfl (hb hby at_2) rfl tk) ?_
  show Goes _ _ _ _ _ (s₁.setTop (mkF m 3 #[.val (.int x0), .val (.long x1), .second, .val (.long x2), .second, .val (.int x3), .unset, .unset, .unset, .unset, .unset, .unset, .unset, .unset, .unset, .unset, .unset, .unset] [(.int (x0 &&& (3 : Int32)))]))
  generalize hlp : (x0 &&& (3 : Int32)) = lp
  show Goes _ _ _ _ _ (s₁.setTop (mkF m 3 #[.val (.int x0), .val (.long x1), .second, .val (.long x2), .second, .val (.int x3), .unset, .unset, .unset, .unset, .unset, .unset, .unset, .unset, .unset, .unset, .unset, .unset] [(.int lp)]))
  have hlp : lp = 0 ∨ lp = 1 ∨ lp = 2 ∨ lp = 3 := by rw [← hlp]; exact own_mask3 x0
  refine Gs (fun _ tk => XS.istore X0.here hx rfl (hb hby at_3) rfl (l' := #[.val (.int x0), .val (.long x1), .second, .val (.long x2), .second, .val (.int x3), .val (.int lp), .unset, .unset, .unset, .unset, .unset, .unset, .unset, .unset, .unset, .unset, .unset]) rfl tk) ?_
  refine Gs (fun _ tk => XS.iloadN X0.here hx rfl (hb hby at_5) rfl tk) ?_
  refine Gs (fun _ tk => XS.iconst X0.here hx rfl (hb hby at_6) tk) ?_
  show Goes _ _ _ _ _ (s₁.setTop (mkF m 7 #[.val (.int x0), .val (.long x1), .second, .val (.long x2), .second, .val (.int x3), .val (.int lp), .unset, .unset, .unset, .unset, .unset, .unset, .unset, .unset, .unset, .unset, .unset] [(.int (2 : Int32)), (.int x0)]))
  refine Gs (fun _ tk => XS.iushr X0.here hx rfl (hb hby at_7) rfl tk) ?_
  show Goes _ _ _ _ _ (s₁.setTop (mkF m 8 #[.val (.int x0), .val (.long x1), .second, .val (.long x2), .second, .val (.int x3), .val (.int lp), .unset, .unset, .unset, .unset, .unset, .unset, .unset, .unset, .unset, .unset, .unset] [(.int ((x0.toUInt32 >>> ((2 : Int32) &&& 31).toUInt32).toInt32))]))
  refine Gs (fun _ tk => XS.bipush X0.here hx rfl (hb hby at_8) tk) ?_
  show Goes _ _ _ _ _ (s₁.setTop (mkF m 10 #[.val (.int x0), .val (.long x1), .second, .val (.long x2), .second, .val (.int x3), .val (.int lp), .unset, .unset, .unset, .unset, .unset, .unset, .unset, .unset, .unset, .unset, .unset] [(.int (7 : Int32)), (.int ((x0.toUInt32 >>> ((2 : Int32) &&& 31).toUInt32).toInt32))]))
  refine Gs (fun _ tk => XS.iand X0.here hx rfl (hb hby at_10) rfl tk) ?_
  show Goes _ _ _ _ _ (s₁.setTop (mkF m 11 #[.val (.int x0), .val (.long x1), .second, .val (.long x2), .second, .val (.int x3), .val (.int lp), .unset, .unset, .unset, .unset, .unset, .unset, .unset, .unset, .unset, .unset, .unset] [(.int (((x0.toUInt32 >>> ((2 : Int32) &&& 31).toUInt32).toInt32) &&& (7 : Int32)))]))
  refine Gs (fun _ tk => XS.iconst X0.here hx rfl (hb hby at_11) tk) ?_
  show Goes _ _ _ _ _ (s₁.setTop (mkF m 12 #[.val (.int x0), .val (.long x1), .second, .val (.long x2), .second, .val (.int x3), .val (.int lp), .unset, .unset, .unset, .unset, .unset, .unset, .unset, .unset, .unset, .unset, .unset] [(.int (5 : Int32)), (.int (((x0.toUInt32 >>> ((2 : Int32) &&& 31).toUInt32).toInt32) &&& (7 : Int32)))]))
  refine Gs (fun _ tk => XS.irem X0.here hx rfl (hb hby at_12) rfl (by decide) tk) ?_
  rw [Jvm.irem_eq_mod]
  show Goes _ _ _ _ _ (s₁.setTop (mkF m 13 #[.val (.int x0), .val (.long x1), .second, .val (.long x2), .second, .val (.int x3), .val (.int lp), .unset, .unset, .unset, .unset, .unset, .unset, .unset, .unset, .unset, .unset, .unset] [(.int ((((x0.toUInt32 >>> ((2 : Int32) &&& 31).toUInt32).toInt32) &&& (7 : Int32)) % (5 : Int32)))]))
  generalize hlt : ((((x0.toUInt32 >>> ((2 : Int32) &&& 31).toUInt32).toInt32) &&& (7 : Int32)) % (5 : Int32)) = lt
  show Goes _ _ _ _ _ (s₁.setTop (mkF m 13 #[.val (.int x0), .val (.long x1), .second, .val (.long x2), .second, .val (.int x3), .val (.int lp), .unset, .unset, .unset, .unset, .unset, .unset, .unset, .unset, .unset, .unset, .unset] [(.int lt)]))
  have hlt : lt = 0 ∨ lt = 1 ∨ lt = 2 ∨ lt = 3 ∨ lt = 4 := by rw [← hlt]; exact own_lt5 _
  refine Gs (fun _ tk => XS.istore X0.here hx rfl (hb hby at_13) rfl (l' := #[.val (.int x0), .val (.long x1), .second, .val (.long x2), .second, .val (.int x3), .val (.int lp), .val (.int lt), .unset, .unset, .unset, .unset, .unset, .unset, .unset, .unset, .unset, .unset]) rfl tk) ?_
  refine Gs (fun _ tk => XS.lloadN X0.here hx rfl (hb hby at_15) rfl tk) ?_
  refine Gs (fun _ tk => XS.iload X0.here hx rfl (hb hby at_16) rfl tk) ?_
  refine Gs (fun _ tk => XS.iconst X0.here hx rfl (hb hby at_18) tk) ?_
  obtain ⟨_, _, ⟨T1, L1, k1, n1⟩, -, X1, ⟨Lc1, hQ1, l1, y1, z1⟩, st1⟩ := Jvm.LawKit.callS X0 hx (y := mN13) hown (mvT hZ (gw hw 0 rfl)) (mvT hZ (gw hw 1 rfl)) (mvT hZ (gw hw 2 rfl)) (mvT hZ (gw hw 3 rfl)) (by decide) (backOf (W := 0) (rm_tpl l Z a0 hw [] x1 x3 (0 : Int32) h0 n0 Z0) hZ (gw hw 3 rfl) (gw hw 2 rfl) (by decide) (by decide)) (g := (mkF m 19 #[.val (.int x0), .val (.long x1), .second, .val (.long x2), .second, .val (.int x3), .val (.int lp), .val (.int lt), .unset, .unset, .unset, .unset, .unset, .unset, .unset, .unset, .unset, .unset] [(.int (0 : Int32)), (.int x3), (.long x1)])) rfl (by rw [hml]; rfl) (argsL := [(.long x1), (.int x3), (.int (0 : Int32))]) (rest := []) (lenOf own_pd13 rfl) rfl (w0 (Nat.le_of_eq rfl)) (hb hby at_19) (fun _ _ => ⟨rfl, e0, (by decide : 0 + 0 ≤ _), (by decide : 0 + 0 ≤ _)⟩)
  dsimp only [Pt.U, Pt.locs, Pt.cells, Pt.slots] at X1 l1 y1 z1 st1 hQ1
  subst l1 y1 z1
  obtain ⟨r1, rfl, N1q, e1, hLr_1⟩ := hQ1
  have N1 := Fr.app N0 N1q
  refine Gs st1 ?_
  show Goes _ _ _ _ _ (T1.setTop (mkF m 22 #[.val (.int x0), .val (.long x1), .second, .val (.long x2), .second, .val (.int x3), .val (.int lp), .val (.int lt), .unset, .unset, .unset, .unset, .unset, .unset, .unset, .unset, .unset, .unset] [(.int r1)]))
  refine Gs (fun _ tk => XS.istore X1.here hx rfl (hb hby at_22) rfl (l' := #[.val (.int x0), .val (.long x1), .second, .val (.long x2), .second, .val (.int x3), .val (.int lp), .val (.int lt), .val (.int r1), .unset, .unset, .unset, .unset, .unset, .unset, .unset, .unset, .unset]) rfl tk) ?_
  refine Gs (fun _ tk => XS.lloadN X1.here hx rfl (hb hby at_24) rfl tk) ?_
  refine Gs (fun _ tk => XS.iload X1.here hx rfl (hb hby at_25) rfl tk) ?_
  refine Gs (fun _ tk => XS.iconst X1.here hx rfl (hb hby at_27) tk) ?_
  obtain ⟨_, _, ⟨T2, L2, k2, n2⟩, -, X2, ⟨Lc2, hQ2, l2, y2, z2⟩, st2⟩ := Jvm.LawKit.callS X1 hx (y := mN13) hown (mvT hZ (gw hw 0 rfl)) (mvT hZ (gw hw 1 rfl)) (mvT hZ (gw hw 2 rfl)) (mvT hZ (gw hw 3 rfl)) (by decide) (backOf (W := 0) (rm_tpl l Z a0 hw [] x1 x3 (1 : Int32) h0 n0 Z0) hZ (gw hw 3 rfl) (gw hw 2 rfl) (by decide) (by decide)) (g := (mkF m 28 #[.val (.int x0), .val (.long x1), .second, .val (.long x2), .second, .val (.int x3), .val (.int lp), .val (.int lt), .val (.int r1), .unset, .unset, .unset, .unset, .unset, .unset, .unset, .unset, .unset] [(.int (1 : Int32)), (.int x3), (.long x1)])) rfl (by rw [hml]; rfl) (argsL := [(.long x1), (.int x3), (.int (1 : Int32))]) (rest := []) (lenOf own_pd13 rfl) rfl (w0 (Nat.le_of_eq rfl)) (hb hby at_28) (fun _ _ => ⟨rfl, e1, (by decide : 0 + 0 ≤ _), (by decide : 0 + 0 ≤ _)⟩)
  dsimp only [Pt.U, Pt.locs, Pt.cells, Pt.slots] at X2 l2 y2 z2 st2 hQ2
  subst l2 y2 z2
  obtain ⟨r2, rfl, N2q, e2, hLr_2⟩ := hQ2
  have N2 := Fr.app N1 N2q
  refine Gs st2 ?_
  show Goes _ _ _ _ _ (T2.setTop (mkF m 31 #[.val (.int x0), .val (.long x1), .second, .val (.long x2), .second, .val (.int x3), .val (.int lp), .val (.int lt), .val (.int r1), .unset, .unset, .unset, .unset, .unset, .unset, .unset, .unset, .unset] [(.int r2)]))
  refine Gs (fun _ tk => XS.istore X2.here hx rfl (hb hby at_31) rfl (l' := #[.val (.int x0), .val (.long x1), .second, .val (.long x2), .second, .val (.int x3), .val (.int lp), .val (.int lt), .val (.int r1), .val (.int r2), .unset, .unset, .unset, .unset, .unset, .unset, .unset, .unset]) rfl tk) ?_
  refine Gs (fun _ tk => XS.lloadN X2.here hx rfl (hb hby at_33) rfl tk) ?_
  refine Gs (fun _ tk => XS.iload X2.here hx rfl (hb hby at_34) rfl tk) ?_
  refine Gs (fun _ tk => XS.iconst X2.here hx rfl (hb hby at_36) tk) ?_
  obtain ⟨_, _, ⟨T3, L3, k3, n3⟩, -, X3, ⟨Lc3, hQ3, l3, y3, z3⟩, st3⟩ := Jvm.LawKit.callS X2 hx (y := mN13) hown (mvT hZ (gw hw 0 rfl)) (mvT hZ (gw hw 1 rfl)) (mvT hZ (gw hw 2 rfl)) (mvT hZ (gw hw 3 rfl)) (by decide) (backOf (W := 0) (rm_tpl l Z a0 hw [] x1 x3 (2 : Int32) h0 n0 Z0) hZ (gw hw 3 rfl) (gw hw 2 rfl) (by decide) (by decide)) (g := (mkF m 37 #[.val (.int x0), .val (.long x1), .second, .val (.long x2), .second, .val (.int x3), .val (.int lp), .val (.int lt), .val (.int r1), .val (.int r2), .unset, .unset, .unset, .unset, .unset, .unset, .unset, .unset] [(.int (2 : Int32)), (.int x3), (.long x1)])) rfl (by rw [hml]; rfl) (argsL := [(.long x1), (.int x3), (.int (2 : Int32))]) (rest := []) (lenOf own_pd13 rfl) rfl (w0 (Nat.le_of_eq rfl)) (hb hby at_37) (fun _ _ => ⟨rfl, e2, (by decide : 0 + 0 ≤ _), (by decide : 0 + 0 ≤ _)⟩)
  dsimp only [Pt.U, Pt.locs, Pt.cells, Pt.slots] at X3 l3 y3 z3 st3 hQ3
  subst l3 y3 z3
  obtain ⟨r3, rfl, N3q, e3, hLr_3⟩ := hQ3
  have N3 := Fr.app N2 N3q
  refine Gs st3 ?_
  show Goes _ _ _ _ _ (T3.setTop (mkF m 40 #[.val (.int x0), .val (.long x1), .second, .val (.long x2), .second, .val (.int x3), .val (.int lp), .val (.int lt), .val (.int r1), .val (.int r2), .unset, .unset, .unset, .unset, .unset, .unset, .unset, .unset] [(.int r3)]))
  refine Gs (fun _ tk => XS.istore X3.here hx rfl (hb hby at_40) rfl (l' := #[.val (.int x0), .val (.long x1), .second, .val (.long x2), .second, .val (.int x3), .val (.int lp), .val (.int lt), .val (.int r1), .val (.int r2), .val (.int r3), .unset, .unset, .unset, .unset, .unset, .unset, .unset]) rfl tk) ?_
  refine Gs (fun _ tk => XS.lloadN X3.here hx rfl (hb hby at_42) rfl tk) ?_
  refine Gs (fun _ tk => XS.iload X3.here hx rfl (hb hby at_43) rfl tk) ?_
  refine Gs (fun _ tk => XS.iconst X3.here hx rfl (hb hby at_45) tk) ?_
  refine Gs (fun _ tk => XS.iload X3.here hx rfl (hb hby at_46) rfl tk) ?_
  obtain ⟨_, _, ⟨T4, L4, k4, n4⟩, -, X4, ⟨Lc4, hQ4, l4, y4, z4⟩, st4⟩ := Jvm.LawKit.callS X3 hx (y := mN14) hown (mvT hZ (gw hw 8 rfl)) (mvT hZ (gw hw 9 rfl)) (mvT hZ (gw hw 2 rfl)) (mvT hZ (gw hw 10 rfl)) (by decide) (backOf (W := 0) (rm_txt l Z a0 hw [] x2 x3 (0 : Int32) r1 h0 n0 Z0 hLr_1) hZ (gw hw 10 rfl) (gw hw 2 rfl) (by decide) (by decide)) (g := (mkF m 48 #[.val (.int x0), .val (.long x1), .second, .val (.long x2), .second, .val (.int x3), .val (.int lp), .val (.int lt), .val (.int r1), .val (.int r2), .val (.int r3), .unset, .unset, .unset, .unset, .unset, .unset, .unset] [(.int r1), (.int (0 : Int32)), (.int x3), (.long x2)])) rfl (by rw [hml]; rfl) (argsL := [(.long x2), (.int x3), (.int (0 : Int32)), (.int r1)]) (rest := []) (lenOf own_pd14 rfl) rfl (w0 (Nat.le_of_eq rfl)) (hb hby at_48) (fun _ _ => ⟨rfl, e3, (by decide : 0 + 0 ≤ _), (by decide : 0 + 0 ≤ _)⟩)
  dsimp only [Pt.U, Pt.locs, Pt.cells, Pt.slots] at X4 l4 y4 z4 st4 hQ4
  subst l4 y4 z4
  obtain ⟨r4, rfl, N4q, e4, hLr_4⟩ := hQ4
  have N4 := Fr.app N3 N4q
  refine Gs st4 ?_
  show Goes _ _ _ _ _ (T4.setTop (mkF m 51 #[.val (.int x0), .val (.long x1), .second, .val (.long x2), .second, .val (.int x3), .val (.int lp), .val (.int lt), .val (.int r1), .val (.int r2), .val (.int r3), .unset, .unset, .unset, .unset, .unset, .unset, .unset] [(.int r4)]))
  refine Gs (fun _ tk => XS.istore X4.here hx rfl (hb hby at_51) rfl (l' := #[.val (.int x0), .val (.long x1), .second, .val (.long x2), .second, .val (.int x3), .val (.int lp), .val (.int lt), .val (.int r1), .val (.int r2), .val (.int r3), .val (.int r4), .unset, .unset, .unset, .unset, .unset, .unset]) rfl tk) ?_
  refine Gs (fun _ tk => XS.lloadN X4.here hx rfl (hb hby at_53) rfl tk) ?_
  refine Gs (fun _ tk => XS.iload X4.here hx rfl (hb hby at_54) rfl tk) ?_
  refine Gs (fun _ tk => XS.iconst X4.here hx rfl (hb hby at_56) tk) ?_
  refine Gs (fun _ tk => XS.iload X4.here hx rfl (hb hby at_57) rfl tk) ?_
  obtain ⟨_, _, ⟨T5, L5, k5, n5⟩, -, X5, ⟨Lc5, hQ5, l5, y5, z5⟩, st5⟩ := Jvm.LawKit.callS X4 hx (y := mN14) hown (mvT hZ (gw hw 8 rfl)) (mvT hZ (gw hw 9 rfl)) (mvT hZ (gw hw 2 rfl)) (mvT hZ (gw hw 10 rfl)) (by decide) (backOf (W := 0) (rm_txt l Z a0 hw [] x2 x3 (1 : Int32) r2 h0 n0 Z0 hLr_2) hZ (gw hw 10 rfl) (gw hw 2 rfl) (by decide) (by decide)) (g := (mkF m 59 #[.val (.int x0), .val (.long x1), .second, .val (.long x2), .second, .val (.int x3), .val (.int lp), .val (.int lt), .val (.int r1), .val (.int r2), .val (.int r3), .val (.int r4), .unset, .unset, .unset, .unset, .unset, .unset] [(.int r2), (.int (1 : Int32)), (.int x3), (.long x2)])) rfl (by rw [hml]; rfl) (argsL := [(.long x2), (.int x3), (.int (1 : Int32)), (.int r2)]) (rest := []) (lenOf own_pd14 rfl) rfl (w0 (Nat.le_of_eq rfl)) (hb hby at_59) (fun _ _ => ⟨rfl, e4, (by decide : 0 + 0 ≤ _), (by decide : 0 + 0 ≤ _)⟩)
  dsimp only [Pt.U, Pt.locs, Pt.cells, Pt.slots] at X5 l5 y5 z5 st5 hQ5
  subst l5 y5 z5
  obtain ⟨r5, rfl, N5q, e5, hLr_5⟩ := hQ5
  have N5 := Fr.app N4 N5q
  refine Gs st5 ?_
  show Goes _ _ _ _ _ (T5.setTop (mkF m 62 #[.val (.int x0), .val (.long x1), .second, .val (.long x2), .second, .val (.int x3), .val (.int lp), .val (.int lt), .val (.int r1), .val (.int r2), .val (.int r3), .val (.int r4), .unset, .unset, .unset, .unset, .unset, .unset] [(.int r5)]))
  refine Gs (fun _ tk => XS.istore X5.here hx rfl (hb hby at_62) rfl (l' := #[.val (.int x0), .val (.long x1), .second, .val (.long x2), .second, .val (.int x3), .val (.int lp), .val (.int lt), .val (.int r1), .val (.int r2), .val (.int r3), .val (.int r4), .val (.int r5), .unset, .unset, .unset, .unset, .unset]) rfl tk) ?_
  refine Gs (fun _ tk => XS.lloadN X5.here hx rfl (hb hby at_64) rfl tk) ?_
  refine Gs (fun _ tk => XS.iload X5.here hx rfl (hb hby at_65) rfl tk) ?_
  refine Gs (fun _ tk => XS.iconst X5.here hx rfl (hb hby at_67) tk) ?_
  refine Gs (fun _ tk => XS.iload X5.here hx rfl (hb hby at_68) rfl tk) ?_
  obtain ⟨_, _, ⟨T6, L6, k6, n6⟩, -, X6, ⟨Lc6, hQ6, l6, y6, z6⟩, st6⟩ := Jvm.LawKit.callS X5 hx (y := mN14) hown (mvT hZ (gw hw 8 rfl)) (mvT hZ (gw hw 9 rfl)) (mvT hZ (gw hw 2 rfl)) (mvT hZ (gw hw 10 rfl)) (by decide) (backOf (W := 0) (rm_txt l Z a0 hw [] x2 x3 (2 : Int32) r3 h0 n0 Z0 hLr_3) hZ (gw hw 10 rfl) (gw hw 2 rfl) (by decide) (by decide)) (g := (mkF m 70 #[.val (.int x0), .val (.long x1), .second, .val (.long x2), .second, .val (.int x3), .val (.int lp), .val (.int lt), .val (.int r1), .val (.int r2), .val (.int r3), .val (.int r4), .val (.int r5), .unset, .unset, .unset, .unset, .unset] [(.int r3), (.int (2 : Int32)), (.int x3), (.long x2)])) rfl (by rw [hml]; rfl) (argsL := [(.long x2), (.int x3), (.int (2 : Int32)), (.int r3)]) (rest := []) (lenOf own_pd14 rfl) rfl (w0 (Nat.le_of_eq rfl)) (hb hby at_70) (fun _ _ => ⟨rfl, e5, (by decide : 0 + 0 ≤ _), (by decide : 0 + 0 ≤ _)⟩)
  dsimp only [Pt.U, Pt.locs, Pt.cells, Pt.slots] at X6 l6 y6 z6 st6 hQ6
  subst l6 y6 z6
  obtain ⟨r6, rfl, N6q, e6, hLr_6⟩ := hQ6
  have N6 := Fr.app N5 N6q
  refine Gs st6 ?_
  show Goes _ _ _ _ _ (T6.setTop (mkF m 73 #[.val (.int x0), .val (.long x1), .second, .val (.long x2), .second, .val (.int x3), .val (.int lp), .val (.int lt), .val (.int r1), .val (.int r2), .val (.int r3), .val (.int r4), .val (.int r5), .unset, .unset, .unset, .unset, .unset] [(.int r6)]))
  refine Gs (fun _ tk => XS.istore X6.here hx rfl (hb hby at_73) rfl (l' := #[.val (.int x0), .val (.long x1), .second, .val (.long x2), .second, .val (.int x3), .val (.int lp), .val (.int lt), .val (.int r1), .val (.int r2), .val (.int r3), .val (.int r4), .val (.int r5), .val (.int r6), .unset, .unset, .unset, .unset]) rfl tk) ?_
  refine Gs (fun _ tk => XS.lloadN X6.here hx rfl (hb hby at_75) rfl tk) ?_
  refine Gs (fun _ tk => XS.iload X6.here hx rfl (hb hby at_76) rfl tk) ?_
  refine Gs (fun _ tk => XS.iconst X6.here hx rfl (hb hby at_78) tk) ?_
  refine Gs (fun _ tk => XS.lloadN X6.here hx rfl (hb hby at_79) rfl tk) ?_
  refine Gs (fun _ tk => XS.iconst X6.here hx rfl (hb hby at_80) tk) ?_
  show Goes _ _ _ _ _ (T6.setTop (mkF m 81 #[.val (.int x0), .val (.long x1), .second, .val (.long x2), .second, .val (.int x3), .val (.int lp), .val (.int lt), .val (.int r1), .val (.int r2), .val (.int r3), .val (.int r4), .val (.int r5), .val (.int r6), .unset, .unset, .unset, .unset] [(.int (3 : Int32)), (.long x2), (.int (3 : Int32)), (.int x3), (.long x2)]))
  obtain ⟨_, _, ⟨T7, L7, k7, n7⟩, -, X7, ⟨Lc7, hQ7, l7, y7, z7⟩, st7⟩ := Jvm.LawKit.callS X6 hx (y := mN12) hown (mvT hZ (gw hw 4 rfl)) (mvT hZ (gw hw 5 rfl)) (mvT hZ (gw hw 2 rfl)) (mvT hZ (gw hw 6 rfl)) (by decide) (backOf (W := 4) (rm_raw l Z a0 hw [] x2 (3 : Int32) h0 n0 Z0) hZ (gw hw 6 rfl) (gw hw 2 rfl) (by decide) (by decide)) (g := (mkF m 81 #[.val (.int x0), .val (.long x1), .second, .val (.long x2), .second, .val (.int x3), .val (.int lp), .val (.int lt), .val (.int r1), .val (.int r2), .val (.int r3), .val (.int r4), .val (.int r5), .val (.int r6), .unset, .unset, .unset, .unset] [(.int (3 : Int32)), (.long x2), (.int (3 : Int32)), (.int x3), (.long x2)])) rfl (by rw [hml]; rfl) (argsL := [(.long x2), (.int (3 : Int32))]) (rest := [(.int (3 : Int32)), (.int x3), (.long x2)]) (lenOf own_pd9 rfl) rfl (w0 (Nat.le_of_eq rfl)) (hb hby at_81) (fun _ _ => ⟨rfl, e6, (by decide : 0 + 0 ≤ _), (by decide : 0 + 0 ≤ _)⟩)
  dsimp only [Pt.U, Pt.locs, Pt.cells, Pt.slots] at X7 l7 y7 z7 st7 hQ7
  subst l7 y7 z7
  obtain ⟨r7, rfl, N7q, e7, hLr_7⟩ := hQ7
  have N7 := Fr.app N6 N7q
  refine Gs st7 ?_
  show Goes _ _ _ _ _ (T7.setTop (mkF m 84 #[.val (.int x0), .val (.long x1), .second, .val (.long x2), .second, .val (.int x3), .val (.int lp), .val (.int lt), .val (.int r1), .val (.int r2), .val (.int r3), .val (.int r4), .val (.int r5), .val (.int r6), .unset, .unset, .unset, .unset] [(.int r7), (.int (3 : Int32)), (.int x3), (.long x2)]))
  refine Gs (fun _ tk => XS.i2c X7.here hx rfl (hb hby at_84) rfl tk) ?_
  show Goes _ _ _ _ _ (T7.setTop (mkF m 85 #[.val (.int x0), .val (.long x1), .second, .val (.long x2), .second, .val (.int x3), .val (.int lp), .val (.int lt), .val (.int r1), .val (.int r2), .val (.int r3), .val (.int r4), .val (.int r5), .val (.int r6), .unset, .unset, .unset, .unset] [(.int (r7.toUInt32.toUInt16.toUInt32.toInt32)), (.int (3 : Int32)), (.int x3), (.long x2)]))
  rw [own_i2c hLr_7.chr]
  show Goes _ _ _ _ _ (T7.setTop (mkF m 85 #[.val (.int x0), .val (.long x1), .second, .val (.long x2), .second, .val (.int x3), .val (.int lp), .val (.int lt), .val (.int r1), .val (.int r2), .val (.int r3), .val (.int r4), .val (.int r5), .val (.int r6), .unset, .unset, .unset, .unset] [(.int r7), (.int (3 : Int32)), (.int x3), (.long x2)]))
  obtain ⟨_, _, ⟨T8, L8, k8, n8⟩, -, X8, ⟨Lc8, hQ8, l8, y8, z8⟩, st8⟩ := Jvm.LawKit.callS X7 hx (y := mN14) hown (mvT hZ (gw hw 8 rfl)) (mvT hZ (gw hw 9 rfl)) (mvT hZ (gw hw 2 rfl)) (mvT hZ (gw hw 10 rfl)) (by decide) (backOf (W := 0) (rm_txt l Z a0 hw [] x2 x3 (3 : Int32) r7 h0 n0 Z0 hLr_7) hZ (gw hw 10 rfl) (gw hw 2 rfl) (by decide) (by decide)) (g := (mkF m 85 #[.val (.int x0), .val (.long x1), .second, .val (.long x2), .second, .val (.int x3), .val (.int lp), .val (.int lt), .val (.int r1), .val (.int r2), .val (.int r3), .val (.int r4), .val (.int r5), .val (.int r6), .unset, .unset, .unset, .unset] [(.int r7), (.int (3 : Int32)), (.int x3), (.long x2)])) rfl (by rw [hml]; rfl) (argsL := [(.long x2), (.int x3), (.int (3 : Int32)), (.int r7)]) (rest := []) (lenOf own_pd14 rfl) rfl (w0 (Nat.le_of_eq rfl)) (hb hby at_85) (fun _ _ => ⟨rfl, e7, (by decide : 0 + 0 ≤ _), (by decide : 0 + 0 ≤ _)⟩)
  dsimp only [Pt.U, Pt.locs, Pt.cells, Pt.slots] at X8 l8 y8 z8 st8 hQ8
  subst l8 y8 z8
  obtain ⟨r8, rfl, N8q, e8, hLr_8⟩ := hQ8
  have N8 := Fr.app N7 N8q
  refine Gs st8 ?_
  show Goes _ _ _ _ _ (T8.setTop (mkF m 88 #[.val (.int x0), .val (.long x1), .second, .val (.long x2), .second, .val (.int x3), .val (.int lp), .val (.int lt), .val (.int r1), .val (.int r2), .val (.int r3), .val (.int r4), .val (.int r5), .val (.int r6), .unset, .unset, .unset, .unset] [(.int r8)]))
  refine Gs (fun _ tk => XS.istore X8.here hx rfl (hb hby at_88) rfl (l' := #[.val (.int x0), .val (.long x1), .second, .val (.long x2), .second, .val (.int x3), .val (.int lp), .val (.int lt), .val (.int r1), .val (.int r2), .val (.int r3), .val (.int r4), .val (.int r5), .val (.int r6), .val (.int r8), .unset, .unset, .unset]) rfl tk) ?_
  refine Gs (fun _ tk => XS.iload X8.here hx rfl (hb hby at_90) rfl tk) ?_
  refine Gs (fun _ tk => XS.iload X8.here hx rfl (hb hby at_92) rfl tk) ?_
  refine Gs (fun _ tk => XS.iload X8.here hx rfl (hb hby at_94) rfl tk) ?_
  refine Gs (fun _ tk => XS.iload X8.here hx rfl (hb hby at_96) rfl tk) ?_
  refine Gs (fun _ tk => XS.bipush X8.here hx rfl (hb hby at_98) tk) ?_
  show Goes _ _ _ _ _ (T8.setTop (mkF m 100 #[.val (.int x0), .val (.long x1), .second, .val (.long x2), .second, .val (.int x3), .val (.int lp), .val (.int lt), .val (.int r1), .val (.int r2), .val (.int r3), .val (.int r4), .val (.int r5), .val (.int r6), .val (.int r8), .unset, .unset, .unset] [(.int (120 : Int32)), (.int r3), (.int r2), (.int r1), (.int lp)]))
  obtain ⟨_, _, ⟨T9, L9, k9, n9⟩, -, X9, hS9, gr9, ⟨Lc9, hQ9, l9, y9, z9, hC9⟩, st9⟩ := callSS X8 hx (y := mN16) hown (mvT hZ (gw hw 11 rfl)) (mvT hZ (gw hw 12 rfl)) (mvT hZ (gw hw 2 rfl)) (mvT hZ (gw hw 13 rfl)) (by decide) (backOfSH (W := 0) (rm_str l Z a0 hw [] lp r1 r2 r3 (120 : Int32) cz h0 n0 Z0 hLr_1 hLr_2 hLr_3 ⟨by decide, by decide⟩ S_COMPACT_STRINGS (by first | assumption | decide)) hZ (gw hw 13 rfl) (gw hw 2 rfl) (by decide) (by decide) (own_EW hw) hR.1) (g := (mkF m 100 #[.val (.int x0), .val (.long x1), .second, .val (.long x2), .second, .val (.int x3), .val (.int lp), .val (.int lt), .val (.int r1), .val (.int r2), .val (.int r3), .val (.int r4), .val (.int r5), .val (.int r6), .val (.int r8), .unset, .unset, .unset] [(.int (120 : Int32)), (.int r3), (.int r2), (.int r1), (.int lp)])) rfl (by rw [hml]; rfl) (argsL := [(.int lp), (.int r1), (.int r2), (.int r3), (.int (120 : Int32))]) (rest := []) (lenOf own_pd15 rfl) rfl (w0 (Nat.le_of_eq rfl)) (hb hby at_100) (fun _ _ => ⟨rfl, e8, (by decide : 0 + 6 ≤ _), (by decide : 0 + 12 ≤ _)⟩)
  dsimp only [Pt.U, Pt.locs, Pt.cells, Pt.slots] at X9 l9 y9 z9 st9 hQ9 hS9 gr9 hC9
  subst l9 y9 z9
  obtain ⟨X9, hS, hZ, hown⟩ := rebS hS hk X9 hS9 (by have q := gr9; rw [e8] at q; exact q) hZ hown
  replace hk : T9.heap.size ≤ T9.heap.size := Nat.le_refl _
  obtain ⟨u9, rfl, N9q, K9, T_u9_9'⟩ := hQ9
  have N9 := Fr.app N8 N9q
  replace hR := hR.trans hC9
  replace S_COMPACT_STRINGS := own_staK S_COMPACT_STRINGS K9 all0
  replace S_SIOOBE_FORMATTER := own_staK S_SIOOBE_FORMATTER K9 all0
  replace Z0 := Nat.le_trans Z0 K9.1
  have T_u9 := T_u9_9'
  refine Gs (fun _ tk => st9.trans tk) ?_
  show Goes _ _ _ _ _ (T9.setTop (mkF m 103 #[.val (.int x0), .val (.long x1), .second, .val (.long x2), .second, .val (.int x3), .val (.int lp), .val (.int lt), .val (.int r1), .val (.int r2), .val (.int r3), .val (.int r4), .val (.int r5), .val (.int r6), .val (.int r8), .unset, .unset, .unset] [(.ref u9)]))
  refine Gs (fun _ tk => XS.astore X9.here hx rfl (hb hby at_103) rfl rfl (l' := #[.val (.int x0), .val (.long x1), .second, .val (.long x2), .second, .val (.int x3), .val (.int lp), .val (.int lt), .val (.int r1), .val (.int r2), .val (.int r3), .val (.int r4), .val (.int r5), .val (.int r6), .val (.int r8), .val (.ref u9), .unset, .unset]) rfl tk) ?_
  refine Gs (fun _ tk => XS.iload X9.here hx rfl (hb hby at_105) rfl tk) ?_
  refine Gs (fun _ tk => XS.iload X9.here hx rfl (hb hby at_107) rfl tk) ?_
  refine Gs (fun _ tk => XS.iload X9.here hx rfl (hb hby at_109) rfl tk) ?_
  refine Gs (fun _ tk => XS.iload X9.here hx rfl (hb hby at_111) rfl tk) ?_
  refine Gs (fun _ tk => XS.iload X9.here hx rfl (hb hby at_113) rfl tk) ?_
  show Goes _ _ _ _ _ (T9.setTop (mkF m 115 #[.val (.int x0), .val (.long x1), .second, .val (.long x2), .second, .val (.int x3), .val (.int lp), .val (.int lt), .val (.int r1), .val (.int r2), .val (.int r3), .val (.int r4), .val (.int r5), .val (.int r6), .val (.int r8), .val (.ref u9), .unset, .unset] [(.int r8), (.int r6), (.int r5), (.int r4), (.int lt)]))
  obtain ⟨_, _, ⟨T10, L10, k10, n10⟩, -, X10, hS10, gr10, ⟨Lc10, hQ10, l10, y10, z10, hC10⟩, st10⟩ := callSS X9 hx (y := mN16) hown (mvT hZ (gw hw 11 rfl)) (mvT hZ (gw hw 12 rfl)) (mvT hZ (gw hw 2 rfl)) (mvT hZ (gw hw 13 rfl)) (by decide) (backOfSH (W := 0) (rm_str l Z a0 hw [] lt r4 r5 r6 r8 cz T9.heap n0 Z0 hLr_4 hLr_5 hLr_6 hLr_8 S_COMPACT_STRINGS (by first | assumption | decide)) hZ (gw hw 13 rfl) (gw hw 2 rfl) (by decide) (by decide) (own_EW hw) hR.1) (g := (mkF m 115 #[.val (.int x0), .val (.long x1), .second, .val (.long x2), .second, .val (.int x3), .val (.int lp), .val (.int lt), .val (.int r1), .val (.int r2), .val (.int r3), .val (.int r4), .val (.int r5), .val (.int r6), .val (.int r8), .val (.ref u9), .unset, .unset] [(.int r8), (.int r6), (.int r5), (.int r4), (.int lt)])) rfl (by rw [hml]; rfl) (argsL := [(.int lt), (.int r4), (.int r5), (.int r6), (.int r8)]) (rest := []) (lenOf own_pd15 rfl) rfl (w0 (Nat.le_of_eq rfl)) (hb hby at_115) (fun _ _ => ⟨rfl, rfl, (by decide : 6 + 6 ≤ _), (by decide : 12 + 12 ≤ _)⟩)
  dsimp only [Pt.U, Pt.locs, Pt.cells, Pt.slots] at X10 l10 y10 z10 st10 hQ10 hS10 gr10 hC10
  subst l10 y10 z10
  obtain ⟨X10, hS, hZ, hown⟩ := rebS hS hk X10 hS10 gr10 hZ hown
  replace hk : T10.heap.size ≤ T10.heap.size := Nat.le_refl _
  obtain ⟨u10, rfl, N10q, K10, T_u10_10'⟩ := hQ10
  have N10 := Fr.app N9 N10q
  replace hR := hR.trans hC10
  replace S_COMPACT_STRINGS := own_staK S_COMPACT_STRINGS K10 all0
  replace S_SIOOBE_FORMATTER := own_staK S_SIOOBE_FORMATTER K10 all0
  replace T_u9 := T_u9.keep K10 all0
  replace Z0 := Nat.le_trans Z0 K10.1
  have T_u10 := T_u10_10'
  refine Gs (fun _ tk => st10.trans tk) ?_
  show Goes _ _ _ _ _ (T10.setTop (mkF m 118 #[.val (.int x0), .val (.long x1), .second, .val (.long x2), .second, .val (.int x3), .val (.int lp), .val (.int lt), .val (.int r1), .val (.int r2), .val (.int r3), .val (.int r4), .val (.int r5), .val (.int r6), .val (.int r8), .val (.ref u9), .unset, .unset] [(.ref u10)]))
  refine Gs (fun _ tk => XS.astore X10.here hx rfl (hb hby at_118) rfl rfl (l' := #[.val (.int x0), .val (.long x1), .second, .val (.long x2), .second, .val (.int x3), .val (.int lp), .val (.int lt), .val (.int r1), .val (.int r2), .val (.int r3), .val (.int r4), .val (.int r5), .val (.int r6), .val (.int r8), .val (.ref u9), .val (.ref u10), .unset]) rfl tk) ?_
  refine Gs (fun _ tk => XS.iload X10.here hx rfl (hb hby at_120) rfl tk) ?_
  refine Gs (fun _ tk => XS.iload X10.here hx rfl (hb hby at_122) rfl tk) ?_
  by_cases hc124_11 : lt < lp
  · refine Gs (fun _ tk => XS.icmpNo X10.here hx rfl (hb hby at_124) rfl (tlt hc124_11).2.1 tk) ?_
    refine Gs (fun _ tk => XS.iconst X10.here hx rfl (hb hby at_127) tk) ?_
    refine Gs (fun _ tk => XS.istore X10.here hx rfl (hb hby at_128) rfl (l' := #[.val (.int x0), .val (.long x1), .second, .val (.long x2), .second, .val (.int x3), .val (.int lp), .val (.int lt), .val (.int r1), .val (.int r2), .val (.int r3), .val (.int r4), .val (.int r5), .val (.int r6), .val (.int r8), .val (.ref u9), .val (.ref u10), .val (.int (0 : Int32))]) rfl tk) ?_
    show Goes _ _ _ _ _ (T10.setTop (mkF m 130 #[.val (.int x0), .val (.long x1), .second, .val (.long x2), .second, .val (.int x3), .val (.int lp), .val (.int lt), .val (.int r1), .val (.int r2), .val (.int r3), .val (.int r4), .val (.int r5), .val (.int r6), .val (.int r8), .val (.ref u9), .val (.ref u10), .val (.int (0 : Int32))] []))
    refine Gs (fun _ tk => XS.goto X10.here hx rfl (pc0 := 130) (pc' := 188) rfl (hb hby at_130) (by decide) (by decide) tk) ?_
    refine Gs (fun _ tk => XS.aload X10.here hx rfl (hb hby at_188) rfl rfl tk) ?_
    refine Gs (fun _ tk => XS.aload X10.here hx rfl (hb hby at_190) rfl rfl tk) ?_
    obtain ⟨_, _, ⟨T12, L12, k12, n12⟩, -, X12, ⟨Lc12, hQ12, l12, y12, z12⟩, st12⟩ := Jvm.LawKit.callS X10 hx (y := mN17) hown (mvT hZ (gw hw 36 rfl)) (mvT hZ (gw hw 37 rfl)) (mvT hZ (gw hw 38 rfl)) (mvT hZ (gw hw 39 rfl)) (by decide) (backOf (W := 0) (rm_sw l Z a0 hw [] u10 u9 (own_str lt r4 r5 r6 r8) (own_str lp r1 r2 r3 (120 : Int32)) cz fo T10.heap n0 Z0 T_u10 T_u9 (by rcases hlp with rfl | rfl | rfl | rfl <;> simp [own_str]) S_COMPACT_STRINGS (by first | assumption | decide) S_SIOOBE_FORMATTER (by first | assumption | decide)) hZ (gw hw 39 rfl) (gw hw 38 rfl) (by decide) (by decide)) (g := (mkF m 192 #[.val (.int x0), .val (.long x1), .second, .val (.long x2), .second, .val (.int x3), .val (.int lp), .val (.int lt), .val (.int r1), .val (.int r2), .val (.int r3), .val (.int r4), .val (.int r5), .val (.int r6), .val (.int r8), .val (.ref u9), .val (.ref u10), .val (.int (0 : Int32))] [(.ref u9), (.ref u10)])) rfl (by rw [hml]; rfl) (argsL := [(.ref u10), (.ref u9)]) (rest := []) (lenOf own_pd16 rfl) rfl (w0 (Nat.le_of_eq rfl)) (hb hby at_192) (fun _ _ => ⟨rfl, rfl, (by decide : 12 + 0 ≤ _), (by decide : 24 + 0 ≤ _)⟩)
    dsimp only [Pt.U, Pt.locs, Pt.cells, Pt.slots] at X12 l12 y12 z12 st12 hQ12
    subst l12 y12 z12
    obtain ⟨rfl, N12q, e12⟩ := hQ12
    have N12 := Fr.app N10 N12q
    refine Gs st12 ?_
    show Goes _ _ _ _ _ (T12.setTop (mkF m 195 #[.val (.int x0), .val (.long x1), .second, .val (.long x2), .second, .val (.int x3), .val (.int lp), .val (.int lt), .val (.int r1), .val (.int r2), .val (.int r3), .val (.int r4), .val (.int r5), .val (.int r6), .val (.int r8), .val (.ref u9), .val (.ref u10), .val (.int (0 : Int32))] [(.int (own_sw (own_str lp r1 r2 r3 (120 : Int32)) (own_str lt r4 r5 r6 r8)))]))
    refine Gs (fun _ tk => XS.iload X12.here hx rfl (hb hby at_195) rfl tk) ?_
    have hc197_13 : (own_sw (own_str lp r1 r2 r3 (120 : Int32)) (own_str lt r4 r5 r6 r8)) = (0 : Int32) := by
      rcases hlp with rfl | rfl | rfl | rfl <;> rcases hlt with rfl | rfl | rfl | rfl | rfl <;> first | exact absurd hc124_11 (by decide) | simp +decide [own_sw, own_str]
    refine Gs (fun _ tk => XS.icmpNo X12.here hx rfl (hb hby at_197) rfl (teq hc197_13).2 tk) ?_
    refine Gs (fun _ tk => XS.iconst X12.here hx rfl (hb hby at_200) tk) ?_
    refine Gs (fun _ tk => XS.goto X12.here hx rfl (pc0 := 201) (pc' := 205) rfl (hb hby at_201) (by decide) (by decide) tk) ?_
    refine Goes.retH X12 hS e12 hk hZ (own_EW hw) hh hR (some (.int (1 : Int32))) (fun h => by rw [hret] at h; cases h) hlk (by decide) (by decide) ?_ (fun fs hr => ?_)
    · rw [e12]; exact ⟨rfl, N12⟩
    · exact own_retN X12 hx (t := .boolean) hret (by simp) rfl (hb hby at_205) hr
  · refine Gs (fun _ tk => XS.icmpYes X10.here hx rfl (pc0 := 124) (pc' := 133) rfl (hb hby at_124) rfl (flt hc124_11).2.1 (by decide) (by decide) tk) ?_
    refine Gs (fun _ tk => XS.iload X10.here hx rfl (hb hby at_133) rfl tk) ?_
    refine Gs (fun _ tk => XS.iconst X10.here hx rfl (hb hby at_135) tk) ?_
    show Goes _ _ _ _ _ (T10.setTop (mkF m 136 #[.val (.int x0), .val (.long x1), .second, .val (.long x2), .second, .val (.int x3), .val (.int lp), .val (.int lt), .val (.int r1), .val (.int r2), .val (.int r3), .val (.int r4), .val (.int r5), .val (.int r6), .val (.int r8), .val (.ref u9), .val (.ref u10), .unset] [(.int (1 : Int32)), (.int lp)]))
    by_cases hc136_14 : lp < (1 : Int32)
    · refine Gs (fun _ tk => XS.icmpYes X10.here hx rfl (pc0 := 136) (pc' := 149) rfl (hb hby at_136) rfl (tlt hc136_14).1 (by decide) (by decide) tk) ?_
      refine Gs (fun _ tk => XS.iload X10.here hx rfl (hb hby at_149) rfl tk) ?_
      refine Gs (fun _ tk => XS.iconst X10.here hx rfl (hb hby at_151) tk) ?_
      by_cases hc152_15 : lp < (2 : Int32)
      · refine Gs (fun _ tk => XS.icmpYes X10.here hx rfl (pc0 := 152) (pc' := 165) rfl (hb hby at_152) rfl (tlt hc152_15).1 (by decide) (by decide) tk) ?_
        refine Gs (fun _ tk => XS.iload X10.here hx rfl (hb hby at_165) rfl tk) ?_
        refine Gs (fun _ tk => XS.iconst X10.here hx rfl (hb hby at_167) tk) ?_
        show Goes _ _ _ _ _ (T10.setTop (mkF m 168 #[.val (.int x0), .val (.long x1), .second, .val (.long x2), .second, .val (.int x3), .val (.int lp), .val (.int lt), .val (.int r1), .val (.int r2), .val (.int r3), .val (.int r4), .val (.int r5), .val (.int r6), .val (.int r8), .val (.ref u9), .val (.ref u10), .unset] [(.int (3 : Int32)), (.int lp)]))
        by_cases hc168_16 : lp < (3 : Int32)
        · refine Gs (fun _ tk => XS.icmpYes X10.here hx rfl (pc0 := 168) (pc' := 181) rfl (hb hby at_168) rfl (tlt hc168_16).1 (by decide) (by decide) tk) ?_
          refine Gs (fun _ tk => XS.iconst X10.here hx rfl (hb hby at_181) tk) ?_
          refine Gs (fun _ tk => XS.goto X10.here hx rfl (pc0 := 182) (pc' := 186) rfl (hb hby at_182) (by decide) (by decide) tk) ?_
          refine Gs (fun _ tk => XS.istore X10.here hx rfl (hb hby at_186) rfl (l' := #[.val (.int x0), .val (.long x1), .second, .val (.long x2), .second, .val (.int x3), .val (.int lp), .val (.int lt), .val (.int r1), .val (.int r2), .val (.int r3), .val (.int r4), .val (.int r5), .val (.int r6), .val (.int r8), .val (.ref u9), .val (.ref u10), .val (.int (1 : Int32))]) rfl tk) ?_
          refine Gs (fun _ tk => XS.aload X10.here hx rfl (hb hby at_188) rfl rfl tk) ?_
          refine Gs (fun _ tk => XS.aload X10.here hx rfl (hb hby at_190) rfl rfl tk) ?_
          show Goes _ _ _ _ _ (T10.setTop (mkF m 192 #[.val (.int x0), .val (.long x1), .second, .val (.long x2), .second, .val (.int x3), .val (.int lp), .val (.int lt), .val (.int r1), .val (.int r2), .val (.int r3), .val (.int r4), .val (.int r5), .val (.int r6), .val (.int r8), .val (.ref u9), .val (.ref u10), .val (.int (1 : Int32))] [(.ref u9), (.ref u10)]))
          obtain ⟨_, _, ⟨T17, L17, k17, n17⟩, -, X17, ⟨Lc17, hQ17, l17, y17, z17⟩, st17⟩ := Jvm.LawKit.callS X10 hx (y := mN17) hown (mvT hZ (gw hw 36 rfl)) (mvT hZ (gw hw 37 rfl)) (mvT hZ (gw hw 38 rfl)) (mvT hZ (gw hw 39 rfl)) (by decide) (backOf (W := 0) (rm_sw l Z a0 hw [] u10 u9 (own_str lt r4 r5 r6 r8) (own_str lp r1 r2 r3 (120 : Int32)) cz fo T10.heap n0 Z0 T_u10 T_u9 (by rcases hlp with rfl | rfl | rfl | rfl <;> simp [own_str]) S_COMPACT_STRINGS (by first | assumption | decide) S_SIOOBE_FORMATTER (by first | assumption | decide)) hZ (gw hw 39 rfl) (gw hw 38 rfl) (by decide) (by decide)) (g := (mkF m 192 #[.val (.int x0), .val (.long x1), .second, .val (.long x2), .second, .val (.int x3), .val (.int lp), .val (.int lt), .val (.int r1), .val (.int r2), .val (.int r3), .val (.int r4), .val (.int r5), .val (.int r6), .val (.int r8), .val (.ref u9), .val (.ref u10), .val (.int (1 : Int32))] [(.ref u9), (.ref u10)])) rfl (by rw [hml]; rfl) (argsL := [(.ref u10), (.ref u9)]) (rest := []) (lenOf own_pd16 rfl) rfl (w0 (Nat.le_of_eq rfl)) (hb hby at_192) (fun _ _ => ⟨rfl, rfl, (by decide : 12 + 0 ≤ _), (by decide : 24 + 0 ≤ _)⟩)
          dsimp only [Pt.U, Pt.locs, Pt.cells, Pt.slots] at X17 l17 y17 z17 st17 hQ17
          subst l17 y17 z17
          obtain ⟨rfl, N17q, e17⟩ := hQ17
          have N17 := Fr.app N10 N17q
          refine Gs st17 ?_
          show Goes _ _ _ _ _ (T17.setTop (mkF m 195 #[.val (.int x0), .val (.long x1), .second, .val (.long x2), .second, .val (.int x3), .val (.int lp), .val (.int lt), .val (.int r1), .val (.int r2), .val (.int r3), .val (.int r4), .val (.int r5), .val (.int r6), .val (.int r8), .val (.ref u9), .val (.ref u10), .val (.int (1 : Int32))] [(.int (own_sw (own_str lp r1 r2 r3 (120 : Int32)) (own_str lt r4 r5 r6 r8)))]))
          refine Gs (fun _ tk => XS.iload X17.here hx rfl (hb hby at_195) rfl tk) ?_
          have hc197_18 : (own_sw (own_str lp r1 r2 r3 (120 : Int32)) (own_str lt r4 r5 r6 r8)) = (1 : Int32) := by
            rcases hlp with rfl | rfl | rfl | rfl <;> rcases hlt with rfl | rfl | rfl | rfl | rfl <;> first | exact absurd hc124_11 (by decide) | exact absurd hc136_14 (by decide) | exact absurd hc152_15 (by decide) | exact absurd hc168_16 (by decide) | simp +decide [own_sw, own_str]
          refine Gs (fun _ tk => XS.icmpNo X17.here hx rfl (hb hby at_197) rfl (teq hc197_18).2 tk) ?_
          refine Gs (fun _ tk => XS.iconst X17.here hx rfl (hb hby at_200) tk) ?_
          refine Gs (fun _ tk => XS.goto X17.here hx rfl (pc0 := 201) (pc' := 205) rfl (hb hby at_201) (by decide) (by decide) tk) ?_
          refine Goes.retH X17 hS e17 hk hZ (own_EW hw) hh hR (some (.int (1 : Int32))) (fun h => by rw [hret] at h; cases h) hlk (by decide) (by decide) ?_ (fun fs hr => ?_)
          · rw [e17]; exact ⟨rfl, N17⟩
          · exact own_retN X17 hx (t := .boolean) hret (by simp) rfl (hb hby at_205) hr
        · refine Gs (fun _ tk => XS.icmpNo X10.here hx rfl (hb hby at_168) rfl (flt hc168_16).1 tk) ?_
          refine Gs (fun _ tk => XS.iload X10.here hx rfl (hb hby at_171) rfl tk) ?_
          refine Gs (fun _ tk => XS.iload X10.here hx rfl (hb hby at_173) rfl tk) ?_
          obtain ⟨_, _, ⟨T19, L19, k19, n19⟩, -, X19, ⟨Lc19, hQ19, l19, y19, z19⟩, st19⟩ := Jvm.LawKit.callS X10 hx (y := mN15) hown (mvT hZ (gw hw 61 rfl)) (mvT hZ (gw hw 62 rfl)) (mvT hZ (gw hw 2 rfl)) (mvT hZ (gw hw 63 rfl)) (by decide) (backOf (W := 0) (rm_fits l Z a0 hw [] r3 r6 T10.heap n0 Z0 hLr_6) hZ (gw hw 63 rfl) (gw hw 2 rfl) (by decide) (by decide)) (g := (mkF m 175 #[.val (.int x0), .val (.long x1), .second, .val (.long x2), .second, .val (.int x3), .val (.int lp), .val (.int lt), .val (.int r1), .val (.int r2), .val (.int r3), .val (.int r4), .val (.int r5), .val (.int r6), .val (.int r8), .val (.ref u9), .val (.ref u10), .unset] [(.int r6), (.int r3)])) rfl (by rw [hml]; rfl) (argsL := [(.int r3), (.int r6)]) (rest := []) (lenOf own_pd17 rfl) rfl (w0 (Nat.le_of_eq rfl)) (hb hby at_175) (fun _ _ => ⟨rfl, rfl, (by decide : 12 + 0 ≤ _), (by decide : 24 + 0 ≤ _)⟩)
          dsimp only [Pt.U, Pt.locs, Pt.cells, Pt.slots] at X19 l19 y19 z19 st19 hQ19
          subst l19 y19 z19
          obtain ⟨rfl, N19q, e19⟩ := hQ19
          have N19 := Fr.app N10 N19q
          refine Gs st19 ?_
          show Goes _ _ _ _ _ (T19.setTop (mkF m 178 #[.val (.int x0), .val (.long x1), .second, .val (.long x2), .second, .val (.int x3), .val (.int lp), .val (.int lt), .val (.int r1), .val (.int r2), .val (.int r3), .val (.int r4), .val (.int r5), .val (.int r6), .val (.int r8), .val (.ref u9), .val (.ref u10), .unset] [(.int (own_fit2 r3 r6))]))
          by_cases hc178_20 : (own_fit2 r3 r6) = (0 : Int32)
          · refine Gs (fun _ tk => XS.ifYes X19.here hx rfl (pc0 := 178) (pc' := 185) rfl (hb hby at_178) rfl ((if0 _ _).trans (teq hc178_20).1) (by decide) (by decide) tk) ?_
            refine Gs (fun _ tk => XS.iconst X19.here hx rfl (hb hby at_185) tk) ?_
            refine Gs (fun _ tk => XS.istore X19.here hx rfl (hb hby at_186) rfl (l' := #[.val (.int x0), .val (.long x1), .second, .val (.long x2), .second, .val (.int x3), .val (.int lp), .val (.int lt), .val (.int r1), .val (.int r2), .val (.int r3), .val (.int r4), .val (.int r5), .val (.int r6), .val (.int r8), .val (.ref u9), .val (.ref u10), .val (.int (0 : Int32))]) rfl tk) ?_
            refine Gs (fun _ tk => XS.aload X19.here hx rfl (hb hby at_188) rfl rfl tk) ?_
            refine Gs (fun _ tk => XS.aload X19.here hx rfl (hb hby at_190) rfl rfl tk) ?_
            obtain ⟨_, _, ⟨T21, L21, k21, n21⟩, -, X21, ⟨Lc21, hQ21, l21, y21, z21⟩, st21⟩ := Jvm.LawKit.callS X19 hx (y := mN17) hown (mvT hZ (gw hw 36 rfl)) (mvT hZ (gw hw 37 rfl)) (mvT hZ (gw hw 38 rfl)) (mvT hZ (gw hw 39 rfl)) (by decide) (backOf (W := 0) (rm_sw l Z a0 hw [] u10 u9 (own_str lt r4 r5 r6 r8) (own_str lp r1 r2 r3 (120 : Int32)) cz fo T10.heap n0 Z0 T_u10 T_u9 (by rcases hlp with rfl | rfl | rfl | rfl <;> simp [own_str]) S_COMPACT_STRINGS (by first | assumption | decide) S_SIOOBE_FORMATTER (by first | assumption | decide)) hZ (gw hw 39 rfl) (gw hw 38 rfl) (by decide) (by decide)) (g := (mkF m 192 #[.val (.int x0), .val (.long x1), .second, .val (.long x2), .second, .val (.int x3), .val (.int lp), .val (.int lt), .val (.int r1), .val (.int r2), .val (.int r3), .val (.int r4), .val (.int r5), .val (.int r6), .val (.int r8), .val (.ref u9), .val (.ref u10), .val (.int (0 : Int32))] [(.ref u9), (.ref u10)])) rfl (by rw [hml]; rfl) (argsL := [(.ref u10), (.ref u9)]) (rest := []) (lenOf own_pd16 rfl) rfl (w0 (Nat.le_of_eq rfl)) (hb hby at_192) (fun _ _ => ⟨rfl, e19, (by decide : 12 + 0 ≤ _), (by decide : 24 + 0 ≤ _)⟩)
            dsimp only [Pt.U, Pt.locs, Pt.cells, Pt.slots] at X21 l21 y21 z21 st21 hQ21
            subst l21 y21 z21
            obtain ⟨rfl, N21q, e21⟩ := hQ21
            have N21 := Fr.app N19 N21q
            refine Gs st21 ?_
            show Goes _ _ _ _ _ (T21.setTop (mkF m 195 #[.val (.int x0), .val (.long x1), .second, .val (.long x2), .second, .val (.int x3), .val (.int lp), .val (.int lt), .val (.int r1), .val (.int r2), .val (.int r3), .val (.int r4), .val (.int r5), .val (.int r6), .val (.int r8), .val (.ref u9), .val (.ref u10), .val (.int (0 : Int32))] [(.int (own_sw (own_str lp r1 r2 r3 (120 : Int32)) (own_str lt r4 r5 r6 r8)))]))
            refine Gs (fun _ tk => XS.iload X21.here hx rfl (hb hby at_195) rfl tk) ?_
            have hc197_22 : (own_sw (own_str lp r1 r2 r3 (120 : Int32)) (own_str lt r4 r5 r6 r8)) = (0 : Int32) := by
              rcases hlp with rfl | rfl | rfl | rfl <;> rcases hlt with rfl | rfl | rfl | rfl | rfl <;> first | exact absurd hc124_11 (by decide) | exact absurd hc136_14 (by decide) | exact absurd hc152_15 (by decide) | exact absurd hc168_16 (by decide) | simp +decide [own_sw, own_str, hc178_20]
            refine Gs (fun _ tk => XS.icmpNo X21.here hx rfl (hb hby at_197) rfl (teq hc197_22).2 tk) ?_
            refine Gs (fun _ tk => XS.iconst X21.here hx rfl (hb hby at_200) tk) ?_
            refine Gs (fun _ tk => XS.goto X21.here hx rfl (pc0 := 201) (pc' := 205) rfl (hb hby at_201) (by decide) (by decide) tk) ?_
            refine Goes.retH X21 hS e21 hk hZ (own_EW hw) hh hR (some (.int (1 : Int32))) (fun h => by rw [hret] at h; cases h) hlk (by decide) (by decide) ?_ (fun fs hr => ?_)
            · rw [e21]; exact ⟨rfl, N21⟩
            · exact own_retN X21 hx (t := .boolean) hret (by simp) rfl (hb hby at_205) hr
          · refine Gs (fun _ tk => XS.ifNo X19.here hx rfl (hb hby at_178) rfl ((if0 _ _).trans (feq hc178_20).1) tk) ?_
            refine Gs (fun _ tk => XS.iconst X19.here hx rfl (hb hby at_181) tk) ?_
            refine Gs (fun _ tk => XS.goto X19.here hx rfl (pc0 := 182) (pc' := 186) rfl (hb hby at_182) (by decide) (by decide) tk) ?_
            refine Gs (fun _ tk => XS.istore X19.here hx rfl (hb hby at_186) rfl (l' := #[.val (.int x0), .val (.long x1), .second, .val (.long x2), .second, .val (.int x3), .val (.int lp), .val (.int lt), .val (.int r1), .val (.int r2), .val (.int r3), .val (.int r4), .val (.int r5), .val (.int r6), .val (.int r8), .val (.ref u9), .val (.ref u10), .val (.int (1 : Int32))]) rfl tk) ?_
            refine Gs (fun _ tk => XS.aload X19.here hx rfl (hb hby at_188) rfl rfl tk) ?_
            refine Gs (fun _ tk => XS.aload X19.here hx rfl (hb hby at_190) rfl rfl tk) ?_
            show Goes _ _ _ _ _ (T19.setTop (mkF m 192 #[.val (.int x0), .val (.long x1), .second, .val (.long x2), .second, .val (.int x3), .val (.int lp), .val (.int lt), .val (.int r1), .val (.int r2), .val (.int r3), .val (.int r4), .val (.int r5), .val (.int r6), .val (.int r8), .val (.ref u9), .val (.ref u10), .val (.int (1 : Int32))] [(.ref u9), (.ref u10)]))
            obtain ⟨_, _, ⟨T23, L23, k23, n23⟩, -, X23, ⟨Lc23, hQ23, l23, y23, z23⟩, st23⟩ := Jvm.LawKit.callS X19 hx (y := mN17) hown (mvT hZ (gw hw 36 rfl)) (mvT hZ (gw hw 37 rfl)) (mvT hZ (gw hw 38 rfl)) (mvT hZ (gw hw 39 rfl)) (by decide) (backOf (W := 0) (rm_sw l Z a0 hw [] u10 u9 (own_str lt r4 r5 r6 r8) (own_str lp r1 r2 r3 (120 : Int32)) cz fo T10.heap n0 Z0 T_u10 T_u9 (by rcases hlp with rfl | rfl | rfl | rfl <;> simp [own_str]) S_COMPACT_STRINGS (by first | assumption | decide) S_SIOOBE_FORMATTER (by first | assumption | decide)) hZ (gw hw 39 rfl) (gw hw 38 rfl) (by decide) (by decide)) (g := (mkF m 192 #[.val (.int x0), .val (.long x1), .second, .val (.long x2), .second, .val (.int x3), .val (.int lp), .val (.int lt), .val (.int r1), .val (.int r2), .val (.int r3), .val (.int r4), .val (.int r5), .val (.int r6), .val (.int r8), .val (.ref u9), .val (.ref u10), .val (.int (1 : Int32))] [(.ref u9), (.ref u10)])) rfl (by rw [hml]; rfl) (argsL := [(.ref u10), (.ref u9)]) (rest := []) (lenOf own_pd16 rfl) rfl (w0 (Nat.le_of_eq rfl)) (hb hby at_192) (fun _ _ => ⟨rfl, e19, (by decide : 12 + 0 ≤ _), (by decide : 24 + 0 ≤ _)⟩)
            dsimp only [Pt.U, Pt.locs, Pt.cells, Pt.slots] at X23 l23 y23 z23 st23 hQ23
            subst l23 y23 z23
            obtain ⟨rfl, N23q, e23⟩ := hQ23
            have N23 := Fr.app N19 N23q
            refine Gs st23 ?_
            show Goes _ _ _ _ _ (T23.setTop (mkF m 195 #[.val (.int x0), .val (.long x1), .second, .val (.long x2), .second, .val (.int x3), .val (.int lp), .val (.int lt), .val (.int r1), .val (.int r2), .val (.int r3), .val (.int r4), .val (.int r5), .val (.int r6), .val (.int r8), .val (.ref u9), .val (.ref u10), .val (.int (1 : Int32))] [(.int (own_sw (own_str lp r1 r2 r3 (120 : Int32)) (own_str lt r4 r5 r6 r8)))]))
            refine Gs (fun _ tk => XS.iload X23.here hx rfl (hb hby at_195) rfl tk) ?_
            have hc197_24 : (own_sw (own_str lp r1 r2 r3 (120 : Int32)) (own_str lt r4 r5 r6 r8)) = (1 : Int32) := by
              rcases hlp with rfl | rfl | rfl | rfl <;> rcases hlt with rfl | rfl | rfl | rfl | rfl <;> first | exact absurd hc124_11 (by decide) | exact absurd hc136_14 (by decide) | exact absurd hc152_15 (by decide) | exact absurd hc168_16 (by decide) | simp +decide [own_sw, own_str, hc178_20]
            refine Gs (fun _ tk => XS.icmpNo X23.here hx rfl (hb hby at_197) rfl (teq hc197_24).2 tk) ?_
            refine Gs (fun _ tk => XS.iconst X23.here hx rfl (hb hby at_200) tk) ?_
            refine Gs (fun _ tk => XS.goto X23.here hx rfl (pc0 := 201) (pc' := 205) rfl (hb hby at_201) (by decide) (by decide) tk) ?_
            refine Goes.retH X23 hS e23 hk hZ (own_EW hw) hh hR (some (.int (1 : Int32))) (fun h => by rw [hret] at h; cases h) hlk (by decide) (by decide) ?_ (fun fs hr => ?_)
            · rw [e23]; exact ⟨rfl, N23⟩
            · exact own_retN X23 hx (t := .boolean) hret (by simp) rfl (hb hby at_205) hr
      · refine Gs (fun _ tk => XS.icmpNo X10.here hx rfl (hb hby at_152) rfl (flt hc152_15).1 tk) ?_
        refine Gs (fun _ tk => XS.iload X10.here hx rfl (hb hby at_155) rfl tk) ?_
        refine Gs (fun _ tk => XS.iload X10.here hx rfl (hb hby at_157) rfl tk) ?_
        show Goes _ _ _ _ _ (T10.setTop (mkF m 159 #[.val (.int x0), .val (.long x1), .second, .val (.long x2), .second, .val (.int x3), .val (.int lp), .val (.int lt), .val (.int r1), .val (.int r2), .val (.int r3), .val (.int r4), .val (.int r5), .val (.int r6), .val (.int r8), .val (.ref u9), .val (.ref u10), .unset] [(.int r5), (.int r2)]))
        obtain ⟨_, _, ⟨T25, L25, k25, n25⟩, -, X25, ⟨Lc25, hQ25, l25, y25, z25⟩, st25⟩ := Jvm.LawKit.callS X10 hx (y := mN15) hown (mvT hZ (gw hw 61 rfl)) (mvT hZ (gw hw 62 rfl)) (mvT hZ (gw hw 2 rfl)) (mvT hZ (gw hw 63 rfl)) (by decide) (backOf (W := 0) (rm_fits l Z a0 hw [] r2 r5 T10.heap n0 Z0 hLr_5) hZ (gw hw 63 rfl) (gw hw 2 rfl) (by decide) (by decide)) (g := (mkF m 159 #[.val (.int x0), .val (.long x1), .second, .val (.long x2), .second, .val (.int x3), .val (.int lp), .val (.int lt), .val (.int r1), .val (.int r2), .val (.int r3), .val (.int r4), .val (.int r5), .val (.int r6), .val (.int r8), .val (.ref u9), .val (.ref u10), .unset] [(.int r5), (.int r2)])) rfl (by rw [hml]; rfl) (argsL := [(.int r2), (.int r5)]) (rest := []) (lenOf own_pd17 rfl) rfl (w0 (Nat.le_of_eq rfl)) (hb hby at_159) (fun _ _ => ⟨rfl, rfl, (by decide : 12 + 0 ≤ _), (by decide : 24 + 0 ≤ _)⟩)
        dsimp only [Pt.U, Pt.locs, Pt.cells, Pt.slots] at X25 l25 y25 z25 st25 hQ25
        subst l25 y25 z25
        obtain ⟨rfl, N25q, e25⟩ := hQ25
        have N25 := Fr.app N10 N25q
        refine Gs st25 ?_
        show Goes _ _ _ _ _ (T25.setTop (mkF m 162 #[.val (.int x0), .val (.long x1), .second, .val (.long x2), .second, .val (.int x3), .val (.int lp), .val (.int lt), .val (.int r1), .val (.int r2), .val (.int r3), .val (.int r4), .val (.int r5), .val (.int r6), .val (.int r8), .val (.ref u9), .val (.ref u10), .unset] [(.int (own_fit2 r2 r5))]))
        by_cases hc162_26 : (own_fit2 r2 r5) = (0 : Int32)
        · refine Gs (fun _ tk => XS.ifYes X25.here hx rfl (pc0 := 162) (pc' := 185) rfl (hb hby at_162) rfl ((if0 _ _).trans (teq hc162_26).1) (by decide) (by decide) tk) ?_
          refine Gs (fun _ tk => XS.iconst X25.here hx rfl (hb hby at_185) tk) ?_
          refine Gs (fun _ tk => XS.istore X25.here hx rfl (hb hby at_186) rfl (l' := #[.val (.int x0), .val (.long x1), .second, .val (.long x2), .second, .val (.int x3), .val (.int lp), .val (.int lt), .val (.int r1), .val (.int r2), .val (.int r3), .val (.int r4), .val (.int r5), .val (.int r6), .val (.int r8), .val (.ref u9), .val (.ref u10), .val (.int (0 : Int32))]) rfl tk) ?_
          refine Gs (fun _ tk => XS.aload X25.here hx rfl (hb hby at_188) rfl rfl tk) ?_
          refine Gs (fun _ tk => XS.aload X25.here hx rfl (hb hby at_190) rfl rfl tk) ?_
          obtain ⟨_, _, ⟨T27, L27, k27, n27⟩, -, X27, ⟨Lc27, hQ27, l27, y27, z27⟩, st27⟩ := Jvm.LawKit.callS X25 hx (y := mN17) hown (mvT hZ (gw hw 36 rfl)) (mvT hZ (gw hw 37 rfl)) (mvT hZ (gw hw 38 rfl)) (mvT hZ (gw hw 39 rfl)) (by decide) (backOf (W := 0) (rm_sw l Z a0 hw [] u10 u9 (own_str lt r4 r5 r6 r8) (own_str lp r1 r2 r3 (120 : Int32)) cz fo T10.heap n0 Z0 T_u10 T_u9 (by rcases hlp with rfl | rfl | rfl | rfl <;> simp [own_str]) S_COMPACT_STRINGS (by first | assumption | decide) S_SIOOBE_FORMATTER (by first | assumption | decide)) hZ (gw hw 39 rfl) (gw hw 38 rfl) (by decide) (by decide)) (g := (mkF m 192 #[.val (.int x0), .val (.long x1), .second, .val (.long x2), .second, .val (.int x3), .val (.int lp), .val (.int lt), .val (.int r1), .val (.int r2), .val (.int r3), .val (.int r4), .val (.int r5), .val (.int r6), .val (.int r8), .val (.ref u9), .val (.ref u10), .val (.int (0 : Int32))] [(.ref u9), (.ref u10)])) rfl (by rw [hml]; rfl) (argsL := [(.ref u10), (.ref u9)]) (rest := []) (lenOf own_pd16 rfl) rfl (w0 (Nat.le_of_eq rfl)) (hb hby at_192) (fun _ _ => ⟨rfl, e25, (by decide : 12 + 0 ≤ _), (by decide : 24 + 0 ≤ _)⟩)
          dsimp only [Pt.U, Pt.locs, Pt.cells, Pt.slots] at X27 l27 y27 z27 st27 hQ27
          subst l27 y27 z27
          obtain ⟨rfl, N27q, e27⟩ := hQ27
          have N27 := Fr.app N25 N27q
          refine Gs st27 ?_
          show Goes _ _ _ _ _ (T27.setTop (mkF m 195 #[.val (.int x0), .val (.long x1), .second, .val (.long x2), .second, .val (.int x3), .val (.int lp), .val (.int lt), .val (.int r1), .val (.int r2), .val (.int r3), .val (.int r4), .val (.int r5), .val (.int r6), .val (.int r8), .val (.ref u9), .val (.ref u10), .val (.int (0 : Int32))] [(.int (own_sw (own_str lp r1 r2 r3 (120 : Int32)) (own_str lt r4 r5 r6 r8)))]))
          refine Gs (fun _ tk => XS.iload X27.here hx rfl (hb hby at_195) rfl tk) ?_
          have hc197_28 : (own_sw (own_str lp r1 r2 r3 (120 : Int32)) (own_str lt r4 r5 r6 r8)) = (0 : Int32) := by
            rcases hlp with rfl | rfl | rfl | rfl <;> rcases hlt with rfl | rfl | rfl | rfl | rfl <;> first | exact absurd hc124_11 (by decide) | exact absurd hc136_14 (by decide) | exact absurd hc152_15 (by decide) | simp +decide [own_sw, own_str, hc162_26]
          refine Gs (fun _ tk => XS.icmpNo X27.here hx rfl (hb hby at_197) rfl (teq hc197_28).2 tk) ?_
          refine Gs (fun _ tk => XS.iconst X27.here hx rfl (hb hby at_200) tk) ?_
          refine Gs (fun _ tk => XS.goto X27.here hx rfl (pc0 := 201) (pc' := 205) rfl (hb hby at_201) (by decide) (by decide) tk) ?_
          refine Goes.retH X27 hS e27 hk hZ (own_EW hw) hh hR (some (.int (1 : Int32))) (fun h => by rw [hret] at h; cases h) hlk (by decide) (by decide) ?_ (fun fs hr => ?_)
          · rw [e27]; exact ⟨rfl, N27⟩
          · exact own_retN X27 hx (t := .boolean) hret (by simp) rfl (hb hby at_205) hr
        · refine Gs (fun _ tk => XS.ifNo X25.here hx rfl (hb hby at_162) rfl ((if0 _ _).trans (feq hc162_26).1) tk) ?_
          refine Gs (fun _ tk => XS.iload X25.here hx rfl (hb hby at_165) rfl tk) ?_
          refine Gs (fun _ tk => XS.iconst X25.here hx rfl (hb hby at_167) tk) ?_
          by_cases hc168_29 : lp < (3 : Int32)
          · refine Gs (fun _ tk => XS.icmpYes X25.here hx rfl (pc0 := 168) (pc' := 181) rfl (hb hby at_168) rfl (tlt hc168_29).1 (by decide) (by decide) tk) ?_
            refine Gs (fun _ tk => XS.iconst X25.here hx rfl (hb hby at_181) tk) ?_
            refine Gs (fun _ tk => XS.goto X25.here hx rfl (pc0 := 182) (pc' := 186) rfl (hb hby at_182) (by decide) (by decide) tk) ?_
            show Goes _ _ _ _ _ (T25.setTop (mkF m 186 #[.val (.int x0), .val (.long x1), .second, .val (.long x2), .second, .val (.int x3), .val (.int lp), .val (.int lt), .val (.int r1), .val (.int r2), .val (.int r3), .val (.int r4), .val (.int r5), .val (.int r6), .val (.int r8), .val (.ref u9), .val (.ref u10), .unset] [(.int (1 : Int32))]))
            refine Gs (fun _ tk => XS.istore X25.here hx rfl (hb hby at_186) rfl (l' := #[.val (.int x0), .val (.long x1), .second, .val (.long x2), .second, .val (.int x3), .val (.int lp), .val (.int lt), .val (.int r1), .val (.int r2), .val (.int r3), .val (.int r4), .val (.int r5), .val (.int r6), .val (.int r8), .val (.ref u9), .val (.ref u10), .val (.int (1 : Int32))]) rfl tk) ?_
            refine Gs (fun _ tk => XS.aload X25.here hx rfl (hb hby at_188) rfl rfl tk) ?_
            refine Gs (fun _ tk => XS.aload X25.here hx rfl (hb hby at_190) rfl rfl tk) ?_
            obtain ⟨_, _, ⟨T30, L30, k30, n30⟩, -, X30, ⟨Lc30, hQ30, l30, y30, z30⟩, st30⟩ := Jvm.LawKit.callS X25 hx (y := mN17) hown (mvT hZ (gw hw 36 rfl)) (mvT hZ (gw hw 37 rfl)) (mvT hZ (gw hw 38 rfl)) (mvT hZ (gw hw 39 rfl)) (by decide) (backOf (W := 0) (rm_sw l Z a0 hw [] u10 u9 (own_str lt r4 r5 r6 r8) (own_str lp r1 r2 r3 (120 : Int32)) cz fo T10.heap n0 Z0 T_u10 T_u9 (by rcases hlp with rfl | rfl | rfl | rfl <;> simp [own_str]) S_COMPACT_STRINGS (by first | assumption | decide) S_SIOOBE_FORMATTER (by first | assumption | decide)) hZ (gw hw 39 rfl) (gw hw 38 rfl) (by decide) (by decide)) (g := (mkF m 192 #[.val (.int x0), .val (.long x1), .second, .val (.long x2), .second, .val (.int x3), .val (.int lp), .val (.int lt), .val (.int r1), .val (.int r2), .val (.int r3), .val (.int r4), .val (.int r5), .val (.int r6), .val (.int r8), .val (.ref u9), .val (.ref u10), .val (.int (1 : Int32))] [(.ref u9), (.ref u10)])) rfl (by rw [hml]; rfl) (argsL := [(.ref u10), (.ref u9)]) (rest := []) (lenOf own_pd16 rfl) rfl (w0 (Nat.le_of_eq rfl)) (hb hby at_192) (fun _ _ => ⟨rfl, e25, (by decide : 12 + 0 ≤ _), (by decide : 24 + 0 ≤ _)⟩)
            dsimp only [Pt.U, Pt.locs, Pt.cells, Pt.slots] at X30 l30 y30 z30 st30 hQ30
            subst l30 y30 z30
            obtain ⟨rfl, N30q, e30⟩ := hQ30
            have N30 := Fr.app N25 N30q
            refine Gs st30 ?_
            show Goes _ _ _ _ _ (T30.setTop (mkF m 195 #[.val (.int x0), .val (.long x1), .second, .val (.long x2), .second, .val (.int x3), .val (.int lp), .val (.int lt), .val (.int r1), .val (.int r2), .val (.int r3), .val (.int r4), .val (.int r5), .val (.int r6), .val (.int r8), .val (.ref u9), .val (.ref u10), .val (.int (1 : Int32))] [(.int (own_sw (own_str lp r1 r2 r3 (120 : Int32)) (own_str lt r4 r5 r6 r8)))]))
            refine Gs (fun _ tk => XS.iload X30.here hx rfl (hb hby at_195) rfl tk) ?_
            have hc197_31 : (own_sw (own_str lp r1 r2 r3 (120 : Int32)) (own_str lt r4 r5 r6 r8)) = (1 : Int32) := by
              rcases hlp with rfl | rfl | rfl | rfl <;> rcases hlt with rfl | rfl | rfl | rfl | rfl <;> first | exact absurd hc124_11 (by decide) | exact absurd hc136_14 (by decide) | exact absurd hc152_15 (by decide) | exact absurd hc168_29 (by decide) | simp +decide [own_sw, own_str, hc162_26]
            refine Gs (fun _ tk => XS.icmpNo X30.here hx rfl (hb hby at_197) rfl (teq hc197_31).2 tk) ?_
            refine Gs (fun _ tk => XS.iconst X30.here hx rfl (hb hby at_200) tk) ?_
            refine Gs (fun _ tk => XS.goto X30.here hx rfl (pc0 := 201) (pc' := 205) rfl (hb hby at_201) (by decide) (by decide) tk) ?_
            refine Goes.retH X30 hS e30 hk hZ (own_EW hw) hh hR (some (.int (1 : Int32))) (fun h => by rw [hret] at h; cases h) hlk (by decide) (by decide) ?_ (fun fs hr => ?_)
            · rw [e30]; exact ⟨rfl, N30⟩
            · exact own_retN X30 hx (t := .boolean) hret (by simp) rfl (hb hby at_205) hr
          · refine Gs (fun _ tk => XS.icmpNo X25.here hx rfl (hb hby at_168) rfl (flt hc168_29).1 tk) ?_
            refine Gs (fun _ tk => XS.iload X25.here hx rfl (hb hby at_171) rfl tk) ?_
            refine Gs (fun _ tk => XS.iload X25.here hx rfl (hb hby at_173) rfl tk) ?_
            show Goes _ _ _ _ _ (T25.setTop (mkF m 175 #[.val (.int x0), .val (.long x1), .second, .val (.long x2), .second, .val (.int x3), .val (.int lp), .val (.int lt), .val (.int r1), .val (.int r2), .val (.int r3), .val (.int r4), .val (.int r5), .val (.int r6), .val (.int r8), .val (.ref u9), .val (.ref u10), .unset] [(.int r6), (.int r3)]))
            obtain ⟨_, _, ⟨T32, L32, k32, n32⟩, -, X32, ⟨Lc32, hQ32, l32, y32, z32⟩, st32⟩ := Jvm.LawKit.callS X25 hx (y := mN15) hown (mvT hZ (gw hw 61 rfl)) (mvT hZ (gw hw 62 rfl)) (mvT hZ (gw hw 2 rfl)) (mvT hZ (gw hw 63 rfl)) (by decide) (backOf (W := 0) (rm_fits l Z a0 hw [] r3 r6 T10.heap n0 Z0 hLr_6) hZ (gw hw 63 rfl) (gw hw 2 rfl) (by decide) (by decide)) (g := (mkF m 175 #[.val (.int x0), .val (.long x1), .second, .val (.long x2), .second, .val (.int x3), .val (.int lp), .val (.int lt), .val (.int r1), .val (.int r2), .val (.int r3), .val (.int r4), .val (.int r5), .val (.int r6), .val (.int r8), .val (.ref u9), .val (.ref u10), .unset] [(.int r6), (.int r3)])) rfl (by rw [hml]; rfl) (argsL := [(.int r3), (.int r6)]) (rest := []) (lenOf own_pd17 rfl) rfl (w0 (Nat.le_of_eq rfl)) (hb hby at_175) (fun _ _ => ⟨rfl, e25, (by decide : 12 + 0 ≤ _), (by decide : 24 + 0 ≤ _)⟩)
            dsimp only [Pt.U, Pt.locs, Pt.cells, Pt.slots] at X32 l32 y32 z32 st32 hQ32
            subst l32 y32 z32
            obtain ⟨rfl, N32q, e32⟩ := hQ32
            have N32 := Fr.app N25 N32q
            refine Gs st32 ?_
            show Goes _ _ _ _ _ (T32.setTop (mkF m 178 #[.val (.int x0), .val (.long x1), .second, .val (.long x2), .second, .val (.int x3), .val (.int lp), .val (.int lt), .val (.int r1), .val (.int r2), .val (.int r3), .val (.int r4), .val (.int r5), .val (.int r6), .val (.int r8), .val (.ref u9), .val (.ref u10), .unset] [(.int (own_fit2 r3 r6))]))
            by_cases hc178_33 : (own_fit2 r3 r6) = (0 : Int32)
            · refine Gs (fun _ tk => XS.ifYes X32.here hx rfl (pc0 := 178) (pc' := 185) rfl (hb hby at_178) rfl ((if0 _ _).trans (teq hc178_33).1) (by decide) (by decide) tk) ?_
              refine Gs (fun _ tk => XS.iconst X32.here hx rfl (hb hby at_185) tk) ?_
              refine Gs (fun _ tk => XS.istore X32.here hx rfl (hb hby at_186) rfl (l' := #[.val (.int x0), .val (.long x1), .second, .val (.long x2), .second, .val (.int x3), .val (.int lp), .val (.int lt), .val (.int r1), .val (.int r2), .val (.int r3), .val (.int r4), .val (.int r5), .val (.int r6), .val (.int r8), .val (.ref u9), .val (.ref u10), .val (.int (0 : Int32))]) rfl tk) ?_
              refine Gs (fun _ tk => XS.aload X32.here hx rfl (hb hby at_188) rfl rfl tk) ?_
              refine Gs (fun _ tk => XS.aload X32.here hx rfl (hb hby at_190) rfl rfl tk) ?_
              obtain ⟨_, _, ⟨T34, L34, k34, n34⟩, -, X34, ⟨Lc34, hQ34, l34, y34, z34⟩, st34⟩ := Jvm.LawKit.callS X32 hx (y := mN17) hown (mvT hZ (gw hw 36 rfl)) (mvT hZ (gw hw 37 rfl)) (mvT hZ (gw hw 38 rfl)) (mvT hZ (gw hw 39 rfl)) (by decide) (backOf (W := 0) (rm_sw l Z a0 hw [] u10 u9 (own_str lt r4 r5 r6 r8) (own_str lp r1 r2 r3 (120 : Int32)) cz fo T10.heap n0 Z0 T_u10 T_u9 (by rcases hlp with rfl | rfl | rfl | rfl <;> simp [own_str]) S_COMPACT_STRINGS (by first | assumption | decide) S_SIOOBE_FORMATTER (by first | assumption | decide)) hZ (gw hw 39 rfl) (gw hw 38 rfl) (by decide) (by decide)) (g := (mkF m 192 #[.val (.int x0), .val (.long x1), .second, .val (.long x2), .second, .val (.int x3), .val (.int lp), .val (.int lt), .val (.int r1), .val (.int r2), .val (.int r3), .val (.int r4), .val (.int r5), .val (.int r6), .val (.int r8), .val (.ref u9), .val (.ref u10), .val (.int (0 : Int32))] [(.ref u9), (.ref u10)])) rfl (by rw [hml]; rfl) (argsL := [(.ref u10), (.ref u9)]) (rest := []) (lenOf own_pd16 rfl) rfl (w0 (Nat.le_of_eq rfl)) (hb hby at_192) (fun _ _ => ⟨rfl, e32, (by decide : 12 + 0 ≤ _), (by decide : 24 + 0 ≤ _)⟩)
              dsimp only [Pt.U, Pt.locs, Pt.cells, Pt.slots] at X34 l34 y34 z34 st34 hQ34
              subst l34 y34 z34
              obtain ⟨rfl, N34q, e34⟩ := hQ34
              have N34 := Fr.app N32 N34q
              refine Gs st34 ?_
              show Goes _ _ _ _ _ (T34.setTop (mkF m 195 #[.val (.int x0), .val (.long x1), .second, .val (.long x2), .second, .val (.int x3), .val (.int lp), .val (.int lt), .val (.int r1), .val (.int r2), .val (.int r3), .val (.int r4), .val (.int r5), .val (.int r6), .val (.int r8), .val (.ref u9), .val (.ref u10), .val (.int (0 : Int32))] [(.int (own_sw (own_str lp r1 r2 r3 (120 : Int32)) (own_str lt r4 r5 r6 r8)))]))
              refine Gs (fun _ tk => XS.iload X34.here hx rfl (hb hby at_195) rfl tk) ?_
              have hc197_35 : (own_sw (own_str lp r1 r2 r3 (120 : Int32)) (own_str lt r4 r5 r6 r8)) = (0 : Int32) := by
                rcases hlp with rfl | rfl | rfl | rfl <;> rcases hlt with rfl | rfl | rfl | rfl | rfl <;> first | exact absurd hc124_11 (by decide) | exact absurd hc136_14 (by decide) | exact absurd hc152_15 (by decide) | exact absurd hc168_29 (by decide) | simp +decide [own_sw, own_str, hc162_26, hc178_33]
              refine Gs (fun _ tk => XS.icmpNo X34.here hx rfl (hb hby at_197) rfl (teq hc197_35).2 tk) ?_
              refine Gs (fun _ tk => XS.iconst X34.here hx rfl (hb hby at_200) tk) ?_
              refine Gs (fun _ tk => XS.goto X34.here hx rfl (pc0 := 201) (pc' := 205) rfl (hb hby at_201) (by decide) (by decide) tk) ?_
              refine Goes.retH X34 hS e34 hk hZ (own_EW hw) hh hR (some (.int (1 : Int32))) (fun h => by rw [hret] at h; cases h) hlk (by decide) (by decide) ?_ (fun fs hr => ?_)
              · rw [e34]; exact ⟨rfl, N34⟩
              · exact own_retN X34 hx (t := .boolean) hret (by simp) rfl (hb hby at_205) hr
            · refine Gs (fun _ tk => XS.ifNo X32.here hx rfl (hb hby at_178) rfl ((if0 _ _).trans (feq hc178_33).1) tk) ?_
              refine Gs (fun _ tk => XS.iconst X32.here hx rfl (hb hby at_181) tk) ?_
              refine Gs (fun _ tk => XS.goto X32.here hx rfl (pc0 := 182) (pc' := 186) rfl (hb hby at_182) (by decide) (by decide) tk) ?_
              refine Gs (fun _ tk => XS.istore X32.here hx rfl (hb hby at_186) rfl (l' := #[.val (.int x0), .val (.long x1), .second, .val (.long x2), .second, .val (.int x3), .val (.int lp), .val (.int lt), .val (.int r1), .val (.int r2), .val (.int r3), .val (.int r4), .val (.int r5), .val (.int r6), .val (.int r8), .val (.ref u9), .val (.ref u10), .val (.int (1 : Int32))]) rfl tk) ?_
              refine Gs (fun _ tk => XS.aload X32.here hx rfl (hb hby at_188) rfl rfl tk) ?_
              refine Gs (fun _ tk => XS.aload X32.here hx rfl (hb hby at_190) rfl rfl tk) ?_
              show Goes _ _ _ _ _ (T32.setTop (mkF m 192 #[.val (.int x0), .val (.long x1), .second, .val (.long x2), .second, .val (.int x3), .val (.int lp), .val (.int lt), .val (.int r1), .val (.int r2), .val (.int r3), .val (.int r4), .val (.int r5), .val (.int r6), .val (.int r8), .val (.ref u9), .val (.ref u10), .val (.int (1 : Int32))] [(.ref u9), (.ref u10)]))
              obtain ⟨_, _, ⟨T36, L36, k36, n36⟩, -, X36, ⟨Lc36, hQ36, l36, y36, z36⟩, st36⟩ := Jvm.LawKit.callS X32 hx (y := mN17) hown (mvT hZ (gw hw 36 rfl)) (mvT hZ (gw hw 37 rfl)) (mvT hZ (gw hw 38 rfl)) (mvT hZ (gw hw 39 rfl)) (by decide) (backOf (W := 0) (rm_sw l Z a0 hw [] u10 u9 (own_str lt r4 r5 r6 r8) (own_str lp r1 r2 r3 (120 : Int32)) cz fo T10.heap n0 Z0 T_u10 T_u9 (by rcases hlp with rfl | rfl | rfl | rfl <;> simp [own_str]) S_COMPACT_STRINGS (by first | assumption | decide) S_SIOOBE_FORMATTER (by first | assumption | decide)) hZ (gw hw 39 rfl) (gw hw 38 rfl) (by decide) (by decide)) (g := (mkF m 192 #[.val (.int x0), .val (.long x1), .second, .val (.long x2), .second, .val (.int x3), .val (.int lp), .val (.int lt), .val (.int r1), .val (.int r2), .val (.int r3), .val (.int r4), .val (.int r5), .val (.int r6), .val (.int r8), .val (.ref u9), .val (.ref u10), .val (.int (1 : Int32))] [(.ref u9), (.ref u10)])) rfl (by rw [hml]; rfl) (argsL := [(.ref u10), (.ref u9)]) (rest := []) (lenOf own_pd16 rfl) rfl (w0 (Nat.le_of_eq rfl)) (hb hby at_192) (fun _ _ => ⟨rfl, e32, (by decide : 12 + 0 ≤ _), (by decide : 24 + 0 ≤ _)⟩)
              dsimp only [Pt.U, Pt.locs, Pt.cells, Pt.slots] at X36 l36 y36 z36 st36 hQ36
              subst l36 y36 z36
              obtain ⟨rfl, N36q, e36⟩ := hQ36
              have N36 := Fr.app N32 N36q
              refine Gs st36 ?_
              show Goes _ _ _ _ _ (T36.setTop (mkF m 195 #[.val (.int x0), .val (.long x1), .second, .val (.long x2), .second, .val (.int x3), .val (.int lp), .val (.int lt), .val (.int r1), .val (.int r2), .val (.int r3), .val (.int r4), .val (.int r5), .val (.int r6), .val (.int r8), .val (.ref u9), .val (.ref u10), .val (.int (1 : Int32))] [(.int (own_sw (own_str lp r1 r2 r3 (120 : Int32)) (own_str lt r4 r5 r6 r8)))]))
              refine Gs (fun _ tk => XS.iload X36.here hx rfl (hb hby at_195) rfl tk) ?_
              have hc197_37 : (own_sw (own_str lp r1 r2 r3 (120 : Int32)) (own_str lt r4 r5 r6 r8)) = (1 : Int32) := by
                rcases hlp with rfl | rfl | rfl | rfl <;> rcases hlt with rfl | rfl | rfl | rfl | rfl <;> first | exact absurd hc124_11 (by decide) | exact absurd hc136_14 (by decide) | exact absurd hc152_15 (by decide) | exact absurd hc168_29 (by decide) | simp +decide [own_sw, own_str, hc162_26, hc178_33]
              refine Gs (fun _ tk => XS.icmpNo X36.here hx rfl (hb hby at_197) rfl (teq hc197_37).2 tk) ?_
              refine Gs (fun _ tk => XS.iconst X36.here hx rfl (hb hby at_200) tk) ?_
              refine Gs (fun _ tk => XS.goto X36.here hx rfl (pc0 := 201) (pc' := 205) rfl (hb hby at_201) (by decide) (by decide) tk) ?_
              refine Goes.retH X36 hS e36 hk hZ (own_EW hw) hh hR (some (.int (1 : Int32))) (fun h => by rw [hret] at h; cases h) hlk (by decide) (by decide) ?_ (fun fs hr => ?_)
              · rw [e36]; exact ⟨rfl, N36⟩
              · exact own_retN X36 hx (t := .boolean) hret (by simp) rfl (hb hby at_205) hr
    · refine Gs (fun _ tk => XS.icmpNo X10.here hx rfl (hb hby at_136) rfl (flt hc136_14).1 tk) ?_
      refine Gs (fun _ tk => XS.iload X10.here hx rfl (hb hby at_139) rfl tk) ?_
      refine Gs (fun _ tk => XS.iload X10.here hx rfl (hb hby at_141) rfl tk) ?_
      obtain ⟨_, _, ⟨T38, L38, k38, n38⟩, -, X38, ⟨Lc38, hQ38, l38, y38, z38⟩, st38⟩ := Jvm.LawKit.callS X10 hx (y := mN15) hown (mvT hZ (gw hw 61 rfl)) (mvT hZ (gw hw 62 rfl)) (mvT hZ (gw hw 2 rfl)) (mvT hZ (gw hw 63 rfl)) (by decide) (backOf (W := 0) (rm_fits l Z a0 hw [] r1 r4 T10.heap n0 Z0 hLr_4) hZ (gw hw 63 rfl) (gw hw 2 rfl) (by decide) (by decide)) (g := (mkF m 143 #[.val (.int x0), .val (.long x1), .second, .val (.long x2), .second, .val (.int x3), .val (.int lp), .val (.int lt), .val (.int r1), .val (.int r2), .val (.int r3), .val (.int r4), .val (.int r5), .val (.int r6), .val (.int r8), .val (.ref u9), .val (.ref u10), .unset] [(.int r4), (.int r1)])) rfl (by rw [hml]; rfl) (argsL := [(.int r1), (.int r4)]) (rest := []) (lenOf own_pd17 rfl) rfl (w0 (Nat.le_of_eq rfl)) (hb hby at_143) (fun _ _ => ⟨rfl, rfl, (by decide : 12 + 0 ≤ _), (by decide : 24 + 0 ≤ _)⟩)
      dsimp only [Pt.U, Pt.locs, Pt.cells, Pt.slots] at X38 l38 y38 z38 st38 hQ38
      subst l38 y38 z38
      obtain ⟨rfl, N38q, e38⟩ := hQ38
      have N38 := Fr.app N10 N38q
      refine Gs st38 ?_
      show Goes _ _ _ _ _ (T38.setTop (mkF m 146 #[.val (.int x0), .val (.long x1), .second, .val (.long x2), .second, .val (.int x3), .val (.int lp), .val (.int lt), .val (.int r1), .val (.int r2), .val (.int r3), .val (.int r4), .val (.int r5), .val (.int r6), .val (.int r8), .val (.ref u9), .val (.ref u10), .unset] [(.int (own_fit2 r1 r4))]))
      by_cases hc146_39 : (own_fit2 r1 r4) = (0 : Int32)
      · refine Gs (fun _ tk => XS.ifYes X38.here hx rfl (pc0 := 146) (pc' := 185) rfl (hb hby at_146) rfl ((if0 _ _).trans (teq hc146_39).1) (by decide) (by decide) tk) ?_
        refine Gs (fun _ tk => XS.iconst X38.here hx rfl (hb hby at_185) tk) ?_
        refine Gs (fun _ tk => XS.istore X38.here hx rfl (hb hby at_186) rfl (l' := #[.val (.int x0), .val (.long x1), .second, .val (.long x2), .second, .val (.int x3), .val (.int lp), .val (.int lt), .val (.int r1), .val (.int r2), .val (.int r3), .val (.int r4), .val (.int r5), .val (.int r6), .val (.int r8), .val (.ref u9), .val (.ref u10), .val (.int (0 : Int32))]) rfl tk) ?_
        refine Gs (fun _ tk => XS.aload X38.here hx rfl (hb hby at_188) rfl rfl tk) ?_
        refine Gs (fun _ tk => XS.aload X38.here hx rfl (hb hby at_190) rfl rfl tk) ?_
        obtain ⟨_, _, ⟨T40, L40, k40, n40⟩, -, X40, ⟨Lc40, hQ40, l40, y40, z40⟩, st40⟩ := Jvm.LawKit.callS X38 hx (y := mN17) hown (mvT hZ (gw hw 36 rfl)) (mvT hZ (gw hw 37 rfl)) (mvT hZ (gw hw 38 rfl)) (mvT hZ (gw hw 39 rfl)) (by decide) (backOf (W := 0) (rm_sw l Z a0 hw [] u10 u9 (own_str lt r4 r5 r6 r8) (own_str lp r1 r2 r3 (120 : Int32)) cz fo T10.heap n0 Z0 T_u10 T_u9 (by rcases hlp with rfl | rfl | rfl | rfl <;> simp [own_str]) S_COMPACT_STRINGS (by first | assumption | decide) S_SIOOBE_FORMATTER (by first | assumption | decide)) hZ (gw hw 39 rfl) (gw hw 38 rfl) (by decide) (by decide)) (g := (mkF m 192 #[.val (.int x0), .val (.long x1), .second, .val (.long x2), .second, .val (.int x3), .val (.int lp), .val (.int lt), .val (.int r1), .val (.int r2), .val (.int r3), .val (.int r4), .val (.int r5), .val (.int r6), .val (.int r8), .val (.ref u9), .val (.ref u10), .val (.int (0 : Int32))] [(.ref u9), (.ref u10)])) rfl (by rw [hml]; rfl) (argsL := [(.ref u10), (.ref u9)]) (rest := []) (lenOf own_pd16 rfl) rfl (w0 (Nat.le_of_eq rfl)) (hb hby at_192) (fun _ _ => ⟨rfl, e38, (by decide : 12 + 0 ≤ _), (by decide : 24 + 0 ≤ _)⟩)
        dsimp only [Pt.U, Pt.locs, Pt.cells, Pt.slots] at X40 l40 y40 z40 st40 hQ40
        subst l40 y40 z40
        obtain ⟨rfl, N40q, e40⟩ := hQ40
        have N40 := Fr.app N38 N40q
        refine Gs st40 ?_
        show Goes _ _ _ _ _ (T40.setTop (mkF m 195 #[.val (.int x0), .val (.long x1), .second, .val (.long x2), .second, .val (.int x3), .val (.int lp), .val (.int lt), .val (.int r1), .val (.int r2), .val (.int r3), .val (.int r4), .val (.int r5), .val (.int r6), .val (.int r8), .val (.ref u9), .val (.ref u10), .val (.int (0 : Int32))] [(.int (own_sw (own_str lp r1 r2 r3 (120 : Int32)) (own_str lt r4 r5 r6 r8)))]))
        refine Gs (fun _ tk => XS.iload X40.here hx rfl (hb hby at_195) rfl tk) ?_
        have hc197_41 : (own_sw (own_str lp r1 r2 r3 (120 : Int32)) (own_str lt r4 r5 r6 r8)) = (0 : Int32) := by
          rcases hlp with rfl | rfl | rfl | rfl <;> rcases hlt with rfl | rfl | rfl | rfl | rfl <;> first | exact absurd hc124_11 (by decide) | exact absurd hc136_14 (by decide) | simp +decide [own_sw, own_str, hc146_39]
        refine Gs (fun _ tk => XS.icmpNo X40.here hx rfl (hb hby at_197) rfl (teq hc197_41).2 tk) ?_
        refine Gs (fun _ tk => XS.iconst X40.here hx rfl (hb hby at_200) tk) ?_
        refine Gs (fun _ tk => XS.goto X40.here hx rfl (pc0 := 201) (pc' := 205) rfl (hb hby at_201) (by decide) (by decide) tk) ?_
        refine Goes.retH X40 hS e40 hk hZ (own_EW hw) hh hR (some (.int (1 : Int32))) (fun h => by rw [hret] at h; cases h) hlk (by decide) (by decide) ?_ (fun fs hr => ?_)
        · rw [e40]; exact ⟨rfl, N40⟩
        · exact own_retN X40 hx (t := .boolean) hret (by simp) rfl (hb hby at_205) hr
      · refine Gs (fun _ tk => XS.ifNo X38.here hx rfl (hb hby at_146) rfl ((if0 _ _).trans (feq hc146_39).1) tk) ?_
        refine Gs (fun _ tk => XS.iload X38.here hx rfl (hb hby at_149) rfl tk) ?_
        refine Gs (fun _ tk => XS.iconst X38.here hx rfl (hb hby at_151) tk) ?_
        by_cases hc152_42 : lp < (2 : Int32)
        · refine Gs (fun _ tk => XS.icmpYes X38.here hx rfl (pc0 := 152) (pc' := 165) rfl (hb hby at_152) rfl (tlt hc152_42).1 (by decide) (by decide) tk) ?_
          refine Gs (fun _ tk => XS.iload X38.here hx rfl (hb hby at_165) rfl tk) ?_
          refine Gs (fun _ tk => XS.iconst X38.here hx rfl (hb hby at_167) tk) ?_
          show Goes _ _ _ _ _ (T38.setTop (mkF m 168 #[.val (.int x0), .val (.long x1), .second, .val (.long x2), .second, .val (.int x3), .val (.int lp), .val (.int lt), .val (.int r1), .val (.int r2), .val (.int r3), .val (.int r4), .val (.int r5), .val (.int r6), .val (.int r8), .val (.ref u9), .val (.ref u10), .unset] [(.int (3 : Int32)), (.int lp)]))
          by_cases hc168_43 : lp < (3 : Int32)
          · refine Gs (fun _ tk => XS.icmpYes X38.here hx rfl (pc0 := 168) (pc' := 181) rfl (hb hby at_168) rfl (tlt hc168_43).1 (by decide) (by decide) tk) ?_
            refine Gs (fun _ tk => XS.iconst X38.here hx rfl (hb hby at_181) tk) ?_
            refine Gs (fun _ tk => XS.goto X38.here hx rfl (pc0 := 182) (pc' := 186) rfl (hb hby at_182) (by decide) (by decide) tk) ?_
            refine Gs (fun _ tk => XS.istore X38.here hx rfl (hb hby at_186) rfl (l' := #[.val (.int x0), .val (.long x1), .second, .val (.long x2), .second, .val (.int x3), .val (.int lp), .val (.int lt), .val (.int r1), .val (.int r2), .val (.int r3), .val (.int r4), .val (.int r5), .val (.int r6), .val (.int r8), .val (.ref u9), .val (.ref u10), .val (.int (1 : Int32))]) rfl tk) ?_
            refine Gs (fun _ tk => XS.aload X38.here hx rfl (hb hby at_188) rfl rfl tk) ?_
            refine Gs (fun _ tk => XS.aload X38.here hx rfl (hb hby at_190) rfl rfl tk) ?_
            show Goes _ _ _ _ _ (T38.setTop (mkF m 192 #[.val (.int x0), .val (.long x1), .second, .val (.long x2), .second, .val (.int x3), .val (.int lp), .val (.int lt), .val (.int r1), .val (.int r2), .val (.int r3), .val (.int r4), .val (.int r5), .val (.int r6), .val (.int r8), .val (.ref u9), .val (.ref u10), .val (.int (1 : Int32))] [(.ref u9), (.ref u10)]))
            obtain ⟨_, _, ⟨T44, L44, k44, n44⟩, -, X44, ⟨Lc44, hQ44, l44, y44, z44⟩, st44⟩ := Jvm.LawKit.callS X38 hx (y := mN17) hown (mvT hZ (gw hw 36 rfl)) (mvT hZ (gw hw 37 rfl)) (mvT hZ (gw hw 38 rfl)) (mvT hZ (gw hw 39 rfl)) (by decide) (backOf (W := 0) (rm_sw l Z a0 hw [] u10 u9 (own_str lt r4 r5 r6 r8) (own_str lp r1 r2 r3 (120 : Int32)) cz fo T10.heap n0 Z0 T_u10 T_u9 (by rcases hlp with rfl | rfl | rfl | rfl <;> simp [own_str]) S_COMPACT_STRINGS (by first | assumption | decide) S_SIOOBE_FORMATTER (by first | assumption | decide)) hZ (gw hw 39 rfl) (gw hw 38 rfl) (by decide) (by decide)) (g := (mkF m 192 #[.val (.int x0), .val (.long x1), .second, .val (.long x2), .second, .val (.int x3), .val (.int lp), .val (.int lt), .val (.int r1), .val (.int r2), .val (.int r3), .val (.int r4), .val (.int r5), .val (.int r6), .val (.int r8), .val (.ref u9), .val (.ref u10), .val (.int (1 : Int32))] [(.ref u9), (.ref u10)])) rfl (by rw [hml]; rfl) (argsL := [(.ref u10), (.ref u9)]) (rest := []) (lenOf own_pd16 rfl) rfl (w0 (Nat.le_of_eq rfl)) (hb hby at_192) (fun _ _ => ⟨rfl, e38, (by decide : 12 + 0 ≤ _), (by decide : 24 + 0 ≤ _)⟩)
            dsimp only [Pt.U, Pt.locs, Pt.cells, Pt.slots] at X44 l44 y44 z44 st44 hQ44
            subst l44 y44 z44
            obtain ⟨rfl, N44q, e44⟩ := hQ44
            have N44 := Fr.app N38 N44q
            refine Gs st44 ?_
            show Goes _ _ _ _ _ (T44.setTop (mkF m 195 #[.val (.int x0), .val (.long x1), .second, .val (.long x2), .second, .val (.int x3), .val (.int lp), .val (.int lt), .val (.int r1), .val (.int r2), .val (.int r3), .val (.int r4), .val (.int r5), .val (.int r6), .val (.int r8), .val (.ref u9), .val (.ref u10), .val (.int (1 : Int32))] [(.int (own_sw (own_str lp r1 r2 r3 (120 : Int32)) (own_str lt r4 r5 r6 r8)))]))
            refine Gs (fun _ tk => XS.iload X44.here hx rfl (hb hby at_195) rfl tk) ?_
            have hc197_45 : (own_sw (own_str lp r1 r2 r3 (120 : Int32)) (own_str lt r4 r5 r6 r8)) = (1 : Int32) := by
              rcases hlp with rfl | rfl | rfl | rfl <;> rcases hlt with rfl | rfl | rfl | rfl | rfl <;> first | exact absurd hc124_11 (by decide) | exact absurd hc136_14 (by decide) | exact absurd hc152_42 (by decide) | exact absurd hc168_43 (by decide) | simp +decide [own_sw, own_str, hc146_39]
            refine Gs (fun _ tk => XS.icmpNo X44.here hx rfl (hb hby at_197) rfl (teq hc197_45).2 tk) ?_
            refine Gs (fun _ tk => XS.iconst X44.here hx rfl (hb hby at_200) tk) ?_
            refine Gs (fun _ tk => XS.goto X44.here hx rfl (pc0 := 201) (pc' := 205) rfl (hb hby at_201) (by decide) (by decide) tk) ?_
            refine Goes.retH X44 hS e44 hk hZ (own_EW hw) hh hR (some (.int (1 : Int32))) (fun h => by rw [hret] at h; cases h) hlk (by decide) (by decide) ?_ (fun fs hr => ?_)
            · rw [e44]; exact ⟨rfl, N44⟩
            · exact own_retN X44 hx (t := .boolean) hret (by simp) rfl (hb hby at_205) hr
          · refine Gs (fun _ tk => XS.icmpNo X38.here hx rfl (hb hby at_168) rfl (flt hc168_43).1 tk) ?_
            refine Gs (fun _ tk => XS.iload X38.here hx rfl (hb hby at_171) rfl tk) ?_
            refine Gs (fun _ tk => XS.iload X38.here hx rfl (hb hby at_173) rfl tk) ?_
            obtain ⟨_, _, ⟨T46, L46, k46, n46⟩, -, X46, ⟨Lc46, hQ46, l46, y46, z46⟩, st46⟩ := Jvm.LawKit.callS X38 hx (y := mN15) hown (mvT hZ (gw hw 61 rfl)) (mvT hZ (gw hw 62 rfl)) (mvT hZ (gw hw 2 rfl)) (mvT hZ (gw hw 63 rfl)) (by decide) (backOf (W := 0) (rm_fits l Z a0 hw [] r3 r6 T10.heap n0 Z0 hLr_6) hZ (gw hw 63 rfl) (gw hw 2 rfl) (by decide) (by decide)) (g := (mkF m 175 #[.val (.int x0), .val (.long x1), .second, .val (.long x2), .second, .val (.int x3), .val (.int lp), .val (.int lt), .val (.int r1), .val (.int r2), .val (.int r3), .val (.int r4), .val (.int r5), .val (.int r6), .val (.int r8), .val (.ref u9), .val (.ref u10), .unset] [(.int r6), (.int r3)])) rfl (by rw [hml]; rfl) (argsL := [(.int r3), (.int r6)]) (rest := []) (lenOf own_pd17 rfl) rfl (w0 (Nat.le_of_eq rfl)) (hb hby at_175) (fun _ _ => ⟨rfl, e38, (by decide : 12 + 0 ≤ _), (by decide : 24 + 0 ≤ _)⟩)
            dsimp only [Pt.U, Pt.locs, Pt.cells, Pt.slots] at X46 l46 y46 z46 st46 hQ46
            subst l46 y46 z46
            obtain ⟨rfl, N46q, e46⟩ := hQ46
            have N46 := Fr.app N38 N46q
            refine Gs st46 ?_
            show Goes _ _ _ _ _ (T46.setTop (mkF m 178 #[.val (.int x0), .val (.long x1), .second, .val (.long x2), .second, .val (.int x3), .val (.int lp), .val (.int lt), .val (.int r1), .val (.int r2), .val (.int r3), .val (.int r4), .val (.int r5), .val (.int r6), .val (.int r8), .val (.ref u9), .val (.ref u10), .unset] [(.int (own_fit2 r3 r6))]))
            by_cases hc178_47 : (own_fit2 r3 r6) = (0 : Int32)
            · refine Gs (fun _ tk => XS.ifYes X46.here hx rfl (pc0 := 178) (pc' := 185) rfl (hb hby at_178) rfl ((if0 _ _).trans (teq hc178_47).1) (by decide) (by decide) tk) ?_
              refine Gs (fun _ tk => XS.iconst X46.here hx rfl (hb hby at_185) tk) ?_
              refine Gs (fun _ tk => XS.istore X46.here hx rfl (hb hby at_186) rfl (l' := #[.val (.int x0), .val (.long x1), .second, .val (.long x2), .second, .val (.int x3), .val (.int lp), .val (.int lt), .val (.int r1), .val (.int r2), .val (.int r3), .val (.int r4), .val (.int r5), .val (.int r6), .val (.int r8), .val (.ref u9), .val (.ref u10), .val (.int (0 : Int32))]) rfl tk) ?_
              refine Gs (fun _ tk => XS.aload X46.here hx rfl (hb hby at_188) rfl rfl tk) ?_
              refine Gs (fun _ tk => XS.aload X46.here hx rfl (hb hby at_190) rfl rfl tk) ?_
              obtain ⟨_, _, ⟨T48, L48, k48, n48⟩, -, X48, ⟨Lc48, hQ48, l48, y48, z48⟩, st48⟩ := Jvm.LawKit.callS X46 hx (y := mN17) hown (mvT hZ (gw hw 36 rfl)) (mvT hZ (gw hw 37 rfl)) (mvT hZ (gw hw 38 rfl)) (mvT hZ (gw hw 39 rfl)) (by decide) (backOf (W := 0) (rm_sw l Z a0 hw [] u10 u9 (own_str lt r4 r5 r6 r8) (own_str lp r1 r2 r3 (120 : Int32)) cz fo T10.heap n0 Z0 T_u10 T_u9 (by rcases hlp with rfl | rfl | rfl | rfl <;> simp [own_str]) S_COMPACT_STRINGS (by first | assumption | decide) S_SIOOBE_FORMATTER (by first | assumption | decide)) hZ (gw hw 39 rfl) (gw hw 38 rfl) (by decide) (by decide)) (g := (mkF m 192 #[.val (.int x0), .val (.long x1), .second, .val (.long x2), .second, .val (.int x3), .val (.int lp), .val (.int lt), .val (.int r1), .val (.int r2), .val (.int r3), .val (.int r4), .val (.int r5), .val (.int r6), .val (.int r8), .val (.ref u9), .val (.ref u10), .val (.int (0 : Int32))] [(.ref u9), (.ref u10)])) rfl (by rw [hml]; rfl) (argsL := [(.ref u10), (.ref u9)]) (rest := []) (lenOf own_pd16 rfl) rfl (w0 (Nat.le_of_eq rfl)) (hb hby at_192) (fun _ _ => ⟨rfl, e46, (by decide : 12 + 0 ≤ _), (by decide : 24 + 0 ≤ _)⟩)
              dsimp only [Pt.U, Pt.locs, Pt.cells, Pt.slots] at X48 l48 y48 z48 st48 hQ48
              subst l48 y48 z48
              obtain ⟨rfl, N48q, e48⟩ := hQ48
              have N48 := Fr.app N46 N48q
              refine Gs st48 ?_
              show Goes _ _ _ _ _ (T48.setTop (mkF m 195 #[.val (.int x0), .val (.long x1), .second, .val (.long x2), .second, .val (.int x3), .val (.int lp), .val (.int lt), .val (.int r1), .val (.int r2), .val (.int r3), .val (.int r4), .val (.int r5), .val (.int r6), .val (.int r8), .val (.ref u9), .val (.ref u10), .val (.int (0 : Int32))] [(.int (own_sw (own_str lp r1 r2 r3 (120 : Int32)) (own_str lt r4 r5 r6 r8)))]))
              refine Gs (fun _ tk => XS.iload X48.here hx rfl (hb hby at_195) rfl tk) ?_
              have hc197_49 : (own_sw (own_str lp r1 r2 r3 (120 : Int32)) (own_str lt r4 r5 r6 r8)) = (0 : Int32) := by
                rcases hlp with rfl | rfl | rfl | rfl <;> rcases hlt with rfl | rfl | rfl | rfl | rfl <;> first | exact absurd hc124_11 (by decide) | exact absurd hc136_14 (by decide) | exact absurd hc152_42 (by decide) | exact absurd hc168_43 (by decide) | simp +decide [own_sw, own_str, hc146_39, hc178_47]
              refine Gs (fun _ tk => XS.icmpNo X48.here hx rfl (hb hby at_197) rfl (teq hc197_49).2 tk) ?_
              refine Gs (fun _ tk => XS.iconst X48.here hx rfl (hb hby at_200) tk) ?_
              refine Gs (fun _ tk => XS.goto X48.here hx rfl (pc0 := 201) (pc' := 205) rfl (hb hby at_201) (by decide) (by decide) tk) ?_
              refine Goes.retH X48 hS e48 hk hZ (own_EW hw) hh hR (some (.int (1 : Int32))) (fun h => by rw [hret] at h; cases h) hlk (by decide) (by decide) ?_ (fun fs hr => ?_)
              · rw [e48]; exact ⟨rfl, N48⟩
              · exact own_retN X48 hx (t := .boolean) hret (by simp) rfl (hb hby at_205) hr
            · refine Gs (fun _ tk => XS.ifNo X46.here hx rfl (hb hby at_178) rfl ((if0 _ _).trans (feq hc178_47).1) tk) ?_
              refine Gs (fun _ tk => XS.iconst X46.here hx rfl (hb hby at_181) tk) ?_
              refine Gs (fun _ tk => XS.goto X46.here hx rfl (pc0 := 182) (pc' := 186) rfl (hb hby at_182) (by decide) (by decide) tk) ?_
              refine Gs (fun _ tk => XS.istore X46.here hx rfl (hb hby at_186) rfl (l' := #[.val (.int x0), .val (.long x1), .second, .val (.long x2), .second, .val (.int x3), .val (.int lp), .val (.int lt), .val (.int r1), .val (.int r2), .val (.int r3), .val (.int r4), .val (.int r5), .val (.int r6), .val (.int r8), .val (.ref u9), .val (.ref u10), .val (.int (1 : Int32))]) rfl tk) ?_
              refine Gs (fun _ tk => XS.aload X46.here hx rfl (hb hby at_188) rfl rfl tk) ?_
              refine Gs (fun _ tk => XS.aload X46.here hx rfl (hb hby at_190) rfl rfl tk) ?_
              show Goes _ _ _ _ _ (T46.setTop (mkF m 192 #[.val (.int x0), .val (.long x1), .second, .val (.long x2), .second, .val (.int x3), .val (.int lp), .val (.int lt), .val (.int r1), .val (.int r2), .val (.int r3), .val (.int r4), .val (.int r5), .val (.int r6), .val (.int r8), .val (.ref u9), .val (.ref u10), .val (.int (1 : Int32))] [(.ref u9), (.ref u10)]))
              obtain ⟨_, _, ⟨T50, L50, k50, n50⟩, -, X50, ⟨Lc50, hQ50, l50, y50, z50⟩, st50⟩ := Jvm.LawKit.callS X46 hx (y := mN17) hown (mvT hZ (gw hw 36 rfl)) (mvT hZ (gw hw 37 rfl)) (mvT hZ (gw hw 38 rfl)) (mvT hZ (gw hw 39 rfl)) (by decide) (backOf (W := 0) (rm_sw l Z a0 hw [] u10 u9 (own_str lt r4 r5 r6 r8) (own_str lp r1 r2 r3 (120 : Int32)) cz fo T10.heap n0 Z0 T_u10 T_u9 (by rcases hlp with rfl | rfl | rfl | rfl <;> simp [own_str]) S_COMPACT_STRINGS (by first | assumption | decide) S_SIOOBE_FORMATTER (by first | assumption | decide)) hZ (gw hw 39 rfl) (gw hw 38 rfl) (by decide) (by decide)) (g := (mkF m 192 #[.val (.int x0), .val (.long x1), .second, .val (.long x2), .second, .val (.int x3), .val (.int lp), .val (.int lt), .val (.int r1), .val (.int r2), .val (.int r3), .val (.int r4), .val (.int r5), .val (.int r6), .val (.int r8), .val (.ref u9), .val (.ref u10), .val (.int (1 : Int32))] [(.ref u9), (.ref u10)])) rfl (by rw [hml]; rfl) (argsL := [(.ref u10), (.ref u9)]) (rest := []) (lenOf own_pd16 rfl) rfl (w0 (Nat.le_of_eq rfl)) (hb hby at_192) (fun _ _ => ⟨rfl, e46, (by decide : 12 + 0 ≤ _), (by decide : 24 + 0 ≤ _)⟩)
              dsimp only [Pt.U, Pt.locs, Pt.cells, Pt.slots] at X50 l50 y50 z50 st50 hQ50
              subst l50 y50 z50
              obtain ⟨rfl, N50q, e50⟩ := hQ50
              have N50 := Fr.app N46 N50q
              refine Gs st50 ?_
              show Goes _ _ _ _ _ (T50.setTop (mkF m 195 #[.val (.int x0), .val (.long x1), .second, .val (.long x2), .second, .val (.int x3), .val (.int lp), .val (.int lt), .val (.int r1), .val (.int r2), .val (.int r3), .val (.int r4), .val (.int r5), .val (.int r6), .val (.int r8), .val (.ref u9), .val (.ref u10), .val (.int (1 : Int32))] [(.int (own_sw (own_str lp r1 r2 r3 (120 : Int32)) (own_str lt r4 r5 r6 r8)))]))
              refine Gs (fun _ tk => XS.iload X50.here hx rfl (hb hby at_195) rfl tk) ?_
              have hc197_51 : (own_sw (own_str lp r1 r2 r3 (120 : Int32)) (own_str lt r4 r5 r6 r8)) = (1 : Int32) := by
                rcases hlp with rfl | rfl | rfl | rfl <;> rcases hlt with rfl | rfl | rfl | rfl | rfl <;> first | exact absurd hc124_11 (by decide) | exact absurd hc136_14 (by decide) | exact absurd hc152_42 (by decide) | exact absurd hc168_43 (by decide) | simp +decide [own_sw, own_str, hc146_39, hc178_47]
              refine Gs (fun _ tk => XS.icmpNo X50.here hx rfl (hb hby at_197) rfl (teq hc197_51).2 tk) ?_
              refine Gs (fun _ tk => XS.iconst X50.here hx rfl (hb hby at_200) tk) ?_
              refine Gs (fun _ tk => XS.goto X50.here hx rfl (pc0 := 201) (pc' := 205) rfl (hb hby at_201) (by decide) (by decide) tk) ?_
              refine Goes.retH X50 hS e50 hk hZ (own_EW hw) hh hR (some (.int (1 : Int32))) (fun h => by rw [hret] at h; cases h) hlk (by decide) (by decide) ?_ (fun fs hr => ?_)
              · rw [e50]; exact ⟨rfl, N50⟩
              · exact own_retN X50 hx (t := .boolean) hret (by simp) rfl (hb hby at_205) hr
        · refine Gs (fun _ tk => XS.icmpNo X38.here hx rfl (hb hby at_152) rfl (flt hc152_42).1 tk) ?_
          refine Gs (fun _ tk => XS.iload X38.here hx rfl (hb hby at_155) rfl tk) ?_
          refine Gs (fun _ tk => XS.iload X38.here hx rfl (hb hby at_157) rfl tk) ?_
          show Goes _ _ _ _ _ (T38.setTop (mkF m 159 #[.val (.int x0), .val (.long x1), .second, .val (.long x2), .second, .val (.int x3), .val (.int lp), .val (.int lt), .val (.int r1), .val (.int r2), .val (.int r3), .val (.int r4), .val (.int r5), .val (.int r6), .val (.int r8), .val (.ref u9), .val (.ref u10), .unset] [(.int r5), (.int r2)]))
          obtain ⟨_, _, ⟨T52, L52, k52, n52⟩, -, X52, ⟨Lc52, hQ52, l52, y52, z52⟩, st52⟩ := Jvm.LawKit.callS X38 hx (y := mN15) hown (mvT hZ (gw hw 61 rfl)) (mvT hZ (gw hw 62 rfl)) (mvT hZ (gw hw 2 rfl)) (mvT hZ (gw hw 63 rfl)) (by decide) (backOf (W := 0) (rm_fits l Z a0 hw [] r2 r5 T10.heap n0 Z0 hLr_5) hZ (gw hw 63 rfl) (gw hw 2 rfl) (by decide) (by decide)) (g := (mkF m 159 #[.val (.int x0), .val (.long x1), .second, .val (.long x2), .second, .val (.int x3), .val (.int lp), .val (.int lt), .val (.int r1), .val (.int r2), .val (.int r3), .val (.int r4), .val (.int r5), .val (.int r6), .val (.int r8), .val (.ref u9), .val (.ref u10), .unset] [(.int r5), (.int r2)])) rfl (by rw [hml]; rfl) (argsL := [(.int r2), (.int r5)]) (rest := []) (lenOf own_pd17 rfl) rfl (w0 (Nat.le_of_eq rfl)) (hb hby at_159) (fun _ _ => ⟨rfl, e38, (by decide : 12 + 0 ≤ _), (by decide : 24 + 0 ≤ _)⟩)
          dsimp only [Pt.U, Pt.locs, Pt.cells, Pt.slots] at X52 l52 y52 z52 st52 hQ52
          subst l52 y52 z52
          obtain ⟨rfl, N52q, e52⟩ := hQ52
          have N52 := Fr.app N38 N52q
          refine Gs st52 ?_
          show Goes _ _ _ _ _ (T52.setTop (mkF m 162 #[.val (.int x0), .val (.long x1), .second, .val (.long x2), .second, .val (.int x3), .val (.int lp), .val (.int lt), .val (.int r1), .val (.int r2), .val (.int r3), .val (.int r4), .val (.int r5), .val (.int r6), .val (.int r8), .val (.ref u9), .val (.ref u10), .unset] [(.int (own_fit2 r2 r5))]))
          by_cases hc162_53 : (own_fit2 r2 r5) = (0 : Int32)
          · refine Gs (fun _ tk => XS.ifYes X52.here hx rfl (pc0 := 162) (pc' := 185) rfl (hb hby at_162) rfl ((if0 _ _).trans (teq hc162_53).1) (by decide) (by decide) tk) ?_
            refine Gs (fun _ tk => XS.iconst X52.here hx rfl (hb hby at_185) tk) ?_
            refine Gs (fun _ tk => XS.istore X52.here hx rfl (hb hby at_186) rfl (l' := #[.val (.int x0), .val (.long x1), .second, .val (.long x2), .second, .val (.int x3), .val (.int lp), .val (.int lt), .val (.int r1), .val (.int r2), .val (.int r3), .val (.int r4), .val (.int r5), .val (.int r6), .val (.int r8), .val (.ref u9), .val (.ref u10), .val (.int (0 : Int32))]) rfl tk) ?_
            refine Gs (fun _ tk => XS.aload X52.here hx rfl (hb hby at_188) rfl rfl tk) ?_
            refine Gs (fun _ tk => XS.aload X52.here hx rfl (hb hby at_190) rfl rfl tk) ?_
            obtain ⟨_, _, ⟨T54, L54, k54, n54⟩, -, X54, ⟨Lc54, hQ54, l54, y54, z54⟩, st54⟩ := Jvm.LawKit.callS X52 hx (y := mN17) hown (mvT hZ (gw hw 36 rfl)) (mvT hZ (gw hw 37 rfl)) (mvT hZ (gw hw 38 rfl)) (mvT hZ (gw hw 39 rfl)) (by decide) (backOf (W := 0) (rm_sw l Z a0 hw [] u10 u9 (own_str lt r4 r5 r6 r8) (own_str lp r1 r2 r3 (120 : Int32)) cz fo T10.heap n0 Z0 T_u10 T_u9 (by rcases hlp with rfl | rfl | rfl | rfl <;> simp [own_str]) S_COMPACT_STRINGS (by first | assumption | decide) S_SIOOBE_FORMATTER (by first | assumption | decide)) hZ (gw hw 39 rfl) (gw hw 38 rfl) (by decide) (by decide)) (g := (mkF m 192 #[.val (.int x0), .val (.long x1), .second, .val (.long x2), .second, .val (.int x3), .val (.int lp), .val (.int lt), .val (.int r1), .val (.int r2), .val (.int r3), .val (.int r4), .val (.int r5), .val (.int r6), .val (.int r8), .val (.ref u9), .val (.ref u10), .val (.int (0 : Int32))] [(.ref u9), (.ref u10)])) rfl (by rw [hml]; rfl) (argsL := [(.ref u10), (.ref u9)]) (rest := []) (lenOf own_pd16 rfl) rfl (w0 (Nat.le_of_eq rfl)) (hb hby at_192) (fun _ _ => ⟨rfl, e52, (by decide : 12 + 0 ≤ _), (by decide : 24 + 0 ≤ _)⟩)
            dsimp only [Pt.U, Pt.locs, Pt.cells, Pt.slots] at X54 l54 y54 z54 st54 hQ54
            subst l54 y54 z54
            obtain ⟨rfl, N54q, e54⟩ := hQ54
            have N54 := Fr.app N52 N54q
            refine Gs st54 ?_
            show Goes _ _ _ _ _ (T54.setTop (mkF m 195 #[.val (.int x0), .val (.long x1), .second, .val (.long x2), .second, .val (.int x3), .val (.int lp), .val (.int lt), .val (.int r1), .val (.int r2), .val (.int r3), .val (.int r4), .val (.int r5), .val (.int r6), .val (.int r8), .val (.ref u9), .val (.ref u10), .val (.int (0 : Int32))] [(.int (own_sw (own_str lp r1 r2 r3 (120 : Int32)) (own_str lt r4 r5 r6 r8)))]))
            refine Gs (fun _ tk => XS.iload X54.here hx rfl (hb hby at_195) rfl tk) ?_
            have hc197_55 : (own_sw (own_str lp r1 r2 r3 (120 : Int32)) (own_str lt r4 r5 r6 r8)) = (0 : Int32) := by
              rcases hlp with rfl | rfl | rfl | rfl <;> rcases hlt with rfl | rfl | rfl | rfl | rfl <;> first | exact absurd hc124_11 (by decide) | exact absurd hc136_14 (by decide) | exact absurd hc152_42 (by decide) | simp +decide [own_sw, own_str, hc146_39, hc162_53]
            refine Gs (fun _ tk => XS.icmpNo X54.here hx rfl (hb hby at_197) rfl (teq hc197_55).2 tk) ?_
            refine Gs (fun _ tk => XS.iconst X54.here hx rfl (hb hby at_200) tk) ?_
            refine Gs (fun _ tk => XS.goto X54.here hx rfl (pc0 := 201) (pc' := 205) rfl (hb hby at_201) (by decide) (by decide) tk) ?_
            refine Goes.retH X54 hS e54 hk hZ (own_EW hw) hh hR (some (.int (1 : Int32))) (fun h => by rw [hret] at h; cases h) hlk (by decide) (by decide) ?_ (fun fs hr => ?_)
            · rw [e54]; exact ⟨rfl, N54⟩
            · exact own_retN X54 hx (t := .boolean) hret (by simp) rfl (hb hby at_205) hr
          · refine Gs (fun _ tk => XS.ifNo X52.here hx rfl (hb hby at_162) rfl ((if0 _ _).trans (feq hc162_53).1) tk) ?_
            refine Gs (fun _ tk => XS.iload X52.here hx rfl (hb hby at_165) rfl tk) ?_
            refine Gs (fun _ tk => XS.iconst X52.here hx rfl (hb hby at_167) tk) ?_
            by_cases hc168_56 : lp < (3 : Int32)
            · refine Gs (fun _ tk => XS.icmpYes X52.here hx rfl (pc0 := 168) (pc' := 181) rfl (hb hby at_168) rfl (tlt hc168_56).1 (by decide) (by decide) tk) ?_
              refine Gs (fun _ tk => XS.iconst X52.here hx rfl (hb hby at_181) tk) ?_
              refine Gs (fun _ tk => XS.goto X52.here hx rfl (pc0 := 182) (pc' := 186) rfl (hb hby at_182) (by decide) (by decide) tk) ?_
              show Goes _ _ _ _ _ (T52.setTop (mkF m 186 #[.val (.int x0), .val (.long x1), .second, .val (.long x2), .second, .val (.int x3), .val (.int lp), .val (.int lt), .val (.int r1), .val (.int r2), .val (.int r3), .val (.int r4), .val (.int r5), .val (.int r6), .val (.int r8), .val (.ref u9), .val (.ref u10), .unset] [(.int (1 : Int32))]))
              refine Gs (fun _ tk => XS.istore X52.here hx rfl (hb hby at_186) rfl (l' := #[.val (.int x0), .val (.long x1), .second, .val (.long x2), .second, .val (.int x3), .val (.int lp), .val (.int lt), .val (.int r1), .val (.int r2), .val (.int r3), .val (.int r4), .val (.int r5), .val (.int r6), .val (.int r8), .val (.ref u9), .val (.ref u10), .val (.int (1 : Int32))]) rfl tk) ?_
              refine Gs (fun _ tk => XS.aload X52.here hx rfl (hb hby at_188) rfl rfl tk) ?_
              refine Gs (fun _ tk => XS.aload X52.here hx rfl (hb hby at_190) rfl rfl tk) ?_
              obtain ⟨_, _, ⟨T57, L57, k57, n57⟩, -, X57, ⟨Lc57, hQ57, l57, y57, z57⟩, st57⟩ := Jvm.LawKit.callS X52 hx (y := mN17) hown (mvT hZ (gw hw 36 rfl)) (mvT hZ (gw hw 37 rfl)) (mvT hZ (gw hw 38 rfl)) (mvT hZ (gw hw 39 rfl)) (by decide) (backOf (W := 0) (rm_sw l Z a0 hw [] u10 u9 (own_str lt r4 r5 r6 r8) (own_str lp r1 r2 r3 (120 : Int32)) cz fo T10.heap n0 Z0 T_u10 T_u9 (by rcases hlp with rfl | rfl | rfl | rfl <;> simp [own_str]) S_COMPACT_STRINGS (by first | assumption | decide) S_SIOOBE_FORMATTER (by first | assumption | decide)) hZ (gw hw 39 rfl) (gw hw 38 rfl) (by decide) (by decide)) (g := (mkF m 192 #[.val (.int x0), .val (.long x1), .second, .val (.long x2), .second, .val (.int x3), .val (.int lp), .val (.int lt), .val (.int r1), .val (.int r2), .val (.int r3), .val (.int r4), .val (.int r5), .val (.int r6), .val (.int r8), .val (.ref u9), .val (.ref u10), .val (.int (1 : Int32))] [(.ref u9), (.ref u10)])) rfl (by rw [hml]; rfl) (argsL := [(.ref u10), (.ref u9)]) (rest := []) (lenOf own_pd16 rfl) rfl (w0 (Nat.le_of_eq rfl)) (hb hby at_192) (fun _ _ => ⟨rfl, e52, (by decide : 12 + 0 ≤ _), (by decide : 24 + 0 ≤ _)⟩)
              dsimp only [Pt.U, Pt.locs, Pt.cells, Pt.slots] at X57 l57 y57 z57 st57 hQ57
              subst l57 y57 z57
              obtain ⟨rfl, N57q, e57⟩ := hQ57
              have N57 := Fr.app N52 N57q
              refine Gs st57 ?_
              show Goes _ _ _ _ _ (T57.setTop (mkF m 195 #[.val (.int x0), .val (.long x1), .second, .val (.long x2), .second, .val (.int x3), .val (.int lp), .val (.int lt), .val (.int r1), .val (.int r2), .val (.int r3), .val (.int r4), .val (.int r5), .val (.int r6), .val (.int r8), .val (.ref u9), .val (.ref u10), .val (.int (1 : Int32))] [(.int (own_sw (own_str lp r1 r2 r3 (120 : Int32)) (own_str lt r4 r5 r6 r8)))]))
              refine Gs (fun _ tk => XS.iload X57.here hx rfl (hb hby at_195) rfl tk) ?_
              have hc197_58 : (own_sw (own_str lp r1 r2 r3 (120 : Int32)) (own_str lt r4 r5 r6 r8)) = (1 : Int32) := by
                rcases hlp with rfl | rfl | rfl | rfl <;> rcases hlt with rfl | rfl | rfl | rfl | rfl <;> first | exact absurd hc124_11 (by decide) | exact absurd hc136_14 (by decide) | exact absurd hc152_42 (by decide) | exact absurd hc168_56 (by decide) | simp +decide [own_sw, own_str, hc146_39, hc162_53]
              refine Gs (fun _ tk => XS.icmpNo X57.here hx rfl (hb hby at_197) rfl (teq hc197_58).2 tk) ?_
              refine Gs (fun _ tk => XS.iconst X57.here hx rfl (hb hby at_200) tk) ?_
              refine Gs (fun _ tk => XS.goto X57.here hx rfl (pc0 := 201) (pc' := 205) rfl (hb hby at_201) (by decide) (by decide) tk) ?_
              refine Goes.retH X57 hS e57 hk hZ (own_EW hw) hh hR (some (.int (1 : Int32))) (fun h => by rw [hret] at h; cases h) hlk (by decide) (by decide) ?_ (fun fs hr => ?_)
              · rw [e57]; exact ⟨rfl, N57⟩
              · exact own_retN X57 hx (t := .boolean) hret (by simp) rfl (hb hby at_205) hr
            · refine Gs (fun _ tk => XS.icmpNo X52.here hx rfl (hb hby at_168) rfl (flt hc168_56).1 tk) ?_
              refine Gs (fun _ tk => XS.iload X52.here hx rfl (hb hby at_171) rfl tk) ?_
              refine Gs (fun _ tk => XS.iload X52.here hx rfl (hb hby at_173) rfl tk) ?_
              show Goes _ _ _ _ _ (T52.setTop (mkF m 175 #[.val (.int x0), .val (.long x1), .second, .val (.long x2), .second, .val (.int x3), .val (.int lp), .val (.int lt), .val (.int r1), .val (.int r2), .val (.int r3), .val (.int r4), .val (.int r5), .val (.int r6), .val (.int r8), .val (.ref u9), .val (.ref u10), .unset] [(.int r6), (.int r3)]))
              obtain ⟨_, _, ⟨T59, L59, k59, n59⟩, -, X59, ⟨Lc59, hQ59, l59, y59, z59⟩, st59⟩ := Jvm.LawKit.callS X52 hx (y := mN15) hown (mvT hZ (gw hw 61 rfl)) (mvT hZ (gw hw 62 rfl)) (mvT hZ (gw hw 2 rfl)) (mvT hZ (gw hw 63 rfl)) (by decide) (backOf (W := 0) (rm_fits l Z a0 hw [] r3 r6 T10.heap n0 Z0 hLr_6) hZ (gw hw 63 rfl) (gw hw 2 rfl) (by decide) (by decide)) (g := (mkF m 175 #[.val (.int x0), .val (.long x1), .second, .val (.long x2), .second, .val (.int x3), .val (.int lp), .val (.int lt), .val (.int r1), .val (.int r2), .val (.int r3), .val (.int r4), .val (.int r5), .val (.int r6), .val (.int r8), .val (.ref u9), .val (.ref u10), .unset] [(.int r6), (.int r3)])) rfl (by rw [hml]; rfl) (argsL := [(.int r3), (.int r6)]) (rest := []) (lenOf own_pd17 rfl) rfl (w0 (Nat.le_of_eq rfl)) (hb hby at_175) (fun _ _ => ⟨rfl, e52, (by decide : 12 + 0 ≤ _), (by decide : 24 + 0 ≤ _)⟩)
              dsimp only [Pt.U, Pt.locs, Pt.cells, Pt.slots] at X59 l59 y59 z59 st59 hQ59
              subst l59 y59 z59
              obtain ⟨rfl, N59q, e59⟩ := hQ59
              have N59 := Fr.app N52 N59q
              refine Gs st59 ?_
              show Goes _ _ _ _ _ (T59.setTop (mkF m 178 #[.val (.int x0), .val (.long x1), .second, .val (.long x2), .second, .val (.int x3), .val (.int lp), .val (.int lt), .val (.int r1), .val (.int r2), .val (.int r3), .val (.int r4), .val (.int r5), .val (.int r6), .val (.int r8), .val (.ref u9), .val (.ref u10), .unset] [(.int (own_fit2 r3 r6))]))
              by_cases hc178_60 : (own_fit2 r3 r6) = (0 : Int32)
              · refine Gs (fun _ tk => XS.ifYes X59.here hx rfl (pc0 := 178) (pc' := 185) rfl (hb hby at_178) rfl ((if0 _ _).trans (teq hc178_60).1) (by decide) (by decide) tk) ?_
                refine Gs (fun _ tk => XS.iconst X59.here hx rfl (hb hby at_185) tk) ?_
                refine Gs (fun _ tk => XS.istore X59.here hx rfl (hb hby at_186) rfl (l' := #[.val (.int x0), .val (.long x1), .second, .val (.long x2), .second, .val (.int x3), .val (.int lp), .val (.int lt), .val (.int r1), .val (.int r2), .val (.int r3), .val (.int r4), .val (.int r5), .val (.int r6), .val (.int r8), .val (.ref u9), .val (.ref u10), .val (.int (0 : Int32))]) rfl tk) ?_
                refine Gs (fun _ tk => XS.aload X59.here hx rfl (hb hby at_188) rfl rfl tk) ?_
                refine Gs (fun _ tk => XS.aload X59.here hx rfl (hb hby at_190) rfl rfl tk) ?_
                obtain ⟨_, _, ⟨T61, L61, k61, n61⟩, -, X61, ⟨Lc61, hQ61, l61, y61, z61⟩, st61⟩ := Jvm.LawKit.callS X59 hx (y := mN17) hown (mvT hZ (gw hw 36 rfl)) (mvT hZ (gw hw 37 rfl)) (mvT hZ (gw hw 38 rfl)) (mvT hZ (gw hw 39 rfl)) (by decide) (backOf (W := 0) (rm_sw l Z a0 hw [] u10 u9 (own_str lt r4 r5 r6 r8) (own_str lp r1 r2 r3 (120 : Int32)) cz fo T10.heap n0 Z0 T_u10 T_u9 (by rcases hlp with rfl | rfl | rfl | rfl <;> simp [own_str]) S_COMPACT_STRINGS (by first | assumption | decide) S_SIOOBE_FORMATTER (by first | assumption | decide)) hZ (gw hw 39 rfl) (gw hw 38 rfl) (by decide) (by decide)) (g := (mkF m 192 #[.val (.int x0), .val (.long x1), .second, .val (.long x2), .second, .val (.int x3), .val (.int lp), .val (.int lt), .val (.int r1), .val (.int r2), .val (.int r3), .val (.int r4), .val (.int r5), .val (.int r6), .val (.int r8), .val (.ref u9), .val (.ref u10), .val (.int (0 : Int32))] [(.ref u9), (.ref u10)])) rfl (by rw [hml]; rfl) (argsL := [(.ref u10), (.ref u9)]) (rest := []) (lenOf own_pd16 rfl) rfl (w0 (Nat.le_of_eq rfl)) (hb hby at_192) (fun _ _ => ⟨rfl, e59, (by decide : 12 + 0 ≤ _), (by decide : 24 + 0 ≤ _)⟩)
                dsimp only [Pt.U, Pt.locs, Pt.cells, Pt.slots] at X61 l61 y61 z61 st61 hQ61
                subst l61 y61 z61
                obtain ⟨rfl, N61q, e61⟩ := hQ61
                have N61 := Fr.app N59 N61q
                refine Gs st61 ?_
                show Goes _ _ _ _ _ (T61.setTop (mkF m 195 #[.val (.int x0), .val (.long x1), .second, .val (.long x2), .second, .val (.int x3), .val (.int lp), .val (.int lt), .val (.int r1), .val (.int r2), .val (.int r3), .val (.int r4), .val (.int r5), .val (.int r6), .val (.int r8), .val (.ref u9), .val (.ref u10), .val (.int (0 : Int32))] [(.int (own_sw (own_str lp r1 r2 r3 (120 : Int32)) (own_str lt r4 r5 r6 r8)))]))
                refine Gs (fun _ tk => XS.iload X61.here hx rfl (hb hby at_195) rfl tk) ?_
                have hc197_62 : (own_sw (own_str lp r1 r2 r3 (120 : Int32)) (own_str lt r4 r5 r6 r8)) = (0 : Int32) := by
                  rcases hlp with rfl | rfl | rfl | rfl <;> rcases hlt with rfl | rfl | rfl | rfl | rfl <;> first | exact absurd hc124_11 (by decide) | exact absurd hc136_14 (by decide) | exact absurd hc152_42 (by decide) | exact absurd hc168_56 (by decide) | simp +decide [own_sw, own_str, hc146_39, hc162_53, hc178_60]
                refine Gs (fun _ tk => XS.icmpNo X61.here hx rfl (hb hby at_197) rfl (teq hc197_62).2 tk) ?_
                refine Gs (fun _ tk => XS.iconst X61.here hx rfl (hb hby at_200) tk) ?_
                refine Gs (fun _ tk => XS.goto X61.here hx rfl (pc0 := 201) (pc' := 205) rfl (hb hby at_201) (by decide) (by decide) tk) ?_
                refine Goes.retH X61 hS e61 hk hZ (own_EW hw) hh hR (some (.int (1 : Int32))) (fun h => by rw [hret] at h; cases h) hlk (by decide) (by decide) ?_ (fun fs hr => ?_)
                · rw [e61]; exact ⟨rfl, N61⟩
                · exact own_retN X61 hx (t := .boolean) hret (by simp) rfl (hb hby at_205) hr
              · refine Gs (fun _ tk => XS.ifNo X59.here hx rfl (hb hby at_178) rfl ((if0 _ _).trans (feq hc178_60).1) tk) ?_
                refine Gs (fun _ tk => XS.iconst X59.here hx rfl (hb hby at_181) tk) ?_
                refine Gs (fun _ tk => XS.goto X59.here hx rfl (pc0 := 182) (pc' := 186) rfl (hb hby at_182) (by decide) (by decide) tk) ?_
                refine Gs (fun _ tk => XS.istore X59.here hx rfl (hb hby at_186) rfl (l' := #[.val (.int x0), .val (.long x1), .second, .val (.long x2), .second, .val (.int x3), .val (.int lp), .val (.int lt), .val (.int r1), .val (.int r2), .val (.int r3), .val (.int r4), .val (.int r5), .val (.int r6), .val (.int r8), .val (.ref u9), .val (.ref u10), .val (.int (1 : Int32))]) rfl tk) ?_
                refine Gs (fun _ tk => XS.aload X59.here hx rfl (hb hby at_188) rfl rfl tk) ?_
                refine Gs (fun _ tk => XS.aload X59.here hx rfl (hb hby at_190) rfl rfl tk) ?_
                show Goes _ _ _ _ _ (T59.setTop (mkF m 192 #[.val (.int x0), .val (.long x1), .second, .val (.long x2), .second, .val (.int x3), .val (.int lp), .val (.int lt), .val (.int r1), .val (.int r2), .val (.int r3), .val (.int r4), .val (.int r5), .val (.int r6), .val (.int r8), .val (.ref u9), .val (.ref u10), .val (.int (1 : Int32))] [(.ref u9), (.ref u10)]))
                obtain ⟨_, _, ⟨T63, L63, k63, n63⟩, -, X63, ⟨Lc63, hQ63, l63, y63, z63⟩, st63⟩ := Jvm.LawKit.callS X59 hx (y := mN17) hown (mvT hZ (gw hw 36 rfl)) (mvT hZ (gw hw 37 rfl)) (mvT hZ (gw hw 38 rfl)) (mvT hZ (gw hw 39 rfl)) (by decide) (backOf (W := 0) (rm_sw l Z a0 hw [] u10 u9 (own_str lt r4 r5 r6 r8) (own_str lp r1 r2 r3 (120 : Int32)) cz fo T10.heap n0 Z0 T_u10 T_u9 (by rcases hlp with rfl | rfl | rfl | rfl <;> simp [own_str]) S_COMPACT_STRINGS (by first | assumption | decide) S_SIOOBE_FORMATTER (by first | assumption | decide)) hZ (gw hw 39 rfl) (gw hw 38 rfl) (by decide) (by decide)) (g := (mkF m 192 #[.val (.int x0), .val (.long x1), .second, .val (.long x2), .second, .val (.int x3), .val (.int lp), .val (.int lt), .val (.int r1), .val (.int r2), .val (.int r3), .val (.int r4), .val (.int r5), .val (.int r6), .val (.int r8), .val (.ref u9), .val (.ref u10), .val (.int (1 : Int32))] [(.ref u9), (.ref u10)])) rfl (by rw [hml]; rfl) (argsL := [(.ref u10), (.ref u9)]) (rest := []) (lenOf own_pd16 rfl) rfl (w0 (Nat.le_of_eq rfl)) (hb hby at_192) (fun _ _ => ⟨rfl, e59, (by decide : 12 + 0 ≤ _), (by decide : 24 + 0 ≤ _)⟩)
                dsimp only [Pt.U, Pt.locs, Pt.cells, Pt.slots] at X63 l63 y63 z63 st63 hQ63
                subst l63 y63 z63
                obtain ⟨rfl, N63q, e63⟩ := hQ63
                have N63 := Fr.app N59 N63q
                refine Gs st63 ?_
                show Goes _ _ _ _ _ (T63.setTop (mkF m 195 #[.val (.int x0), .val (.long x1), .second, .val (.long x2), .second, .val (.int x3), .val (.int lp), .val (.int lt), .val (.int r1), .val (.int r2), .val (.int r3), .val (.int r4), .val (.int r5), .val (.int r6), .val (.int r8), .val (.ref u9), .val (.ref u10), .val (.int (1 : Int32))] [(.int (own_sw (own_str lp r1 r2 r3 (120 : Int32)) (own_str lt r4 r5 r6 r8)))]))
                refine Gs (fun _ tk => XS.iload X63.here hx rfl (hb hby at_195) rfl tk) ?_
                have hc197_64 : (own_sw (own_str lp r1 r2 r3 (120 : Int32)) (own_str lt r4 r5 r6 r8)) = (1 : Int32) := by
                  rcases hlp with rfl | rfl | rfl | rfl <;> rcases hlt with rfl | rfl | rfl | rfl | rfl <;> first | exact absurd hc124_11 (by decide) | exact absurd hc136_14 (by decide) | exact absurd hc152_42 (by decide) | exact absurd hc168_56 (by decide) | simp +decide [own_sw, own_str, hc146_39, hc162_53, hc178_60]
                refine Gs (fun _ tk => XS.icmpNo X63.here hx rfl (hb hby at_197) rfl (teq hc197_64).2 tk) ?_
                refine Gs (fun _ tk => XS.iconst X63.here hx rfl (hb hby at_200) tk) ?_
                refine Gs (fun _ tk => XS.goto X63.here hx rfl (pc0 := 201) (pc' := 205) rfl (hb hby at_201) (by decide) (by decide) tk) ?_
                refine Goes.retH X63 hS e63 hk hZ (own_EW hw) hh hR (some (.int (1 : Int32))) (fun h => by rw [hret] at h; cases h) hlk (by decide) (by decide) ?_ (fun fs hr => ?_)
                · rw [e63]; exact ⟨rfl, N63⟩
                · exact own_retN X63 hx (t := .boolean) hret (by simp) rfl (hb hby at_205) hr
set_option maxRecDepth 65536 in
set_option maxHeartbeats 40000000 in
theorem comes_1 {Post : Tables → Env → Array Value → State → Outcome → State → Prop} (hpost : ∀ tb e args s v u, (limb_1_1.after args s (.returned v) u = true ∧ limb_1_2.after args s (.returned v) u = true ∧ True) → ReturnedEndW s (.returned v) u (Jvm.fieldLocs frame_1_writes args s ++ Jvm.arrayLocs frame_1_arrays args s ++ Jvm.staticLocs frame_1_statics s) 24 1152 → Post tb e args s (.returned v) u) :
    ArmFor flags0 classFile x code maxLocals ret World_1 tables_1 room_1 Calls_1 rest_1 Pre_1 Post := by
  intro l hfl _ _ p e ha hc hk s m args below hf hA hF happ hP
  obtain ⟨hcalls, hrest, hpre⟩ := hP
  obtain ⟨-, -, -, hnamed, -, -, -, hat⟩ := (Spec.applies_iff hf).mp happ
  obtain ⟨hg, hn⟩ := and_e (Cond.before_iff.mp (show (Jvm.Cond.and given_1 narrow_1).before args s = true from hpre))
  obtain ⟨g0, hg0⟩ := and_e hg
  obtain ⟨ga0, hg0'⟩ := and_e hg0
  obtain ⟨ga1, hg0''⟩ := and_e hg0'
  obtain ⟨ga2, hg0'''⟩ := and_e hg0''
  obtain ⟨w0, w1, w2, w3, rfl⟩ : ∃ w0 w1 w2 w3 : Value, args = #[w0, w1, w2, w3] := by
    have hs : args.size = 4 := by simpa [Cond.value, given_1] using g0
    obtain ⟨L⟩ := args
    match L, hs with
    | [w0, w1, w2, w3], _ => exact ⟨w0, w1, w2, w3, rfl⟩
  have hw := fun d (hd : d ∈ tables_1) => atoms_spec (ws := Jvm.Cond.code x code maxLocals ret :: tables_1) hat d (List.mem_cons_of_mem _ hd)
  have hfit : Fit s := fun {y c} hc i hi => by
    obtain ⟨ha, rfl⟩ := Array.getElem?_eq_some_iff.mp hc
    have q := List.all_eq_true.mp ((Array.all_eq_true_iff_forall_mem.mp hF) _ (Array.getElem_mem ha)) i (List.mem_range.mpr hi)
    simpa [Array.getElem?_eq_getElem hi] using q
  obtain ⟨hsets, hown0⟩ := atoms_of _ (rest_1_c_eq ▸ (show rest_1_c.before _ s = true from hrest))
  have hr0 := Cond.before_iff.mp hown0
  obtain ⟨i0, ei0⟩ := is_v ga0
  obtain rfl : w0 = (.int i0) := Option.some.inj ei0
  obtain ⟨i1, ei1⟩ := isL_v ga1
  obtain rfl : w1 = (.long i1) := Option.some.inj ei1
  obtain ⟨i2, ei2⟩ := isL_v ga2
  obtain rfl : w2 = (.long i2) := Option.some.inj ei2
  obtain ⟨i3, ei3⟩ := is_v hg0'''
  obtain rfl : w3 = (.int i3) := Option.some.inj ei3
  obtain ⟨cz, evc⟩ := is_v (Cond.before_iff.mp (hsets _ (List.mem_of_getElem? (i := 1) rfl)))
  have S_c := Sta.start evc (Or.inl (hsets _ (List.mem_of_getElem? (i := 0) rfl)))
  have hcz : ¬ (cz = (0 : Int32)) := gotF (Cond.eq_ints evc rfl) (not_v (Cond.before_iff.mp (hsets _ (List.mem_of_getElem? (i := 2) rfl))))
  obtain ⟨fo, evf, r_fo⟩ := isR_v (Cond.before_iff.mp (hsets _ (List.mem_of_getElem? (i := 8) rfl)))
  have S_f := Sta.start evf (Or.inl (hsets _ (List.mem_of_getElem? (i := 7) rfl)))
  have hCH : CHv s consts_1 s.vm s.heap := CHv.start (own_EW hw) hcalls.1 (hsets _ (List.mem_of_getElem? (i := 2) rfl)) (gw hw 29 rfl) (gw hw 15 rfl)
  obtain ⟨n, o, h1, h2, h3, _, L, rfl, ⟨rfl, N⟩, hq⟩ := rm_law l s _ hw tables_1 i0 i1 i2 i3 cz fo s.heap s.heap.size (Nat.le_refl _) S_c hcz S_f r_fo p e ha hc hk s m _ below hf ((Spec.applies_iff_loose hf).mp happ).1 ⟨rfl, State.Warmed39.refl s, rfl, hCH⟩ trivial
  refine ⟨n, _, h1, h2, h3, hpost _ _ _ _ _ _ ⟨Cond.after_iff.mpr rfl, Cond.after_iff.mpr (eq_i res_at (Term.int_eval (1)) rfl), trivial⟩ ⟨hq.2.1, hq.2.2.1, hq.2.2.2.1, (hq.2.2.2.2.sift fun y hy => Or.inr (N y hy)).mono (by decide) (by decide)⟩⟩
theorem main_1_1 : Claimed_1_1 := comes_1 fun _ _ _ _ _ _ h hF => ⟨h.1, hF⟩
theorem main_1_2 : Claimed_1_2 := comes_1 fun _ _ _ _ _ _ h hF => ⟨h.2.1, hF⟩
end Jvm.Pilot.@@N@@
namespace Jvm.Pilot.@@N@@
open Jvm Jvm.ClassFile Sem Op Lib Jvm.Free Jvm.Stand Jvm.Pilot.@@N@@.Jvm.D
/-! MADE BY PROGRAM (witnessworld.py) out of the Statement's table words and the real class files: 20 classes; the members and pool entries that the words name. The judged class is class 1, her method 1. -/
namespace start1
open Jvm.ClassFile
def u (s : String) : CpInfo := .utf8 (stringToUtf16 s)
/-- a pool by its gaps: so many unusable entries, then the entry; so many at the end -/
def gap : Nat → List CpInfo → List CpInfo
  | 0, r => r
  | n + 1, r => .unusable :: gap n r
def poolList (es : List (Nat × CpInfo)) (last : Nat) : List CpInfo := es.foldr (fun e r => gap e.1 (e.2 :: r)) (gap last [])
def pool (es : List (Nat × CpInfo)) (last : Nat) : Array CpInfo := ⟨poolList es last⟩
def fileOf (pool : Array CpInfo) (this : Nat) (attrs : Array Attribute := #[]) (ms : Array MethodInfo := #[]) (fl : Nat := 33) (sup : Nat := 0) (ifs : Array Nat := #[]) (fds : Array FieldInfo := #[]) : ClassFile where
  minorVersion := 0
  majorVersion := 65
  constantPool := pool
  accessFlags := fl
  thisClass := this
  superClass := sup
  interfaces := ifs
  fields := fds
  methods := ms
  attributes := attrs
def plain (name : String) (sup : Option ClassId) : Class where
  name := name
  kind := .ordinary
  loader := none
  accessFlags := 33
  super := sup
  interfaces := #[]
  cf := none
  fields := #[]
  methods := #[]
  instanceTypes := #[]
  staticTypes := #[]
  resolved := #[]
  callSites := []
  init := .initialized
  statics := none
  mirror := none

def pool0 : Array CpInfo := pool [(5, u "<init>"), (0, u "()V"), (1, .class_ 10), (1, u "java/lang/Object")] 113

def k0c0 : Code := { maxStack := 0, maxLocals := 1, code := object_method_1_code, exceptionTable := #[], attributes := #[] }
def k0m0 : Method := { name := "<init>", desc := "()V", sig := { parameters := [], returnType := none }, accessFlags := 1, code := some k0c0 }
/-- java/lang/Object -/
def k0 : Class := { plain "java/lang/Object" none with
  accessFlags := 33
  interfaces := #[]
  cf := some (fileOf pool0 8 #[] #[{ accessFlags := 1, nameIndex := 5, descriptorIndex := 6, attributes := #[] }] 33 0 #[] #[])
  fields := #[]
  methods := #[k0m0]
  instanceTypes := #[]
  staticTypes := #[]
  resolved := Array.replicate 124 none
  statics := none }

def pool1 : Array CpInfo := pool [(2, .class_ 4), (1, u "java/lang/Object"), (0, u "<init>"), (0, u "()V"), (0, .methodref 8 9), (0, .class_ 10), (0, .nameAndType 11 12), (0, u "com/example/token_into_keys/tokenintokeys/text/TextShapeStartsWithPinLaw"), (0, u "tpl"), (0, u "(JII)C"), (0, .methodref 8 14), (0, .nameAndType 15 16), (0, u "txt"), (0, u "(JIIC)C"), (0, .methodref 8 18), (0, .nameAndType 19 20), (0, u "raw"), (0, u "(JI)I"), (0, .methodref 8 22), (0, .nameAndType 23 24), (0, u "str"), (0, u "(ICCCC)Ljava/lang/String;"), (0, .methodref 8 26), (0, .nameAndType 27 28), (0, u "fits"), (0, u "(CC)Z"), (0, .methodref 30 31), (0, .class_ 32), (0, .nameAndType 33 34), (0, u "com/example/token_into_keys/tokenintokeys/text/TextShape"), (0, u "startsWith"), (0, u "(Ljava/lang/String;Ljava/lang/String;)Z"), (0, .long 255), (1, .class_ 38), (0, u "java/lang/String"), (0, .methodref 37 40), (0, .nameAndType 5 41), (0, u "([C)V"), (2, u "law"), (0, u "(IJJI)Z")] 3

def k1m0 : Method := { name := "<init>", desc := "()V", sig := { parameters := [], returnType := none }, accessFlags := 1, code := none }
def k1c1 : Code := { maxStack := 7, maxLocals := 18, code := code, exceptionTable := #[], attributes := #[] }
def k1m1 : Method := { name := "law", desc := "(IJJI)Z", sig := { parameters := [.int, .long, .long, .int], returnType := some .boolean }, accessFlags := 9, code := some k1c1 }
def k1c2 : Code := { maxStack := 4, maxLocals := 3, code := method_3_code, exceptionTable := #[], attributes := #[] }
def k1m2 : Method := { name := "raw", desc := "(JI)I", sig := { parameters := [.long, .int], returnType := some .int }, accessFlags := 10, code := some k1c2 }
def k1c3 : Code := { maxStack := 3, maxLocals := 4, code := method_4_code, exceptionTable := #[], attributes := #[] }
def k1m3 : Method := { name := "tpl", desc := "(JII)C", sig := { parameters := [.long, .int, .int], returnType := some .char }, accessFlags := 10, code := some k1c3 }
def k1c4 : Code := { maxStack := 4, maxLocals := 7, code := method_5_code, exceptionTable := #[], attributes := #[] }
def k1m4 : Method := { name := "txt", desc := "(JIIC)C", sig := { parameters := [.long, .int, .int, .char], returnType := some .char }, accessFlags := 10, code := some k1c4 }
def k1c5 : Code := { maxStack := 2, maxLocals := 3, code := method_6_code, exceptionTable := #[], attributes := #[] }
def k1m5 : Method := { name := "fits", desc := "(CC)Z", sig := { parameters := [.char, .char], returnType := some .boolean }, accessFlags := 10, code := some k1c5 }
def k1c6 : Code := { maxStack := 6, maxLocals := 5, code := method_7_code, exceptionTable := #[], attributes := #[] }
def k1m6 : Method := { name := "str", desc := "(ICCCC)Ljava/lang/String;", sig := { parameters := [.int, .char, .char, .char, .char], returnType := some (.object "java/lang/String") }, accessFlags := 10, code := some k1c6 }
/-- com/example/token_into_keys/tokenintokeys/text/TextShapeStartsWithPinLaw -/
def k1 : Class := { plain "com/example/token_into_keys/tokenintokeys/text/TextShapeStartsWithPinLaw" (some 0) with
  accessFlags := 49
  interfaces := #[]
  cf := some (fileOf pool1 8 #[] #[{ accessFlags := 1, nameIndex := 5, descriptorIndex := 6, attributes := #[] }, { accessFlags := 9, nameIndex := 44, descriptorIndex := 45, attributes := #[] }, { accessFlags := 10, nameIndex := 19, descriptorIndex := 20, attributes := #[] }, { accessFlags := 10, nameIndex := 11, descriptorIndex := 12, attributes := #[] }, { accessFlags := 10, nameIndex := 15, descriptorIndex := 16, attributes := #[] }, { accessFlags := 10, nameIndex := 27, descriptorIndex := 28, attributes := #[] }, { accessFlags := 10, nameIndex := 23, descriptorIndex := 24, attributes := #[] }] 49 2 #[] #[])
  fields := #[]
  methods := #[k1m0, k1m1, k1m2, k1m3, k1m4, k1m5, k1m6]
  instanceTypes := #[]
  staticTypes := #[]
  resolved := Array.replicate 49 none
  statics := none }

def pool2 : Array CpInfo := pool [(1, .class_ 2), (0, u "java/io/Serializable"), (0, .class_ 4), (0, u "java/lang/Object")] 2

/-- java/io/Serializable -/
def k2 : Class := { plain "java/io/Serializable" (some 0) with
  accessFlags := 1537
  interfaces := #[]
  cf := some (fileOf pool2 1 #[] #[] 1537 3 #[] #[])
  fields := #[]
  methods := #[]
  instanceTypes := #[]
  staticTypes := #[]
  resolved := Array.replicate 7 none
  statics := none }

def pool3 : Array CpInfo := pool [(1, .class_ 2), (0, u "java/lang/Comparable"), (0, .class_ 4), (0, u "java/lang/Object")] 7

/-- java/lang/Comparable -/
def k3 : Class := { plain "java/lang/Comparable" (some 0) with
  accessFlags := 1537
  interfaces := #[]
  cf := some (fileOf pool3 1 #[] #[] 1537 3 #[] #[])
  fields := #[]
  methods := #[]
  instanceTypes := #[]
  staticTypes := #[]
  resolved := Array.replicate 12 none
  statics := none }

def pool4 : Array CpInfo := pool [(2, .class_ 4), (1, u "java/lang/CharSequence"), (42, .class_ 48), (0, u "java/lang/CharSequence$1CodePointIterator"), (10, .class_ 60), (0, u "java/lang/CharSequence$1CharIterator"), (5, .class_ 67), (0, u "java/lang/Object")] 63

/-- java/lang/CharSequence -/
def k4 : Class := { plain "java/lang/CharSequence" (some 0) with
  accessFlags := 1537
  interfaces := #[]
  cf := some (fileOf pool4 2 #[.nestMembers #[47, 59]] #[] 1537 66 #[] #[])
  fields := #[]
  methods := #[]
  instanceTypes := #[]
  staticTypes := #[]
  resolved := Array.replicate 131 none
  statics := none }

def pool5 : Array CpInfo := pool [(1, .class_ 2), (0, u "java/lang/constant/Constable"), (0, .class_ 4), (0, u "java/lang/Object")] 6

/-- java/lang/constant/Constable -/
def k5 : Class := { plain "java/lang/constant/Constable" (some 0) with
  accessFlags := 1537
  interfaces := #[]
  cf := some (fileOf pool5 1 #[] #[] 1537 3 #[] #[])
  fields := #[]
  methods := #[]
  instanceTypes := #[]
  staticTypes := #[]
  resolved := Array.replicate 11 none
  statics := none }

def pool6 : Array CpInfo := pool [(1, .class_ 2), (0, u "java/lang/constant/ConstantDesc"), (0, .class_ 4), (0, u "java/lang/Object")] 32

/-- java/lang/constant/ConstantDesc -/
def k6 : Class := { plain "java/lang/constant/ConstantDesc" (some 0) with
  accessFlags := 1537
  interfaces := #[]
  cf := some (fileOf pool6 1 #[] #[] 1537 3 #[] #[])
  fields := #[]
  methods := #[]
  instanceTypes := #[]
  staticTypes := #[]
  resolved := Array.replicate 37 none
  statics := none }

def pool7 : Array CpInfo := pool [(1, .methodref 2 3), (0, .class_ 4), (0, .nameAndType 5 6), (0, u "java/lang/Object"), (0, u "<init>"), (0, u "()V"), (0, .string 8), (0, u ""), (0, .fieldref 10 11), (0, .class_ 12), (0, .nameAndType 13 14), (0, u "java/lang/String"), (0, u "value"), (0, u "[B"), (0, .fieldref 10 16), (0, .nameAndType 17 18), (0, u "coder"), (0, u "B"), (2, u "hash"), (0, u "I"), (2, u "hashIsZero"), (0, u "Z"), (0, .methodref 10 28), (0, .nameAndType 5 29), (0, u "([CIILjava/lang/Void;)V"), (8, .fieldref 10 39), (0, .nameAndType 40 26), (0, u "COMPACT_STRINGS"), (1, .class_ 44), (1, u "java/lang/StringUTF16"), (0, u "compress"), (1, .methodref 42 48), (0, .nameAndType 49 50), (0, u "coderFromArrayLen"), (0, u "([BI)B"), (56, .class_ 109), (1, u "java/lang/StringLatin1"), (32, u "()Z"), (34, .methodref 42 178), (0, .nameAndType 45 179), (0, u "([CII)[B"), (154, u "()I"), (0, .methodref 10 336), (0, .nameAndType 17 337), (0, u "()B"), (25, u "([BI)C"), (27, u "(II)V"), (35, u "(I)C"), (64, .methodref 10 493), (0, .nameAndType 494 142), (0, u "isLatin1"), (0, .methodref 107 496), (0, .nameAndType 497 363), (0, u "charAt"), (3, u "checkIndex"), (5, u "length"), (67, .class_ 576), (0, u "java/lang/CharSequence"), (22, u "CASE_INSENSITIVE_ORDER"), (0, u "Ljava/util/Comparator;"), (409, u "([C)V"), (42, .fieldref 1054 1055), (0, .class_ 1056), (0, .nameAndType 1057 1058), (0, u "jdk/internal/util/Preconditions"), (0, u "SIOOBE_FORMATTER"), (0, u "Ljava/util/function/BiFunction;"), (0, .methodref 1054 1060), (0, .nameAndType 501 1061), (0, u "(IILjava/util/function/BiFunction;)I"), (39, u "serialPersistentFields"), (0, u "[Ljava/io/ObjectStreamField;"), (0, .class_ 1104), (0, u "java/lang/String$CaseInsensitiveComparator"), (1, .class_ 1107), (0, u "java/io/Serializable"), (0, .class_ 1109), (0, u "java/lang/Comparable"), (0, .class_ 1111), (0, u "java/lang/constant/Constable"), (0, .class_ 1113), (0, u "java/lang/constant/ConstantDesc"), (2, u "serialVersionUID"), (0, u "J"), (3, u "REPL"), (0, u "C"), (2, u "LATIN1"), (1, u "UTF16")] 323

def k7m0 : Method := { name := "<init>", desc := "()V", sig := { parameters := [], returnType := none }, accessFlags := 1, code := none }
def k7c1 : Code := { maxStack := 5, maxLocals := 2, code := jdk_42_method_3_code, exceptionTable := #[], attributes := #[] }
def k7m1 : Method := { name := "<init>", desc := "([C)V", sig := { parameters := [(.array .char)], returnType := none }, accessFlags := 1, code := some k7c1 }
def k7c2 : Code := { maxStack := 2, maxLocals := 1, code := jdk_42_method_54_code, exceptionTable := #[], attributes := #[] }
def k7m2 : Method := { name := "length", desc := "()I", sig := { parameters := [], returnType := some .int }, accessFlags := 1, code := some k7c2 }
def k7c3 : Code := { maxStack := 2, maxLocals := 2, code := jdk_42_method_56_code, exceptionTable := #[], attributes := #[] }
def k7m3 : Method := { name := "charAt", desc := "(I)C", sig := { parameters := [.int], returnType := some .char }, accessFlags := 1, code := some k7c3 }
def k7c4 : Code := { maxStack := 4, maxLocals := 6, code := jdk_42_method_149_code, exceptionTable := #[], attributes := #[] }
def k7m4 : Method := { name := "<init>", desc := "([CIILjava/lang/Void;)V", sig := { parameters := [(.array .char), .int, .int, (.object "java/lang/Void")], returnType := none }, accessFlags := 2, code := some k7c4 }
def k7c5 : Code := { maxStack := 1, maxLocals := 1, code := jdk_42_method_152_code, exceptionTable := #[], attributes := #[] }
def k7m5 : Method := { name := "coder", desc := "()B", sig := { parameters := [], returnType := some .byte }, accessFlags := 0, code := some k7c5 }
def k7c6 : Code := { maxStack := 1, maxLocals := 1, code := jdk_42_method_154_code, exceptionTable := #[], attributes := #[] }
def k7m6 : Method := { name := "isLatin1", desc := "()Z", sig := { parameters := [], returnType := some .boolean }, accessFlags := 0, code := some k7c6 }
def k7c7 : Code := { maxStack := 3, maxLocals := 2, code := jdk_42_method_155_code, exceptionTable := #[], attributes := #[] }
def k7m7 : Method := { name := "checkIndex", desc := "(II)V", sig := { parameters := [.int, .int], returnType := none }, accessFlags := 8, code := some k7c7 }
/-- java/lang/String -/
def k7 : Class := { plain "java/lang/String" (some 0) with
  accessFlags := 49
  interfaces := #[2, 3, 4, 5, 6]
  cf := some (fileOf pool7 10 #[.nestMembers #[1103]] #[{ accessFlags := 1, nameIndex := 5, descriptorIndex := 6, attributes := #[] }, { accessFlags := 1, nameIndex := 5, descriptorIndex := 1010, attributes := #[] }, { accessFlags := 1, nameIndex := 507, descriptorIndex := 334, attributes := #[] }, { accessFlags := 1, nameIndex := 497, descriptorIndex := 427, attributes := #[] }, { accessFlags := 2, nameIndex := 5, descriptorIndex := 29, attributes := #[] }, { accessFlags := 0, nameIndex := 17, descriptorIndex := 337, attributes := #[] }, { accessFlags := 0, nameIndex := 494, descriptorIndex := 142, attributes := #[] }, { accessFlags := 8, nameIndex := 501, descriptorIndex := 391, attributes := #[] }] 49 2 #[1106, 1108, 575, 1110, 1112] #[{ accessFlags := 18, nameIndex := 13, descriptorIndex := 14, attributes := #[] }, { accessFlags := 18, nameIndex := 17, descriptorIndex := 18, attributes := #[] }, { accessFlags := 2, nameIndex := 21, descriptorIndex := 22, attributes := #[] }, { accessFlags := 2, nameIndex := 25, descriptorIndex := 26, attributes := #[] }, { accessFlags := 26, nameIndex := 1116, descriptorIndex := 1117, attributes := #[] }, { accessFlags := 24, nameIndex := 40, descriptorIndex := 26, attributes := #[] }, { accessFlags := 26, nameIndex := 1101, descriptorIndex := 1102, attributes := #[] }, { accessFlags := 26, nameIndex := 1121, descriptorIndex := 1122, attributes := #[] }, { accessFlags := 25, nameIndex := 599, descriptorIndex := 600, attributes := #[] }, { accessFlags := 24, nameIndex := 1125, descriptorIndex := 18, attributes := #[] }, { accessFlags := 24, nameIndex := 1127, descriptorIndex := 18, attributes := #[] }])
  fields := #[{ name := "value", type := (.array .byte), accessFlags := 18, slot := 0, constantValue := 0 }, { name := "coder", type := .byte, accessFlags := 18, slot := 1, constantValue := 0 }, { name := "hash", type := .int, accessFlags := 2, slot := 2, constantValue := 0 }, { name := "hashIsZero", type := .boolean, accessFlags := 2, slot := 3, constantValue := 0 }, { name := "serialVersionUID", type := .long, accessFlags := 26, slot := 0, constantValue := 0 }, { name := "COMPACT_STRINGS", type := .boolean, accessFlags := 24, slot := 1, constantValue := 0 }, { name := "serialPersistentFields", type := (.array (.object "java/io/ObjectStreamField")), accessFlags := 26, slot := 2, constantValue := 0 }, { name := "REPL", type := .char, accessFlags := 26, slot := 3, constantValue := 0 }, { name := "CASE_INSENSITIVE_ORDER", type := (.object "java/util/Comparator"), accessFlags := 25, slot := 4, constantValue := 0 }, { name := "LATIN1", type := .byte, accessFlags := 24, slot := 5, constantValue := 0 }, { name := "UTF16", type := .byte, accessFlags := 24, slot := 6, constantValue := 0 }]
  methods := #[k7m0, k7m1, k7m2, k7m3, k7m4, k7m5, k7m6, k7m7]
  instanceTypes := #[(.array .byte), .byte, .int, .boolean]
  staticTypes := #[.long, .boolean, (.array (.object "java/io/ObjectStreamField")), .char, (.object "java/util/Comparator"), .byte, .byte]
  resolved := Array.replicate 1451 none
  statics := some 0 }

def pool8 : Array CpInfo := pool [(2, .class_ 4), (1, u "java/lang/Object"), (0, u "<init>"), (0, u "()V"), (0, .methodref 8 9), (0, .class_ 10), (0, .nameAndType 11 12), (0, u "java/lang/String"), (0, u "length"), (0, u "()I"), (1, .class_ 16), (1, u "com/example/token_into_keys/tokenintokeys/text/TextShape"), (0, u "startsWith"), (0, u "(Ljava/lang/String;Ljava/lang/String;)Z"), (0, .methodref 8 20), (0, .nameAndType 21 22), (0, u "charAt"), (0, u "(I)C")] 6

def k8m0 : Method := { name := "<init>", desc := "()V", sig := { parameters := [], returnType := none }, accessFlags := 2, code := none }
def k8c1 : Code := { maxStack := 2, maxLocals := 6, code := prog_18_method_3_code, exceptionTable := #[], attributes := #[] }
def k8m1 : Method := { name := "startsWith", desc := "(Ljava/lang/String;Ljava/lang/String;)Z", sig := { parameters := [(.object "java/lang/String"), (.object "java/lang/String")], returnType := some .boolean }, accessFlags := 9, code := some k8c1 }
/-- com/example/token_into_keys/tokenintokeys/text/TextShape -/
def k8 : Class := { plain "com/example/token_into_keys/tokenintokeys/text/TextShape" (some 0) with
  accessFlags := 49
  interfaces := #[]
  cf := some (fileOf pool8 14 #[] #[{ accessFlags := 2, nameIndex := 5, descriptorIndex := 6, attributes := #[] }, { accessFlags := 9, nameIndex := 17, descriptorIndex := 18, attributes := #[] }] 49 2 #[] #[])
  fields := #[]
  methods := #[k8m0, k8m1]
  instanceTypes := #[]
  staticTypes := #[]
  resolved := Array.replicate 29 none
  statics := none }

def pool9 : Array CpInfo := pool [(6, .class_ 8), (1, u "java/lang/Object"), (0, u "<init>"), (0, u "()V"), (1, .class_ 14), (1, u "java/lang/StringUTF16"), (31, u "$assertionsDisabled"), (0, u "Z"), (13, u "HI_BYTE_SHIFT"), (0, u "I"), (2, u "LO_BYTE_SHIFT"), (49, .methodref 12 116), (0, .nameAndType 117 118), (0, u "compress"), (0, u "([CI[BII)I"), (3, u "([CII)[B"), (138, u "coderFromArrayLen"), (0, u "([BI)B"), (106, .class_ 371), (1, u "java/lang/StringUTF16$LinesSpliterator"), (58, u "MAX_LENGTH"), (196, .class_ 628), (0, u "java/lang/StringUTF16$CodePointsSpliterator"), (0, .class_ 630), (0, u "java/lang/StringUTF16$CharsSpliterator")] 4

def k9m0 : Method := { name := "<init>", desc := "()V", sig := { parameters := [], returnType := none }, accessFlags := 0, code := none }
def k9c1 : Code := { maxStack := 2, maxLocals := 2, code := jdk_52_method_15_code, exceptionTable := #[], attributes := #[] }
def k9m1 : Method := { name := "coderFromArrayLen", desc := "([BI)B", sig := { parameters := [(.array .byte), .int], returnType := some .byte }, accessFlags := 8, code := some k9c1 }
def k9c2 : Code := { maxStack := 5, maxLocals := 6, code := jdk_52_method_16_code, exceptionTable := #[], attributes := #[] }
def k9m2 : Method := { name := "compress", desc := "([CII)[B", sig := { parameters := [(.array .char), .int, .int], returnType := some (.array .byte) }, accessFlags := 9, code := some k9c2 }
def k9c3 : Code := { maxStack := 3, maxLocals := 7, code := jdk_52_method_21_code, exceptionTable := #[], attributes := #[] }
def k9m3 : Method := { name := "compress", desc := "([CI[BII)I", sig := { parameters := [(.array .char), .int, (.array .byte), .int, .int], returnType := some .int }, accessFlags := 9, code := some k9c3 }
/-- java/lang/StringUTF16 -/
def k9 : Class := { plain "java/lang/StringUTF16" (some 0) with
  accessFlags := 48
  interfaces := #[]
  cf := some (fileOf pool9 12 #[.nestMembers #[627, 629, 369]] #[{ accessFlags := 0, nameIndex := 9, descriptorIndex := 10, attributes := #[] }, { accessFlags := 8, nameIndex := 261, descriptorIndex := 262, attributes := #[] }, { accessFlags := 9, nameIndex := 117, descriptorIndex := 122, attributes := #[] }, { accessFlags := 9, nameIndex := 117, descriptorIndex := 118, attributes := #[] }] 48 6 #[] #[{ accessFlags := 26, nameIndex := 61, descriptorIndex := 62, attributes := #[] }, { accessFlags := 26, nameIndex := 65, descriptorIndex := 62, attributes := #[] }, { accessFlags := 24, nameIndex := 430, descriptorIndex := 62, attributes := #[] }, { accessFlags := 4120, nameIndex := 46, descriptorIndex := 47, attributes := #[] }])
  fields := #[{ name := "HI_BYTE_SHIFT", type := .int, accessFlags := 26, slot := 0, constantValue := 0 }, { name := "LO_BYTE_SHIFT", type := .int, accessFlags := 26, slot := 1, constantValue := 0 }, { name := "MAX_LENGTH", type := .int, accessFlags := 24, slot := 2, constantValue := 0 }, { name := "$assertionsDisabled", type := .boolean, accessFlags := 4120, slot := 3, constantValue := 0 }]
  methods := #[k9m0, k9m1, k9m2, k9m3]
  instanceTypes := #[]
  staticTypes := #[.int, .int, .int, .boolean]
  resolved := Array.replicate 635 none
  statics := none }

def pool10 : Array CpInfo := pool [(1, .class_ 2), (0, u "java/lang/String"), (1, .class_ 6), (1, u "java/lang/Object"), (0, u "<init>"), (0, u "()V"), (0, .methodref 1 10), (0, .nameAndType 11 12), (0, u "checkIndex"), (0, u "(II)V"), (1, .class_ 16), (1, u "java/lang/StringLatin1"), (36, u "([BI)C"), (67, u "$assertionsDisabled"), (0, u "Z"), (98, .class_ 223), (1, u "java/lang/StringLatin1$LinesSpliterator"), (28, u "charAt"), (137, .class_ 391), (0, u "java/lang/StringLatin1$CharsSpliterator")] 3

def k10m0 : Method := { name := "<init>", desc := "()V", sig := { parameters := [], returnType := none }, accessFlags := 0, code := none }
def k10c1 : Code := { maxStack := 2, maxLocals := 2, code := jdk_43_method_2_code, exceptionTable := #[], attributes := #[] }
def k10m1 : Method := { name := "charAt", desc := "([BI)C", sig := { parameters := [(.array .byte), .int], returnType := some .char }, accessFlags := 9, code := some k10c1 }
/-- java/lang/StringLatin1 -/
def k10 : Class := { plain "java/lang/StringLatin1" (some 0) with
  accessFlags := 48
  interfaces := #[]
  cf := some (fileOf pool10 14 #[.nestMembers #[390, 221]] #[{ accessFlags := 0, nameIndex := 7, descriptorIndex := 8, attributes := #[] }, { accessFlags := 9, nameIndex := 252, descriptorIndex := 53, attributes := #[] }] 48 4 #[] #[{ accessFlags := 4120, nameIndex := 121, descriptorIndex := 122, attributes := #[] }])
  fields := #[{ name := "$assertionsDisabled", type := .boolean, accessFlags := 4120, slot := 0, constantValue := 0 }]
  methods := #[k10m0, k10m1]
  instanceTypes := #[]
  staticTypes := #[.boolean]
  resolved := Array.replicate 395 none
  statics := none }

def pool11 : Array CpInfo := pool [(2, .class_ 4), (1, u "java/lang/Object"), (0, u "<init>"), (0, u "()V"), (17, .class_ 26), (1, u "jdk/internal/util/Preconditions"), (6, u "checkIndex"), (21, .class_ 56), (0, u "jdk/internal/util/Preconditions$4"), (57, .class_ 115), (0, u "jdk/internal/util/Preconditions$1"), (7, u "SIOOBE_FORMATTER"), (0, u "Ljava/util/function/BiFunction;"), (0, .class_ 126), (0, u "jdk/internal/util/Preconditions$2"), (3, u "AIOOBE_FORMATTER"), (0, .class_ 132), (0, u "jdk/internal/util/Preconditions$3"), (3, u "IOOBE_FORMATTER"), (41, u "(IILjava/util/function/BiFunction;)I")] 15

def k11m0 : Method := { name := "<init>", desc := "()V", sig := { parameters := [], returnType := none }, accessFlags := 1, code := none }
def k11c1 : Code := { maxStack := 3, maxLocals := 3, code := jdk_41_method_11_code, exceptionTable := #[], attributes := #[] }
def k11m1 : Method := { name := "checkIndex", desc := "(IILjava/util/function/BiFunction;)I", sig := { parameters := [.int, .int, (.object "java/util/function/BiFunction")], returnType := some .int }, accessFlags := 9, code := some k11c1 }
/-- jdk/internal/util/Preconditions -/
def k11 : Class := { plain "jdk/internal/util/Preconditions" (some 0) with
  accessFlags := 33
  interfaces := #[]
  cf := some (fileOf pool11 24 #[.nestMembers #[55, 131, 125, 114]] #[{ accessFlags := 1, nameIndex := 5, descriptorIndex := 6, attributes := #[] }, { accessFlags := 9, nameIndex := 33, descriptorIndex := 178, attributes := #[] }] 33 2 #[] #[{ accessFlags := 25, nameIndex := 123, descriptorIndex := 124, attributes := #[] }, { accessFlags := 25, nameIndex := 130, descriptorIndex := 124, attributes := #[] }, { accessFlags := 25, nameIndex := 136, descriptorIndex := 124, attributes := #[] }])
  fields := #[{ name := "SIOOBE_FORMATTER", type := (.object "java/util/function/BiFunction"), accessFlags := 25, slot := 0, constantValue := 0 }, { name := "AIOOBE_FORMATTER", type := (.object "java/util/function/BiFunction"), accessFlags := 25, slot := 1, constantValue := 0 }, { name := "IOOBE_FORMATTER", type := (.object "java/util/function/BiFunction"), accessFlags := 25, slot := 2, constantValue := 0 }]
  methods := #[k11m0, k11m1]
  instanceTypes := #[]
  staticTypes := #[(.object "java/util/function/BiFunction"), (.object "java/util/function/BiFunction"), (.object "java/util/function/BiFunction")]
  resolved := Array.replicate 194 none
  statics := some 1 }

def pool12 : Array CpInfo := pool [(9, u "<init>"), (6, .class_ 18), (1, u "java/lang/Object"), (0, u "()V"), (1, .class_ 23), (1, u "jdk/internal/util/ArraysSupport"), (0, u "LOG2_ARRAY_LONG_INDEX_SCALE"), (0, u "I"), (2, u "U"), (0, u "Ljdk/internal/misc/Unsafe;"), (8, u "BIG_ENDIAN"), (0, u "Z"), (8, u "LOG2_BYTE_BIT_SIZE"), (4, u "LOG2_ARRAY_INT_INDEX_SCALE"), (54, u "JLA"), (0, u "Ljdk/internal/access/JavaLangAccess;"), (11, u "LOG2_ARRAY_BOOLEAN_INDEX_SCALE"), (9, u "LOG2_ARRAY_BYTE_INDEX_SCALE"), (5, u "LOG2_ARRAY_CHAR_INDEX_SCALE"), (5, u "LOG2_ARRAY_SHORT_INDEX_SCALE"), (18, u "LOG2_ARRAY_FLOAT_INDEX_SCALE"), (24, u "LOG2_ARRAY_DOUBLE_INDEX_SCALE"), (89, u "T_BOOLEAN"), (2, u "T_CHAR"), (1, u "T_FLOAT"), (1, u "T_DOUBLE"), (1, u "T_BYTE"), (1, u "T_SHORT"), (1, u "T_INT"), (1, u "T_LONG"), (1, u "SOFT_MAX_ARRAY_LENGTH")] 83

def k12m0 : Method := { name := "<init>", desc := "()V", sig := { parameters := [], returnType := none }, accessFlags := 2, code := none }
/-- jdk/internal/util/ArraysSupport -/
def k12 : Class := { plain "jdk/internal/util/ArraysSupport" (some 0) with
  accessFlags := 33
  interfaces := #[]
  cf := some (fileOf pool12 21 #[] #[{ accessFlags := 2, nameIndex := 9, descriptorIndex := 19, attributes := #[] }] 33 16 #[] #[{ accessFlags := 24, nameIndex := 28, descriptorIndex := 29, attributes := #[] }, { accessFlags := 26, nameIndex := 38, descriptorIndex := 39, attributes := #[] }, { accessFlags := 25, nameIndex := 121, descriptorIndex := 25, attributes := #[] }, { accessFlags := 25, nameIndex := 131, descriptorIndex := 25, attributes := #[] }, { accessFlags := 25, nameIndex := 137, descriptorIndex := 25, attributes := #[] }, { accessFlags := 25, nameIndex := 143, descriptorIndex := 25, attributes := #[] }, { accessFlags := 25, nameIndex := 53, descriptorIndex := 25, attributes := #[] }, { accessFlags := 25, nameIndex := 24, descriptorIndex := 25, attributes := #[] }, { accessFlags := 25, nameIndex := 162, descriptorIndex := 25, attributes := #[] }, { accessFlags := 25, nameIndex := 187, descriptorIndex := 25, attributes := #[] }, { accessFlags := 26, nameIndex := 48, descriptorIndex := 25, attributes := #[] }, { accessFlags := 25, nameIndex := 277, descriptorIndex := 25, attributes := #[] }, { accessFlags := 25, nameIndex := 280, descriptorIndex := 25, attributes := #[] }, { accessFlags := 25, nameIndex := 282, descriptorIndex := 25, attributes := #[] }, { accessFlags := 25, nameIndex := 284, descriptorIndex := 25, attributes := #[] }, { accessFlags := 25, nameIndex := 286, descriptorIndex := 25, attributes := #[] }, { accessFlags := 25, nameIndex := 288, descriptorIndex := 25, attributes := #[] }, { accessFlags := 25, nameIndex := 290, descriptorIndex := 25, attributes := #[] }, { accessFlags := 25, nameIndex := 292, descriptorIndex := 25, attributes := #[] }, { accessFlags := 26, nameIndex := 108, descriptorIndex := 109, attributes := #[] }, { accessFlags := 25, nameIndex := 294, descriptorIndex := 25, attributes := #[] }])
  fields := #[{ name := "U", type := (.object "jdk/internal/misc/Unsafe"), accessFlags := 24, slot := 0, constantValue := 0 }, { name := "BIG_ENDIAN", type := .boolean, accessFlags := 26, slot := 1, constantValue := 0 }, { name := "LOG2_ARRAY_BOOLEAN_INDEX_SCALE", type := .int, accessFlags := 25, slot := 2, constantValue := 0 }, { name := "LOG2_ARRAY_BYTE_INDEX_SCALE", type := .int, accessFlags := 25, slot := 3, constantValue := 0 }, { name := "LOG2_ARRAY_CHAR_INDEX_SCALE", type := .int, accessFlags := 25, slot := 4, constantValue := 0 }, { name := "LOG2_ARRAY_SHORT_INDEX_SCALE", type := .int, accessFlags := 25, slot := 5, constantValue := 0 }, { name := "LOG2_ARRAY_INT_INDEX_SCALE", type := .int, accessFlags := 25, slot := 6, constantValue := 0 }, { name := "LOG2_ARRAY_LONG_INDEX_SCALE", type := .int, accessFlags := 25, slot := 7, constantValue := 0 }, { name := "LOG2_ARRAY_FLOAT_INDEX_SCALE", type := .int, accessFlags := 25, slot := 8, constantValue := 0 }, { name := "LOG2_ARRAY_DOUBLE_INDEX_SCALE", type := .int, accessFlags := 25, slot := 9, constantValue := 0 }, { name := "LOG2_BYTE_BIT_SIZE", type := .int, accessFlags := 26, slot := 10, constantValue := 0 }, { name := "T_BOOLEAN", type := .int, accessFlags := 25, slot := 11, constantValue := 0 }, { name := "T_CHAR", type := .int, accessFlags := 25, slot := 12, constantValue := 0 }, { name := "T_FLOAT", type := .int, accessFlags := 25, slot := 13, constantValue := 0 }, { name := "T_DOUBLE", type := .int, accessFlags := 25, slot := 14, constantValue := 0 }, { name := "T_BYTE", type := .int, accessFlags := 25, slot := 15, constantValue := 0 }, { name := "T_SHORT", type := .int, accessFlags := 25, slot := 16, constantValue := 0 }, { name := "T_INT", type := .int, accessFlags := 25, slot := 17, constantValue := 0 }, { name := "T_LONG", type := .int, accessFlags := 25, slot := 18, constantValue := 0 }, { name := "JLA", type := (.object "jdk/internal/access/JavaLangAccess"), accessFlags := 26, slot := 19, constantValue := 0 }, { name := "SOFT_MAX_ARRAY_LENGTH", type := .int, accessFlags := 25, slot := 20, constantValue := 0 }]
  methods := #[k12m0]
  instanceTypes := #[]
  staticTypes := #[(.object "jdk/internal/misc/Unsafe"), .boolean, .int, .int, .int, .int, .int, .int, .int, .int, .int, .int, .int, .int, .int, .int, .int, .int, .int, (.object "jdk/internal/access/JavaLangAccess"), .int]
  resolved := Array.replicate 378 none
  statics := none }

def pool13 : Array CpInfo := pool [(1, u "java/lang/Cloneable"), (0, .class_ 1), (0, u "java/lang/Object"), (0, .class_ 3)] 3

/-- java/lang/Cloneable -/
def k13 : Class := { plain "java/lang/Cloneable" (some 0) with
  accessFlags := 1537
  interfaces := #[]
  cf := some (fileOf pool13 2 #[] #[] 1537 4 #[] #[])
  fields := #[]
  methods := #[]
  instanceTypes := #[]
  staticTypes := #[]
  resolved := Array.replicate 8 none
  statics := none }

/-- the primitive byte -/
def k14 : Class := { plain "byte" none with kind := .primitive 'B', accessFlags := 0x411 }
/-- [B -/
def k15 : Class := { plain "[B" (some 0) with kind := .array 14 .byte, interfaces := #[13, 2], accessFlags := 1041 }

/-- the primitive char -/
def k16 : Class := { plain "char" none with kind := .primitive 'C', accessFlags := 0x411 }
/-- [C -/
def k17 : Class := { plain "[C" (some 0) with kind := .array 16 .char, interfaces := #[13, 2], accessFlags := 1041 }

/-- the primitive int -/
def k18 : Class := { plain "int" none with kind := .primitive 'I', accessFlags := 0x411 }
/-- [I -/
def k19 : Class := { plain "[I" (some 0) with kind := .array 18 .int, interfaces := #[13, 2], accessFlags := 1041 }

def heap : Heap := #[{ cls := 7, slots := #[.long 0, .int 1, .null, .int 0, .null, .int 0, .int 0], vm := .statics 7 },
  { cls := 11, slots := #[.null, .null, .null], vm := .statics 11 }]
def classes : Array Class := #[k0, k1, k2, k3, k4, k5, k6, k7, k8, k9, k10, k11, k12, k13, k14, k15, k16, k17, k18, k19]
def interned : List (Array UInt16 × Addr) := []
def slotsUsed : Nat := 10
def theMethod : MethodId := ⟨1, 1⟩
def args0 : Array Value := #[.int 5, .long 7, .long 9, .int 3]
def aboutOver (below : List Frame) : State where
  vm := { classes := classes, interned := interned.toArray }
  heap := heap
  slotsUsed := slotsUsed
  threads := #[{ frames := .invoking theMethod args0 :: below }]
def below0 : List Frame := [.native { method := ⟨0, 0⟩, args := #[] }]
def about1 : State := aboutOver below0
def p0 : Program := .bare "" "" ""
def e0 : Env := launch0.env 0 0 0
theorem w_frames : about1.frames = Frame.invoking theMethod args0 :: below0 := rfl
set_option maxRecDepth 65536 in
theorem w_args : argsFit about1.vm theMethod args0 = true := by decide +kernel
set_option maxRecDepth 65536 in
theorem w_heap : heapFits about1 = true := by decide +kernel
set_option maxRecDepth 65536 in
theorem w_runnable : about1.curStatus? = some .runnable := by decide +kernel
set_option maxRecDepth 65536 in
theorem w_alone : about1.alone = true := by decide +kernel
set_option maxRecDepth 65536 in
theorem w_named : about1.methodNamed? x = some theMethod := by decide +kernel
set_option maxRecDepth 65536 in
theorem w_hears : about1.hears theMethod below0 = true := by decide +kernel
set_option maxRecDepth 65536 in
theorem w_ripe : about1.ripe theMethod args0 below0 = true := by decide +kernel
theorem w_running : about1.status = .running := rfl
set_option maxRecDepth 65536 in
theorem w_room : about1.hasRoom e0.platform room_1 = true :=
  launch0.hasRoom_least _ room_1 (by decide +kernel) (by decide +kernel) (by decide +kernel) (by decide +kernel) (by decide +kernel) (by decide +kernel)
theorem allAtoms_all (ts : List Jvm.Cond) (a : Array Jvm.Value) (st : Jvm.State) : (allAtoms ts).before a st = ts.all (fun c => c.before a st) := by
  induction ts with
  | nil => rfl
  | cons c t ih =>
    show (Jvm.Cond.and c (allAtoms t)).before a st = _
    rw [Jvm.Cond.before_and, ih, List.all_cons]
def words1 : List Jvm.Cond := Jvm.Cond.code x code maxLocals ret :: tables_1
/-- a 'code' word, met by the world's own term for the bytes: nothing is compared byte by byte -/
theorem code_word {y : MethodName} {bytes : ByteArray} {mx : Nat} {rt : Option FieldType} {a : Array Value} {s : State} {m : MethodId} {meth : Method} {c : Code} (h1 : s.methodNamed? y = some m) (h2 : s.vm.method? m = some meth) (h3 : meth.code = some c) (h4 : c.code = bytes)
    (h5 : (c.maxLocals == mx && c.exceptionTable.isEmpty && decide (c.maxStack ≤ mostOperands) && decide (meth.sig.returnType = rt) && !meth.locks && decide (parseMethodDescriptor y.desc = some meth.sig)) = true) : (Jvm.Cond.code y bytes mx rt).before a s = true := by
  simp only [Bool.and_eq_true, beq_iff_eq, Bool.not_eq_true', decide_eq_true_eq] at h5
  obtain ⟨⟨⟨⟨⟨g1, g2⟩, g3⟩, g4⟩, g5⟩, g6⟩ := h5
  simp [Cond.before, Cond.holds, Cond.value, h1, h2, h3, h4, g1, g2, g3, g4, g5, g6]
def isCode : Jvm.Cond → Bool
  | .code _ _ _ _ => true
  | _ => false
theorem all_split {L : List Jvm.Cond} {P : Jvm.Cond → Bool} (h1 : L.all (fun c => isCode c || P c) = true) (h2 : ∀ c ∈ L.filter isCode, P c = true) : L.all P = true := by
  refine List.all_eq_true.mpr fun c hc => ?_
  have h := List.all_eq_true.mp h1 c hc
  rcases Bool.eq_false_or_eq_true (isCode c) with hi | hi
  · exact h2 c (List.mem_filter.mpr ⟨hc, hi⟩)
  · simpa [hi] using h
set_option maxRecDepth 65536 in
theorem w_c0 : (Jvm.Cond.code x code maxLocals ret).before args0 about1 = true := code_word (m := ⟨1, 1⟩) (meth := k1m1) (c := k1c1) (by decide +kernel) rfl rfl rfl (by decide +kernel)
set_option maxRecDepth 65536 in
theorem w_c1 : (Jvm.Cond.code ({ cls := "com/example/token_into_keys/tokenintokeys/text/TextShapeStartsWithPinLaw", name := "tpl", desc := "(JII)C" } : Jvm.MethodName) method_4_code (4 : Nat) (Option.some Jvm.ClassFile.FieldType.char)).before args0 about1 = true := code_word (m := ⟨1, 3⟩) (meth := k1m3) (c := k1c3) (by decide +kernel) rfl rfl rfl (by decide +kernel)
set_option maxRecDepth 65536 in
theorem w_c2 : (Jvm.Cond.code ({ cls := "com/example/token_into_keys/tokenintokeys/text/TextShapeStartsWithPinLaw", name := "raw", desc := "(JI)I" } : Jvm.MethodName) method_3_code (3 : Nat) (Option.some Jvm.ClassFile.FieldType.int)).before args0 about1 = true := code_word (m := ⟨1, 2⟩) (meth := k1m2) (c := k1c2) (by decide +kernel) rfl rfl rfl (by decide +kernel)
set_option maxRecDepth 65536 in
theorem w_c3 : (Jvm.Cond.code ({ cls := "com/example/token_into_keys/tokenintokeys/text/TextShapeStartsWithPinLaw", name := "txt", desc := "(JIIC)C" } : Jvm.MethodName) method_5_code (7 : Nat) (Option.some Jvm.ClassFile.FieldType.char)).before args0 about1 = true := code_word (m := ⟨1, 4⟩) (meth := k1m4) (c := k1c4) (by decide +kernel) rfl rfl rfl (by decide +kernel)
set_option maxRecDepth 65536 in
theorem w_c4 : (Jvm.Cond.code ({ cls := "com/example/token_into_keys/tokenintokeys/text/TextShapeStartsWithPinLaw", name := "str", desc := "(ICCCC)Ljava/lang/String;" } : Jvm.MethodName) method_7_code (5 : Nat) (Option.some (Jvm.ClassFile.FieldType.object "java/lang/String"))).before args0 about1 = true := code_word (m := ⟨1, 6⟩) (meth := k1m6) (c := k1c6) (by decide +kernel) rfl rfl rfl (by decide +kernel)
set_option maxRecDepth 65536 in
theorem w_c5 : (Jvm.Cond.code ({ cls := "java/lang/String", name := "<init>", desc := "([C)V" } : Jvm.MethodName) jdk_42_method_3_code (2 : Nat) (Option.none : Option Jvm.ClassFile.FieldType)).before args0 about1 = true := code_word (m := ⟨7, 1⟩) (meth := k7m1) (c := k7c1) (by decide +kernel) rfl rfl rfl (by decide +kernel)
set_option maxRecDepth 65536 in
theorem w_c6 : (Jvm.Cond.code ({ cls := "java/lang/String", name := "<init>", desc := "([CIILjava/lang/Void;)V" } : Jvm.MethodName) jdk_42_method_149_code (6 : Nat) (Option.none : Option Jvm.ClassFile.FieldType)).before args0 about1 = true := code_word (m := ⟨7, 4⟩) (meth := k7m4) (c := k7c4) (by decide +kernel) rfl rfl rfl (by decide +kernel)
set_option maxRecDepth 65536 in
theorem w_c7 : (Jvm.Cond.code ({ cls := "java/lang/Object", name := "<init>", desc := "()V" } : Jvm.MethodName) object_method_1_code (1 : Nat) (Option.none : Option Jvm.ClassFile.FieldType)).before args0 about1 = true := code_word (m := ⟨0, 0⟩) (meth := k0m0) (c := k0c0) (by decide +kernel) rfl rfl rfl (by decide +kernel)
set_option maxRecDepth 65536 in
theorem w_c8 : (Jvm.Cond.code ({ cls := "com/example/token_into_keys/tokenintokeys/text/TextShape", name := "startsWith", desc := "(Ljava/lang/String;Ljava/lang/String;)Z" } : Jvm.MethodName) prog_18_method_3_code (6 : Nat) (Option.some Jvm.ClassFile.FieldType.boolean)).before args0 about1 = true := code_word (m := ⟨8, 1⟩) (meth := k8m1) (c := k8c1) (by decide +kernel) rfl rfl rfl (by decide +kernel)
set_option maxRecDepth 65536 in
theorem w_c9 : (Jvm.Cond.code ({ cls := "java/lang/String", name := "length", desc := "()I" } : Jvm.MethodName) jdk_42_method_54_code (1 : Nat) (Option.some Jvm.ClassFile.FieldType.int)).before args0 about1 = true := code_word (m := ⟨7, 2⟩) (meth := k7m2) (c := k7c2) (by decide +kernel) rfl rfl rfl (by decide +kernel)
set_option maxRecDepth 65536 in
theorem w_c10 : (Jvm.Cond.code ({ cls := "java/lang/String", name := "coder", desc := "()B" } : Jvm.MethodName) jdk_42_method_152_code (1 : Nat) (Option.some Jvm.ClassFile.FieldType.byte)).before args0 about1 = true := code_word (m := ⟨7, 5⟩) (meth := k7m5) (c := k7c5) (by decide +kernel) rfl rfl rfl (by decide +kernel)
set_option maxRecDepth 65536 in
theorem w_c11 : (Jvm.Cond.code ({ cls := "java/lang/StringUTF16", name := "compress", desc := "([CII)[B" } : Jvm.MethodName) jdk_52_method_16_code (6 : Nat) (Option.some (Jvm.ClassFile.FieldType.array Jvm.ClassFile.FieldType.byte))).before args0 about1 = true := code_word (m := ⟨9, 2⟩) (meth := k9m2) (c := k9c2) (by decide +kernel) rfl rfl rfl (by decide +kernel)
set_option maxRecDepth 65536 in
theorem w_c12 : (Jvm.Cond.code ({ cls := "java/lang/StringUTF16", name := "compress", desc := "([CI[BII)I" } : Jvm.MethodName) jdk_52_method_21_code (7 : Nat) (Option.some Jvm.ClassFile.FieldType.int)).before args0 about1 = true := code_word (m := ⟨9, 3⟩) (meth := k9m3) (c := k9c3) (by decide +kernel) rfl rfl rfl (by decide +kernel)
set_option maxRecDepth 65536 in
theorem w_c13 : (Jvm.Cond.code ({ cls := "java/lang/StringUTF16", name := "coderFromArrayLen", desc := "([BI)B" } : Jvm.MethodName) jdk_52_method_15_code (2 : Nat) (Option.some Jvm.ClassFile.FieldType.byte)).before args0 about1 = true := code_word (m := ⟨9, 1⟩) (meth := k9m1) (c := k9c1) (by decide +kernel) rfl rfl rfl (by decide +kernel)
set_option maxRecDepth 65536 in
theorem w_c14 : (Jvm.Cond.code ({ cls := "com/example/token_into_keys/tokenintokeys/text/TextShapeStartsWithPinLaw", name := "fits", desc := "(CC)Z" } : Jvm.MethodName) method_6_code (3 : Nat) (Option.some Jvm.ClassFile.FieldType.boolean)).before args0 about1 = true := code_word (m := ⟨1, 5⟩) (meth := k1m5) (c := k1c5) (by decide +kernel) rfl rfl rfl (by decide +kernel)
set_option maxRecDepth 65536 in
theorem w_c15 : (Jvm.Cond.code ({ cls := "java/lang/String", name := "charAt", desc := "(I)C" } : Jvm.MethodName) jdk_42_method_56_code (2 : Nat) (Option.some Jvm.ClassFile.FieldType.char)).before args0 about1 = true := code_word (m := ⟨7, 3⟩) (meth := k7m3) (c := k7c3) (by decide +kernel) rfl rfl rfl (by decide +kernel)
set_option maxRecDepth 65536 in
theorem w_c16 : (Jvm.Cond.code ({ cls := "java/lang/String", name := "isLatin1", desc := "()Z" } : Jvm.MethodName) jdk_42_method_154_code (1 : Nat) (Option.some Jvm.ClassFile.FieldType.boolean)).before args0 about1 = true := code_word (m := ⟨7, 6⟩) (meth := k7m6) (c := k7c6) (by decide +kernel) rfl rfl rfl (by decide +kernel)
set_option maxRecDepth 65536 in
theorem w_c17 : (Jvm.Cond.code ({ cls := "java/lang/StringLatin1", name := "charAt", desc := "([BI)C" } : Jvm.MethodName) jdk_43_method_2_code (2 : Nat) (Option.some Jvm.ClassFile.FieldType.char)).before args0 about1 = true := code_word (m := ⟨10, 1⟩) (meth := k10m1) (c := k10c1) (by decide +kernel) rfl rfl rfl (by decide +kernel)
set_option maxRecDepth 65536 in
theorem w_c18 : (Jvm.Cond.code ({ cls := "java/lang/String", name := "checkIndex", desc := "(II)V" } : Jvm.MethodName) jdk_42_method_155_code (2 : Nat) (Option.none : Option Jvm.ClassFile.FieldType)).before args0 about1 = true := code_word (m := ⟨7, 7⟩) (meth := k7m7) (c := k7c7) (by decide +kernel) rfl rfl rfl (by decide +kernel)
set_option maxRecDepth 65536 in
theorem w_c19 : (Jvm.Cond.code ({ cls := "jdk/internal/util/Preconditions", name := "checkIndex", desc := "(IILjava/util/function/BiFunction;)I" } : Jvm.MethodName) jdk_41_method_11_code (3 : Nat) (Option.some Jvm.ClassFile.FieldType.int)).before args0 about1 = true := code_word (m := ⟨11, 1⟩) (meth := k11m1) (c := k11c1) (by decide +kernel) rfl rfl rfl (by decide +kernel)
def codes1 : List Jvm.Cond := [Jvm.Cond.code x code maxLocals ret, Jvm.Cond.code ({ cls := "com/example/token_into_keys/tokenintokeys/text/TextShapeStartsWithPinLaw", name := "tpl", desc := "(JII)C" } : Jvm.MethodName) method_4_code (4 : Nat) (Option.some Jvm.ClassFile.FieldType.char), Jvm.Cond.code ({ cls := "com/example/token_into_keys/tokenintokeys/text/TextShapeStartsWithPinLaw", name := "raw", desc := "(JI)I" } : Jvm.MethodName) method_3_code (3 : Nat) (Option.some Jvm.ClassFile.FieldType.int), Jvm.Cond.code ({ cls := "com/example/token_into_keys/tokenintokeys/text/TextShapeStartsWithPinLaw", name := "txt", desc := "(JIIC)C" } : Jvm.MethodName) method_5_code (7 : Nat) (Option.some Jvm.ClassFile.FieldType.char), Jvm.Cond.code ({ cls := "com/example/token_into_keys/tokenintokeys/text/TextShapeStartsWithPinLaw", name := "str", desc := "(ICCCC)Ljava/lang/String;" } : Jvm.MethodName) method_7_code (5 : Nat) (Option.some (Jvm.ClassFile.FieldType.object "java/lang/String")), Jvm.Cond.code ({ cls := "java/lang/String", name := "<init>", desc := "([C)V" } : Jvm.MethodName) jdk_42_method_3_code (2 : Nat) (Option.none : Option Jvm.ClassFile.FieldType), Jvm.Cond.code ({ cls := "java/lang/String", name := "<init>", desc := "([CIILjava/lang/Void;)V" } : Jvm.MethodName) jdk_42_method_149_code (6 : Nat) (Option.none : Option Jvm.ClassFile.FieldType), Jvm.Cond.code ({ cls := "java/lang/Object", name := "<init>", desc := "()V" } : Jvm.MethodName) object_method_1_code (1 : Nat) (Option.none : Option Jvm.ClassFile.FieldType), Jvm.Cond.code ({ cls := "com/example/token_into_keys/tokenintokeys/text/TextShape", name := "startsWith", desc := "(Ljava/lang/String;Ljava/lang/String;)Z" } : Jvm.MethodName) prog_18_method_3_code (6 : Nat) (Option.some Jvm.ClassFile.FieldType.boolean), Jvm.Cond.code ({ cls := "java/lang/String", name := "length", desc := "()I" } : Jvm.MethodName) jdk_42_method_54_code (1 : Nat) (Option.some Jvm.ClassFile.FieldType.int), Jvm.Cond.code ({ cls := "java/lang/String", name := "coder", desc := "()B" } : Jvm.MethodName) jdk_42_method_152_code (1 : Nat) (Option.some Jvm.ClassFile.FieldType.byte), Jvm.Cond.code ({ cls := "java/lang/StringUTF16", name := "compress", desc := "([CII)[B" } : Jvm.MethodName) jdk_52_method_16_code (6 : Nat) (Option.some (Jvm.ClassFile.FieldType.array Jvm.ClassFile.FieldType.byte)), Jvm.Cond.code ({ cls := "java/lang/StringUTF16", name := "compress", desc := "([CI[BII)I" } : Jvm.MethodName) jdk_52_method_21_code (7 : Nat) (Option.some Jvm.ClassFile.FieldType.int), Jvm.Cond.code ({ cls := "java/lang/StringUTF16", name := "coderFromArrayLen", desc := "([BI)B" } : Jvm.MethodName) jdk_52_method_15_code (2 : Nat) (Option.some Jvm.ClassFile.FieldType.byte), Jvm.Cond.code ({ cls := "com/example/token_into_keys/tokenintokeys/text/TextShapeStartsWithPinLaw", name := "fits", desc := "(CC)Z" } : Jvm.MethodName) method_6_code (3 : Nat) (Option.some Jvm.ClassFile.FieldType.boolean), Jvm.Cond.code ({ cls := "java/lang/String", name := "charAt", desc := "(I)C" } : Jvm.MethodName) jdk_42_method_56_code (2 : Nat) (Option.some Jvm.ClassFile.FieldType.char), Jvm.Cond.code ({ cls := "java/lang/String", name := "isLatin1", desc := "()Z" } : Jvm.MethodName) jdk_42_method_154_code (1 : Nat) (Option.some Jvm.ClassFile.FieldType.boolean), Jvm.Cond.code ({ cls := "java/lang/StringLatin1", name := "charAt", desc := "([BI)C" } : Jvm.MethodName) jdk_43_method_2_code (2 : Nat) (Option.some Jvm.ClassFile.FieldType.char), Jvm.Cond.code ({ cls := "java/lang/String", name := "checkIndex", desc := "(II)V" } : Jvm.MethodName) jdk_42_method_155_code (2 : Nat) (Option.none : Option Jvm.ClassFile.FieldType), Jvm.Cond.code ({ cls := "jdk/internal/util/Preconditions", name := "checkIndex", desc := "(IILjava/util/function/BiFunction;)I" } : Jvm.MethodName) jdk_41_method_11_code (3 : Nat) (Option.some Jvm.ClassFile.FieldType.int)]
set_option maxRecDepth 65536 in
theorem codes_eq : words1.filter isCode = codes1 := rfl
theorem w_codes : ∀ c ∈ words1.filter isCode, c.before args0 about1 = true := by
  rw [codes_eq]
  intro c hc
  simp only [codes1, List.mem_cons, List.not_mem_nil, or_false] at hc
  rcases hc with rfl | rfl | rfl | rfl | rfl | rfl | rfl | rfl | rfl | rfl | rfl | rfl | rfl | rfl | rfl | rfl | rfl | rfl | rfl | rfl
  · exact w_c0
  · exact w_c1
  · exact w_c2
  · exact w_c3
  · exact w_c4
  · exact w_c5
  · exact w_c6
  · exact w_c7
  · exact w_c8
  · exact w_c9
  · exact w_c10
  · exact w_c11
  · exact w_c12
  · exact w_c13
  · exact w_c14
  · exact w_c15
  · exact w_c16
  · exact w_c17
  · exact w_c18
  · exact w_c19
set_option maxRecDepth 65536 in
theorem w_t1 : (words1.take 24).all (fun c => isCode c || c.before args0 about1) = true := by decide +kernel
set_option maxRecDepth 65536 in
theorem w_t2 : ((words1.drop 24).take 24).all (fun c => isCode c || c.before args0 about1) = true := by decide +kernel
set_option maxRecDepth 65536 in
theorem w_t3 : (((words1.drop 24).drop 24).take 24).all (fun c => isCode c || c.before args0 about1) = true := by decide +kernel
set_option maxRecDepth 65536 in
theorem w_t4 : (((words1.drop 24).drop 24).drop 24).all (fun c => isCode c || c.before args0 about1) = true := by decide +kernel
theorem w_tables : (allAtoms (Jvm.Cond.code x code maxLocals ret :: tables_1)).before args0 about1 = true := by
  rw [allAtoms_all]
  show words1.all (fun c => c.before args0 about1) = true
  refine all_split ?_ w_codes
  rw [← List.take_append_drop 24 words1, List.all_append, w_t1, ← List.take_append_drop 24 (words1.drop 24), List.all_append, w_t2, ← List.take_append_drop 24 ((words1.drop 24).drop 24), List.all_append, w_t3, w_t4]
  rfl
set_option maxRecDepth 65536 in
theorem w_rest : rest_1_c.before args0 about1 = true := by decide +kernel
set_option maxRecDepth 65536 in
theorem w_case : (Jvm.Cond.and given_1 narrow_1).before args0 about1 = true := by decide +kernel
set_option maxRecDepth 65536 in
theorem w_consts : constsHeld consts_1 about1 := Jvm.Lit.constsHeldB_iff.mp (by decide +kernel)
theorem w_applies : (headSpec (Jvm.Cond.code x code maxLocals ret :: tables_1) room_1).applies x e0.platform about1 = true :=
  (Spec.applies_iff w_frames).mpr ⟨w_running, w_runnable, w_alone, w_named, w_hears, w_ripe, w_room, w_tables⟩
theorem atStart : AtStart classFile x code maxLocals ret World_1 tables_1 room_1 Calls_1 rest_1 Pre_1 launch0 p0 e0 about1 theMethod args0 below0 :=
  ⟨lists_1, trivial, launch0.admits_env _ _ _, launch0.least_env, fairChoices_fair.cas, fairChoices_fair.clock, w_frames, w_args, w_heap, w_applies, ⟨w_consts, trivial⟩, w_rest, w_case⟩
end start1
theorem witness_1 : WitnessClaimed_1 := ⟨start1.p0, start1.e0, start1.about1, start1.theMethod, start1.args0, start1.below0, start1.atStart⟩
end Jvm.Pilot.@@N@@
