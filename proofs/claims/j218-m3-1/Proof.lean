import JvmDerived
import JvmDerived.Pilot.@@N@@Statement
import JvmDerived.Pilot.@@N@@Code
set_option linter.unusedVariables false
set_option linter.unusedSimpArgs false
namespace Jvm.RoadKit
open Sem ClassFile Op Lib Jvm.Stand Jvm.Free Jvm.LawKit
section New
variable {p : Program} {l : Launch} {e : Env} {R : Room} {s : State} {m : MethodId} {args : Array Value} {below : List Frame} {meth : Method} {c : Code} {T : State} {locs : List Loc} {cells slots : Nat}
theorem retI (X : Stand p l e R s m args below meth c T locs cells slots) (hx : p.tables.exec = Jvm.exec) {pc : Nat} {Ls : Array Slot} {z : Int32} {rest : List Value} (hret : meth.sig.returnType = some .int) (hd : decode c.code pc = .ok (.ireturn, 1)) {fs : List Frame}
    (hl : ∀ (f : JFrame) (acts : List Action), f.method = m → f.locked = none → f.entered = [] → (doReturn e (T.setTop f) acts (some (.int z))).1 = T.setFrames fs) : Steps p.tables e below (T.setTop (mkF m pc Ls (.int z :: rest))) (T.setFrames fs) := by
  have hm' : T.vm.method? m = some meth := X.method'
  have hn : narrow .int (.int z) = .int z := rfl
  show Steps p.tables e below (T.setTop { method := m, pc := pc, locals := Ls, stack := _ :: rest, locked := none }) _
  jvm_step X.here [X.here.top, hx, hd, hm', hret, hn]
  first | (intro acts; rw [hl _ acts rfl rfl rfl]) | rw [hl _ _ rfl rfl rfl]
  exact Steps.refl _
end New
end Jvm.RoadKit
namespace Jvm.Pilot.@@N@@
open Jvm Jvm.ClassFile Sem Op Lib Jvm.Free Jvm.Stand Jvm.LawKit Jvm.RoadKit Bundle Jvm.Pilot.@@N@@.Jvm.D
/-- from A the run comes to its end, as the contract wants it -/
def Goes (p : Program) (e : Env) (below : List Frame) (En : Outcome → State → List Loc → Prop) (Q : Option Value → Heap → List Loc → Prop) (A : State) : Prop :=
  ∃ s₂ o, Steps p.tables e below A s₂ ∧ s₂.status = .running ∧ Ended s₂ below o ∧ ∃ v L, o = .returned v ∧ Q v s₂.heap L ∧ En o s₂ L
abbrev Met (l : Launch) (Z : State) (y : MethodName) (bytes : ByteArray) (maxL : Nat) (ret : Option FieldType) (rm : Room) (ws : List Jvm.Cond) (as : Array Value) (h0 : Heap) (Q : Option Value → Heap → List Loc → Prop) : Prop :=
  MetFree l y (head1 (Jvm.Cond.code y bytes maxL ret :: ws) rm) (fun aa U => aa = as ∧ Z.Warmed39 U.vm ∧ U.heap = h0) (fun _ _ _ _ _ => True) (fun _ U o U' => ∃ v L, o = .returned v ∧ Q v U'.heap L ∧ FrameEnd U o U' L rm.cells rm.slots)
abbrev MetW (l : Launch) (Z : State) (y : MethodName) (bytes : ByteArray) (maxL : Nat) (ret : Option FieldType) (rm : Room) (ws : List Jvm.Cond) (as : Array Value) (h0 : Heap) (Q : Option Value → Heap → List Loc → Prop) : Prop :=
  MetFree l y (head1 (Jvm.Cond.code y bytes maxL ret :: ws) rm) (fun aa U => aa = as ∧ Z.Warmed39 U.vm ∧ U.heap = h0) (fun _ _ _ _ _ => True) (fun _ U o U' => ∃ v L, o = .returned v ∧ Q v U'.heap L ∧ ReturnedEndW U o U' L rm.cells rm.slots)
abbrev MetH (l : Launch) (Z : State) (y : MethodName) (bytes : ByteArray) (maxL : Nat) (ret : Option FieldType) (rm : Room) (ws : List Jvm.Cond) (as : Array Value) (h0 : Heap) (Q : Option Value → Heap → List Loc → Prop) : Prop :=
  MetFree l y (head1 (Jvm.Cond.code y bytes maxL ret :: ws) rm) (fun aa U => aa = as ∧ Z.Warmed39 U.vm ∧ U.heap = h0 ∧ CHv Z consts_1 U.vm h0) (fun _ _ _ _ _ => True) (fun _ U o U' => ∃ v L, o = .returned v ∧ Q v U'.heap L ∧ CHr Z consts_1 U.vm U.heap U'.vm U'.heap ∧ ReturnedEndW U o U' L rm.cells rm.slots)
theorem gw {a0 : Array Value} {Z : State} (hw : ∀ d ∈ tables_1, d.before a0 Z = true) (i : Nat) {d : Jvm.Cond} (h : tables_1[i]? = some d) : d.before a0 Z = true := hw _ (List.mem_of_getElem? h)
theorem w0 {n W : Nat} (h : n ≤ W) : 2 * 0 + n ≤ W := by omega
def Ob (h : Heap) (x : Addr) : Prop := ∀ c : Cell, h[x]? = some c → c.vm.isStatics = false
theorem own_obE {Z : State} {h : Heap} {a : Addr} {C : String} (F : Exa Z h a C) : Ob h a := fun c hc => by obtain ⟨c', k, h1, -, -, h4, -⟩ := F; cases h1.symm.trans hc; exact h4
theorem own_obF {Z : State} {h : Heap} {a : Addr} {C n d : String} {v : Value} (F : Fld Z h a C n d v) : Ob h a := fun c hc => by obtain ⟨c', cf, k, i, f, h1, -, -, -, h5, -⟩ := F; cases h1.symm.trans hc; exact h5
theorem own_obA {Z : State} {h : Heap} {a : Addr} {k : ClassId} {ty : FieldType} {z : Int32} {vs : List Value} {d : Value} (F : Arv Z h a k ty z vs d) : Ob h a := fun c hc => by obtain ⟨c', A, -⟩ := F; cases A.1.symm.trans hc; exact A.plain
theorem own_staK {Z : State} {h h' : Heap} {C n d : String} {v : Value} {ws : List Addr} (F : Sta Z h C n d v) (K : Keep h h' ws) (q : ∀ x ∈ ws, Ob h x) : Sta Z h' C n d v := by
  obtain ⟨cf, i, k, f, st, cell, h1, h2, h3, h4, h5, h6, h7⟩ := F
  exact ⟨cf, i, k, f, st, cell, h1, h2, h3, h4, K.2.1 st cell h5 (fun hm => by have := q st hm cell h5; rw [this] at h6; cases h6), h6, h7⟩
theorem own_insK {Z : State} {h h' : Heap} {a : Addr} {C : String} {b : Bool} {ws : List Addr} (F : Ins Z h a C b) (K : Keep h h' ws) : Ins Z h' a C b := by
  obtain ⟨cell, cT, h1, h2, h3⟩ := F
  obtain ⟨c', g1, g2, g3, -⟩ := K.2.2 _ _ h1
  exact ⟨c', cT, g1, h2, by rw [g2, g3]; exact h3⟩
def NFc (Z : State) (K : String) : Prop := ∃ t kt, Z.vm.findClass K = some t ∧ Z.vm.classes[t]? = some kt ∧ kt.isInterface = false
theorem own_nfI {Z : State} {a0 : Array Value} {K : String} {n : Nat} (w : (Cond.instantiable K n).before a0 Z = true) : NFc Z K := by
  obtain ⟨c, k, h1, h2, -, h4, -⟩ := Cond.instantiable_spec w
  exact ⟨c, k, h1, h2, (Bool.or_eq_false_iff.mp h4).1⟩
theorem own_nfS {Z : State} {a0 : Array Value} {K : String} {x : MethodName} {n d : String} (w : (Cond.selects K x ⟨K, n, d⟩).before a0 Z = true) : NFc Z K := by
  obtain ⟨c, r, m, h1, h2, h3, h4, mk, h5, h6⟩ := Cond.selects_spec w
  exact ⟨_, mk, findClass_of_methodNamed h3, h5, h6⟩
theorem own_nsRoot {Z : State} {a0 : Array Value} {O K : String} (w : (Cond.noSuperclass O).before a0 Z = true) (wk : NFc Z K) (hn : O ≠ K) : NS Z O K := by
  obtain ⟨c, k, h1, h2, h3, -⟩ := Cond.noSuperclass_spec w
  obtain ⟨t, kt, g1, -⟩ := wk
  have ne := ids_ne h1 g1 hn
  refine ⟨c, t, h1, g1, fun fuel => ?_⟩
  cases fuel <;> simp [Vm.isSubclassAux, ne, h2, h3]
set_option maxRecDepth 65536 in
theorem own_nsNo {Z : State} {a0 : Array Value} {C S K : String} (w : (Cond.superclass C S).before a0 Z = true) (wk : NFc Z K) (n : NS Z C K) (hn : C ≠ K) : ∃ c t, Z.vm.findClass C = some c ∧ Z.vm.findClass K = some t ∧ Z.vm.assignable c t = false := by
  obtain ⟨c, t, h0, g0, n3⟩ := n
  obtain ⟨p, k, kp, h1, h2, h3, h4, h5, -⟩ := Cond.superclass_spec h0 w
  obtain ⟨t', kt, g1, g2, g3⟩ := wk
  cases g0.symm.trans g1
  have ne := ids_ne h0 g0 hn
  refine ⟨c, t, h0, g0, ?_⟩
  show Z.vm.assignableAux (255 + 1) c t = false
  cases hq : kt.kind <;> simp [Vm.assignableAux, ne, h2, g2, h5, hq, g3, Vm.isSubclass, n3]
theorem own_selP {Z s : State} {a0 args : Array Value} {y : MethodName} {n : Nat} (hZ : Z.Warmed39 s.vm) (wi : (Cond.instantiable y.cls n).before a0 Z = true) (wp : (Cond.privateMethod y).before a0 Z = true) (wm : (Cond.instanceMethod y).before a0 Z = true) (hy : y.cls ≠ "java/lang/invoke/MethodHandle" ∧ y.cls ≠ "java/lang/invoke/VarHandle") : (Cond.selects y.cls y y).before args s = true := by
  obtain ⟨c, k, h1, h2, -, h4, -⟩ := Cond.instantiable_spec (mvT hZ wi : (Cond.instantiable y.cls n).before #[] s = true)
  exact selects_self_of_private h1 h2 (Bool.or_eq_false_iff.mp h4).1 (Cond.privateMethod_at (mvP hZ wp (args := #[]))) (mvT hZ wm) hy
section OwnSteps
variable {p : Program} {l : Launch} {e : Env} {R : Room} {s : State} {m : MethodId} {args : Array Value} {below : List Frame} {meth : Method} {c : Code} {T : State} {locs : List Loc} {cells slots : Nat}
theorem Goes.step {En : Outcome → State → List Loc → Prop} {Q : Option Value → Heap → List Loc → Prop} {A B : State} (st : ∀ t, Steps p.tables e below A t → Steps p.tables e below B t) (h : Goes p e below En Q A) : Goes p e below En Q B :=
  let ⟨s₂, o, h1, r⟩ := h; ⟨s₂, o, st _ h1, r⟩
theorem Gs {En : Outcome → State → List Loc → Prop} {Q : Option Value → Heap → List Loc → Prop} {A B : State} (st : ∀ t, Steps p.tables e below A t → Steps p.tables e below B t) (h : Goes p e below En Q A) : Goes p e below En Q B := Goes.step st h
theorem own_join {En : Outcome → State → List Loc → Prop} {Q : Option Value → Heap → List Loc → Prop} {A B : State} (hB : Goes p e below En Q B) (k : Goes p e below En Q B → Goes p e below En Q A) : Goes p e below En Q A := k hB
theorem own_joinV {En : Outcome → State → List Loc → Prop} {Q : Option Value → Heap → List Loc → Prop} {A : State} {B : Int32 → State} (hB : ∀ z, Goes p e below En Q (B z)) (k : (∀ z, Goes p e below En Q (B z)) → Goes p e below En Q A) : Goes p e below En Q A := k hB
theorem own_joinP {En : Outcome → State → List Loc → Prop} {Q : Option Value → Heap → List Loc → Prop} {A : State} {B : Int32 → State} {P : Int32 → Prop} (hB : ∀ z, P z → Goes p e below En Q (B z)) (k : (∀ z, P z → Goes p e below En Q (B z)) → Goes p e below En Q A) : Goes p e below En Q A := k hB
theorem own_met {Z : State} {y : MethodName} {bytes : ByteArray} {maxL : Nat} {ret : Option FieldType} {rm : Room} {ws : List Jvm.Cond} {as : Array Value} {h0 : Heap} {Q : Option Value → Heap → List Loc → Prop} (hp : plainFor y = true)
    (body : ∀ p e s m below meth c s₁, meth.sig.returnType = ret → p.tables.exec = Jvm.exec → c.code = bytes → meth.locks = false → c.maxLocals = maxL → s.vm.findClass y.cls = some m.cls → meth.name = y.name → Stand p l e rm s m as below meth c s₁ [] 0 0 → s₁.heap = h0 → Z.Warmed39 s.vm → s.heap = h0 →
      Goes p e below (fun o u L => FrameEnd s o u L rm.cells rm.slots) Q (s₁.setTop (entryFrame m as maxL))) : Met l Z y bytes maxL ret rm ws as h0 Q := by
  refine MetFree.of_bodySF hp hisR ?_
  intro p e s m args below meth c s₁ Bd hml0 hP hK
  obtain ⟨rfl, hZ, hh⟩ := hP
  exact body p e s m below meth c s₁ Bd.returns Bd.exec Bd.bytes (BodyLoose.notSynchronized Bd) hml0 (findClass_of_methodNamed Bd.named) (name_of_methodNamed Bd.named Bd.method).1 (Stand.of_body Bd) (by rw [← hh, Bd.state]; rfl) hZ hh
theorem own_metW {Z : State} {y : MethodName} {bytes : ByteArray} {maxL : Nat} {ret : Option FieldType} {rm : Room} {ws : List Jvm.Cond} {as : Array Value} {h0 : Heap} {Q : Option Value → Heap → List Loc → Prop} (hp : plainFor y = true)
    (body : ∀ p e s m below meth c s₁, meth.sig.returnType = ret → p.tables.exec = Jvm.exec → c.code = bytes → meth.locks = false → c.maxLocals = maxL → (s.setVm s.vm).vm.findClass y.cls = some m.cls → meth.name = y.name → Stand p l e rm (s.setVm s.vm) m as below meth c s₁ [] 0 0 → s₁.heap = h0 → Z.Warmed39 s.vm → s.heap = h0 →
      Goes p e below (fun o u L => ReturnedEndW s o u L rm.cells rm.slots) Q (s₁.setTop (entryFrame m as maxL))) : MetW l Z y bytes maxL ret rm ws as h0 Q := by
  refine MetFree.of_bodySF hp hisR ?_
  intro p e s m args below meth c s₁ Bd hml0 hP hK
  obtain ⟨rfl, hZ, hh⟩ := hP
  exact body p e s m below meth c s₁ Bd.returns Bd.exec Bd.bytes (BodyLoose.notSynchronized Bd) hml0 (findClass_of_methodNamed Bd.named) (name_of_methodNamed Bd.named Bd.method).1 (Stand.of_body Bd) (by rw [← hh, Bd.state]; rfl) hZ hh
theorem Goes.ret (X : Stand p l e R s m args below meth c T locs cells slots) {rc rs : Nat} {Q : Option Value → Heap → List Loc → Prop} {B : State} (v : Option Value) (hv : meth.sig.returnType = none → v = none) (hlk : meth.locks = false) (hc : cells ≤ rc) (hs : slots ≤ rs) (q : Q v T.heap locs)
    (k : ∀ fs, (∀ (f : JFrame) (acts : List Action), f.method = m → f.locked = none → f.entered = [] → (doReturn e (T.setTop f) acts v).1 = T.setFrames fs) → Steps p.tables e below B (T.setFrames fs)) : Goes p e below (fun o u L => FrameEnd s o u L rc rs) Q B := by
  obtain ⟨fs, hr, hrun, hended, hW, hsame⟩ := X.leave (v := v) hv hlk
  exact ⟨_, _, k fs hr, hrun, hended, _, _, rfl, q, ⟨_, rfl⟩, hW, hsame.mono hc hs⟩
theorem Goes.retW {vm₁ : Vm} (X : Stand p l e R (s.setVm vm₁) m args below meth c T locs cells slots) {n : Nat} (hS : s.Since vm₁ n) (hn : n ≤ T.heap.size) {rc rs : Nat} {Q : Option Value → Heap → List Loc → Prop} {B : State} (v : Option Value) (hv : meth.sig.returnType = none → v = none) (hlk : meth.locks = false) (hc : cells ≤ rc) (hs : slots ≤ rs) (q : Q v T.heap locs)
    (k : ∀ fs, (∀ (f : JFrame) (acts : List Action), f.method = m → f.locked = none → f.entered = [] → (doReturn e (T.setTop f) acts v).1 = T.setFrames fs) → Steps p.tables e below B (T.setFrames fs)) : Goes p e below (fun o u L => ReturnedEndW s o u L rc rs) Q B := by
  obtain ⟨fs, hr, hrun, hended, h1, h2, h3, h4⟩ := X.leaveW hS hn (v := v) hv hlk
  exact ⟨_, _, k fs hr, hrun, hended, _, _, rfl, q, h1, h2, h3, h4.mono hc hs⟩
theorem own_metH {Z : State} {y : MethodName} {bytes : ByteArray} {maxL : Nat} {ret : Option FieldType} {rm : Room} {ws : List Jvm.Cond} {as : Array Value} {h0 : Heap} {Q : Option Value → Heap → List Loc → Prop} (hp : plainFor y = true)
    (body : ∀ p e s m below meth c s₁, meth.sig.returnType = ret → p.tables.exec = Jvm.exec → c.code = bytes → meth.locks = false → c.maxLocals = maxL → (s.setVm s.vm).vm.findClass y.cls = some m.cls → meth.name = y.name → Stand p l e rm (s.setVm s.vm) m as below meth c s₁ [] 0 0 → s₁.heap = h0 → Z.Warmed39 s.vm → s.heap = h0 → CHv Z consts_1 s.vm h0 →
      Goes p e below (fun o u L => CHr Z consts_1 s.vm s.heap u.vm u.heap ∧ ReturnedEndW s o u L rm.cells rm.slots) Q (s₁.setTop (entryFrame m as maxL))) : MetH l Z y bytes maxL ret rm ws as h0 Q := by
  refine MetFree.of_bodySF hp hisR ?_
  intro p e s m args below meth c s₁ Bd hml0 hP hK
  obtain ⟨rfl, hZ, hh, hC⟩ := hP
  exact body p e s m below meth c s₁ Bd.returns Bd.exec Bd.bytes (BodyLoose.notSynchronized Bd) hml0 (findClass_of_methodNamed Bd.named) (name_of_methodNamed Bd.named Bd.method).1 (Stand.of_body Bd) (by rw [← hh, Bd.state]; rfl) hZ hh hC
theorem Goes.retH {Z : State} {a0 : Array Value} {h0 h : Heap} {vm₁ : Vm} (X : Stand p l e R (s.setVm vm₁) m args below meth c T locs cells slots) {n : Nat} (hS : s.Since vm₁ n) (eT : T.heap = h) (hn : n ≤ h.size) (hZ : Z.Warmed39 (s.setVm vm₁).vm) (hEL : EW Z a0 consts_1) (hh : s.heap = h0) (hR : CHr Z consts_1 s.vm h0 vm₁ h) {rc rs : Nat} {Q : Option Value → Heap → List Loc → Prop} {B : State} (v : Option Value) (hv : meth.sig.returnType = none → v = none) (hlk : meth.locks = false) (hc : cells ≤ rc) (hs : slots ≤ rs) (q : Q v T.heap locs)
    (k : ∀ fs, (∀ (f : JFrame) (acts : List Action), f.method = m → f.locked = none → f.entered = [] → (doReturn e (T.setTop f) acts v).1 = T.setFrames fs) → Steps p.tables e below B (T.setFrames fs)) : Goes p e below (fun o u L => CHr Z consts_1 s.vm s.heap u.vm u.heap ∧ ReturnedEndW s o u L rc rs) Q B := by
  subst eT hh
  obtain ⟨fs, hr, hrun, hended, h1, h2, h3, h4⟩ := X.leaveW hS hn (v := v) hv hlk
  have A := hR.trans (CHv.at X hZ hEL hR.1)
  exact ⟨_, _, k fs hr, hrun, hended, _, _, rfl, q, A, h1, h2, h3, h4.mono hc hs⟩
theorem own_ldcM {Z : State} {a0 : Array Value} {h : Heap} {own C : String} {index : Nat} {a : Addr} (X : Stand p l e R s m args below meth c T locs cells slots) (hx : p.tables.exec = Jvm.exec) (hZ : Z.Warmed39 s.vm) (hown : s.vm.findClass own = some m.cls) (w : (Cond.classLink own index C).before a0 Z = true) (eT : T.heap = h) (M : Mir Z C a)
    {g : JFrame} (hg : g.method = m) (hd : decode c.code g.pc = .ok (.ldc index, 2)) : ∃ T', Stand p l e R s m args below meth c T' locs cells slots ∧ T'.heap = h ∧ ∀ target, Steps p.tables e below (T'.setTop { g with pc := g.pc + 2, stack := .ref a :: g.stack }) target → Steps p.tables e below (T.setTop g) target := by
  obtain ⟨cc, kc, m1, m2, m3, -⟩ := M
  obtain ⟨k', q, ek⟩ := hZ.alike.2.2 _ _ m2
  obtain ⟨vm', X', st⟩ := X.ldcMirror hx hown (mvT hZ w) (a := a) (by
    have e1 : s.vm.findClass C = some cc := by rw [hZ.alike.findClass]; exact m1
    have e2 : k'.mirror = some a := by rw [ek]; exact m3
    simp [Term.eval, e1, q, e2]) hg hd
  exact ⟨_, X', eT, st⟩
theorem own_retN (X : Stand p l e R s m args below meth c T locs cells slots) (hx : p.tables.exec = Jvm.exec) {pc : Nat} {Ls : Array Slot} {z : Int32} {t : FieldType} {rest : List Value} (hret : meth.sig.returnType = some t) (ht : t = .boolean ∨ t = .byte ∨ t = .char ∨ t = .short) (hn : nar t z = z) (hd : decode c.code pc = .ok (.ireturn, 1)) {fs : List Frame}
    (hl : ∀ (f : JFrame) (acts : List Action), f.method = m → f.locked = none → f.entered = [] → (doReturn e (T.setTop f) acts (some (.int z))).1 = T.setFrames fs) : Steps p.tables e below (T.setTop (mkF m pc Ls (.int z :: rest))) (T.setFrames fs) :=
  retN X hx hret ht hd (by rw [hn]; exact hl)
theorem own_retA (X : Stand p l e R s m args below meth c T locs cells slots) (hx : p.tables.exec = Jvm.exec) {pc : Nat} {Ls : Array Slot} {z : Value} {t : FieldType} {rest : List Value} (hret : meth.sig.returnType = some t) (ht : t.isReference = true) (hz : z.isRef = true) (hd : decode c.code pc = .ok (.areturn, 1)) {fs : List Frame}
    (hl : ∀ (f : JFrame) (acts : List Action), f.method = m → f.locked = none → f.entered = [] → (doReturn e (T.setTop f) acts (some z)).1 = T.setFrames fs) : Steps p.tables e below (T.setTop (mkF m pc Ls (z :: rest))) (T.setFrames fs) := by
  have hm' : T.vm.method? m = some meth := X.method'
  show Steps p.tables e below (T.setTop { method := m, pc := pc, locals := Ls, stack := _ :: rest, locked := none }) _
  jvm_step X.here [X.here.top, hx, hd, hm', hret, hz, ht]
  first | (intro acts; rw [hl _ acts rfl rfl rfl]) | rw [hl _ _ rfl rfl rfl]
  exact Steps.refl _
end OwnSteps
abbrev mN0 : MethodName := ⟨"java/lang/String", "coder", "()B"⟩
abbrev mN1 : MethodName := ⟨"java/lang/String", "isLatin1", "()Z"⟩
abbrev mN2 : MethodName := ⟨"java/lang/String", "length", "()I"⟩
abbrev mN3 : MethodName := ⟨"jdk/internal/util/Preconditions", "checkIndex", "(IILjava/util/function/BiFunction;)I"⟩
abbrev mN4 : MethodName := ⟨"java/lang/String", "checkIndex", "(II)V"⟩
abbrev mN5 : MethodName := ⟨"java/lang/StringLatin1", "charAt", "([BI)C"⟩
abbrev mN6 : MethodName := ⟨"java/lang/StringUTF16", "length", "([B)I"⟩
abbrev mN7 : MethodName := ⟨"java/lang/StringUTF16", "checkIndex", "(I[B)V"⟩
abbrev mN8 : MethodName := ⟨"java/lang/StringUTF16", "getChar", "([BI)C"⟩
abbrev mN9 : MethodName := ⟨"java/lang/StringUTF16", "charAt", "([BI)C"⟩
abbrev mN10 : MethodName := ⟨"java/lang/String", "charAt", "(I)C"⟩
abbrev mN11 : MethodName := ⟨"java/lang/String", "<init>", "([CIILjava/lang/Void;)V"⟩
abbrev mN12 : MethodName := ⟨"java/lang/String", "<init>", "([C)V"⟩
abbrev mN13 : MethodName := ⟨"java/lang/StringUTF16", "putChar", "([BII)V"⟩
abbrev mN14 : MethodName := ⟨"java/lang/StringUTF16", "newBytesLength", "(I)I"⟩
abbrev mN15 : MethodName := ⟨"java/lang/StringUTF16", "newBytesFor", "(I)[B"⟩
abbrev mN16 : MethodName := ⟨"java/lang/StringUTF16", "toBytes", "([CII)[B"⟩
abbrev mN17 : MethodName := ⟨"java/lang/StringUTF16", "compress", "([CI[BII)I"⟩
abbrev mN18 : MethodName := ⟨"java/lang/StringUTF16", "compress", "([CII)[B"⟩
abbrev mN19 : MethodName := ⟨"java/lang/StringUTF16", "coderFromArrayLen", "([BI)B"⟩
abbrev mN20 : MethodName := ⟨"java/lang/StringLatin1", "canEncode", "(C)Z"⟩
abbrev mN21 : MethodName := ⟨"java/lang/StringLatin1", "toBytes", "(C)[B"⟩
abbrev mN22 : MethodName := ⟨"java/lang/StringUTF16", "toBytes", "(C)[B"⟩
abbrev mN23 : MethodName := ⟨"java/lang/String", "<init>", "([BB)V"⟩
abbrev mN24 : MethodName := ⟨"java/lang/String", "valueOf", "(C)Ljava/lang/String;"⟩
abbrev mN25 : MethodName := ⟨"com/example/token_into_keys/tokenintokeys/text/TextShapeMatchesPinLaw", "fits", "(CC)Z"⟩
abbrev mN26 : MethodName := ⟨"com/example/token_into_keys/tokenintokeys/text/TextShapeMatchesPinLaw", "str", "(ICCC)Ljava/lang/String;"⟩
abbrev mN27 : MethodName := ⟨"com/example/token_into_keys/tokenintokeys/text/TextShape", "startsWith", "(Ljava/lang/String;Ljava/lang/String;)Z"⟩
abbrev mN28 : MethodName := ⟨"com/example/token_into_keys/tokenintokeys/text/TextShape", "matches", "(Ljava/lang/String;Ljava/lang/String;)Z"⟩
def Lat (c : Int32) : Prop := 0 ≤ c.toInt ∧ c.toInt ≤ 255
def Chr (c : Int32) : Prop := 0 ≤ c.toInt ∧ c.toInt ≤ 65535
theorem Lat.chr {c : Int32} (h : Lat c) : Chr c := ⟨h.1, by have := h.2; omega⟩
def lo8 (c : Int32) : Int32 := c.toInt8.toInt32
def hi8 (c : Int32) : Int32 := (c >>> ((8 : Int32) &&& 31)).toInt8.toInt32
def latV (cs : List Int32) : List Value := cs.map fun c => .int (lo8 c)
def utfV (cs : List Int32) : List Value := cs.flatMap fun c => [.int (lo8 c), .int (hi8 c)]
theorem own_shr0 (x : Int32) : x >>> ((0 : Int32) &&& 31) = x := by
  apply Int32.toInt_inj.mp
  rw [c_ishr x 0 0 (by decide)]; simp
theorem own_shl0 (x : Int32) : x <<< ((0 : Int32) &&& 31) = x := by
  have h := c_ishl x 0 0 (by decide)
  have a := rng32 x; have b := rng32 (x <<< ((0 : Int32) &&& 31))
  apply Int32.toInt_inj.mp
  simp only [Nat.pow_zero] at h
  omega
theorem own_nc {c : Int32} (h : Chr c) : nar .char c = c := by
  have q := c_i2c c
  obtain ⟨h1, h2⟩ := h
  apply Int32.toInt_inj.mp
  show c.toUInt32.toUInt16.toUInt32.toInt32.toInt = c.toInt
  omega
theorem own_nb (c : Int32) : nar .byte (c.toInt8.toInt32) = lo8 c := by
  show (c.toInt8.toInt32).toInt8.toInt32 = c.toInt8.toInt32
  have a := c_i2b c
  have b := c_i2b (c.toInt8.toInt32)
  apply Int32.toInt_inj.mp
  omega
theorem own_nbh (c : Int32) : nar .byte ((c >>> ((8 : Int32) &&& 31)).toInt8.toInt32) = hi8 c := own_nb _
theorem own_nb2 (c : Int32) : c.toInt8.toInt32.toInt8.toInt32 = lo8 c := own_nb c
theorem own_nbh2 (c : Int32) : (c >>> ((8 : Int32) &&& 31)).toInt8.toInt32.toInt8.toInt32 = hi8 c := own_nb _
theorem own_backL {c : Int32} (h : Lat c) : (lo8 c &&& (255 : Int32)) = c := by
  obtain ⟨h1, h2⟩ := h
  have a := c_i2b c
  have b := c_mask (lo8 c) 255 8 (by decide) (by decide)
  apply Int32.toInt_inj.mp
  rw [b]
  show c.toInt8.toInt32.toInt % 256 = c.toInt
  omega
theorem own_i2c {c : Int32} (h : Chr c) : c.toUInt32.toUInt16.toUInt32.toInt32 = c := own_nc h
theorem own_backU {c : Int32} (h : Chr c) : ((((lo8 c &&& (255 : Int32)) <<< ((0 : Int32) &&& 31)) ||| ((hi8 c &&& (255 : Int32)) <<< ((8 : Int32) &&& 31))).toUInt32.toUInt16.toUInt32.toInt32) = c := by
  obtain ⟨h1, h2⟩ := h
  rw [own_shl0]
  have a := c_i2b c
  have m1 := c_mask (lo8 c) 255 8 (by decide) (by decide)
  have m2 := c_mask (hi8 c) 255 8 (by decide) (by decide)
  have s1 := c_ishr c 8 8 (by decide)
  have b := c_i2b (c >>> ((8 : Int32) &&& 31))
  have e1 : (lo8 c).toInt = c.toInt8.toInt32.toInt := rfl
  have e2 : (hi8 c).toInt = (c >>> ((8 : Int32) &&& 31)).toInt8.toInt32.toInt := rfl
  have sh := c_ishl (hi8 c &&& (255 : Int32)) 8 8 (by decide)
  generalize (lo8 c &&& (255 : Int32)) = x at *
  generalize hy : (hi8 c &&& (255 : Int32)) = y at *
  generalize hw : y <<< ((8 : Int32) &&& 31) = w at *
  have hyr : 0 ≤ y.toInt ∧ y.toInt < 256 := by omega
  have rw1 := rng32 w
  have hwv : w.toInt = y.toInt * 256 := by omega
  have o := c_or w x 8 (by decide) 256 (by decide) (by omega) (by omega) (by omega)
  rw [Int32.or_comm]
  have i := c_i2c (w ||| x)
  have r := rng32 (w ||| x)
  apply Int32.toInt_inj.mp
  omega
theorem own_shr1 {n : Nat} (h : n ≤ 1000) : (Int32.ofNat (2 * n)) >>> ((1 : Int32) &&& 31) = Int32.ofNat n := by
  apply Int32.toInt_inj.mp
  rw [c_ishr _ 1 1 (by decide)]
  have a : (Int32.ofNat (2 * n)).toInt = 2 * n := Int32.toInt_ofNat_of_lt (by omega)
  have b : (Int32.ofNat n).toInt = n := Int32.toInt_ofNat_of_lt (by omega)
  rw [a, b]; omega
abbrev JS : String := "java/lang/String"
def StrOf (Z : State) (h : Heap) (a : Addr) (cs : List Int32) : Prop := ∃ (b : Addr) (kb : ClassId), Exa Z h a "java/lang/String" ∧ Fld Z h a "java/lang/String" "value" "[B" (.ref b) ∧
  ((Fld Z h a "java/lang/String" "coder" "B" (.int 0) ∧ (∀ c ∈ cs, Lat c) ∧ Arv Z h b kb .byte (Int32.ofNat cs.length) (latV cs) (.int 0)) ∨ (Fld Z h a "java/lang/String" "coder" "B" (.int 1) ∧ (∀ c ∈ cs, Chr c) ∧ Arv Z h b kb .byte (Int32.ofNat (2 * cs.length)) (utfV cs) (.int 0))) ∧ cs.length ≤ 1000
section S
variable {Z : State} {h h' : Heap} {a b o : Addr} {kb : ClassId} {cs : List Int32} {z : Int32} {vs : List Value} {ws : List Addr} {a0 : Array Value}
theorem StrOf.latin (A : Exa Z h a "java/lang/String") (F : Fld Z h a "java/lang/String" "value" "[B" (.ref b)) (C : Fld Z h a "java/lang/String" "coder" "B" (.int 0)) (V : Arv Z h b kb .byte z vs (.int 0)) (hL : ∀ c ∈ cs, Lat c) (hz : z = Int32.ofNat cs.length) (hv : vs = latV cs) (hn : cs.length ≤ 1000) : StrOf Z h a cs := by
  subst hz hv; exact ⟨b, kb, A, F, Or.inl ⟨C, hL, V⟩, hn⟩
theorem StrOf.utf (A : Exa Z h a "java/lang/String") (F : Fld Z h a "java/lang/String" "value" "[B" (.ref b)) (C : Fld Z h a "java/lang/String" "coder" "B" (.int 1)) (V : Arv Z h b kb .byte z vs (.int 0)) (hL : ∀ c ∈ cs, Chr c) (hz : z = Int32.ofNat (2 * cs.length)) (hv : vs = utfV cs) (hn : cs.length ≤ 1000) : StrOf Z h a cs := by
  subst hz hv; exact ⟨b, kb, A, F, Or.inr ⟨C, hL, V⟩, hn⟩
theorem StrOf.lt (S : StrOf Z h a cs) : a < h.size := by obtain ⟨b, kb, A, -⟩ := S; exact A.lt
theorem StrOf.exa (S : StrOf Z h a cs) : Exa Z h a "java/lang/String" := by obtain ⟨b, kb, A, -⟩ := S; exact A
theorem StrOf.ext (S : StrOf Z h a cs) (E : Ext h h') : StrOf Z h' a cs := by
  obtain ⟨b, kb, A, F, R, n⟩ := S
  exact ⟨b, kb, A.ext E, F.ext E, R.imp (fun ⟨C, L, V⟩ => ⟨C.ext E, L, V.ext E⟩) (fun ⟨C, L, V⟩ => ⟨C.ext E, L, V.ext E⟩), n⟩
def NB (Z : State) (h : Heap) (x : Addr) : Prop := ∀ (b : Addr) (kb : ClassId) (z : Int32) (vs : List Value) (d : Value), Arv Z h b kb .byte z vs d → x ≠ b
theorem own_nbE {C : String} {n : Nat} (E : Exa Z h o C) (w : (Cond.instantiable C n).before a0 Z = true) : NB Z h o := fun b kb z vs d V => E.neArv V w
theorem own_nbC {k : ClassId} {d : Value} (E : Arv Z h o k .char z vs d) : NB Z h o := fun b kb z' vs' d' V q => by
  subst q
  obtain ⟨c1, A1, -⟩ := E
  obtain ⟨c2, A2, -⟩ := V
  cases A1.1.symm.trans A2.1
  obtain ⟨-, k1, j1, m1, e1⟩ := A1.2.1
  obtain ⟨-, k2, j2, m2, e2⟩ := A2.2.1
  cases j1.symm.trans j2
  rw [e1] at e2; cases e2
theorem StrOf.keep (S : StrOf Z h a cs) (K : Keep h h' ws) (q : ∀ x ∈ ws, x ≠ a ∧ NB Z h x) : StrOf Z h' a cs := by
  obtain ⟨b, kb, A, F, R, n⟩ := S
  have ha : a ∉ ws := fun m => (q a m).1 rfl
  refine ⟨b, kb, A.keep K, F.keep K ha, ?_, n⟩
  rcases R with ⟨C, L, V⟩ | ⟨C, L, V⟩
  · exact Or.inl ⟨C.keep K ha, L, V.keep K fun m => (q b m).2 _ _ _ _ _ V rfl⟩
  · exact Or.inr ⟨C.keep K ha, L, V.keep K fun m => (q b m).2 _ _ _ _ _ V rfl⟩
theorem StrOf.wr {sl : Nat} {v : Value} (S : StrOf Z h a cs) (W : Wr h h' o sl v) (q : o ≠ a) (r : NB Z h o) : StrOf Z h' a cs := S.keep (Keep.of_wr W) (allS ⟨q, r⟩ all0)
end S
theorem own_latGet {cs : List Int32} {j r : Int32} (h0 : ¬ j < 0) (h1 : j < Int32.ofNat cs.length) (hn : cs.length ≤ 1000) (hr : cs.getD j.toNatClampNeg 0 = r) : (latV cs).getD j.toNatClampNeg (.int 0) = .int (lo8 r) := by
  have hl : (Int32.ofNat cs.length).toInt = cs.length := Int32.toInt_ofNat_of_lt (by omega)
  rw [Int32.lt_iff_toInt_lt, hl] at h1
  rw [Int32.lt_iff_toInt_lt] at h0
  have e0 : (0 : Int32).toInt = 0 := by decide
  have hj : j.toNatClampNeg < cs.length := by simp only [Int32.toNatClampNeg]; omega
  subst hr
  simp [latV, List.getD_eq_getElem?_getD, List.getElem?_map, List.getElem?_eq_getElem hj]
theorem own_idx {cs : List Int32} {j : Int32} (h0 : ¬ j < 0) (h1 : j < Int32.ofNat cs.length) (hn : cs.length ≤ 1000) : j.toNatClampNeg < cs.length := by
  have hl : (Int32.ofNat cs.length).toInt = cs.length := Int32.toInt_ofNat_of_lt (by omega)
  rw [Int32.lt_iff_toInt_lt, hl] at h1
  rw [Int32.lt_iff_toInt_lt] at h0
  have e0 : (0 : Int32).toInt = 0 := by decide
  simp only [Int32.toNatClampNeg]; omega
theorem own_mem {cs : List Int32} {j r : Int32} (h0 : ¬ j < 0) (h1 : j < Int32.ofNat cs.length) (hn : cs.length ≤ 1000) (hr : cs.getD j.toNatClampNeg 0 = r) : r ∈ cs := by
  have hj := own_idx h0 h1 hn
  subst hr
  simp [List.getD_eq_getElem?_getD, List.getElem?_eq_getElem hj]
theorem own_latN {c : Int32} (h : Lat c) : ¬ ((255 : Int32) < c) := by
  obtain ⟨h1, h2⟩ := h
  rw [Int32.lt_iff_toInt_lt]
  have e0 : (255 : Int32).toInt = 255 := by decide
  omega
theorem StrOf.len {Z : State} {h : Heap} {a : Addr} {cs : List Int32} (S : StrOf Z h a cs) : cs.length ≤ 1000 := by obtain ⟨b, kb, -, -, -, n⟩ := S; exact n
theorem own_il {cs : List Int32} (k : Nat) (j : Int32) (hj : j.toInt = k) (h : k < cs.length) (hn : cs.length ≤ 1000) : j < Int32.ofNat cs.length := by
  have hl : (Int32.ofNat cs.length).toInt = cs.length := Int32.toInt_ofNat_of_lt (by omega)
  rw [Int32.lt_iff_toInt_lt, hl, hj]; omega
theorem own_len_lt {cs : List Int32} {k : Int32} {n : Nat} (hk : k.toInt = n) (hn : cs.length ≤ 1000) : Int32.ofNat cs.length < k ↔ cs.length < n := by
  have hl : (Int32.ofNat cs.length).toInt = cs.length := Int32.toInt_ofNat_of_lt (by omega)
  rw [Int32.lt_iff_toInt_lt, hl, hk]; omega
theorem own_toLat {c : Int32} (h : Chr c) (q : ¬ ((255 : Int32) < c)) : Lat c := by
  obtain ⟨h1, h2⟩ := h
  rw [Int32.lt_iff_toInt_lt] at q
  have e0 : (255 : Int32).toInt = 255 := by decide
  exact ⟨h1, by omega⟩
theorem own_two {cs : List Int32} {j : Int32} (h0 : ¬ j < 0) (h1 : j < Int32.ofNat cs.length) (hn : cs.length ≤ 1000) : (j <<< ((1 : Int32) &&& 31)).toInt = 2 * j.toInt ∧ ((j <<< ((1 : Int32) &&& 31)) + (1 : Int32)).toInt = 2 * j.toInt + 1 ∧ 0 ≤ j.toInt ∧ j.toInt < cs.length := by
  have hl : (Int32.ofNat cs.length).toInt = cs.length := Int32.toInt_ofNat_of_lt (by omega)
  rw [Int32.lt_iff_toInt_lt, hl] at h1
  rw [Int32.lt_iff_toInt_lt] at h0
  have e0 : (0 : Int32).toInt = 0 := by decide
  have e1 : (1 : Int32).toInt = 1 := by decide
  have s := c_ishl j 1 1 (by decide)
  have r := rng32 (j <<< ((1 : Int32) &&& 31))
  have a := c_iadd (j <<< ((1 : Int32) &&& 31)) 1
  have r2 := rng32 ((j <<< ((1 : Int32) &&& 31)) + (1 : Int32))
  rw [e1] at a
  refine ⟨by omega, by omega, by omega, by omega⟩
theorem own_ub0 {cs : List Int32} {j : Int32} (h0 : ¬ j < 0) (h1 : j < Int32.ofNat cs.length) (hn : cs.length ≤ 1000) : ¬ (j <<< ((1 : Int32) &&& 31)) < 0 ∧ (j <<< ((1 : Int32) &&& 31)) < Int32.ofNat (2 * cs.length) := by
  obtain ⟨a, b, c, d⟩ := own_two h0 h1 hn
  have hl : (Int32.ofNat (2 * cs.length)).toInt = (2 * cs.length : Nat) := Int32.toInt_ofNat_of_lt (by omega)
  have e0 : (0 : Int32).toInt = 0 := by decide
  rw [Int32.lt_iff_toInt_lt, Int32.lt_iff_toInt_lt, hl, a, e0]
  omega
theorem own_ub1 {cs : List Int32} {j : Int32} (h0 : ¬ j < 0) (h1 : j < Int32.ofNat cs.length) (hn : cs.length ≤ 1000) : ¬ ((j <<< ((1 : Int32) &&& 31)) + (1 : Int32)) < 0 ∧ ((j <<< ((1 : Int32) &&& 31)) + (1 : Int32)) < Int32.ofNat (2 * cs.length) := by
  obtain ⟨a, b, c, d⟩ := own_two h0 h1 hn
  have hl : (Int32.ofNat (2 * cs.length)).toInt = (2 * cs.length : Nat) := Int32.toInt_ofNat_of_lt (by omega)
  have e0 : (0 : Int32).toInt = 0 := by decide
  rw [Int32.lt_iff_toInt_lt, Int32.lt_iff_toInt_lt, hl, b, e0]
  omega
theorem own_utfAt : ∀ (cs : List Int32) (i : Nat), i < cs.length → (utfV cs).getD (2 * i) (.int 0) = .int (lo8 (cs.getD i 0)) ∧ (utfV cs).getD (2 * i + 1) (.int 0) = .int (hi8 (cs.getD i 0))
  | [], i, h => by simp at h
  | c :: cs, 0, _ => ⟨rfl, rfl⟩
  | c :: cs, i + 1, h => by
    have q := own_utfAt cs i (by simpa using h)
    exact q
theorem own_ug0 {cs : List Int32} {j r : Int32} (h0 : ¬ j < 0) (h1 : j < Int32.ofNat cs.length) (hn : cs.length ≤ 1000) (hr : cs.getD j.toNatClampNeg 0 = r) : (utfV cs).getD (j <<< ((1 : Int32) &&& 31)).toNatClampNeg (.int 0) = .int (lo8 r) := by
  obtain ⟨a, b, c, d⟩ := own_two h0 h1 hn
  have e : (j <<< ((1 : Int32) &&& 31)).toNatClampNeg = 2 * j.toNatClampNeg := by simp only [Int32.toNatClampNeg, a]; omega
  rw [e, (own_utfAt cs _ (own_idx h0 h1 hn)).1, hr]
theorem own_ug1 {cs : List Int32} {j r : Int32} (h0 : ¬ j < 0) (h1 : j < Int32.ofNat cs.length) (hn : cs.length ≤ 1000) (hr : cs.getD j.toNatClampNeg 0 = r) : (utfV cs).getD ((j <<< ((1 : Int32) &&& 31)) + (1 : Int32)).toNatClampNeg (.int 0) = .int (hi8 r) := by
  obtain ⟨a, b, c, d⟩ := own_two h0 h1 hn
  have e : ((j <<< ((1 : Int32) &&& 31)) + (1 : Int32)).toNatClampNeg = 2 * j.toNatClampNeg + 1 := by simp only [Int32.toNatClampNeg, b]; omega
  rw [e, (own_utfAt cs _ (own_idx h0 h1 hn)).2, hr]
theorem own_stv {s : State} {args : Array Value} {C n d : String} {k : Int32} (h : (Jvm.Cond.eq (Jvm.Term.static C n d) (Jvm.Term.int k)).value args s none s [] = some true) : (Jvm.Term.static C n d).eval args s none [] s = some (.int k) := by
  obtain ⟨x, y, h1, h2, h3, h4⟩ := cmp_v (Or.inl h)
  have e : y = .int k := by simpa [Term.eval] using h2.symm
  subst e
  obtain ⟨z, rfl⟩ := h4
  have q := gotT (Cond.eq_ints h1 rfl) h
  rw [h1, q]
theorem own_safeNew {Z : State} {EL : List (String × Nat)} {vm : Vm} {h : Heap} {x : Addr} (hal : Z.vm.Alike vm) (E : Exa Z h x "java/lang/String") (V : Fld Z h x "java/lang/String" "value" "[B" .null) : Safe Z EL vm h x := fun B => by
  obtain ⟨cell, k, e1, e2, e3, -, -⟩ := E
  obtain ⟨cell', cf, kf, i, f, v1, v2, v3, v4, v5, v6, v7⟩ := V
  cases e1.symm.trans v1
  obtain ⟨p, -, u, a, -, q, -, F, rfl | rfl⟩ := B
  · cases (show h[q.sa]? = some q.sC from F.ha).symm.trans e1
    obtain ⟨cS, ⟨r, -, -⟩, -⟩ := F
    obtain ⟨k', w, -⟩ := State.fieldFound?_setVm (s := ({ Z with heap := h } : State)) (vm' := vm) hal v2
    obtain ⟨c2, k2, i2, w2, -⟩ := r.2.2.2.1
    have w3 := w.symm.trans w2
    simp only [Option.some.injEq, Prod.mk.injEq] at w3
    have r8 := r.2.2.2.2.2.2.2.1
    rw [← w3.2.2.2, v7] at r8
    cases r8
  · cases (show h[q.sd]? = some q.SA from F.hd).symm.trans e1
    obtain ⟨cS, -, -, f', -⟩ := F
    have f2 : vm.findClass "[B" = some q.SA.cls := f'
    rw [hal.findClass] at f2
    obtain ⟨k1, q1, q2⟩ := Vm.findClass_spec f2
    obtain ⟨k2, q3, q4⟩ := Vm.findClass_spec e2
    cases q1.symm.trans q3
    exact absurd (q2.symm.trans q4) (by decide)
def own_fit2 (p c : Int32) : Int32 := if p = 48 then (if c < 48 then 0 else if 57 < c then 0 else 1) else if c = p then 1 else 0
def own_sw : List Int32 → List Int32 → Int32
  | [], _ => 1
  | _ :: _, [] => 0
  | p :: ps, c :: cs => if own_fit2 p c = 0 then 0 else own_sw ps cs
theorem own_swShort : ∀ (ps cs : List Int32), cs.length < ps.length → own_sw ps cs = 0
  | [], cs, h => by simp at h
  | _ :: _, [], _ => rfl
  | p :: ps, c :: cs, h => by
    simp only [own_sw]
    split
    · rfl
    · exact own_swShort ps cs (by simpa using h)
theorem own_mask3 (x : Int32) : (x &&& (3 : Int32)) = 0 ∨ (x &&& (3 : Int32)) = 1 ∨ (x &&& (3 : Int32)) = 2 ∨ (x &&& (3 : Int32)) = 3 := by
  have h := c_and x 3 (by decide)
  have e3 : (3 : Int32).toInt = 3 := by decide
  rw [e3] at h
  generalize (x &&& (3 : Int32)) = r at *
  have e0 : (0 : Int32).toInt = 0 := by decide
  have e1 : (1 : Int32).toInt = 1 := by decide
  have e2 : (2 : Int32).toInt = 2 := by decide
  simp only [← Int32.toInt_inj, e0, e1, e2, e3]
  omega
def own_str (n a b c : Int32) : List Int32 := if n = 0 then [] else if n = 1 then [a] else if n = 2 then [a, b] else [a, b, c]
def own_mt (ps xs : List Int32) : Int32 := if Int32.ofNat xs.length = Int32.ofNat ps.length then (if own_sw ps xs = 0 then 0 else 1) else 0
theorem own_chrI (x : Int32) : Chr (x.toUInt32.toUInt16.toUInt32.toInt32) := by
  have h := c_i2c x
  exact ⟨by omega, by omega⟩
theorem d0_0 : decode jdk_42_method_152_code 0 = .ok (.getstatic 38, 3) := by decide +kernel
theorem d0_3 : decode jdk_42_method_152_code 3 = .ok (.ifCond .eq 10, 3) := by decide +kernel
theorem d0_6 : decode jdk_42_method_152_code 6 = .ok (.aload_n 0, 1) := by decide +kernel
theorem d0_7 : decode jdk_42_method_152_code 7 = .ok (.getfield 15, 3) := by decide +kernel
theorem d0_10 : decode jdk_42_method_152_code 10 = .ok (.goto 4, 3) := by decide +kernel
theorem d0_14 : decode jdk_42_method_152_code 14 = .ok (.ireturn, 1) := by decide +kernel
theorem own_pn0 : plainName "java/lang/String" = true := by first | (simp [plainName, overriddenIn]; done) | decide +kernel
theorem own_ef_rs_coder0 (m : MethodId) (x0 : Addr) : entryFrame m #[(.ref x0)] 1 = mkF m 0 #[.val (.ref x0)] [] := by first | (simp [entryFrame, mkF, argsToLocals, Value.category]; done) | rfl
def Q_rs_coder0 (Z : State) (a : Addr) (cz : Int32) (h0 : Heap) (n0 : Nat) (v : Option Value) (h : Heap) (L : List Loc) : Prop := v = some (.int (0 : Int32)) ∧ Fr n0 L ∧ h = h0
set_option maxRecDepth 65536 in
set_option maxHeartbeats 40000000 in
theorem rs_coder0 (l : Launch) (Z : State) (a0 : Array Value) (hw : ∀ d ∈ tables_1, d.before a0 Z = true) (ws : List Jvm.Cond) (a : Addr) (cz : Int32) (h0 : Heap) (n0 : Nat) (Z0 : n0 ≤ h0.size) (F_coder_a : Fld Z h0 a "java/lang/String" "coder" "B" (.int (0 : Int32))) (S_COMPACT_STRINGS : Sta Z h0 "java/lang/String" "COMPACT_STRINGS" "Z" (.int cz)) (hcz : ¬ (cz = (0 : Int32))) :
    Met l Z mN0 jdk_42_method_152_code 1 (some .byte) ({ frames := 0, cells := 0, slots := 0, locals := 0 } : Room) ws #[(.ref a)] h0 (Q_rs_coder0 Z a cz h0 n0) := by
  refine own_met (plainFor_of_name own_pn0) ?_
  intro p e s m below meth c s₁ hret hx hby hlk hml hown hnm X0 e0 hZ hh
  have N0 := Fr.nil n0
  refine Gs (fun _ tk => castTop (own_ef_rs_coder0 m a) tk) ?_
  show Goes _ _ _ _ _ (s₁.setTop (mkF m 0 #[.val (.ref a)] []))
  obtain ⟨T1, X1, e1, st1⟩ := getS2 X0 hx hZ hown (host := "") (Or.inl (gw hw 41 rfl)) Via.refl e0 S_COMPACT_STRINGS (g := (mkF m 0 #[.val (.ref a)] [])) rfl (hb hby d0_0)
  refine Gs st1 ?_
  show Goes _ _ _ _ _ (T1.setTop (mkF m 3 #[.val (.ref a)] [(.int cz)]))
  refine Gs (fun _ tk => XS.ifNo X1.here hx rfl (hb hby d0_3) rfl ((if0 _ _).trans (feq hcz).1) tk) ?_
  refine Gs (fun _ tk => XS.aloadN X1.here hx rfl (hb hby d0_6) rfl rfl tk) ?_
  obtain ⟨T2, X2, e2, st2⟩ := getF X1 hx hZ hown (host := "") (Or.inl (gw hw 26 rfl)) Via.refl e1 F_coder_a (g := (mkF m 7 #[.val (.ref a)] [(.ref a)])) rfl rfl (hb hby d0_7)
  refine Gs st2 ?_
  show Goes _ _ _ _ _ (T2.setTop (mkF m 10 #[.val (.ref a)] [(.int (0 : Int32))]))
  refine Gs (fun _ tk => XS.goto X2.here hx rfl (pc0 := 10) (pc' := 14) rfl (hb hby d0_10) (by decide) (by decide) tk) ?_
  refine Goes.ret X2 (some (.int (0 : Int32))) (fun h => by rw [hret] at h; cases h) hlk (by decide) (by decide) ?_ (fun fs hr => ?_)
  · exact ⟨rfl, N0, e2⟩
  · exact own_retN X2 hx (t := .byte) hret (by simp) rfl (hb hby d0_14) hr
theorem d1_0 : decode jdk_42_method_154_code 0 = .ok (.getstatic 38, 3) := by decide +kernel
theorem d1_3 : decode jdk_42_method_154_code 3 = .ok (.ifCond .eq 14, 3) := by decide +kernel
theorem d1_6 : decode jdk_42_method_154_code 6 = .ok (.aload_n 0, 1) := by decide +kernel
theorem d1_7 : decode jdk_42_method_154_code 7 = .ok (.getfield 15, 3) := by decide +kernel
theorem d1_10 : decode jdk_42_method_154_code 10 = .ok (.ifCond .ne 7, 3) := by decide +kernel
theorem d1_13 : decode jdk_42_method_154_code 13 = .ok (.iconst 1, 1) := by decide +kernel
theorem d1_14 : decode jdk_42_method_154_code 14 = .ok (.goto 4, 3) := by decide +kernel
theorem d1_18 : decode jdk_42_method_154_code 18 = .ok (.ireturn, 1) := by decide +kernel
theorem own_ef_rs_isl0 (m : MethodId) (x0 : Addr) : entryFrame m #[(.ref x0)] 1 = mkF m 0 #[.val (.ref x0)] [] := by first | (simp [entryFrame, mkF, argsToLocals, Value.category]; done) | rfl
def Q_rs_isl0 (Z : State) (a : Addr) (cz : Int32) (h0 : Heap) (n0 : Nat) (v : Option Value) (h : Heap) (L : List Loc) : Prop := v = some (.int (1 : Int32)) ∧ Fr n0 L ∧ h = h0
set_option maxRecDepth 65536 in
set_option maxHeartbeats 40000000 in
theorem rs_isl0 (l : Launch) (Z : State) (a0 : Array Value) (hw : ∀ d ∈ tables_1, d.before a0 Z = true) (ws : List Jvm.Cond) (a : Addr) (cz : Int32) (h0 : Heap) (n0 : Nat) (Z0 : n0 ≤ h0.size) (F_coder_a : Fld Z h0 a "java/lang/String" "coder" "B" (.int (0 : Int32))) (S_COMPACT_STRINGS : Sta Z h0 "java/lang/String" "COMPACT_STRINGS" "Z" (.int cz)) (hcz : ¬ (cz = (0 : Int32))) :
    Met l Z mN1 jdk_42_method_154_code 1 (some .boolean) ({ frames := 0, cells := 0, slots := 0, locals := 0 } : Room) ws #[(.ref a)] h0 (Q_rs_isl0 Z a cz h0 n0) := by
  refine own_met (plainFor_of_name own_pn0) ?_
  intro p e s m below meth c s₁ hret hx hby hlk hml hown hnm X0 e0 hZ hh
  have N0 := Fr.nil n0
  refine Gs (fun _ tk => castTop (own_ef_rs_isl0 m a) tk) ?_
  show Goes _ _ _ _ _ (s₁.setTop (mkF m 0 #[.val (.ref a)] []))
  obtain ⟨T1, X1, e1, st1⟩ := getS2 X0 hx hZ hown (host := "") (Or.inl (gw hw 41 rfl)) Via.refl e0 S_COMPACT_STRINGS (g := (mkF m 0 #[.val (.ref a)] [])) rfl (hb hby d1_0)
  refine Gs st1 ?_
  show Goes _ _ _ _ _ (T1.setTop (mkF m 3 #[.val (.ref a)] [(.int cz)]))
  refine Gs (fun _ tk => XS.ifNo X1.here hx rfl (hb hby d1_3) rfl ((if0 _ _).trans (feq hcz).1) tk) ?_
  refine Gs (fun _ tk => XS.aloadN X1.here hx rfl (hb hby d1_6) rfl rfl tk) ?_
  obtain ⟨T2, X2, e2, st2⟩ := getF X1 hx hZ hown (host := "") (Or.inl (gw hw 26 rfl)) Via.refl e1 F_coder_a (g := (mkF m 7 #[.val (.ref a)] [(.ref a)])) rfl rfl (hb hby d1_7)
  refine Gs st2 ?_
  show Goes _ _ _ _ _ (T2.setTop (mkF m 10 #[.val (.ref a)] [(.int (0 : Int32))]))
  refine Gs (fun _ tk => XS.ifNo X2.here hx rfl (hb hby d1_10) rfl ((if0 _ _).trans (teq (by decide : ((0 : Int32) = (0 : Int32)))).2) tk) ?_
  refine Gs (fun _ tk => XS.iconst X2.here hx rfl (hb hby d1_13) tk) ?_
  refine Gs (fun _ tk => XS.goto X2.here hx rfl (pc0 := 14) (pc' := 18) rfl (hb hby d1_14) (by decide) (by decide) tk) ?_
  refine Goes.ret X2 (some (.int (1 : Int32))) (fun h => by rw [hret] at h; cases h) hlk (by decide) (by decide) ?_ (fun fs hr => ?_)
  · exact ⟨rfl, N0, e2⟩
  · exact own_retN X2 hx (t := .boolean) hret (by simp) rfl (hb hby d1_18) hr
theorem own_ef_rs_coder1 (m : MethodId) (x0 : Addr) : entryFrame m #[(.ref x0)] 1 = mkF m 0 #[.val (.ref x0)] [] := by first | (simp [entryFrame, mkF, argsToLocals, Value.category]; done) | rfl
def Q_rs_coder1 (Z : State) (a : Addr) (cz : Int32) (h0 : Heap) (n0 : Nat) (v : Option Value) (h : Heap) (L : List Loc) : Prop := v = some (.int (1 : Int32)) ∧ Fr n0 L ∧ h = h0
set_option maxRecDepth 65536 in
set_option maxHeartbeats 40000000 in
theorem rs_coder1 (l : Launch) (Z : State) (a0 : Array Value) (hw : ∀ d ∈ tables_1, d.before a0 Z = true) (ws : List Jvm.Cond) (a : Addr) (cz : Int32) (h0 : Heap) (n0 : Nat) (Z0 : n0 ≤ h0.size) (F_coder_a : Fld Z h0 a "java/lang/String" "coder" "B" (.int (1 : Int32))) (S_COMPACT_STRINGS : Sta Z h0 "java/lang/String" "COMPACT_STRINGS" "Z" (.int cz)) (hcz : ¬ (cz = (0 : Int32))) :
    Met l Z mN0 jdk_42_method_152_code 1 (some .byte) ({ frames := 0, cells := 0, slots := 0, locals := 0 } : Room) ws #[(.ref a)] h0 (Q_rs_coder1 Z a cz h0 n0) := by
  refine own_met (plainFor_of_name own_pn0) ?_
  intro p e s m below meth c s₁ hret hx hby hlk hml hown hnm X0 e0 hZ hh
  have N0 := Fr.nil n0
  refine Gs (fun _ tk => castTop (own_ef_rs_coder1 m a) tk) ?_
  show Goes _ _ _ _ _ (s₁.setTop (mkF m 0 #[.val (.ref a)] []))
  obtain ⟨T1, X1, e1, st1⟩ := getS2 X0 hx hZ hown (host := "") (Or.inl (gw hw 41 rfl)) Via.refl e0 S_COMPACT_STRINGS (g := (mkF m 0 #[.val (.ref a)] [])) rfl (hb hby d0_0)
  refine Gs st1 ?_
  show Goes _ _ _ _ _ (T1.setTop (mkF m 3 #[.val (.ref a)] [(.int cz)]))
  refine Gs (fun _ tk => XS.ifNo X1.here hx rfl (hb hby d0_3) rfl ((if0 _ _).trans (feq hcz).1) tk) ?_
  refine Gs (fun _ tk => XS.aloadN X1.here hx rfl (hb hby d0_6) rfl rfl tk) ?_
  obtain ⟨T2, X2, e2, st2⟩ := getF X1 hx hZ hown (host := "") (Or.inl (gw hw 26 rfl)) Via.refl e1 F_coder_a (g := (mkF m 7 #[.val (.ref a)] [(.ref a)])) rfl rfl (hb hby d0_7)
  refine Gs st2 ?_
  show Goes _ _ _ _ _ (T2.setTop (mkF m 10 #[.val (.ref a)] [(.int (1 : Int32))]))
  refine Gs (fun _ tk => XS.goto X2.here hx rfl (pc0 := 10) (pc' := 14) rfl (hb hby d0_10) (by decide) (by decide) tk) ?_
  refine Goes.ret X2 (some (.int (1 : Int32))) (fun h => by rw [hret] at h; cases h) hlk (by decide) (by decide) ?_ (fun fs hr => ?_)
  · exact ⟨rfl, N0, e2⟩
  · exact own_retN X2 hx (t := .byte) hret (by simp) rfl (hb hby d0_14) hr
theorem d1_17 : decode jdk_42_method_154_code 17 = .ok (.iconst 0, 1) := by decide +kernel
theorem own_ef_rs_isl1 (m : MethodId) (x0 : Addr) : entryFrame m #[(.ref x0)] 1 = mkF m 0 #[.val (.ref x0)] [] := by first | (simp [entryFrame, mkF, argsToLocals, Value.category]; done) | rfl
def Q_rs_isl1 (Z : State) (a : Addr) (cz : Int32) (h0 : Heap) (n0 : Nat) (v : Option Value) (h : Heap) (L : List Loc) : Prop := v = some (.int (0 : Int32)) ∧ Fr n0 L ∧ h = h0
set_option maxRecDepth 65536 in
set_option maxHeartbeats 40000000 in
theorem rs_isl1 (l : Launch) (Z : State) (a0 : Array Value) (hw : ∀ d ∈ tables_1, d.before a0 Z = true) (ws : List Jvm.Cond) (a : Addr) (cz : Int32) (h0 : Heap) (n0 : Nat) (Z0 : n0 ≤ h0.size) (F_coder_a : Fld Z h0 a "java/lang/String" "coder" "B" (.int (1 : Int32))) (S_COMPACT_STRINGS : Sta Z h0 "java/lang/String" "COMPACT_STRINGS" "Z" (.int cz)) (hcz : ¬ (cz = (0 : Int32))) :
    Met l Z mN1 jdk_42_method_154_code 1 (some .boolean) ({ frames := 0, cells := 0, slots := 0, locals := 0 } : Room) ws #[(.ref a)] h0 (Q_rs_isl1 Z a cz h0 n0) := by
  refine own_met (plainFor_of_name own_pn0) ?_
  intro p e s m below meth c s₁ hret hx hby hlk hml hown hnm X0 e0 hZ hh
  have N0 := Fr.nil n0
  refine Gs (fun _ tk => castTop (own_ef_rs_isl1 m a) tk) ?_
  show Goes _ _ _ _ _ (s₁.setTop (mkF m 0 #[.val (.ref a)] []))
  obtain ⟨T1, X1, e1, st1⟩ := getS2 X0 hx hZ hown (host := "") (Or.inl (gw hw 41 rfl)) Via.refl e0 S_COMPACT_STRINGS (g := (mkF m 0 #[.val (.ref a)] [])) rfl (hb hby d1_0)
  refine Gs st1 ?_
  show Goes _ _ _ _ _ (T1.setTop (mkF m 3 #[.val (.ref a)] [(.int cz)]))
  refine Gs (fun _ tk => XS.ifNo X1.here hx rfl (hb hby d1_3) rfl ((if0 _ _).trans (feq hcz).1) tk) ?_
  refine Gs (fun _ tk => XS.aloadN X1.here hx rfl (hb hby d1_6) rfl rfl tk) ?_
  obtain ⟨T2, X2, e2, st2⟩ := getF X1 hx hZ hown (host := "") (Or.inl (gw hw 26 rfl)) Via.refl e1 F_coder_a (g := (mkF m 7 #[.val (.ref a)] [(.ref a)])) rfl rfl (hb hby d1_7)
  refine Gs st2 ?_
  show Goes _ _ _ _ _ (T2.setTop (mkF m 10 #[.val (.ref a)] [(.int (1 : Int32))]))
  refine Gs (fun _ tk => XS.ifYes X2.here hx rfl (pc0 := 10) (pc' := 17) rfl (hb hby d1_10) rfl ((if0 _ _).trans (feq (by decide : ¬ ((1 : Int32) = (0 : Int32)))).2) (by decide) (by decide) tk) ?_
  refine Gs (fun _ tk => XS.iconst X2.here hx rfl (hb hby d1_17) tk) ?_
  refine Goes.ret X2 (some (.int (0 : Int32))) (fun h => by rw [hret] at h; cases h) hlk (by decide) (by decide) ?_ (fun fs hr => ?_)
  · exact ⟨rfl, N0, e2⟩
  · exact own_retN X2 hx (t := .boolean) hret (by simp) rfl (hb hby d1_18) hr
theorem d2_0 : decode jdk_42_method_54_code 0 = .ok (.aload_n 0, 1) := by decide +kernel
theorem d2_1 : decode jdk_42_method_54_code 1 = .ok (.getfield 9, 3) := by decide +kernel
theorem d2_4 : decode jdk_42_method_54_code 4 = .ok (.arraylength, 1) := by decide +kernel
theorem d2_5 : decode jdk_42_method_54_code 5 = .ok (.aload_n 0, 1) := by decide +kernel
theorem d2_6 : decode jdk_42_method_54_code 6 = .ok (.invokevirtual 335, 3) := by decide +kernel
theorem own_pd0 : parseMethodDescriptor "()B" = some ⟨[], some .byte⟩ := by decide +kernel
theorem d2_9 : decode jdk_42_method_54_code 9 = .ok (.ishr, 1) := by decide +kernel
theorem d2_10 : decode jdk_42_method_54_code 10 = .ok (.ireturn, 1) := by decide +kernel
theorem own_ef_rs_len (m : MethodId) (x0 : Addr) : entryFrame m #[(.ref x0)] 1 = mkF m 0 #[.val (.ref x0)] [] := by first | (simp [entryFrame, mkF, argsToLocals, Value.category]; done) | rfl
def Q_rs_len (Z : State) (a : Addr) (xs : List Int32) (cz : Int32) (h0 : Heap) (n0 : Nat) (v : Option Value) (h : Heap) (L : List Loc) : Prop := v = some (.int (Int32.ofNat xs.length)) ∧ Fr n0 L ∧ h = h0
set_option maxRecDepth 65536 in
set_option maxHeartbeats 40000000 in
theorem rs_len (l : Launch) (Z : State) (a0 : Array Value) (hw : ∀ d ∈ tables_1, d.before a0 Z = true) (ws : List Jvm.Cond) (a : Addr) (xs : List Int32) (cz : Int32) (h0 : Heap) (n0 : Nat) (Z0 : n0 ≤ h0.size) (T_a : StrOf Z h0 a xs) (S_COMPACT_STRINGS : Sta Z h0 "java/lang/String" "COMPACT_STRINGS" "Z" (.int cz)) (hcz : ¬ (cz = (0 : Int32))) :
    Met l Z mN2 jdk_42_method_54_code 1 (some .int) ({ frames := 1, cells := 0, slots := 0, locals := 13 } : Room) ws #[(.ref a)] h0 (Q_rs_len Z a xs cz h0 n0) := by
  refine own_met (plainFor_of_name own_pn0) ?_
  intro p e s m below meth c s₁ hret hx hby hlk hml hown hnm X0 e0 hZ hh
  have N0 := Fr.nil n0
  refine Gs (fun _ tk => castTop (own_ef_rs_len m a) tk) ?_
  show Goes _ _ _ _ _ (s₁.setTop (mkF m 0 #[.val (.ref a)] []))
  obtain ⟨vb, kb, A_a, F_value_a, hrep, hlen⟩ := id T_a
  rcases hrep with ⟨F_coder_a, hall, V_vb⟩ | ⟨F_coder_a, hall, V_vb⟩
  · show Goes _ _ _ _ _ (s₁.setTop (mkF m 0 #[.val (.ref a)] []))
    refine Gs (fun _ tk => XS.aloadN X0.here hx rfl (hb hby d2_0) rfl rfl tk) ?_
    obtain ⟨T1, X1, e1, st1⟩ := getF X0 hx hZ hown (host := "") (Or.inl (gw hw 25 rfl)) Via.refl e0 F_value_a (g := (mkF m 1 #[.val (.ref a)] [(.ref a)])) rfl rfl (hb hby d2_1)
    refine Gs st1 ?_
    show Goes _ _ _ _ _ (T1.setTop (mkF m 4 #[.val (.ref a)] [(.ref vb)]))
    obtain ⟨cl2, Ar2, -, S2, N2z, -, -⟩ := id V_vb
    refine Gs (fun _ tk => X1.arraylength hx (by rw [e1]; exact Ar2.1) (State.isArrayOf_alike hZ.alike Ar2.2.1) (g := (mkF m 4 #[.val (.ref a)] [(.ref vb)])) rfl rfl (hb hby d2_4) _ tk) ?_
    rw [len_of S2 N2z]
    show Goes _ _ _ _ _ (T1.setTop (mkF m 5 #[.val (.ref a)] [(.int (Int32.ofNat xs.length))]))
    refine Gs (fun _ tk => XS.aloadN X1.here hx rfl (hb hby d2_5) rfl rfl tk) ?_
    obtain ⟨cq3, kq3, q3a, q3b, q3c⟩ := isOf hZ e1 T_a.exa
    obtain ⟨_, _, ⟨T3, L3, k3, n3⟩, -, X3, ⟨Lc3, hQ3, l3, y3, z3⟩, st3⟩ := X1.virtualBack hx (y := mN0) (z := mN0) hown (mvT hZ (gw hw 36 rfl)) (mvT hZ (gw hw 37 rfl)) (notFace_of_selects (args := #[]) (mvT hZ (gw hw 39 rfl))) (mvT hZ (gw hw 39 rfl)) (mvT hZ (gw hw 38 rfl)) (by decide) (backOf (W := 1) (rs_coder0 l Z a0 hw [] a cz h0 n0 Z0 F_coder_a S_COMPACT_STRINGS (by first | assumption | decide)) hZ (gw hw 40 rfl) (gw hw 7 rfl) (by decide) (by decide)) q3a q3c (g := (mkF m 6 #[.val (.ref a)] [(.ref a), (.int (Int32.ofNat xs.length))])) rfl (by rw [hml]; rfl) (Steps.refl _) (argsL := []) (rest := [(.int (Int32.ofNat xs.length))]) (lenOf own_pd0 rfl) rfl (w0 (Nat.le_of_eq rfl)) (hb hby d2_6) (fun _ _ => ⟨rfl, e1, (by decide : 0 + 0 ≤ _), (by decide : 0 + 0 ≤ _)⟩)
    dsimp only [Pt.U, Pt.locs, Pt.cells, Pt.slots] at X3 l3 y3 z3 st3 hQ3
    subst l3 y3 z3
    obtain ⟨rfl, N3q, e3⟩ := hQ3
    have N3 := Fr.app N0 N3q
    refine Gs (fun _ tk => st3.trans tk) ?_
    show Goes _ _ _ _ _ (T3.setTop (mkF m 9 #[.val (.ref a)] [(.int (0 : Int32)), (.int (Int32.ofNat xs.length))]))
    refine Gs (fun _ tk => XS.ishr X3.here hx rfl (hb hby d2_9) rfl tk) ?_
    show Goes _ _ _ _ _ (T3.setTop (mkF m 10 #[.val (.ref a)] [(.int ((Int32.ofNat xs.length) >>> ((0 : Int32) &&& 31)))]))
    refine Goes.ret X3 (some (.int ((Int32.ofNat xs.length) >>> ((0 : Int32) &&& 31)))) (fun h => by rw [hret] at h; cases h) hlk (by decide) (by decide) ?_ (fun fs hr => ?_)
    · exact ⟨(by rw [own_shr0]), N3, e3⟩
    · exact retI X3 hx hret (hb hby d2_10) hr
  · show Goes _ _ _ _ _ (s₁.setTop (mkF m 0 #[.val (.ref a)] []))
    refine Gs (fun _ tk => XS.aloadN X0.here hx rfl (hb hby d2_0) rfl rfl tk) ?_
    obtain ⟨T4, X4, e4, st4⟩ := getF X0 hx hZ hown (host := "") (Or.inl (gw hw 25 rfl)) Via.refl e0 F_value_a (g := (mkF m 1 #[.val (.ref a)] [(.ref a)])) rfl rfl (hb hby d2_1)
    refine Gs st4 ?_
    show Goes _ _ _ _ _ (T4.setTop (mkF m 4 #[.val (.ref a)] [(.ref vb)]))
    obtain ⟨cl5, Ar5, -, S5, N5z, -, -⟩ := id V_vb
    refine Gs (fun _ tk => X4.arraylength hx (by rw [e4]; exact Ar5.1) (State.isArrayOf_alike hZ.alike Ar5.2.1) (g := (mkF m 4 #[.val (.ref a)] [(.ref vb)])) rfl rfl (hb hby d2_4) _ tk) ?_
    rw [len_of S5 N5z]
    show Goes _ _ _ _ _ (T4.setTop (mkF m 5 #[.val (.ref a)] [(.int (Int32.ofNat (2 * xs.length)))]))
    refine Gs (fun _ tk => XS.aloadN X4.here hx rfl (hb hby d2_5) rfl rfl tk) ?_
    obtain ⟨cq6, kq6, q6a, q6b, q6c⟩ := isOf hZ e4 T_a.exa
    obtain ⟨_, _, ⟨T6, L6, k6, n6⟩, -, X6, ⟨Lc6, hQ6, l6, y6, z6⟩, st6⟩ := X4.virtualBack hx (y := mN0) (z := mN0) hown (mvT hZ (gw hw 36 rfl)) (mvT hZ (gw hw 37 rfl)) (notFace_of_selects (args := #[]) (mvT hZ (gw hw 39 rfl))) (mvT hZ (gw hw 39 rfl)) (mvT hZ (gw hw 38 rfl)) (by decide) (backOf (W := 1) (rs_coder1 l Z a0 hw [] a cz h0 n0 Z0 F_coder_a S_COMPACT_STRINGS (by first | assumption | decide)) hZ (gw hw 40 rfl) (gw hw 7 rfl) (by decide) (by decide)) q6a q6c (g := (mkF m 6 #[.val (.ref a)] [(.ref a), (.int (Int32.ofNat (2 * xs.length)))])) rfl (by rw [hml]; rfl) (Steps.refl _) (argsL := []) (rest := [(.int (Int32.ofNat (2 * xs.length)))]) (lenOf own_pd0 rfl) rfl (w0 (Nat.le_of_eq rfl)) (hb hby d2_6) (fun _ _ => ⟨rfl, e4, (by decide : 0 + 0 ≤ _), (by decide : 0 + 0 ≤ _)⟩)
    dsimp only [Pt.U, Pt.locs, Pt.cells, Pt.slots] at X6 l6 y6 z6 st6 hQ6
    subst l6 y6 z6
    obtain ⟨rfl, N6q, e6⟩ := hQ6
    have N6 := Fr.app N0 N6q
    refine Gs (fun _ tk => st6.trans tk) ?_
    show Goes _ _ _ _ _ (T6.setTop (mkF m 9 #[.val (.ref a)] [(.int (1 : Int32)), (.int (Int32.ofNat (2 * xs.length)))]))
    refine Gs (fun _ tk => XS.ishr X6.here hx rfl (hb hby d2_9) rfl tk) ?_
    show Goes _ _ _ _ _ (T6.setTop (mkF m 10 #[.val (.ref a)] [(.int ((Int32.ofNat (2 * xs.length)) >>> ((1 : Int32) &&& 31)))]))
    refine Goes.ret X6 (some (.int ((Int32.ofNat (2 * xs.length)) >>> ((1 : Int32) &&& 31)))) (fun h => by rw [hret] at h; cases h) hlk (by decide) (by decide) ?_ (fun fs hr => ?_)
    · exact ⟨(by rw [own_shr1 hlen]), N6, e6⟩
    · exact retI X6 hx hret (hb hby d2_10) hr
theorem d3_0 : decode jdk_41_method_11_code 0 = .ok (.iload_n 0, 1) := by decide +kernel
theorem d3_1 : decode jdk_41_method_11_code 1 = .ok (.ifCond .lt 8, 3) := by decide +kernel
theorem d3_4 : decode jdk_41_method_11_code 4 = .ok (.iload_n 0, 1) := by decide +kernel
theorem d3_5 : decode jdk_41_method_11_code 5 = .ok (.iload_n 1, 1) := by decide +kernel
theorem d3_6 : decode jdk_41_method_11_code 6 = .ok (.if_icmp .lt 10, 3) := by decide +kernel
theorem d3_16 : decode jdk_41_method_11_code 16 = .ok (.iload_n 0, 1) := by decide +kernel
theorem d3_17 : decode jdk_41_method_11_code 17 = .ok (.ireturn, 1) := by decide +kernel
theorem own_pn1 : plainName "jdk/internal/util/Preconditions" = true := by first | (simp [plainName, overriddenIn]; done) | decide +kernel
theorem own_ef_rs_pci (m : MethodId) (x0 : Int32) (x1 : Int32) (x2 : Value) (hx2 : x2.isRef = true) : entryFrame m #[(.int x0), (.int x1), x2] 3 = mkF m 0 #[.val (.int x0), .val (.int x1), .val x2] [] := by first | (simp [entryFrame, mkF, argsToLocals, Value.category]; done) | rfl | (rcases Jvm.Free.XT.refc hx2 with rfl | ⟨r, rfl⟩ <;> rfl)
def Q_rs_pci (Z : State) (j : Int32) (z : Int32) (fo : Value) (h0 : Heap) (n0 : Nat) (v : Option Value) (h : Heap) (L : List Loc) : Prop := v = some (.int j) ∧ Fr n0 L ∧ h = h0
set_option maxRecDepth 65536 in
set_option maxHeartbeats 40000000 in
theorem rs_pci (l : Launch) (Z : State) (a0 : Array Value) (hw : ∀ d ∈ tables_1, d.before a0 Z = true) (ws : List Jvm.Cond) (j : Int32) (z : Int32) (fo : Value) (h0 : Heap) (n0 : Nat) (Z0 : n0 ≤ h0.size) (hj0 : ¬ (j < (0 : Int32))) (hj1 : j < z) (r_fo : fo.isRef = true) :
    Met l Z mN3 jdk_41_method_11_code 3 (some .int) ({ frames := 0, cells := 0, slots := 0, locals := 0 } : Room) ws #[(.int j), (.int z), fo] h0 (Q_rs_pci Z j z fo h0 n0) := by
  refine own_met (plainFor_of_name own_pn1) ?_
  intro p e s m below meth c s₁ hret hx hby hlk hml hown hnm X0 e0 hZ hh
  have N0 := Fr.nil n0
  refine Gs (fun _ tk => castTop (own_ef_rs_pci m j z fo r_fo) tk) ?_
  show Goes _ _ _ _ _ (s₁.setTop (mkF m 0 #[.val (.int j), .val (.int z), .val fo] []))
  refine Gs (fun _ tk => XS.iloadN X0.here hx rfl (hb hby d3_0) rfl tk) ?_
  refine Gs (fun _ tk => XS.ifNo X0.here hx rfl (hb hby d3_1) rfl ((if0 _ _).trans (flt hj0).1) tk) ?_
  refine Gs (fun _ tk => XS.iloadN X0.here hx rfl (hb hby d3_4) rfl tk) ?_
  refine Gs (fun _ tk => XS.iloadN X0.here hx rfl (hb hby d3_5) rfl tk) ?_
  refine Gs (fun _ tk => XS.icmpYes X0.here hx rfl (pc0 := 6) (pc' := 16) rfl (hb hby d3_6) rfl (tlt hj1).1 (by decide) (by decide) tk) ?_
  refine Gs (fun _ tk => XS.iloadN X0.here hx rfl (hb hby d3_16) rfl tk) ?_
  show Goes _ _ _ _ _ (s₁.setTop (mkF m 17 #[.val (.int j), .val (.int z), .val fo] [(.int j)]))
  refine Goes.ret X0 (some (.int j)) (fun h => by rw [hret] at h; cases h) hlk (by decide) (by decide) ?_ (fun fs hr => ?_)
  · exact ⟨rfl, N0, e0⟩
  · exact retI X0 hx hret (hb hby d3_17) hr
theorem d4_0 : decode jdk_42_method_155_code 0 = .ok (.iload_n 0, 1) := by decide +kernel
theorem d4_1 : decode jdk_42_method_155_code 1 = .ok (.iload_n 1, 1) := by decide +kernel
theorem d4_2 : decode jdk_42_method_155_code 2 = .ok (.getstatic 1053, 3) := by decide +kernel
theorem d4_5 : decode jdk_42_method_155_code 5 = .ok (.invokestatic 1059, 3) := by decide +kernel
theorem own_pd1 : parseMethodDescriptor "(IILjava/util/function/BiFunction;)I" = some ⟨[.int, .int, (.object "java/util/function/BiFunction")], some .int⟩ := by decide +kernel
theorem d4_8 : decode jdk_42_method_155_code 8 = .ok (.pop, 1) := by decide +kernel
theorem d4_9 : decode jdk_42_method_155_code 9 = .ok (.return_, 1) := by decide +kernel
theorem own_ef_rs_sci (m : MethodId) (x0 : Int32) (x1 : Int32) : entryFrame m #[(.int x0), (.int x1)] 2 = mkF m 0 #[.val (.int x0), .val (.int x1)] [] := by first | (simp [entryFrame, mkF, argsToLocals, Value.category]; done) | rfl
def Q_rs_sci (Z : State) (j : Int32) (z : Int32) (fo : Value) (h0 : Heap) (n0 : Nat) (v : Option Value) (h : Heap) (L : List Loc) : Prop := v = none ∧ Fr n0 L ∧ h = h0
set_option maxRecDepth 65536 in
set_option maxHeartbeats 40000000 in
theorem rs_sci (l : Launch) (Z : State) (a0 : Array Value) (hw : ∀ d ∈ tables_1, d.before a0 Z = true) (ws : List Jvm.Cond) (j : Int32) (z : Int32) (fo : Value) (h0 : Heap) (n0 : Nat) (Z0 : n0 ≤ h0.size) (hj0 : ¬ (j < (0 : Int32))) (hj1 : j < z) (S_SIOOBE_FORMATTER : Sta Z h0 "jdk/internal/util/Preconditions" "SIOOBE_FORMATTER" "Ljava/util/function/BiFunction;" fo) (r_fo : fo.isRef = true) :
    Met l Z mN4 jdk_42_method_155_code 2 none ({ frames := 1, cells := 0, slots := 0, locals := 14 } : Room) ws #[(.int j), (.int z)] h0 (Q_rs_sci Z j z fo h0 n0) := by
  refine own_met (plainFor_of_name own_pn0) ?_
  intro p e s m below meth c s₁ hret hx hby hlk hml hown hnm X0 e0 hZ hh
  have N0 := Fr.nil n0
  refine Gs (fun _ tk => castTop (own_ef_rs_sci m j z) tk) ?_
  show Goes _ _ _ _ _ (s₁.setTop (mkF m 0 #[.val (.int j), .val (.int z)] []))
  refine Gs (fun _ tk => XS.iloadN X0.here hx rfl (hb hby d4_0) rfl tk) ?_
  refine Gs (fun _ tk => XS.iloadN X0.here hx rfl (hb hby d4_1) rfl tk) ?_
  obtain ⟨T1, X1, e1, st1⟩ := getS2 X0 hx hZ hown (host := "") (Or.inl (gw hw 110 rfl)) Via.refl e0 S_SIOOBE_FORMATTER (g := (mkF m 2 #[.val (.int j), .val (.int z)] [(.int z), (.int j)])) rfl (hb hby d4_2)
  refine Gs st1 ?_
  show Goes _ _ _ _ _ (T1.setTop (mkF m 5 #[.val (.int j), .val (.int z)] [fo, (.int z), (.int j)]))
  obtain ⟨_, _, ⟨T2, L2, k2, n2⟩, -, X2, ⟨Lc2, hQ2, l2, y2, z2⟩, st2⟩ := Jvm.LawKit.callS X1 hx (y := mN3) hown (mvT hZ (gw hw 112 rfl)) (mvT hZ (gw hw 113 rfl)) (mvT hZ (gw hw 111 rfl)) (mvT hZ (gw hw 114 rfl)) (by decide) (backOf (W := 0) (rs_pci l Z a0 hw [] j z fo h0 n0 Z0 (by first | assumption | decide) (by first | assumption | decide) (by first | assumption | decide)) hZ (gw hw 114 rfl) (gw hw 111 rfl) (by decide) (by decide)) (g := (mkF m 5 #[.val (.int j), .val (.int z)] [fo, (.int z), (.int j)])) rfl (by rw [hml]; rfl) (argsL := [(.int j), (.int z), fo]) (rest := []) (lenOf own_pd1 rfl) rfl (w0 (Nat.le_of_eq rfl)) (hb hby d4_5) (fun _ _ => ⟨rfl, e1, (by decide : 0 + 0 ≤ _), (by decide : 0 + 0 ≤ _)⟩)
  dsimp only [Pt.U, Pt.locs, Pt.cells, Pt.slots] at X2 l2 y2 z2 st2 hQ2
  subst l2 y2 z2
  obtain ⟨rfl, N2q, e2⟩ := hQ2
  have N2 := Fr.app N0 N2q
  refine Gs st2 ?_
  show Goes _ _ _ _ _ (T2.setTop (mkF m 8 #[.val (.int j), .val (.int z)] [(.int j)]))
  refine Gs (fun _ tk => XS.pop X2.here hx rfl (hb hby d4_8) rfl rfl tk) ?_
  refine Goes.ret X2 none (fun _ => rfl) hlk (by decide) (by decide) ?_ (fun fs hr => ?_)
  · exact ⟨rfl, N2, e2⟩
  · exact X2.returnOut hx hret (hb hby d4_9) hr
theorem d5_0 : decode jdk_43_method_2_code 0 = .ok (.iload_n 1, 1) := by decide +kernel
theorem d5_1 : decode jdk_43_method_2_code 1 = .ok (.aload_n 0, 1) := by decide +kernel
theorem d5_2 : decode jdk_43_method_2_code 2 = .ok (.arraylength, 1) := by decide +kernel
theorem d5_3 : decode jdk_43_method_2_code 3 = .ok (.invokestatic 9, 3) := by decide +kernel
theorem own_pd2 : parseMethodDescriptor "(II)V" = some ⟨[.int, .int], none⟩ := by decide +kernel
theorem d5_6 : decode jdk_43_method_2_code 6 = .ok (.aload_n 0, 1) := by decide +kernel
theorem d5_7 : decode jdk_43_method_2_code 7 = .ok (.iload_n 1, 1) := by decide +kernel
theorem d5_8 : decode jdk_43_method_2_code 8 = .ok (.baload, 1) := by decide +kernel
theorem d5_9 : decode jdk_43_method_2_code 9 = .ok (.sipush 255, 3) := by decide +kernel
theorem d5_12 : decode jdk_43_method_2_code 12 = .ok (.iand, 1) := by decide +kernel
theorem d5_13 : decode jdk_43_method_2_code 13 = .ok (.i2c, 1) := by decide +kernel
theorem d5_14 : decode jdk_43_method_2_code 14 = .ok (.ireturn, 1) := by decide +kernel
theorem own_pn2 : plainName "java/lang/StringLatin1" = true := by first | (simp [plainName, overriddenIn]; done) | decide +kernel
theorem own_ef_rs_l1c (m : MethodId) (x0 : Addr) (x1 : Int32) : entryFrame m #[(.ref x0), (.int x1)] 2 = mkF m 0 #[.val (.ref x0), .val (.int x1)] [] := by first | (simp [entryFrame, mkF, argsToLocals, Value.category]; done) | rfl
def Q_rs_l1c (Z : State) (b : Addr) (kb : ClassId) (xs : List Int32) (j : Int32) (r : Int32) (fo : Value) (h0 : Heap) (n0 : Nat) (v : Option Value) (h : Heap) (L : List Loc) : Prop := v = some (.int r) ∧ Fr n0 L ∧ h = h0
set_option maxRecDepth 65536 in
set_option maxHeartbeats 40000000 in
theorem rs_l1c (l : Launch) (Z : State) (a0 : Array Value) (hw : ∀ d ∈ tables_1, d.before a0 Z = true) (ws : List Jvm.Cond) (b : Addr) (kb : ClassId) (xs : List Int32) (j : Int32) (r : Int32) (fo : Value) (h0 : Heap) (n0 : Nat) (Z0 : n0 ≤ h0.size) (V_b : Arv Z h0 b kb .byte (Int32.ofNat xs.length) (latV xs) (.int 0)) (hj0 : ¬ (j < (0 : Int32))) (hj1 : j < Int32.ofNat xs.length) (hr : xs.getD j.toNatClampNeg 0 = r) (hlen : xs.length ≤ 1000) (hLr : Lat r) (S_SIOOBE_FORMATTER : Sta Z h0 "jdk/internal/util/Preconditions" "SIOOBE_FORMATTER" "Ljava/util/function/BiFunction;" fo) (r_fo : fo.isRef = true) :
    Met l Z mN5 jdk_43_method_2_code 2 (some .char) ({ frames := 2, cells := 0, slots := 0, locals := 27 } : Room) ws #[(.ref b), (.int j)] h0 (Q_rs_l1c Z b kb xs j r fo h0 n0) := by
  refine own_met (plainFor_of_name own_pn2) ?_
  intro p e s m below meth c s₁ hret hx hby hlk hml hown hnm X0 e0 hZ hh
  have N0 := Fr.nil n0
  refine Gs (fun _ tk => castTop (own_ef_rs_l1c m b j) tk) ?_
  show Goes _ _ _ _ _ (s₁.setTop (mkF m 0 #[.val (.ref b), .val (.int j)] []))
  refine Gs (fun _ tk => XS.iloadN X0.here hx rfl (hb hby d5_0) rfl tk) ?_
  refine Gs (fun _ tk => XS.aloadN X0.here hx rfl (hb hby d5_1) rfl rfl tk) ?_
  obtain ⟨cl1, Ar1, -, S1, N1z, -, -⟩ := id V_b
  refine Gs (fun _ tk => X0.arraylength hx (by rw [e0]; exact Ar1.1) (State.isArrayOf_alike hZ.alike Ar1.2.1) (g := (mkF m 2 #[.val (.ref b), .val (.int j)] [(.ref b), (.int j)])) rfl rfl (hb hby d5_2) _ tk) ?_
  rw [len_of S1 N1z]
  show Goes _ _ _ _ _ (s₁.setTop (mkF m 3 #[.val (.ref b), .val (.int j)] [(.int (Int32.ofNat xs.length)), (.int j)]))
  obtain ⟨_, _, ⟨T2, L2, k2, n2⟩, -, X2, ⟨Lc2, hQ2, l2, y2, z2⟩, st2⟩ := Jvm.LawKit.callS X0 hx (y := mN4) hown (mvT hZ (gw hw 107 rfl)) (mvT hZ (gw hw 108 rfl)) (mvT hZ (gw hw 7 rfl)) (mvT hZ (gw hw 109 rfl)) (by decide) (backOf (W := 0) (rs_sci l Z a0 hw [] j (Int32.ofNat xs.length) fo h0 n0 Z0 (by first | assumption | decide) (by first | assumption | decide) S_SIOOBE_FORMATTER (by first | assumption | decide)) hZ (gw hw 109 rfl) (gw hw 7 rfl) (by decide) (by decide)) (g := (mkF m 3 #[.val (.ref b), .val (.int j)] [(.int (Int32.ofNat xs.length)), (.int j)])) rfl (by rw [hml]; rfl) (argsL := [(.int j), (.int (Int32.ofNat xs.length))]) (rest := []) (lenOf own_pd2 rfl) rfl (w0 (Nat.le_of_eq rfl)) (hb hby d5_3) (fun _ _ => ⟨rfl, e0, (by decide : 0 + 0 ≤ _), (by decide : 0 + 0 ≤ _)⟩)
  dsimp only [Pt.U, Pt.locs, Pt.cells, Pt.slots] at X2 l2 y2 z2 st2 hQ2
  subst l2 y2 z2
  obtain ⟨rfl, N2q, e2⟩ := hQ2
  have N2 := Fr.app N0 N2q
  refine Gs st2 ?_
  show Goes _ _ _ _ _ (T2.setTop (mkF m 6 #[.val (.ref b), .val (.int j)] []))
  refine Gs (fun _ tk => XS.aloadN X2.here hx rfl (hb hby d5_6) rfl rfl tk) ?_
  refine Gs (fun _ tk => XS.iloadN X2.here hx rfl (hb hby d5_7) rfl tk) ?_
  obtain ⟨cl3, Ar3, -, S3, N3z, H3, -⟩ := id V_b
  have hin3 : ¬ (j < 0 ∨ cl3.slots.size ≤ (j).toNatClampNeg) := inb_of S3 ⟨hj0, hj1⟩
  have hat3 : cl3.slots[(j).toNatClampNeg]? = some (.int (lo8 r)) := Has.at H3 hin3 (own_latGet hj0 hj1 hlen hr)
  refine Gs (fun _ tk => X2.baloadBytes hx (j := j) (v := (.int (lo8 r))) (by rw [e2]; exact Ar3.1) (State.isArrayOf_alike hZ.alike Ar3.2.1) Ar3.2.2 hin3 hat3 (g := (mkF m 8 #[.val (.ref b), .val (.int j)] [(.int j), (.ref b)])) rfl rfl (hb hby d5_8) _ tk) ?_
  show Goes _ _ _ _ _ (T2.setTop (mkF m 9 #[.val (.ref b), .val (.int j)] [(.int (lo8 r))]))
  refine Gs (fun _ tk => XS.sipush X2.here hx rfl (hb hby d5_9) tk) ?_
  show Goes _ _ _ _ _ (T2.setTop (mkF m 12 #[.val (.ref b), .val (.int j)] [(.int (255 : Int32)), (.int (lo8 r))]))
  refine Gs (fun _ tk => XS.iand X2.here hx rfl (hb hby d5_12) rfl tk) ?_
  show Goes _ _ _ _ _ (T2.setTop (mkF m 13 #[.val (.ref b), .val (.int j)] [(.int ((lo8 r) &&& (255 : Int32)))]))
  rw [own_backL hLr]
  show Goes _ _ _ _ _ (T2.setTop (mkF m 13 #[.val (.ref b), .val (.int j)] [(.int r)]))
  refine Gs (fun _ tk => XS.i2c X2.here hx rfl (hb hby d5_13) rfl tk) ?_
  show Goes _ _ _ _ _ (T2.setTop (mkF m 14 #[.val (.ref b), .val (.int j)] [(.int (r.toUInt32.toUInt16.toUInt32.toInt32))]))
  rw [own_i2c hLr.chr]
  show Goes _ _ _ _ _ (T2.setTop (mkF m 14 #[.val (.ref b), .val (.int j)] [(.int r)]))
  refine Goes.ret X2 (some (.int r)) (fun h => by rw [hret] at h; cases h) hlk (by decide) (by decide) ?_ (fun fs hr => ?_)
  · exact ⟨rfl, N2, e2⟩
  · exact own_retN X2 hx (t := .char) hret (by simp) (own_nc hLr.chr) (hb hby d5_14) hr
theorem d6_0 : decode jdk_52_method_6_code 0 = .ok (.aload_n 0, 1) := by decide +kernel
theorem d6_1 : decode jdk_52_method_6_code 1 = .ok (.arraylength, 1) := by decide +kernel
theorem d6_2 : decode jdk_52_method_6_code 2 = .ok (.iconst 1, 1) := by decide +kernel
theorem d6_3 : decode jdk_52_method_6_code 3 = .ok (.ishr, 1) := by decide +kernel
theorem d6_4 : decode jdk_52_method_6_code 4 = .ok (.ireturn, 1) := by decide +kernel
theorem own_pn3 : plainName "java/lang/StringUTF16" = true := by first | (simp [plainName, overriddenIn]; done) | decide +kernel
theorem own_ef_rs_ulen (m : MethodId) (x0 : Addr) : entryFrame m #[(.ref x0)] 1 = mkF m 0 #[.val (.ref x0)] [] := by first | (simp [entryFrame, mkF, argsToLocals, Value.category]; done) | rfl
def Q_rs_ulen (Z : State) (b : Addr) (kb : ClassId) (xs : List Int32) (h0 : Heap) (n0 : Nat) (v : Option Value) (h : Heap) (L : List Loc) : Prop := v = some (.int (Int32.ofNat xs.length)) ∧ Fr n0 L ∧ h = h0
set_option maxRecDepth 65536 in
set_option maxHeartbeats 40000000 in
theorem rs_ulen (l : Launch) (Z : State) (a0 : Array Value) (hw : ∀ d ∈ tables_1, d.before a0 Z = true) (ws : List Jvm.Cond) (b : Addr) (kb : ClassId) (xs : List Int32) (h0 : Heap) (n0 : Nat) (Z0 : n0 ≤ h0.size) (V_b : Arv Z h0 b kb .byte (Int32.ofNat (2 * xs.length)) (utfV xs) (.int 0)) (hlen : xs.length ≤ 1000) :
    Met l Z mN6 jdk_52_method_6_code 1 (some .int) ({ frames := 0, cells := 0, slots := 0, locals := 0 } : Room) ws #[(.ref b)] h0 (Q_rs_ulen Z b kb xs h0 n0) := by
  refine own_met (plainFor_of_name own_pn3) ?_
  intro p e s m below meth c s₁ hret hx hby hlk hml hown hnm X0 e0 hZ hh
  have N0 := Fr.nil n0
  refine Gs (fun _ tk => castTop (own_ef_rs_ulen m b) tk) ?_
  show Goes _ _ _ _ _ (s₁.setTop (mkF m 0 #[.val (.ref b)] []))
  refine Gs (fun _ tk => XS.aloadN X0.here hx rfl (hb hby d6_0) rfl rfl tk) ?_
  obtain ⟨cl1, Ar1, -, S1, N1z, -, -⟩ := id V_b
  refine Gs (fun _ tk => X0.arraylength hx (by rw [e0]; exact Ar1.1) (State.isArrayOf_alike hZ.alike Ar1.2.1) (g := (mkF m 1 #[.val (.ref b)] [(.ref b)])) rfl rfl (hb hby d6_1) _ tk) ?_
  rw [len_of S1 N1z]
  show Goes _ _ _ _ _ (s₁.setTop (mkF m 2 #[.val (.ref b)] [(.int (Int32.ofNat (2 * xs.length)))]))
  refine Gs (fun _ tk => XS.iconst X0.here hx rfl (hb hby d6_2) tk) ?_
  show Goes _ _ _ _ _ (s₁.setTop (mkF m 3 #[.val (.ref b)] [(.int (1 : Int32)), (.int (Int32.ofNat (2 * xs.length)))]))
  refine Gs (fun _ tk => XS.ishr X0.here hx rfl (hb hby d6_3) rfl tk) ?_
  show Goes _ _ _ _ _ (s₁.setTop (mkF m 4 #[.val (.ref b)] [(.int ((Int32.ofNat (2 * xs.length)) >>> ((1 : Int32) &&& 31)))]))
  refine Goes.ret X0 (some (.int ((Int32.ofNat (2 * xs.length)) >>> ((1 : Int32) &&& 31)))) (fun h => by rw [hret] at h; cases h) hlk (by decide) (by decide) ?_ (fun fs hr => ?_)
  · exact ⟨(by rw [own_shr1 hlen]), N0, e0⟩
  · exact retI X0 hx hret (hb hby d6_4) hr
theorem d7_0 : decode jdk_52_method_91_code 0 = .ok (.iload_n 0, 1) := by decide +kernel
theorem d7_1 : decode jdk_52_method_91_code 1 = .ok (.aload_n 1, 1) := by decide +kernel
theorem d7_2 : decode jdk_52_method_91_code 2 = .ok (.invokestatic 48, 3) := by decide +kernel
theorem own_pd3 : parseMethodDescriptor "([B)I" = some ⟨[(.array .byte)], some .int⟩ := by decide +kernel
theorem d7_5 : decode jdk_52_method_91_code 5 = .ok (.invokestatic 414, 3) := by decide +kernel
theorem d7_8 : decode jdk_52_method_91_code 8 = .ok (.return_, 1) := by decide +kernel
theorem own_ef_rs_uci (m : MethodId) (x0 : Int32) (x1 : Addr) : entryFrame m #[(.int x0), (.ref x1)] 2 = mkF m 0 #[.val (.int x0), .val (.ref x1)] [] := by first | (simp [entryFrame, mkF, argsToLocals, Value.category]; done) | rfl
def Q_rs_uci (Z : State) (j : Int32) (b : Addr) (kb : ClassId) (xs : List Int32) (fo : Value) (h0 : Heap) (n0 : Nat) (v : Option Value) (h : Heap) (L : List Loc) : Prop := v = none ∧ Fr n0 L ∧ h = h0
set_option maxRecDepth 65536 in
set_option maxHeartbeats 40000000 in
theorem rs_uci (l : Launch) (Z : State) (a0 : Array Value) (hw : ∀ d ∈ tables_1, d.before a0 Z = true) (ws : List Jvm.Cond) (j : Int32) (b : Addr) (kb : ClassId) (xs : List Int32) (fo : Value) (h0 : Heap) (n0 : Nat) (Z0 : n0 ≤ h0.size) (V_b : Arv Z h0 b kb .byte (Int32.ofNat (2 * xs.length)) (utfV xs) (.int 0)) (hlen : xs.length ≤ 1000) (hj0 : ¬ (j < (0 : Int32))) (hj1 : j < Int32.ofNat xs.length) (S_SIOOBE_FORMATTER : Sta Z h0 "jdk/internal/util/Preconditions" "SIOOBE_FORMATTER" "Ljava/util/function/BiFunction;" fo) (r_fo : fo.isRef = true) :
    Met l Z mN7 jdk_52_method_91_code 2 none ({ frames := 2, cells := 0, slots := 0, locals := 27 } : Room) ws #[(.int j), (.ref b)] h0 (Q_rs_uci Z j b kb xs fo h0 n0) := by
  refine own_met (plainFor_of_name own_pn3) ?_
  intro p e s m below meth c s₁ hret hx hby hlk hml hown hnm X0 e0 hZ hh
  have N0 := Fr.nil n0
  refine Gs (fun _ tk => castTop (own_ef_rs_uci m j b) tk) ?_
  show Goes _ _ _ _ _ (s₁.setTop (mkF m 0 #[.val (.int j), .val (.ref b)] []))
  refine Gs (fun _ tk => XS.iloadN X0.here hx rfl (hb hby d7_0) rfl tk) ?_
  refine Gs (fun _ tk => XS.aloadN X0.here hx rfl (hb hby d7_1) rfl rfl tk) ?_
  obtain ⟨_, _, ⟨T1, L1, k1, n1⟩, -, X1, ⟨Lc1, hQ1, l1, y1, z1⟩, st1⟩ := Jvm.LawKit.callS X0 hx (y := mN6) hown (mvT hZ (gw hw 121 rfl)) (mvT hZ (gw hw 122 rfl)) (mvT hZ (gw hw 47 rfl)) (mvT hZ (gw hw 123 rfl)) (by decide) (backOf (W := 1) (rs_ulen l Z a0 hw [] b kb xs h0 n0 Z0 V_b (by first | assumption | decide)) hZ (gw hw 123 rfl) (gw hw 47 rfl) (by decide) (by decide)) (g := (mkF m 2 #[.val (.int j), .val (.ref b)] [(.ref b), (.int j)])) rfl (by rw [hml]; rfl) (argsL := [(.ref b)]) (rest := [(.int j)]) (lenOf own_pd3 rfl) rfl (w0 (Nat.le_of_eq rfl)) (hb hby d7_2) (fun _ _ => ⟨rfl, e0, (by decide : 0 + 0 ≤ _), (by decide : 0 + 0 ≤ _)⟩)
  dsimp only [Pt.U, Pt.locs, Pt.cells, Pt.slots] at X1 l1 y1 z1 st1 hQ1
  subst l1 y1 z1
  obtain ⟨rfl, N1q, e1⟩ := hQ1
  have N1 := Fr.app N0 N1q
  refine Gs st1 ?_
  show Goes _ _ _ _ _ (T1.setTop (mkF m 5 #[.val (.int j), .val (.ref b)] [(.int (Int32.ofNat xs.length)), (.int j)]))
  obtain ⟨_, _, ⟨T2, L2, k2, n2⟩, -, X2, ⟨Lc2, hQ2, l2, y2, z2⟩, st2⟩ := Jvm.LawKit.callS X1 hx (y := mN4) hown (mvT hZ (gw hw 124 rfl)) (mvT hZ (gw hw 108 rfl)) (mvT hZ (gw hw 7 rfl)) (mvT hZ (gw hw 109 rfl)) (by decide) (backOf (W := 0) (rs_sci l Z a0 hw [] j (Int32.ofNat xs.length) fo h0 n0 Z0 (by first | assumption | decide) (by first | assumption | decide) S_SIOOBE_FORMATTER (by first | assumption | decide)) hZ (gw hw 109 rfl) (gw hw 7 rfl) (by decide) (by decide)) (g := (mkF m 5 #[.val (.int j), .val (.ref b)] [(.int (Int32.ofNat xs.length)), (.int j)])) rfl (by rw [hml]; rfl) (argsL := [(.int j), (.int (Int32.ofNat xs.length))]) (rest := []) (lenOf own_pd2 rfl) rfl (w0 (Nat.le_of_eq rfl)) (hb hby d7_5) (fun _ _ => ⟨rfl, e1, (by decide : 0 + 0 ≤ _), (by decide : 0 + 0 ≤ _)⟩)
  dsimp only [Pt.U, Pt.locs, Pt.cells, Pt.slots] at X2 l2 y2 z2 st2 hQ2
  subst l2 y2 z2
  obtain ⟨rfl, N2q, e2⟩ := hQ2
  have N2 := Fr.app N1 N2q
  refine Gs st2 ?_
  show Goes _ _ _ _ _ (T2.setTop (mkF m 8 #[.val (.int j), .val (.ref b)] []))
  refine Goes.ret X2 none (fun _ => rfl) hlk (by decide) (by decide) ?_ (fun fs hr => ?_)
  · exact ⟨rfl, N2, e2⟩
  · exact X2.returnOut hx hret (hb hby d7_8) hr
theorem d8_0 : decode jdk_52_method_5_code 0 = .ok (.getstatic 44, 3) := by decide +kernel
theorem d8_3 : decode jdk_52_method_5_code 3 = .ok (.ifCond .ne 25, 3) := by decide +kernel
theorem d8_28 : decode jdk_52_method_5_code 28 = .ok (.iload_n 1, 1) := by decide +kernel
theorem d8_29 : decode jdk_52_method_5_code 29 = .ok (.iconst 1, 1) := by decide +kernel
theorem d8_30 : decode jdk_52_method_5_code 30 = .ok (.ishl, 1) := by decide +kernel
theorem d8_31 : decode jdk_52_method_5_code 31 = .ok (.istore_n 1, 1) := by decide +kernel
theorem d8_32 : decode jdk_52_method_5_code 32 = .ok (.aload_n 0, 1) := by decide +kernel
theorem d8_33 : decode jdk_52_method_5_code 33 = .ok (.iload_n 1, 1) := by decide +kernel
theorem d8_34 : decode jdk_52_method_5_code 34 = .ok (.iinc 1 1, 3) := by decide +kernel
theorem d8_37 : decode jdk_52_method_5_code 37 = .ok (.baload, 1) := by decide +kernel
theorem d8_38 : decode jdk_52_method_5_code 38 = .ok (.sipush 255, 3) := by decide +kernel
theorem d8_41 : decode jdk_52_method_5_code 41 = .ok (.iand, 1) := by decide +kernel
theorem d8_42 : decode jdk_52_method_5_code 42 = .ok (.getstatic 59, 3) := by decide +kernel
theorem d8_45 : decode jdk_52_method_5_code 45 = .ok (.ishl, 1) := by decide +kernel
theorem d8_46 : decode jdk_52_method_5_code 46 = .ok (.aload_n 0, 1) := by decide +kernel
theorem d8_47 : decode jdk_52_method_5_code 47 = .ok (.iload_n 1, 1) := by decide +kernel
theorem d8_48 : decode jdk_52_method_5_code 48 = .ok (.baload, 1) := by decide +kernel
theorem d8_49 : decode jdk_52_method_5_code 49 = .ok (.sipush 255, 3) := by decide +kernel
theorem d8_52 : decode jdk_52_method_5_code 52 = .ok (.iand, 1) := by decide +kernel
theorem d8_53 : decode jdk_52_method_5_code 53 = .ok (.getstatic 63, 3) := by decide +kernel
theorem d8_56 : decode jdk_52_method_5_code 56 = .ok (.ishl, 1) := by decide +kernel
theorem d8_57 : decode jdk_52_method_5_code 57 = .ok (.ior, 1) := by decide +kernel
theorem d8_58 : decode jdk_52_method_5_code 58 = .ok (.i2c, 1) := by decide +kernel
theorem d8_59 : decode jdk_52_method_5_code 59 = .ok (.ireturn, 1) := by decide +kernel
theorem own_ef_rs_gch (m : MethodId) (x0 : Addr) (x1 : Int32) : entryFrame m #[(.ref x0), (.int x1)] 2 = mkF m 0 #[.val (.ref x0), .val (.int x1)] [] := by first | (simp [entryFrame, mkF, argsToLocals, Value.category]; done) | rfl
def Q_rs_gch (Z : State) (b : Addr) (kb : ClassId) (xs : List Int32) (j : Int32) (r : Int32) (h0 : Heap) (n0 : Nat) (v : Option Value) (h : Heap) (L : List Loc) : Prop := v = some (.int r) ∧ Fr n0 L ∧ h = h0
set_option maxRecDepth 65536 in
set_option maxHeartbeats 40000000 in
theorem rs_gch (l : Launch) (Z : State) (a0 : Array Value) (hw : ∀ d ∈ tables_1, d.before a0 Z = true) (ws : List Jvm.Cond) (b : Addr) (kb : ClassId) (xs : List Int32) (j : Int32) (r : Int32) (h0 : Heap) (n0 : Nat) (Z0 : n0 ≤ h0.size) (V_b : Arv Z h0 b kb .byte (Int32.ofNat (2 * xs.length)) (utfV xs) (.int 0)) (hj0 : ¬ (j < (0 : Int32))) (hj1 : j < Int32.ofNat xs.length) (hr : xs.getD j.toNatClampNeg 0 = r) (hlen : xs.length ≤ 1000) (hCr : Chr r) (S__assertionsDisabled : Sta Z h0 "java/lang/StringUTF16" "$assertionsDisabled" "Z" (.int (1 : Int32))) (S_HI_BYTE_SHIFT : Sta Z h0 "java/lang/StringUTF16" "HI_BYTE_SHIFT" "I" (.int (0 : Int32))) (S_LO_BYTE_SHIFT : Sta Z h0 "java/lang/StringUTF16" "LO_BYTE_SHIFT" "I" (.int (8 : Int32))) :
    Met l Z mN8 jdk_52_method_5_code 2 (some .char) ({ frames := 0, cells := 0, slots := 0, locals := 0 } : Room) ws #[(.ref b), (.int j)] h0 (Q_rs_gch Z b kb xs j r h0 n0) := by
  refine own_met (plainFor_of_name own_pn3) ?_
  intro p e s m below meth c s₁ hret hx hby hlk hml hown hnm X0 e0 hZ hh
  have N0 := Fr.nil n0
  refine Gs (fun _ tk => castTop (own_ef_rs_gch m b j) tk) ?_
  show Goes _ _ _ _ _ (s₁.setTop (mkF m 0 #[.val (.ref b), .val (.int j)] []))
  obtain ⟨T1, X1, e1, st1⟩ := getS2 X0 hx hZ hown (host := "") (Or.inl (gw hw 82 rfl)) Via.refl e0 S__assertionsDisabled (g := (mkF m 0 #[.val (.ref b), .val (.int j)] [])) rfl (hb hby d8_0)
  refine Gs st1 ?_
  show Goes _ _ _ _ _ (T1.setTop (mkF m 3 #[.val (.ref b), .val (.int j)] [(.int (1 : Int32))]))
  refine Gs (fun _ tk => XS.ifYes X1.here hx rfl (pc0 := 3) (pc' := 28) rfl (hb hby d8_3) rfl ((if0 _ _).trans (feq (by decide : ¬ ((1 : Int32) = (0 : Int32)))).2) (by decide) (by decide) tk) ?_
  refine Gs (fun _ tk => XS.iloadN X1.here hx rfl (hb hby d8_28) rfl tk) ?_
  refine Gs (fun _ tk => XS.iconst X1.here hx rfl (hb hby d8_29) tk) ?_
  show Goes _ _ _ _ _ (T1.setTop (mkF m 30 #[.val (.ref b), .val (.int j)] [(.int (1 : Int32)), (.int j)]))
  refine Gs (fun _ tk => XS.ishl X1.here hx rfl (hb hby d8_30) rfl tk) ?_
  show Goes _ _ _ _ _ (T1.setTop (mkF m 31 #[.val (.ref b), .val (.int j)] [(.int (j <<< ((1 : Int32) &&& 31)))]))
  refine Gs (fun _ tk => XS.istoreN X1.here hx rfl (hb hby d8_31) rfl (l' := #[.val (.ref b), .val (.int (j <<< ((1 : Int32) &&& 31)))]) rfl tk) ?_
  refine Gs (fun _ tk => XS.aloadN X1.here hx rfl (hb hby d8_32) rfl rfl tk) ?_
  refine Gs (fun _ tk => XS.iloadN X1.here hx rfl (hb hby d8_33) rfl tk) ?_
  show Goes _ _ _ _ _ (T1.setTop (mkF m 34 #[.val (.ref b), .val (.int (j <<< ((1 : Int32) &&& 31)))] [(.int (j <<< ((1 : Int32) &&& 31))), (.ref b)]))
  refine Gs (fun _ tk => XS.iinc X1.here hx rfl (hb hby d8_34) rfl (l' := #[.val (.ref b), .val (.int ((j <<< ((1 : Int32) &&& 31)) + (1 : Int32)))]) rfl tk) ?_
  show Goes _ _ _ _ _ (T1.setTop (mkF m 37 #[.val (.ref b), .val (.int ((j <<< ((1 : Int32) &&& 31)) + (1 : Int32)))] [(.int (j <<< ((1 : Int32) &&& 31))), (.ref b)]))
  obtain ⟨cl2, Ar2, -, S2, N2z, H2, -⟩ := id V_b
  have hin2 : ¬ ((j <<< ((1 : Int32) &&& 31)) < 0 ∨ cl2.slots.size ≤ ((j <<< ((1 : Int32) &&& 31))).toNatClampNeg) := inb_of S2 (own_ub0 hj0 hj1 hlen)
  have hat2 : cl2.slots[((j <<< ((1 : Int32) &&& 31))).toNatClampNeg]? = some (.int (lo8 r)) := Has.at H2 hin2 (own_ug0 hj0 hj1 hlen hr)
  refine Gs (fun _ tk => X1.baloadBytes hx (j := (j <<< ((1 : Int32) &&& 31))) (v := (.int (lo8 r))) (by rw [e1]; exact Ar2.1) (State.isArrayOf_alike hZ.alike Ar2.2.1) Ar2.2.2 hin2 hat2 (g := (mkF m 37 #[.val (.ref b), .val (.int ((j <<< ((1 : Int32) &&& 31)) + (1 : Int32)))] [(.int (j <<< ((1 : Int32) &&& 31))), (.ref b)])) rfl rfl (hb hby d8_37) _ tk) ?_
  show Goes _ _ _ _ _ (T1.setTop (mkF m 38 #[.val (.ref b), .val (.int ((j <<< ((1 : Int32) &&& 31)) + (1 : Int32)))] [(.int (lo8 r))]))
  refine Gs (fun _ tk => XS.sipush X1.here hx rfl (hb hby d8_38) tk) ?_
  show Goes _ _ _ _ _ (T1.setTop (mkF m 41 #[.val (.ref b), .val (.int ((j <<< ((1 : Int32) &&& 31)) + (1 : Int32)))] [(.int (255 : Int32)), (.int (lo8 r))]))
  refine Gs (fun _ tk => XS.iand X1.here hx rfl (hb hby d8_41) rfl tk) ?_
  show Goes _ _ _ _ _ (T1.setTop (mkF m 42 #[.val (.ref b), .val (.int ((j <<< ((1 : Int32) &&& 31)) + (1 : Int32)))] [(.int ((lo8 r) &&& (255 : Int32)))]))
  obtain ⟨T3, X3, e3, st3⟩ := getS2 X1 hx hZ hown (host := "") (Or.inl (gw hw 83 rfl)) Via.refl e1 S_HI_BYTE_SHIFT (g := (mkF m 42 #[.val (.ref b), .val (.int ((j <<< ((1 : Int32) &&& 31)) + (1 : Int32)))] [(.int ((lo8 r) &&& (255 : Int32)))])) rfl (hb hby d8_42)
  refine Gs st3 ?_
  show Goes _ _ _ _ _ (T3.setTop (mkF m 45 #[.val (.ref b), .val (.int ((j <<< ((1 : Int32) &&& 31)) + (1 : Int32)))] [(.int (0 : Int32)), (.int ((lo8 r) &&& (255 : Int32)))]))
  refine Gs (fun _ tk => XS.ishl X3.here hx rfl (hb hby d8_45) rfl tk) ?_
  show Goes _ _ _ _ _ (T3.setTop (mkF m 46 #[.val (.ref b), .val (.int ((j <<< ((1 : Int32) &&& 31)) + (1 : Int32)))] [(.int (((lo8 r) &&& (255 : Int32)) <<< ((0 : Int32) &&& 31)))]))
  refine Gs (fun _ tk => XS.aloadN X3.here hx rfl (hb hby d8_46) rfl rfl tk) ?_
  refine Gs (fun _ tk => XS.iloadN X3.here hx rfl (hb hby d8_47) rfl tk) ?_
  obtain ⟨cl4, Ar4, -, S4, N4z, H4, -⟩ := id V_b
  have hin4 : ¬ (((j <<< ((1 : Int32) &&& 31)) + (1 : Int32)) < 0 ∨ cl4.slots.size ≤ (((j <<< ((1 : Int32) &&& 31)) + (1 : Int32))).toNatClampNeg) := inb_of S4 (own_ub1 hj0 hj1 hlen)
  have hat4 : cl4.slots[(((j <<< ((1 : Int32) &&& 31)) + (1 : Int32))).toNatClampNeg]? = some (.int (hi8 r)) := Has.at H4 hin4 (own_ug1 hj0 hj1 hlen hr)
  refine Gs (fun _ tk => X3.baloadBytes hx (j := ((j <<< ((1 : Int32) &&& 31)) + (1 : Int32))) (v := (.int (hi8 r))) (by rw [e3]; exact Ar4.1) (State.isArrayOf_alike hZ.alike Ar4.2.1) Ar4.2.2 hin4 hat4 (g := (mkF m 48 #[.val (.ref b), .val (.int ((j <<< ((1 : Int32) &&& 31)) + (1 : Int32)))] [(.int ((j <<< ((1 : Int32) &&& 31)) + (1 : Int32))), (.ref b), (.int (((lo8 r) &&& (255 : Int32)) <<< ((0 : Int32) &&& 31)))])) rfl rfl (hb hby d8_48) _ tk) ?_
  show Goes _ _ _ _ _ (T3.setTop (mkF m 49 #[.val (.ref b), .val (.int ((j <<< ((1 : Int32) &&& 31)) + (1 : Int32)))] [(.int (hi8 r)), (.int (((lo8 r) &&& (255 : Int32)) <<< ((0 : Int32) &&& 31)))]))
  refine Gs (fun _ tk => XS.sipush X3.here hx rfl (hb hby d8_49) tk) ?_
  show Goes _ _ _ _ _ (T3.setTop (mkF m 52 #[.val (.ref b), .val (.int ((j <<< ((1 : Int32) &&& 31)) + (1 : Int32)))] [(.int (255 : Int32)), (.int (hi8 r)), (.int (((lo8 r) &&& (255 : Int32)) <<< ((0 : Int32) &&& 31)))]))
  refine Gs (fun _ tk => XS.iand X3.here hx rfl (hb hby d8_52) rfl tk) ?_
  show Goes _ _ _ _ _ (T3.setTop (mkF m 53 #[.val (.ref b), .val (.int ((j <<< ((1 : Int32) &&& 31)) + (1 : Int32)))] [(.int ((hi8 r) &&& (255 : Int32))), (.int (((lo8 r) &&& (255 : Int32)) <<< ((0 : Int32) &&& 31)))]))
  obtain ⟨T5, X5, e5, st5⟩ := getS2 X3 hx hZ hown (host := "") (Or.inl (gw hw 84 rfl)) Via.refl e3 S_LO_BYTE_SHIFT (g := (mkF m 53 #[.val (.ref b), .val (.int ((j <<< ((1 : Int32) &&& 31)) + (1 : Int32)))] [(.int ((hi8 r) &&& (255 : Int32))), (.int (((lo8 r) &&& (255 : Int32)) <<< ((0 : Int32) &&& 31)))])) rfl (hb hby d8_53)
  refine Gs st5 ?_
  show Goes _ _ _ _ _ (T5.setTop (mkF m 56 #[.val (.ref b), .val (.int ((j <<< ((1 : Int32) &&& 31)) + (1 : Int32)))] [(.int (8 : Int32)), (.int ((hi8 r) &&& (255 : Int32))), (.int (((lo8 r) &&& (255 : Int32)) <<< ((0 : Int32) &&& 31)))]))
  refine Gs (fun _ tk => XS.ishl X5.here hx rfl (hb hby d8_56) rfl tk) ?_
  show Goes _ _ _ _ _ (T5.setTop (mkF m 57 #[.val (.ref b), .val (.int ((j <<< ((1 : Int32) &&& 31)) + (1 : Int32)))] [(.int (((hi8 r) &&& (255 : Int32)) <<< ((8 : Int32) &&& 31))), (.int (((lo8 r) &&& (255 : Int32)) <<< ((0 : Int32) &&& 31)))]))
  refine Gs (fun _ tk => XS.ior X5.here hx rfl (hb hby d8_57) rfl tk) ?_
  show Goes _ _ _ _ _ (T5.setTop (mkF m 58 #[.val (.ref b), .val (.int ((j <<< ((1 : Int32) &&& 31)) + (1 : Int32)))] [(.int ((((lo8 r) &&& (255 : Int32)) <<< ((0 : Int32) &&& 31)) ||| (((hi8 r) &&& (255 : Int32)) <<< ((8 : Int32) &&& 31))))]))
  refine Gs (fun _ tk => XS.i2c X5.here hx rfl (hb hby d8_58) rfl tk) ?_
  show Goes _ _ _ _ _ (T5.setTop (mkF m 59 #[.val (.ref b), .val (.int ((j <<< ((1 : Int32) &&& 31)) + (1 : Int32)))] [(.int (((((lo8 r) &&& (255 : Int32)) <<< ((0 : Int32) &&& 31)) ||| (((hi8 r) &&& (255 : Int32)) <<< ((8 : Int32) &&& 31))).toUInt32.toUInt16.toUInt32.toInt32))]))
  show Goes _ _ _ _ _ (T5.setTop (mkF m 59 #[.val (.ref b), .val (.int ((j <<< ((1 : Int32) &&& 31)) + (1 : Int32)))] [(.int (((((lo8 r) &&& (255 : Int32)) <<< ((0 : Int32) &&& 31)) ||| (((hi8 r) &&& (255 : Int32)) <<< ((8 : Int32) &&& 31))).toUInt32.toUInt16.toUInt32.toInt32))]))
  rw [own_backU hCr]
  show Goes _ _ _ _ _ (T5.setTop (mkF m 59 #[.val (.ref b), .val (.int ((j <<< ((1 : Int32) &&& 31)) + (1 : Int32)))] [(.int r)]))
  refine Goes.ret X5 (some (.int r)) (fun h => by rw [hret] at h; cases h) hlk (by decide) (by decide) ?_ (fun fs hr => ?_)
  · exact ⟨rfl, N0, e5⟩
  · exact own_retN X5 hx (t := .char) hret (by simp) (own_nc hCr) (hb hby d8_59) hr
theorem d9_0 : decode jdk_52_method_83_code 0 = .ok (.iload_n 1, 1) := by decide +kernel
theorem d9_1 : decode jdk_52_method_83_code 1 = .ok (.aload_n 0, 1) := by decide +kernel
theorem d9_2 : decode jdk_52_method_83_code 2 = .ok (.invokestatic 67, 3) := by decide +kernel
theorem own_pd4 : parseMethodDescriptor "(I[B)V" = some ⟨[.int, (.array .byte)], none⟩ := by decide +kernel
theorem d9_5 : decode jdk_52_method_83_code 5 = .ok (.aload_n 0, 1) := by decide +kernel
theorem d9_6 : decode jdk_52_method_83_code 6 = .ok (.iload_n 1, 1) := by decide +kernel
theorem d9_7 : decode jdk_52_method_83_code 7 = .ok (.invokestatic 71, 3) := by decide +kernel
theorem own_pd5 : parseMethodDescriptor "([BI)C" = some ⟨[(.array .byte), .int], some .char⟩ := by decide +kernel
theorem d9_10 : decode jdk_52_method_83_code 10 = .ok (.ireturn, 1) := by decide +kernel
theorem own_ef_rs_u16c (m : MethodId) (x0 : Addr) (x1 : Int32) : entryFrame m #[(.ref x0), (.int x1)] 2 = mkF m 0 #[.val (.ref x0), .val (.int x1)] [] := by first | (simp [entryFrame, mkF, argsToLocals, Value.category]; done) | rfl
def Q_rs_u16c (Z : State) (b : Addr) (kb : ClassId) (xs : List Int32) (j : Int32) (r : Int32) (fo : Value) (h0 : Heap) (n0 : Nat) (v : Option Value) (h : Heap) (L : List Loc) : Prop := v = some (.int r) ∧ Fr n0 L ∧ h = h0
set_option maxRecDepth 65536 in
set_option maxHeartbeats 40000000 in
theorem rs_u16c (l : Launch) (Z : State) (a0 : Array Value) (hw : ∀ d ∈ tables_1, d.before a0 Z = true) (ws : List Jvm.Cond) (b : Addr) (kb : ClassId) (xs : List Int32) (j : Int32) (r : Int32) (fo : Value) (h0 : Heap) (n0 : Nat) (Z0 : n0 ≤ h0.size) (V_b : Arv Z h0 b kb .byte (Int32.ofNat (2 * xs.length)) (utfV xs) (.int 0)) (hj0 : ¬ (j < (0 : Int32))) (hj1 : j < Int32.ofNat xs.length) (hr : xs.getD j.toNatClampNeg 0 = r) (hlen : xs.length ≤ 1000) (hCr : Chr r) (S_SIOOBE_FORMATTER : Sta Z h0 "jdk/internal/util/Preconditions" "SIOOBE_FORMATTER" "Ljava/util/function/BiFunction;" fo) (r_fo : fo.isRef = true) (S__assertionsDisabled : Sta Z h0 "java/lang/StringUTF16" "$assertionsDisabled" "Z" (.int (1 : Int32))) (S_HI_BYTE_SHIFT : Sta Z h0 "java/lang/StringUTF16" "HI_BYTE_SHIFT" "I" (.int (0 : Int32))) (S_LO_BYTE_SHIFT : Sta Z h0 "java/lang/StringUTF16" "LO_BYTE_SHIFT" "I" (.int (8 : Int32))) :
    Met l Z mN9 jdk_52_method_83_code 2 (some .char) ({ frames := 3, cells := 0, slots := 0, locals := 40 } : Room) ws #[(.ref b), (.int j)] h0 (Q_rs_u16c Z b kb xs j r fo h0 n0) := by
  refine own_met (plainFor_of_name own_pn3) ?_
  intro p e s m below meth c s₁ hret hx hby hlk hml hown hnm X0 e0 hZ hh
  have N0 := Fr.nil n0
  refine Gs (fun _ tk => castTop (own_ef_rs_u16c m b j) tk) ?_
  show Goes _ _ _ _ _ (s₁.setTop (mkF m 0 #[.val (.ref b), .val (.int j)] []))
  refine Gs (fun _ tk => XS.iloadN X0.here hx rfl (hb hby d9_0) rfl tk) ?_
  refine Gs (fun _ tk => XS.aloadN X0.here hx rfl (hb hby d9_1) rfl rfl tk) ?_
  obtain ⟨_, _, ⟨T1, L1, k1, n1⟩, -, X1, ⟨Lc1, hQ1, l1, y1, z1⟩, st1⟩ := Jvm.LawKit.callS X0 hx (y := mN7) hown (mvT hZ (gw hw 118 rfl)) (mvT hZ (gw hw 119 rfl)) (mvT hZ (gw hw 47 rfl)) (mvT hZ (gw hw 120 rfl)) (by decide) (backOf (W := 0) (rs_uci l Z a0 hw [] j b kb xs fo h0 n0 Z0 V_b (by first | assumption | decide) (by first | assumption | decide) (by first | assumption | decide) S_SIOOBE_FORMATTER (by first | assumption | decide)) hZ (gw hw 120 rfl) (gw hw 47 rfl) (by decide) (by decide)) (g := (mkF m 2 #[.val (.ref b), .val (.int j)] [(.ref b), (.int j)])) rfl (by rw [hml]; rfl) (argsL := [(.int j), (.ref b)]) (rest := []) (lenOf own_pd4 rfl) rfl (w0 (Nat.le_of_eq rfl)) (hb hby d9_2) (fun _ _ => ⟨rfl, e0, (by decide : 0 + 0 ≤ _), (by decide : 0 + 0 ≤ _)⟩)
  dsimp only [Pt.U, Pt.locs, Pt.cells, Pt.slots] at X1 l1 y1 z1 st1 hQ1
  subst l1 y1 z1
  obtain ⟨rfl, N1q, e1⟩ := hQ1
  have N1 := Fr.app N0 N1q
  refine Gs st1 ?_
  show Goes _ _ _ _ _ (T1.setTop (mkF m 5 #[.val (.ref b), .val (.int j)] []))
  refine Gs (fun _ tk => XS.aloadN X1.here hx rfl (hb hby d9_5) rfl rfl tk) ?_
  refine Gs (fun _ tk => XS.iloadN X1.here hx rfl (hb hby d9_6) rfl tk) ?_
  obtain ⟨_, _, ⟨T2, L2, k2, n2⟩, -, X2, ⟨Lc2, hQ2, l2, y2, z2⟩, st2⟩ := Jvm.LawKit.callS X1 hx (y := mN8) hown (mvT hZ (gw hw 85 rfl)) (mvT hZ (gw hw 86 rfl)) (mvT hZ (gw hw 47 rfl)) (mvT hZ (gw hw 87 rfl)) (by decide) (backOf (W := 0) (rs_gch l Z a0 hw [] b kb xs j r h0 n0 Z0 V_b (by first | assumption | decide) (by first | assumption | decide) (by first | assumption | decide) (by first | assumption | decide) (by first | assumption | decide) S__assertionsDisabled S_HI_BYTE_SHIFT S_LO_BYTE_SHIFT) hZ (gw hw 87 rfl) (gw hw 47 rfl) (by decide) (by decide)) (g := (mkF m 7 #[.val (.ref b), .val (.int j)] [(.int j), (.ref b)])) rfl (by rw [hml]; rfl) (argsL := [(.ref b), (.int j)]) (rest := []) (lenOf own_pd5 rfl) rfl (w0 (Nat.le_of_eq rfl)) (hb hby d9_7) (fun _ _ => ⟨rfl, e1, (by decide : 0 + 0 ≤ _), (by decide : 0 + 0 ≤ _)⟩)
  dsimp only [Pt.U, Pt.locs, Pt.cells, Pt.slots] at X2 l2 y2 z2 st2 hQ2
  subst l2 y2 z2
  obtain ⟨rfl, N2q, e2⟩ := hQ2
  have N2 := Fr.app N1 N2q
  refine Gs st2 ?_
  show Goes _ _ _ _ _ (T2.setTop (mkF m 10 #[.val (.ref b), .val (.int j)] [(.int r)]))
  refine Goes.ret X2 (some (.int r)) (fun h => by rw [hret] at h; cases h) hlk (by decide) (by decide) ?_ (fun fs hr => ?_)
  · exact ⟨rfl, N2, e2⟩
  · exact own_retN X2 hx (t := .char) hret (by simp) (own_nc hCr) (hb hby d9_10) hr
theorem d10_0 : decode jdk_42_method_56_code 0 = .ok (.aload_n 0, 1) := by decide +kernel
theorem d10_1 : decode jdk_42_method_56_code 1 = .ok (.invokevirtual 492, 3) := by decide +kernel
theorem own_pd6 : parseMethodDescriptor "()Z" = some ⟨[], some .boolean⟩ := by decide +kernel
theorem d10_4 : decode jdk_42_method_56_code 4 = .ok (.ifCond .eq 12, 3) := by decide +kernel
theorem d10_7 : decode jdk_42_method_56_code 7 = .ok (.aload_n 0, 1) := by decide +kernel
theorem d10_8 : decode jdk_42_method_56_code 8 = .ok (.getfield 9, 3) := by decide +kernel
theorem d10_11 : decode jdk_42_method_56_code 11 = .ok (.iload_n 1, 1) := by decide +kernel
theorem d10_12 : decode jdk_42_method_56_code 12 = .ok (.invokestatic 495, 3) := by decide +kernel
theorem d10_15 : decode jdk_42_method_56_code 15 = .ok (.ireturn, 1) := by decide +kernel
theorem d10_16 : decode jdk_42_method_56_code 16 = .ok (.aload_n 0, 1) := by decide +kernel
theorem d10_17 : decode jdk_42_method_56_code 17 = .ok (.getfield 9, 3) := by decide +kernel
theorem d10_20 : decode jdk_42_method_56_code 20 = .ok (.iload_n 1, 1) := by decide +kernel
theorem d10_21 : decode jdk_42_method_56_code 21 = .ok (.invokestatic 498, 3) := by decide +kernel
theorem d10_24 : decode jdk_42_method_56_code 24 = .ok (.ireturn, 1) := by decide +kernel
theorem own_ef_rs_chr (m : MethodId) (x0 : Addr) (x1 : Int32) : entryFrame m #[(.ref x0), (.int x1)] 2 = mkF m 0 #[.val (.ref x0), .val (.int x1)] [] := by first | (simp [entryFrame, mkF, argsToLocals, Value.category]; done) | rfl
def Q_rs_chr (Z : State) (a : Addr) (xs : List Int32) (j : Int32) (r : Int32) (cz : Int32) (fo : Value) (h0 : Heap) (n0 : Nat) (v : Option Value) (h : Heap) (L : List Loc) : Prop := v = some (.int r) ∧ Fr n0 L ∧ h = h0
set_option maxRecDepth 65536 in
set_option maxHeartbeats 40000000 in
theorem rs_chr (l : Launch) (Z : State) (a0 : Array Value) (hw : ∀ d ∈ tables_1, d.before a0 Z = true) (ws : List Jvm.Cond) (a : Addr) (xs : List Int32) (j : Int32) (r : Int32) (cz : Int32) (fo : Value) (h0 : Heap) (n0 : Nat) (Z0 : n0 ≤ h0.size) (T_a : StrOf Z h0 a xs) (S_COMPACT_STRINGS : Sta Z h0 "java/lang/String" "COMPACT_STRINGS" "Z" (.int cz)) (hcz : ¬ (cz = (0 : Int32))) (hj0 : ¬ (j < (0 : Int32))) (hj1 : j < Int32.ofNat xs.length) (hr : xs.getD j.toNatClampNeg 0 = r) (S_SIOOBE_FORMATTER : Sta Z h0 "jdk/internal/util/Preconditions" "SIOOBE_FORMATTER" "Ljava/util/function/BiFunction;" fo) (r_fo : fo.isRef = true) (S__assertionsDisabled : Sta Z h0 "java/lang/StringUTF16" "$assertionsDisabled" "Z" (.int (1 : Int32))) (S_HI_BYTE_SHIFT : Sta Z h0 "java/lang/StringUTF16" "HI_BYTE_SHIFT" "I" (.int (0 : Int32))) (S_LO_BYTE_SHIFT : Sta Z h0 "java/lang/StringUTF16" "LO_BYTE_SHIFT" "I" (.int (8 : Int32))) :
    Met l Z mN10 jdk_42_method_56_code 2 (some .char) ({ frames := 4, cells := 0, slots := 0, locals := 53 } : Room) ws #[(.ref a), (.int j)] h0 (Q_rs_chr Z a xs j r cz fo h0 n0) := by
  refine own_met (plainFor_of_name own_pn0) ?_
  intro p e s m below meth c s₁ hret hx hby hlk hml hown hnm X0 e0 hZ hh
  have N0 := Fr.nil n0
  refine Gs (fun _ tk => castTop (own_ef_rs_chr m a j) tk) ?_
  show Goes _ _ _ _ _ (s₁.setTop (mkF m 0 #[.val (.ref a), .val (.int j)] []))
  obtain ⟨vb, kb, A_a, F_value_a, hrep, hlen⟩ := id T_a
  rcases hrep with ⟨F_coder_a, hall, V_vb⟩ | ⟨F_coder_a, hall, V_vb⟩
  · show Goes _ _ _ _ _ (s₁.setTop (mkF m 0 #[.val (.ref a), .val (.int j)] []))
    have hmem : r ∈ xs := own_mem hj0 hj1 hlen hr
    have hLr : Lat r := hall r hmem
    have hCr : Chr r := hLr.chr
    refine Gs (fun _ tk => XS.aloadN X0.here hx rfl (hb hby d10_0) rfl rfl tk) ?_
    obtain ⟨cq1, kq1, q1a, q1b, q1c⟩ := isOf hZ e0 T_a.exa
    obtain ⟨_, _, ⟨T1, L1, k1, n1⟩, -, X1, ⟨Lc1, hQ1, l1, y1, z1⟩, st1⟩ := X0.virtualBack hx (y := mN1) (z := mN1) hown (mvT hZ (gw hw 99 rfl)) (mvT hZ (gw hw 100 rfl)) (notFace_of_selects (args := #[]) (mvT hZ (gw hw 102 rfl))) (mvT hZ (gw hw 102 rfl)) (mvT hZ (gw hw 101 rfl)) (by decide) (backOf (W := 0) (rs_isl0 l Z a0 hw [] a cz h0 n0 Z0 F_coder_a S_COMPACT_STRINGS (by first | assumption | decide)) hZ (gw hw 103 rfl) (gw hw 7 rfl) (by decide) (by decide)) q1a q1c (g := (mkF m 1 #[.val (.ref a), .val (.int j)] [(.ref a)])) rfl (by rw [hml]; rfl) (Steps.refl _) (argsL := []) (rest := []) (lenOf own_pd6 rfl) rfl (w0 (Nat.le_of_eq rfl)) (hb hby d10_1) (fun _ _ => ⟨rfl, e0, (by decide : 0 + 0 ≤ _), (by decide : 0 + 0 ≤ _)⟩)
    dsimp only [Pt.U, Pt.locs, Pt.cells, Pt.slots] at X1 l1 y1 z1 st1 hQ1
    subst l1 y1 z1
    obtain ⟨rfl, N1q, e1⟩ := hQ1
    have N1 := Fr.app N0 N1q
    refine Gs (fun _ tk => st1.trans tk) ?_
    show Goes _ _ _ _ _ (T1.setTop (mkF m 4 #[.val (.ref a), .val (.int j)] [(.int (1 : Int32))]))
    refine Gs (fun _ tk => XS.ifNo X1.here hx rfl (hb hby d10_4) rfl ((if0 _ _).trans (feq (by decide : ¬ ((1 : Int32) = (0 : Int32)))).1) tk) ?_
    refine Gs (fun _ tk => XS.aloadN X1.here hx rfl (hb hby d10_7) rfl rfl tk) ?_
    obtain ⟨T2, X2, e2, st2⟩ := getF X1 hx hZ hown (host := "") (Or.inl (gw hw 25 rfl)) Via.refl e1 F_value_a (g := (mkF m 8 #[.val (.ref a), .val (.int j)] [(.ref a)])) rfl rfl (hb hby d10_8)
    refine Gs st2 ?_
    show Goes _ _ _ _ _ (T2.setTop (mkF m 11 #[.val (.ref a), .val (.int j)] [(.ref vb)]))
    refine Gs (fun _ tk => XS.iloadN X2.here hx rfl (hb hby d10_11) rfl tk) ?_
    obtain ⟨_, _, ⟨T3, L3, k3, n3⟩, -, X3, ⟨Lc3, hQ3, l3, y3, z3⟩, st3⟩ := Jvm.LawKit.callS X2 hx (y := mN5) hown (mvT hZ (gw hw 104 rfl)) (mvT hZ (gw hw 105 rfl)) (mvT hZ (gw hw 60 rfl)) (mvT hZ (gw hw 106 rfl)) (by decide) (backOf (W := 0) (rs_l1c l Z a0 hw [] vb kb xs j r fo h0 n0 Z0 V_vb (by first | assumption | decide) (by first | assumption | decide) (by first | assumption | decide) (by first | assumption | decide) (by first | assumption | decide) S_SIOOBE_FORMATTER (by first | assumption | decide)) hZ (gw hw 106 rfl) (gw hw 60 rfl) (by decide) (by decide)) (g := (mkF m 12 #[.val (.ref a), .val (.int j)] [(.int j), (.ref vb)])) rfl (by rw [hml]; rfl) (argsL := [(.ref vb), (.int j)]) (rest := []) (lenOf own_pd5 rfl) rfl (w0 (Nat.le_of_eq rfl)) (hb hby d10_12) (fun _ _ => ⟨rfl, e2, (by decide : 0 + 0 ≤ _), (by decide : 0 + 0 ≤ _)⟩)
    dsimp only [Pt.U, Pt.locs, Pt.cells, Pt.slots] at X3 l3 y3 z3 st3 hQ3
    subst l3 y3 z3
    obtain ⟨rfl, N3q, e3⟩ := hQ3
    have N3 := Fr.app N1 N3q
    refine Gs st3 ?_
    show Goes _ _ _ _ _ (T3.setTop (mkF m 15 #[.val (.ref a), .val (.int j)] [(.int r)]))
    refine Goes.ret X3 (some (.int r)) (fun h => by rw [hret] at h; cases h) hlk (by decide) (by decide) ?_ (fun fs hr => ?_)
    · exact ⟨rfl, N3, e3⟩
    · exact own_retN X3 hx (t := .char) hret (by simp) (own_nc hCr) (hb hby d10_15) hr
  · show Goes _ _ _ _ _ (s₁.setTop (mkF m 0 #[.val (.ref a), .val (.int j)] []))
    have hmem : r ∈ xs := own_mem hj0 hj1 hlen hr
    have hCr : Chr r := hall r hmem
    refine Gs (fun _ tk => XS.aloadN X0.here hx rfl (hb hby d10_0) rfl rfl tk) ?_
    obtain ⟨cq4, kq4, q4a, q4b, q4c⟩ := isOf hZ e0 T_a.exa
    obtain ⟨_, _, ⟨T4, L4, k4, n4⟩, -, X4, ⟨Lc4, hQ4, l4, y4, z4⟩, st4⟩ := X0.virtualBack hx (y := mN1) (z := mN1) hown (mvT hZ (gw hw 99 rfl)) (mvT hZ (gw hw 100 rfl)) (notFace_of_selects (args := #[]) (mvT hZ (gw hw 102 rfl))) (mvT hZ (gw hw 102 rfl)) (mvT hZ (gw hw 101 rfl)) (by decide) (backOf (W := 0) (rs_isl1 l Z a0 hw [] a cz h0 n0 Z0 F_coder_a S_COMPACT_STRINGS (by first | assumption | decide)) hZ (gw hw 103 rfl) (gw hw 7 rfl) (by decide) (by decide)) q4a q4c (g := (mkF m 1 #[.val (.ref a), .val (.int j)] [(.ref a)])) rfl (by rw [hml]; rfl) (Steps.refl _) (argsL := []) (rest := []) (lenOf own_pd6 rfl) rfl (w0 (Nat.le_of_eq rfl)) (hb hby d10_1) (fun _ _ => ⟨rfl, e0, (by decide : 0 + 0 ≤ _), (by decide : 0 + 0 ≤ _)⟩)
    dsimp only [Pt.U, Pt.locs, Pt.cells, Pt.slots] at X4 l4 y4 z4 st4 hQ4
    subst l4 y4 z4
    obtain ⟨rfl, N4q, e4⟩ := hQ4
    have N4 := Fr.app N0 N4q
    refine Gs (fun _ tk => st4.trans tk) ?_
    show Goes _ _ _ _ _ (T4.setTop (mkF m 4 #[.val (.ref a), .val (.int j)] [(.int (0 : Int32))]))
    refine Gs (fun _ tk => XS.ifYes X4.here hx rfl (pc0 := 4) (pc' := 16) rfl (hb hby d10_4) rfl ((if0 _ _).trans (teq (by decide : ((0 : Int32) = (0 : Int32)))).1) (by decide) (by decide) tk) ?_
    refine Gs (fun _ tk => XS.aloadN X4.here hx rfl (hb hby d10_16) rfl rfl tk) ?_
    obtain ⟨T5, X5, e5, st5⟩ := getF X4 hx hZ hown (host := "") (Or.inl (gw hw 25 rfl)) Via.refl e4 F_value_a (g := (mkF m 17 #[.val (.ref a), .val (.int j)] [(.ref a)])) rfl rfl (hb hby d10_17)
    refine Gs st5 ?_
    show Goes _ _ _ _ _ (T5.setTop (mkF m 20 #[.val (.ref a), .val (.int j)] [(.ref vb)]))
    refine Gs (fun _ tk => XS.iloadN X5.here hx rfl (hb hby d10_20) rfl tk) ?_
    obtain ⟨_, _, ⟨T6, L6, k6, n6⟩, -, X6, ⟨Lc6, hQ6, l6, y6, z6⟩, st6⟩ := Jvm.LawKit.callS X5 hx (y := mN9) hown (mvT hZ (gw hw 115 rfl)) (mvT hZ (gw hw 116 rfl)) (mvT hZ (gw hw 47 rfl)) (mvT hZ (gw hw 117 rfl)) (by decide) (backOf (W := 0) (rs_u16c l Z a0 hw [] vb kb xs j r fo h0 n0 Z0 V_vb (by first | assumption | decide) (by first | assumption | decide) (by first | assumption | decide) (by first | assumption | decide) (by first | assumption | decide) S_SIOOBE_FORMATTER (by first | assumption | decide) S__assertionsDisabled S_HI_BYTE_SHIFT S_LO_BYTE_SHIFT) hZ (gw hw 117 rfl) (gw hw 47 rfl) (by decide) (by decide)) (g := (mkF m 21 #[.val (.ref a), .val (.int j)] [(.int j), (.ref vb)])) rfl (by rw [hml]; rfl) (argsL := [(.ref vb), (.int j)]) (rest := []) (lenOf own_pd5 rfl) rfl (w0 (Nat.le_of_eq rfl)) (hb hby d10_21) (fun _ _ => ⟨rfl, e5, (by decide : 0 + 0 ≤ _), (by decide : 0 + 0 ≤ _)⟩)
    dsimp only [Pt.U, Pt.locs, Pt.cells, Pt.slots] at X6 l6 y6 z6 st6 hQ6
    subst l6 y6 z6
    obtain ⟨rfl, N6q, e6⟩ := hQ6
    have N6 := Fr.app N4 N6q
    refine Gs st6 ?_
    show Goes _ _ _ _ _ (T6.setTop (mkF m 24 #[.val (.ref a), .val (.int j)] [(.int r)]))
    refine Goes.ret X6 (some (.int r)) (fun h => by rw [hret] at h; cases h) hlk (by decide) (by decide) ?_ (fun fs hr => ?_)
    · exact ⟨rfl, N6, e6⟩
    · exact own_retN X6 hx (t := .char) hret (by simp) (own_nc hCr) (hb hby d10_24) hr
theorem d11_0 : decode jdk_42_method_149_code 0 = .ok (.aload_n 0, 1) := by decide +kernel
theorem d11_1 : decode jdk_42_method_149_code 1 = .ok (.invokespecial 1, 3) := by decide +kernel
theorem d11_4 : decode jdk_42_method_149_code 4 = .ok (.iload_n 3, 1) := by decide +kernel
theorem d11_5 : decode jdk_42_method_149_code 5 = .ok (.ifCond .ne 22, 3) := by decide +kernel
theorem d11_8 : decode jdk_42_method_149_code 8 = .ok (.aload_n 0, 1) := by decide +kernel
theorem d11_9 : decode jdk_42_method_149_code 9 = .ok (.ldc 7, 2) := by decide +kernel
theorem own_strW {a0 : Array Value} {Z : State} (hw : ∀ d ∈ tables_1, d.before a0 Z = true) : ∀ a ∈ Bundle.stringAtoms, a.before a0 Z = true := by
  intro a ha
  simp only [Bundle.stringAtoms, List.mem_cons, List.not_mem_nil, or_false] at ha
  rcases ha with rfl | rfl | rfl | rfl | rfl | rfl | rfl
  · exact (gw hw 7 rfl)
  · exact (gw hw 6 rfl)
  · exact (gw hw 20 rfl)
  · exact (gw hw 21 rfl)
  · exact (gw hw 22 rfl)
  · exact (gw hw 23 rfl)
  · exact (gw hw 24 rfl)
theorem own_EW {a0 : Array Value} {Z : State} (hw : ∀ d ∈ tables_1, d.before a0 Z = true) : EW Z a0 consts_1 := (EW.cons (gw hw 19 rfl) (by decide) EW.nil)
theorem d11_11 : decode jdk_42_method_149_code 11 = .ok (.getfield 9, 3) := by decide +kernel
theorem d11_14 : decode jdk_42_method_149_code 14 = .ok (.putfield 9, 3) := by decide +kernel
theorem d11_17 : decode jdk_42_method_149_code 17 = .ok (.aload_n 0, 1) := by decide +kernel
theorem d11_18 : decode jdk_42_method_149_code 18 = .ok (.ldc 7, 2) := by decide +kernel
theorem d11_20 : decode jdk_42_method_149_code 20 = .ok (.getfield 15, 3) := by decide +kernel
theorem d11_23 : decode jdk_42_method_149_code 23 = .ok (.putfield 15, 3) := by decide +kernel
theorem d11_26 : decode jdk_42_method_149_code 26 = .ok (.return_, 1) := by decide +kernel
theorem own_ef_rs_i4_0 (m : MethodId) (x0 : Addr) (x1 : Addr) : entryFrame m #[(.ref x0), (.ref x1), (.int (0 : Int32)), (.int (0 : Int32)), .null] 6 = mkF m 0 #[.val (.ref x0), .val (.ref x1), .val (.int (0 : Int32)), .val (.int (0 : Int32)), .val .null, .unset] [] := by first | (simp [entryFrame, mkF, argsToLocals, Value.category]; done) | rfl
def Q_rs_i4_0 (Z : State) (a : Addr) (x : Addr) (kx : ClassId) (h0 : Heap) (n0 : Nat) (v : Option Value) (h : Heap) (L : List Loc) : Prop := v = none ∧ Fr n0 L ∧ Keep h0 h [a] ∧ StrOf Z h a []
set_option maxRecDepth 65536 in
set_option maxHeartbeats 40000000 in
theorem rs_i4_0 (l : Launch) (Z : State) (a0 : Array Value) (hw : ∀ d ∈ tables_1, d.before a0 Z = true) (ws : List Jvm.Cond) (a : Addr) (x : Addr) (kx : ClassId) (h0 : Heap) (n0 : Nat) (Z0 : n0 ≤ h0.size) (A_a : Exa Z h0 a "java/lang/String") (F_value_a : Fld Z h0 a "java/lang/String" "value" "[B" .null) (F_coder_a : Fld Z h0 a "java/lang/String" "coder" "B" (.int (0 : Int32))) (V_x : Arv Z h0 x kx .char (0 : Int32) [] (.int (0 : Int32))) (g_a : n0 ≤ a) (ne_x_a : x ≠ a) :
    MetH l Z mN11 jdk_42_method_149_code 6 none ({ frames := 1, cells := 4, slots := 8, locals := 12 } : Room) ws #[(.ref a), (.ref x), (.int (0 : Int32)), (.int (0 : Int32)), .null] h0 (Q_rs_i4_0 Z a x kx h0 n0) := by
  refine own_metH (plainFor_of_name own_pn0) ?_
  intro p e s m below meth c s₁ hret hx hby hlk hml hown hnm X0 e0 hZ hh hC0
  have N0 := Fr.nil n0
  have hS : s.Since s.vm h0.size := (State.WarmedH.refl s).since _
  have hk : h0.size ≤ h0.size := Nat.le_refl _
  replace hZ : Z.Warmed39 (s.setVm s.vm).vm := hZ
  have hR : CHr Z consts_1 s.vm h0 s.vm h0 := CHr.refl hC0
  refine Gs (fun _ tk => castTop (own_ef_rs_i4_0 m a x) tk) ?_
  have KP : Keep h0 h0 [a] := Keep.refl _ _
  show Goes _ _ _ _ _ (s₁.setTop (mkF m 0 #[.val (.ref a), .val (.ref x), .val (.int (0 : Int32)), .val (.int (0 : Int32)), .val .null, .unset] []))
  have Sf_a : Safe Z consts_1 s.vm h0 a := own_safeNew hZ.alike A_a F_value_a
  show Goes _ _ _ _ _ (s₁.setTop (mkF m 0 #[.val (.ref a), .val (.ref x), .val (.int (0 : Int32)), .val (.int (0 : Int32)), .val .null, .unset] []))
  refine Gs (fun _ tk => XS.aloadN X0.here hx rfl (hb hby d11_0) rfl rfl tk) ?_
  obtain ⟨T1, X1, e1, st1⟩ := initO X0 hx hZ hown (gw hw 16 rfl) (gw hw 17 rfl) (gw hw 18 rfl) e0 (g := (mkF m 1 #[.val (.ref a), .val (.ref x), .val (.int (0 : Int32)), .val (.int (0 : Int32)), .val .null, .unset] [(.ref a)])) rfl (by rw [hml]; rfl) rfl (hb hby d11_1) (by decide) (W := 0) (w0 (Nat.le_of_eq rfl)) (by decide)
  refine Gs st1 ?_
  show Goes _ _ _ _ _ (T1.setTop (mkF m 4 #[.val (.ref a), .val (.ref x), .val (.int (0 : Int32)), .val (.int (0 : Int32)), .val .null, .unset] []))
  refine Gs (fun _ tk => XS.iloadN X1.here hx rfl (hb hby d11_4) rfl tk) ?_
  refine Gs (fun _ tk => XS.ifNo X1.here hx rfl (hb hby d11_5) rfl ((if0 _ _).trans (teq (by decide : ((0 : Int32) = (0 : Int32)))).2) tk) ?_
  refine Gs (fun _ tk => XS.aloadN X1.here hx rfl (hb hby d11_8) rfl rfl tk) ?_
  have lt_a : a < h0.size := A_a.lt
  obtain ⟨c2, T2, h2, kk2, cb2, kc2, X2, e2, E2, hS, hk2, hZ, hown, A_c2, F_coder_c2, F_value_c2, V_cb2, -, -, hC2, hL2, hsf2, st2⟩ := ldcCH X1 hx hZ hown (gw hw 19 rfl) (own_strW hw) e1 hS hk (own_EW hw) (List.mem_of_getElem? (i := 0) rfl) hR.1 (vs := []) (z := (0 : Int32)) ⟨by decide, by decide⟩ (by decide) (by decide) (g := (mkF m 9 #[.val (.ref a), .val (.ref x), .val (.int (0 : Int32)), .val (.int (0 : Int32)), .val .null, .unset] [(.ref a)])) rfl (hb hby d11_9) (n := 0) (by decide) (by decide) (by decide) (by decide)
  replace A_a := A_a.ext E2
  replace F_value_a := F_value_a.ext E2
  replace F_coder_a := F_coder_a.ext E2
  replace KP := KP.ext E2
  replace Sf_a := hC2.safe lt_a Sf_a
  replace hR := hR.trans hC2
  replace Z0 : n0 ≤ h2.size := Nat.le_trans Z0 E2.1
  replace hk := hk2
  have ne_a_cb2 : a ≠ cb2 := (hsf2 _ Sf_a).2
  refine Gs st2 ?_
  show Goes _ _ _ _ _ (T2.setTop (mkF m 11 #[.val (.ref a), .val (.ref x), .val (.int (0 : Int32)), .val (.int (0 : Int32)), .val .null, .unset] [(.ref c2), (.ref a)]))
  obtain ⟨T3, X3, e3, st3⟩ := getF X2 hx hZ hown (host := "") (Or.inl (gw hw 25 rfl)) Via.refl e2 F_value_c2 (g := (mkF m 11 #[.val (.ref a), .val (.ref x), .val (.int (0 : Int32)), .val (.int (0 : Int32)), .val .null, .unset] [(.ref c2), (.ref a)])) rfl rfl (hb hby d11_11)
  refine Gs st3 ?_
  show Goes _ _ _ _ _ (T3.setTop (mkF m 14 #[.val (.ref a), .val (.ref x), .val (.int (0 : Int32)), .val (.int (0 : Int32)), .val .null, .unset] [(.ref cb2), (.ref a)]))
  obtain ⟨T4, h4, X4, e4, W4, st4⟩ := putF X3 hx hZ hown (host := "") (Or.inl (gw hw 25 rfl)) Via.refl e3 F_value_a A_a (Or.inr ⟨(gw hw 21 rfl), rfl, hnm⟩) (gw hw 6 rfl) (ty := (.array .byte)) (by decide) rfl rfl (g := (mkF m 14 #[.val (.ref a), .val (.ref x), .val (.int (0 : Int32)), .val (.int (0 : Int32)), .val .null, .unset] [(.ref cb2), (.ref a)])) rfl rfl (hb hby d11_14)
  have N4 := Fr.snoc X4 N0 g_a
  have Sf_a' := Safe.wr W4 Sf_a hR.1 Sf_a
  replace hR := hR.trans (CHr.wr W4 Sf_a hR.1)
  replace Sf_a := Sf_a'
  replace A_a := A_a.wr W4
  replace F_coder_a := F_coder_a.other W4 (Or.inr (slot_ne (Or.inr (gw hw 22 rfl)) (Or.inr (gw hw 21 rfl)) (by decide) (t := .byte) (t' := (.array .byte)) (by decide) (by decide)))
  replace V_cb2 := V_cb2.other W4 (Ne.symm ne_a_cb2)
  replace KP := KP.wr W4 (Or.inl (List.mem_of_getElem? (i := 0) rfl))
  replace F_value_a := F_value_a.same W4
  replace Z0 : n0 ≤ h4.size := by rw [W4.size]; exact Z0
  replace hk := Nat.le_trans hk (Nat.le_of_eq W4.size.symm)
  refine Gs st4 ?_
  show Goes _ _ _ _ _ (T4.setTop (mkF m 17 #[.val (.ref a), .val (.ref x), .val (.int (0 : Int32)), .val (.int (0 : Int32)), .val .null, .unset] []))
  refine Gs (fun _ tk => XS.aloadN X4.here hx rfl (hb hby d11_17) rfl rfl tk) ?_
  have lt_a : a < h4.size := A_a.lt
  obtain ⟨c5, T5, h5, kk5, cb5, kc5, X5, e5, E5, hS, hk5, hZ, hown, A_c5, F_coder_c5, F_value_c5, V_cb5, -, -, hC5, hL5, hsf5, st5⟩ := ldcCH X4 hx hZ hown (gw hw 19 rfl) (own_strW hw) e4 hS hk (own_EW hw) (List.mem_of_getElem? (i := 0) rfl) hR.1 (vs := []) (z := (0 : Int32)) ⟨by decide, by decide⟩ (by decide) (by decide) (g := (mkF m 18 #[.val (.ref a), .val (.ref x), .val (.int (0 : Int32)), .val (.int (0 : Int32)), .val .null, .unset] [(.ref a)])) rfl (hb hby d11_18) (n := 0) (by decide) (by decide) (by decide) (by decide)
  replace A_a := A_a.ext E5
  replace F_value_a := F_value_a.ext E5
  replace F_coder_a := F_coder_a.ext E5
  replace V_cb2 := V_cb2.ext E5
  replace KP := KP.ext E5
  replace Sf_a := hC5.safe lt_a Sf_a
  replace hR := hR.trans hC5
  replace Z0 : n0 ≤ h5.size := Nat.le_trans Z0 E5.1
  replace hk := hk5
  refine Gs st5 ?_
  show Goes _ _ _ _ _ (T5.setTop (mkF m 20 #[.val (.ref a), .val (.ref x), .val (.int (0 : Int32)), .val (.int (0 : Int32)), .val .null, .unset] [(.ref c5), (.ref a)]))
  obtain ⟨T6, X6, e6, st6⟩ := getF X5 hx hZ hown (host := "") (Or.inl (gw hw 26 rfl)) Via.refl e5 F_coder_c5 (g := (mkF m 20 #[.val (.ref a), .val (.ref x), .val (.int (0 : Int32)), .val (.int (0 : Int32)), .val .null, .unset] [(.ref c5), (.ref a)])) rfl rfl (hb hby d11_20)
  refine Gs st6 ?_
  show Goes _ _ _ _ _ (T6.setTop (mkF m 23 #[.val (.ref a), .val (.ref x), .val (.int (0 : Int32)), .val (.int (0 : Int32)), .val .null, .unset] [(.int (0 : Int32)), (.ref a)]))
  obtain ⟨T7, h7, X7, e7, W7, st7⟩ := putFN X6 hx hZ hown (gw hw 26 rfl) Via.refl e6 F_coder_a A_a (Or.inr ⟨(gw hw 22 rfl), rfl, hnm⟩) (gw hw 6 rfl) (ty := .byte) (v' := .int (0 : Int32)) (by decide) rfl rfl (g := (mkF m 23 #[.val (.ref a), .val (.ref x), .val (.int (0 : Int32)), .val (.int (0 : Int32)), .val .null, .unset] [(.int (0 : Int32)), (.ref a)])) rfl rfl (hb hby d11_23)
  have N7 := Fr.snoc X7 N4 g_a
  replace hR := hR.trans (CHr.wr W7 Sf_a hR.1)
  replace A_a := A_a.wr W7
  replace F_value_a := F_value_a.other W7 (Or.inr (slot_ne (Or.inr (gw hw 21 rfl)) (Or.inr (gw hw 22 rfl)) (by decide) (t := (.array .byte)) (t' := .byte) (by decide) (by decide)))
  replace V_cb2 := V_cb2.other W7 (Ne.symm ne_a_cb2)
  replace KP := KP.wr W7 (Or.inl (List.mem_of_getElem? (i := 0) rfl))
  replace F_coder_a := F_coder_a.same W7
  replace Z0 : n0 ≤ h7.size := by rw [W7.size]; exact Z0
  replace hk := Nat.le_trans hk (Nat.le_of_eq W7.size.symm)
  refine Gs st7 ?_
  show Goes _ _ _ _ _ (T7.setTop (mkF m 26 #[.val (.ref a), .val (.ref x), .val (.int (0 : Int32)), .val (.int (0 : Int32)), .val .null, .unset] []))
  have T_a : StrOf Z h7 a [] := StrOf.latin A_a F_value_a F_coder_a V_cb2 (by simp) rfl rfl (Nat.le_of_ble_eq_true rfl)
  refine Goes.retH X7 hS e7 hk hZ (own_EW hw) hh hR none (fun _ => rfl) hlk (by decide) (by decide) ?_ (fun fs hr => ?_)
  · rw [e7]; exact ⟨rfl, N7, KP, T_a⟩
  · exact X7.returnOut hx hret (hb hby d11_26) hr
theorem d12_0 : decode jdk_42_method_3_code 0 = .ok (.aload_n 0, 1) := by decide +kernel
theorem d12_1 : decode jdk_42_method_3_code 1 = .ok (.aload_n 1, 1) := by decide +kernel
theorem d12_2 : decode jdk_42_method_3_code 2 = .ok (.iconst 0, 1) := by decide +kernel
theorem d12_3 : decode jdk_42_method_3_code 3 = .ok (.aload_n 1, 1) := by decide +kernel
theorem d12_4 : decode jdk_42_method_3_code 4 = .ok (.arraylength, 1) := by decide +kernel
theorem d12_5 : decode jdk_42_method_3_code 5 = .ok (.aconst_null, 1) := by decide +kernel
theorem d12_6 : decode jdk_42_method_3_code 6 = .ok (.invokespecial 27, 3) := by decide +kernel
theorem own_pd7 : parseMethodDescriptor "([CIILjava/lang/Void;)V" = some ⟨[(.array .char), .int, .int, (.object "java/lang/Void")], none⟩ := by decide +kernel
theorem d12_9 : decode jdk_42_method_3_code 9 = .ok (.return_, 1) := by decide +kernel
theorem own_ef_rs_i1_0 (m : MethodId) (x0 : Addr) (x1 : Addr) : entryFrame m #[(.ref x0), (.ref x1)] 2 = mkF m 0 #[.val (.ref x0), .val (.ref x1)] [] := by first | (simp [entryFrame, mkF, argsToLocals, Value.category]; done) | rfl
def Q_rs_i1_0 (Z : State) (a : Addr) (x : Addr) (kx : ClassId) (h0 : Heap) (n0 : Nat) (v : Option Value) (h : Heap) (L : List Loc) : Prop := v = none ∧ Fr n0 L ∧ Keep h0 h [a] ∧ StrOf Z h a []
set_option maxRecDepth 65536 in
set_option maxHeartbeats 40000000 in
theorem rs_i1_0 (l : Launch) (Z : State) (a0 : Array Value) (hw : ∀ d ∈ tables_1, d.before a0 Z = true) (ws : List Jvm.Cond) (a : Addr) (x : Addr) (kx : ClassId) (h0 : Heap) (n0 : Nat) (Z0 : n0 ≤ h0.size) (A_a : Exa Z h0 a "java/lang/String") (F_value_a : Fld Z h0 a "java/lang/String" "value" "[B" .null) (F_coder_a : Fld Z h0 a "java/lang/String" "coder" "B" (.int (0 : Int32))) (V_x : Arv Z h0 x kx .char (0 : Int32) [] (.int (0 : Int32))) (g_a : n0 ≤ a) (ne_x_a : x ≠ a) :
    MetH l Z mN12 jdk_42_method_3_code 2 none ({ frames := 2, cells := 4, slots := 8, locals := 29 } : Room) ws #[(.ref a), (.ref x)] h0 (Q_rs_i1_0 Z a x kx h0 n0) := by
  refine own_metH (plainFor_of_name own_pn0) ?_
  intro p e s m below meth c s₁ hret hx hby hlk hml hown hnm X0 e0 hZ hh hC0
  have N0 := Fr.nil n0
  have hS : s.Since s.vm h0.size := (State.WarmedH.refl s).since _
  have hk : h0.size ≤ h0.size := Nat.le_refl _
  replace hZ : Z.Warmed39 (s.setVm s.vm).vm := hZ
  have hR : CHr Z consts_1 s.vm h0 s.vm h0 := CHr.refl hC0
  refine Gs (fun _ tk => castTop (own_ef_rs_i1_0 m a x) tk) ?_
  have KP : Keep h0 h0 [a] := Keep.refl _ _
  show Goes _ _ _ _ _ (s₁.setTop (mkF m 0 #[.val (.ref a), .val (.ref x)] []))
  refine Gs (fun _ tk => XS.aloadN X0.here hx rfl (hb hby d12_0) rfl rfl tk) ?_
  refine Gs (fun _ tk => XS.aloadN X0.here hx rfl (hb hby d12_1) rfl rfl tk) ?_
  refine Gs (fun _ tk => XS.iconst X0.here hx rfl (hb hby d12_2) tk) ?_
  refine Gs (fun _ tk => XS.aloadN X0.here hx rfl (hb hby d12_3) rfl rfl tk) ?_
  obtain ⟨cl1, Ar1, -, S1, N1z, -, -⟩ := id V_x
  refine Gs (fun _ tk => X0.arraylength hx (by rw [e0]; exact Ar1.1) (State.isArrayOf_alike hZ.alike Ar1.2.1) (g := (mkF m 4 #[.val (.ref a), .val (.ref x)] [(.ref x), (.int (0 : Int32)), (.ref x), (.ref a)])) rfl rfl (hb hby d12_4) _ tk) ?_
  rw [len_of S1 N1z]
  show Goes _ _ _ _ _ (s₁.setTop (mkF m 5 #[.val (.ref a), .val (.ref x)] [(.int (0 : Int32)), (.int (0 : Int32)), (.ref x), (.ref a)]))
  refine Gs (fun _ tk => XS.aconstNull X0.here hx rfl (hb hby d12_5) tk) ?_
  obtain ⟨_, _, ⟨T2, L2, k2, n2⟩, -, X2, hS2, gr2, ⟨Lc2, hQ2, l2, y2, z2, hC2⟩, st2⟩ := X0.specialBackS hx (y := mN11) rfl hown (mvT hZ (gw hw 12 rfl)) (mvT hZ (gw hw 13 rfl)) (mvT hZ (gw hw 15 rfl)) (by decide) (backOfSH (W := 0) (rs_i4_0 l Z a0 hw [] a x kx h0 n0 Z0 A_a F_value_a F_coder_a V_x g_a ne_x_a) hZ (gw hw 15 rfl) (gw hw 7 rfl) (by decide) (by decide) (own_EW hw) hR.1) (g := (mkF m 6 #[.val (.ref a), .val (.ref x)] [.null, (.int (0 : Int32)), (.int (0 : Int32)), (.ref x), (.ref a)])) rfl (by rw [hml]; rfl) (Steps.refl _) (a := a) (argsL := [(.ref x), (.int (0 : Int32)), (.int (0 : Int32)), .null]) (rest := []) (lenOf own_pd7 rfl) rfl (w0 (Nat.le_of_eq rfl)) (hb hby d12_6) (fun _ _ => ⟨rfl, e0, (by decide : 0 + 4 ≤ _), (by decide : 0 + 8 ≤ _)⟩)
  dsimp only [Pt.U, Pt.locs, Pt.cells, Pt.slots] at X2 l2 y2 z2 st2 hQ2 hS2 gr2 hC2
  subst l2 y2 z2
  obtain ⟨X2, hS, hZ, hown⟩ := rebS hS hk X2 hS2 (by have q := gr2; rw [e0] at q; exact q) hZ hown
  replace hk : T2.heap.size ≤ T2.heap.size := Nat.le_refl _
  obtain ⟨rfl, N2q, K2, T_a_2'⟩ := hQ2
  have N2 := Fr.app N0 N2q
  replace hR := hR.trans hC2
  replace KP := KP.trans K2 (allS (Or.inl (List.mem_of_getElem? (i := 0) rfl)) all0)
  replace Z0 := Nat.le_trans Z0 K2.1
  have T_a := T_a_2'
  refine Gs (fun _ tk => st2.trans tk) ?_
  show Goes _ _ _ _ _ (T2.setTop (mkF m 9 #[.val (.ref a), .val (.ref x)] []))
  refine Goes.retH X2 hS rfl hk hZ (own_EW hw) hh hR none (fun _ => rfl) hlk (by decide) (by decide) ?_ (fun fs hr => ?_)
  · exact ⟨rfl, N2, KP, T_a⟩
  · exact X2.returnOut hx hret (hb hby d12_9) hr
theorem d13_0 : decode jdk_52_method_4_code 0 = .ok (.getstatic 44, 3) := by decide +kernel
theorem d13_3 : decode jdk_52_method_4_code 3 = .ok (.ifCond .ne 25, 3) := by decide +kernel
theorem d13_28 : decode jdk_52_method_4_code 28 = .ok (.iload_n 1, 1) := by decide +kernel
theorem d13_29 : decode jdk_52_method_4_code 29 = .ok (.iconst 1, 1) := by decide +kernel
theorem d13_30 : decode jdk_52_method_4_code 30 = .ok (.ishl, 1) := by decide +kernel
theorem d13_31 : decode jdk_52_method_4_code 31 = .ok (.istore_n 1, 1) := by decide +kernel
theorem d13_32 : decode jdk_52_method_4_code 32 = .ok (.aload_n 0, 1) := by decide +kernel
theorem d13_33 : decode jdk_52_method_4_code 33 = .ok (.iload_n 1, 1) := by decide +kernel
theorem d13_34 : decode jdk_52_method_4_code 34 = .ok (.iinc 1 1, 3) := by decide +kernel
theorem d13_37 : decode jdk_52_method_4_code 37 = .ok (.iload_n 2, 1) := by decide +kernel
theorem d13_38 : decode jdk_52_method_4_code 38 = .ok (.getstatic 59, 3) := by decide +kernel
theorem d13_41 : decode jdk_52_method_4_code 41 = .ok (.ishr, 1) := by decide +kernel
theorem d13_42 : decode jdk_52_method_4_code 42 = .ok (.i2b, 1) := by decide +kernel
theorem d13_43 : decode jdk_52_method_4_code 43 = .ok (.bastore, 1) := by decide +kernel
theorem d13_44 : decode jdk_52_method_4_code 44 = .ok (.aload_n 0, 1) := by decide +kernel
theorem d13_45 : decode jdk_52_method_4_code 45 = .ok (.iload_n 1, 1) := by decide +kernel
theorem d13_46 : decode jdk_52_method_4_code 46 = .ok (.iload_n 2, 1) := by decide +kernel
theorem d13_47 : decode jdk_52_method_4_code 47 = .ok (.getstatic 63, 3) := by decide +kernel
theorem d13_50 : decode jdk_52_method_4_code 50 = .ok (.ishr, 1) := by decide +kernel
theorem d13_51 : decode jdk_52_method_4_code 51 = .ok (.i2b, 1) := by decide +kernel
theorem d13_52 : decode jdk_52_method_4_code 52 = .ok (.bastore, 1) := by decide +kernel
theorem d13_53 : decode jdk_52_method_4_code 53 = .ok (.return_, 1) := by decide +kernel
theorem own_ef_rs_pc_1_0 (m : MethodId) (x0 : Addr) (x2 : Int32) : entryFrame m #[(.ref x0), (.int (0 : Int32)), (.int x2)] 3 = mkF m 0 #[.val (.ref x0), .val (.int (0 : Int32)), .val (.int x2)] [] := by first | (simp [entryFrame, mkF, argsToLocals, Value.category]; done) | rfl
def Q_rs_pc_1_0 (Z : State) (y : Addr) (ky : ClassId) (c0 : Int32) (h0 : Heap) (n0 : Nat) (v : Option Value) (h : Heap) (L : List Loc) : Prop := v = none ∧ Fr n0 L ∧ Keep h0 h [y] ∧ Arv Z h y ky .byte (2 : Int32) [(.int (lo8 c0)), (.int (hi8 c0))] (.int (0 : Int32))
set_option maxRecDepth 65536 in
set_option maxHeartbeats 40000000 in
theorem rs_pc_1_0 (l : Launch) (Z : State) (a0 : Array Value) (hw : ∀ d ∈ tables_1, d.before a0 Z = true) (ws : List Jvm.Cond) (y : Addr) (ky : ClassId) (c0 : Int32) (h0 : Heap) (n0 : Nat) (Z0 : n0 ≤ h0.size) (V_y : Arv Z h0 y ky .byte (2 : Int32) [(.int (0 : Int32)), (.int (0 : Int32))] (.int (0 : Int32))) (g_y : n0 ≤ y) (S__assertionsDisabled : Sta Z h0 "java/lang/StringUTF16" "$assertionsDisabled" "Z" (.int (1 : Int32))) (S_HI_BYTE_SHIFT : Sta Z h0 "java/lang/StringUTF16" "HI_BYTE_SHIFT" "I" (.int (0 : Int32))) (S_LO_BYTE_SHIFT : Sta Z h0 "java/lang/StringUTF16" "LO_BYTE_SHIFT" "I" (.int (8 : Int32))) :
    Met l Z mN13 jdk_52_method_4_code 3 none ({ frames := 0, cells := 0, slots := 0, locals := 0 } : Room) ws #[(.ref y), (.int (0 : Int32)), (.int c0)] h0 (Q_rs_pc_1_0 Z y ky c0 h0 n0) := by
  refine own_met (plainFor_of_name own_pn3) ?_
  intro p e s m below meth c s₁ hret hx hby hlk hml hown hnm X0 e0 hZ hh
  have N0 := Fr.nil n0
  refine Gs (fun _ tk => castTop (own_ef_rs_pc_1_0 m y c0) tk) ?_
  have KP : Keep h0 h0 [y] := Keep.refl _ _
  show Goes _ _ _ _ _ (s₁.setTop (mkF m 0 #[.val (.ref y), .val (.int (0 : Int32)), .val (.int c0)] []))
  obtain ⟨T1, X1, e1, st1⟩ := getS2 X0 hx hZ hown (host := "") (Or.inl (gw hw 82 rfl)) Via.refl e0 S__assertionsDisabled (g := (mkF m 0 #[.val (.ref y), .val (.int (0 : Int32)), .val (.int c0)] [])) rfl (hb hby d13_0)
  refine Gs st1 ?_
  show Goes _ _ _ _ _ (T1.setTop (mkF m 3 #[.val (.ref y), .val (.int (0 : Int32)), .val (.int c0)] [(.int (1 : Int32))]))
  refine Gs (fun _ tk => XS.ifYes X1.here hx rfl (pc0 := 3) (pc' := 28) rfl (hb hby d13_3) rfl ((if0 _ _).trans (feq (by decide : ¬ ((1 : Int32) = (0 : Int32)))).2) (by decide) (by decide) tk) ?_
  refine Gs (fun _ tk => XS.iloadN X1.here hx rfl (hb hby d13_28) rfl tk) ?_
  refine Gs (fun _ tk => XS.iconst X1.here hx rfl (hb hby d13_29) tk) ?_
  show Goes _ _ _ _ _ (T1.setTop (mkF m 30 #[.val (.ref y), .val (.int (0 : Int32)), .val (.int c0)] [(.int (1 : Int32)), (.int (0 : Int32))]))
  refine Gs (fun _ tk => XS.ishl X1.here hx rfl (hb hby d13_30) rfl tk) ?_
  rw [show ((0 : Int32) <<< ((1 : Int32) &&& 31)) = (0 : Int32) from by decide]
  show Goes _ _ _ _ _ (T1.setTop (mkF m 31 #[.val (.ref y), .val (.int (0 : Int32)), .val (.int c0)] [(.int (0 : Int32))]))
  refine Gs (fun _ tk => XS.istoreN X1.here hx rfl (hb hby d13_31) rfl (l' := #[.val (.ref y), .val (.int (0 : Int32)), .val (.int c0)]) rfl tk) ?_
  refine Gs (fun _ tk => XS.aloadN X1.here hx rfl (hb hby d13_32) rfl rfl tk) ?_
  refine Gs (fun _ tk => XS.iloadN X1.here hx rfl (hb hby d13_33) rfl tk) ?_
  show Goes _ _ _ _ _ (T1.setTop (mkF m 34 #[.val (.ref y), .val (.int (0 : Int32)), .val (.int c0)] [(.int (0 : Int32)), (.ref y)]))
  refine Gs (fun _ tk => XS.iinc X1.here hx rfl (hb hby d13_34) rfl (l' := #[.val (.ref y), .val (.int ((0 : Int32) + (1 : Int32))), .val (.int c0)]) rfl tk) ?_
  rw [show ((0 : Int32) + (1 : Int32)) = (1 : Int32) from by decide]
  show Goes _ _ _ _ _ (T1.setTop (mkF m 37 #[.val (.ref y), .val (.int (1 : Int32)), .val (.int c0)] [(.int (0 : Int32)), (.ref y)]))
  refine Gs (fun _ tk => XS.iloadN X1.here hx rfl (hb hby d13_37) rfl tk) ?_
  obtain ⟨T2, X2, e2, st2⟩ := getS2 X1 hx hZ hown (host := "") (Or.inl (gw hw 83 rfl)) Via.refl e1 S_HI_BYTE_SHIFT (g := (mkF m 38 #[.val (.ref y), .val (.int (1 : Int32)), .val (.int c0)] [(.int c0), (.int (0 : Int32)), (.ref y)])) rfl (hb hby d13_38)
  refine Gs st2 ?_
  show Goes _ _ _ _ _ (T2.setTop (mkF m 41 #[.val (.ref y), .val (.int (1 : Int32)), .val (.int c0)] [(.int (0 : Int32)), (.int c0), (.int (0 : Int32)), (.ref y)]))
  refine Gs (fun _ tk => XS.ishr X2.here hx rfl (hb hby d13_41) rfl tk) ?_
  show Goes _ _ _ _ _ (T2.setTop (mkF m 42 #[.val (.ref y), .val (.int (1 : Int32)), .val (.int c0)] [(.int (c0 >>> ((0 : Int32) &&& 31))), (.int (0 : Int32)), (.ref y)]))
  rw [own_shr0]
  show Goes _ _ _ _ _ (T2.setTop (mkF m 42 #[.val (.ref y), .val (.int (1 : Int32)), .val (.int c0)] [(.int c0), (.int (0 : Int32)), (.ref y)]))
  refine Gs (fun _ tk => XS.i2b X2.here hx rfl (hb hby d13_42) rfl tk) ?_
  show Goes _ _ _ _ _ (T2.setTop (mkF m 43 #[.val (.ref y), .val (.int (1 : Int32)), .val (.int c0)] [(.int (c0.toInt8.toInt32)), (.int (0 : Int32)), (.ref y)]))
  obtain ⟨cl3, Ar3, q3, S3, N3z, H3, G3⟩ := V_y
  have hin3 : ¬ ((0 : Int32) < 0 ∨ cl3.slots.size ≤ ((0 : Int32)).toNatClampNeg) := inb_of S3 ⟨by decide, by decide⟩
  obtain ⟨T3, h3, X3, e3, W3, st3⟩ := stB X2 hx hZ e2 Ar3 (j := (0 : Int32)) hin3 (g := (mkF m 43 #[.val (.ref y), .val (.int (1 : Int32)), .val (.int c0)] [(.int (c0.toInt8.toInt32)), (.int (0 : Int32)), (.ref y)])) rfl rfl (hb hby d13_43)
  have Vn3 := Arv.set Ar3 q3 S3 N3z H3 G3 (fits_nar_byte _) W3 0 rfl (Nat.le_of_ble_eq_true rfl)
  have N3 := Fr.snoc X3 N0 g_y
  replace S_LO_BYTE_SHIFT := S_LO_BYTE_SHIFT.wr W3
  replace KP := KP.wr W3 (Or.inl (List.mem_of_getElem? (i := 0) rfl))
  have V_y : Arv Z h3 y ky .byte (2 : Int32) [(.int (lo8 c0)), (.int (0 : Int32))] (.int (0 : Int32)) := by have q := Vn3; rw [own_nb2] at q; exact q
  replace Z0 : n0 ≤ h3.size := by rw [W3.size]; exact Z0
  refine Gs st3 ?_
  show Goes _ _ _ _ _ (T3.setTop (mkF m 44 #[.val (.ref y), .val (.int (1 : Int32)), .val (.int c0)] []))
  refine Gs (fun _ tk => XS.aloadN X3.here hx rfl (hb hby d13_44) rfl rfl tk) ?_
  refine Gs (fun _ tk => XS.iloadN X3.here hx rfl (hb hby d13_45) rfl tk) ?_
  refine Gs (fun _ tk => XS.iloadN X3.here hx rfl (hb hby d13_46) rfl tk) ?_
  obtain ⟨T4, X4, e4, st4⟩ := getS2 X3 hx hZ hown (host := "") (Or.inl (gw hw 84 rfl)) Via.refl e3 S_LO_BYTE_SHIFT (g := (mkF m 47 #[.val (.ref y), .val (.int (1 : Int32)), .val (.int c0)] [(.int c0), (.int (1 : Int32)), (.ref y)])) rfl (hb hby d13_47)
  refine Gs st4 ?_
  show Goes _ _ _ _ _ (T4.setTop (mkF m 50 #[.val (.ref y), .val (.int (1 : Int32)), .val (.int c0)] [(.int (8 : Int32)), (.int c0), (.int (1 : Int32)), (.ref y)]))
  refine Gs (fun _ tk => XS.ishr X4.here hx rfl (hb hby d13_50) rfl tk) ?_
  show Goes _ _ _ _ _ (T4.setTop (mkF m 51 #[.val (.ref y), .val (.int (1 : Int32)), .val (.int c0)] [(.int (c0 >>> ((8 : Int32) &&& 31))), (.int (1 : Int32)), (.ref y)]))
  refine Gs (fun _ tk => XS.i2b X4.here hx rfl (hb hby d13_51) rfl tk) ?_
  show Goes _ _ _ _ _ (T4.setTop (mkF m 52 #[.val (.ref y), .val (.int (1 : Int32)), .val (.int c0)] [(.int ((c0 >>> ((8 : Int32) &&& 31)).toInt8.toInt32)), (.int (1 : Int32)), (.ref y)]))
  obtain ⟨cl5, Ar5, q5, S5, N5z, H5, G5⟩ := V_y
  have hin5 : ¬ ((1 : Int32) < 0 ∨ cl5.slots.size ≤ ((1 : Int32)).toNatClampNeg) := inb_of S5 ⟨by decide, by decide⟩
  obtain ⟨T5, h5, X5, e5, W5, st5⟩ := stB X4 hx hZ e4 Ar5 (j := (1 : Int32)) hin5 (g := (mkF m 52 #[.val (.ref y), .val (.int (1 : Int32)), .val (.int c0)] [(.int ((c0 >>> ((8 : Int32) &&& 31)).toInt8.toInt32)), (.int (1 : Int32)), (.ref y)])) rfl rfl (hb hby d13_52)
  have Vn5 := Arv.set Ar5 q5 S5 N5z H5 G5 (fits_nar_byte _) W5 1 rfl (Nat.le_of_ble_eq_true rfl)
  have N5 := Fr.snoc X5 N3 g_y
  replace KP := KP.wr W5 (Or.inl (List.mem_of_getElem? (i := 0) rfl))
  have V_y : Arv Z h5 y ky .byte (2 : Int32) [(.int (lo8 c0)), (.int (hi8 c0))] (.int (0 : Int32)) := by have q := Vn5; rw [own_nbh2] at q; exact q
  replace Z0 : n0 ≤ h5.size := by rw [W5.size]; exact Z0
  refine Gs st5 ?_
  show Goes _ _ _ _ _ (T5.setTop (mkF m 53 #[.val (.ref y), .val (.int (1 : Int32)), .val (.int c0)] []))
  refine Goes.ret X5 none (fun _ => rfl) hlk (by decide) (by decide) ?_ (fun fs hr => ?_)
  · rw [e5]; exact ⟨rfl, N5, KP, V_y⟩
  · exact X5.returnOut hx hret (hb hby d13_53) hr
theorem d14_0 : decode jdk_52_method_3_code 0 = .ok (.iload_n 0, 1) := by decide +kernel
theorem d14_1 : decode jdk_52_method_3_code 1 = .ok (.ifCond .ge 11, 3) := by decide +kernel
theorem d14_12 : decode jdk_52_method_3_code 12 = .ok (.iload_n 0, 1) := by decide +kernel
theorem d14_13 : decode jdk_52_method_3_code 13 = .ok (.ldc 20, 2) := by decide +kernel
theorem d14_15 : decode jdk_52_method_3_code 15 = .ok (.if_icmp .lt 40, 3) := by decide +kernel
theorem d14_55 : decode jdk_52_method_3_code 55 = .ok (.iload_n 0, 1) := by decide +kernel
theorem d14_56 : decode jdk_52_method_3_code 56 = .ok (.iconst 1, 1) := by decide +kernel
theorem d14_57 : decode jdk_52_method_3_code 57 = .ok (.ishl, 1) := by decide +kernel
theorem d14_58 : decode jdk_52_method_3_code 58 = .ok (.ireturn, 1) := by decide +kernel
theorem own_ef_rs_nbl_1 (m : MethodId)  : entryFrame m #[(.int (1 : Int32))] 1 = mkF m 0 #[.val (.int (1 : Int32))] [] := by first | (simp [entryFrame, mkF, argsToLocals, Value.category]; done) | rfl
def Q_rs_nbl_1 (Z : State)  (h0 : Heap) (n0 : Nat) (v : Option Value) (h : Heap) (L : List Loc) : Prop := v = some (.int (2 : Int32)) ∧ Fr n0 L ∧ h = h0
set_option maxRecDepth 65536 in
set_option maxHeartbeats 40000000 in
theorem rs_nbl_1 (l : Launch) (Z : State) (a0 : Array Value) (hw : ∀ d ∈ tables_1, d.before a0 Z = true) (ws : List Jvm.Cond)  (h0 : Heap) (n0 : Nat) (Z0 : n0 ≤ h0.size) :
    Met l Z mN14 jdk_52_method_3_code 1 (some .int) ({ frames := 0, cells := 0, slots := 0, locals := 0 } : Room) ws #[(.int (1 : Int32))] h0 (Q_rs_nbl_1 Z  h0 n0) := by
  refine own_met (plainFor_of_name own_pn3) ?_
  intro p e s m below meth c s₁ hret hx hby hlk hml hown hnm X0 e0 hZ hh
  have N0 := Fr.nil n0
  refine Gs (fun _ tk => castTop (own_ef_rs_nbl_1 m ) tk) ?_
  show Goes _ _ _ _ _ (s₁.setTop (mkF m 0 #[.val (.int (1 : Int32))] []))
  refine Gs (fun _ tk => XS.iloadN X0.here hx rfl (hb hby d14_0) rfl tk) ?_
  refine Gs (fun _ tk => XS.ifYes X0.here hx rfl (pc0 := 1) (pc' := 12) rfl (hb hby d14_1) rfl ((if0 _ _).trans (flt (by decide : ¬ ((1 : Int32) < (0 : Int32)))).2.1) (by decide) (by decide) tk) ?_
  refine Gs (fun _ tk => XS.iloadN X0.here hx rfl (hb hby d14_12) rfl tk) ?_
  refine Gs (fun _ tk => Jvm.Stand.ldcI X0 hx hown (mvT hZ (gw hw 78 rfl)) rfl (hb hby d14_13) tk) ?_
  show Goes _ _ _ _ _ (s₁.setTop (mkF m 15 #[.val (.int (1 : Int32))] [(.int (1073741823 : Int32)), (.int (1 : Int32))]))
  refine Gs (fun _ tk => XS.icmpYes X0.here hx rfl (pc0 := 15) (pc' := 55) rfl (hb hby d14_15) rfl (tlt (by decide : ((1 : Int32) < (1073741823 : Int32)))).1 (by decide) (by decide) tk) ?_
  refine Gs (fun _ tk => XS.iloadN X0.here hx rfl (hb hby d14_55) rfl tk) ?_
  refine Gs (fun _ tk => XS.iconst X0.here hx rfl (hb hby d14_56) tk) ?_
  show Goes _ _ _ _ _ (s₁.setTop (mkF m 57 #[.val (.int (1 : Int32))] [(.int (1 : Int32)), (.int (1 : Int32))]))
  refine Gs (fun _ tk => XS.ishl X0.here hx rfl (hb hby d14_57) rfl tk) ?_
  rw [show ((1 : Int32) <<< ((1 : Int32) &&& 31)) = (2 : Int32) from by decide]
  show Goes _ _ _ _ _ (s₁.setTop (mkF m 58 #[.val (.int (1 : Int32))] [(.int (2 : Int32))]))
  refine Goes.ret X0 (some (.int (2 : Int32))) (fun h => by rw [hret] at h; cases h) hlk (by decide) (by decide) ?_ (fun fs hr => ?_)
  · exact ⟨rfl, N0, e0⟩
  · exact retI X0 hx hret (hb hby d14_58) hr
theorem d15_0 : decode jdk_52_method_2_code 0 = .ok (.iload_n 0, 1) := by decide +kernel
theorem d15_1 : decode jdk_52_method_2_code 1 = .ok (.invokestatic 11, 3) := by decide +kernel
theorem own_pd8 : parseMethodDescriptor "(I)I" = some ⟨[.int], some .int⟩ := by decide +kernel
theorem d15_4 : decode jdk_52_method_2_code 4 = .ok (.newarray .byte, 2) := by decide +kernel
theorem d15_6 : decode jdk_52_method_2_code 6 = .ok (.areturn, 1) := by decide +kernel
theorem own_ef_rs_nbf_1 (m : MethodId)  : entryFrame m #[(.int (1 : Int32))] 1 = mkF m 0 #[.val (.int (1 : Int32))] [] := by first | (simp [entryFrame, mkF, argsToLocals, Value.category]; done) | rfl
def Q_rs_nbf_1 (Z : State)  (h0 : Heap) (n0 : Nat) (v : Option Value) (h : Heap) (L : List Loc) : Prop := ∃ y : Addr, ∃ ky : ClassId, v = some (.ref y) ∧ Fr n0 L ∧ Keep h0 h [] ∧ Arv Z h y ky .byte (2 : Int32) [(.int (0 : Int32)), (.int (0 : Int32))] (.int (0 : Int32)) ∧ n0 ≤ y ∧ h0.size ≤ y
set_option maxRecDepth 65536 in
set_option maxHeartbeats 40000000 in
theorem rs_nbf_1 (l : Launch) (Z : State) (a0 : Array Value) (hw : ∀ d ∈ tables_1, d.before a0 Z = true) (ws : List Jvm.Cond)  (h0 : Heap) (n0 : Nat) (Z0 : n0 ≤ h0.size) :
    Met l Z mN15 jdk_52_method_2_code 1 (some (.array .byte)) ({ frames := 1, cells := 1, slots := 2, locals := 12 } : Room) ws #[(.int (1 : Int32))] h0 (Q_rs_nbf_1 Z  h0 n0) := by
  refine own_met (plainFor_of_name own_pn3) ?_
  intro p e s m below meth c s₁ hret hx hby hlk hml hown hnm X0 e0 hZ hh
  have N0 := Fr.nil n0
  refine Gs (fun _ tk => castTop (own_ef_rs_nbf_1 m ) tk) ?_
  have KP : Keep h0 h0 [] := Keep.refl _ _
  show Goes _ _ _ _ _ (s₁.setTop (mkF m 0 #[.val (.int (1 : Int32))] []))
  refine Gs (fun _ tk => XS.iloadN X0.here hx rfl (hb hby d15_0) rfl tk) ?_
  obtain ⟨_, _, ⟨T1, L1, k1, n1⟩, -, X1, ⟨Lc1, hQ1, l1, y1, z1⟩, st1⟩ := Jvm.LawKit.callS X0 hx (y := mN14) hown (mvT hZ (gw hw 75 rfl)) (mvT hZ (gw hw 76 rfl)) (mvT hZ (gw hw 47 rfl)) (mvT hZ (gw hw 77 rfl)) (by decide) (backOf (W := 0) (rs_nbl_1 l Z a0 hw []  h0 n0 Z0) hZ (gw hw 77 rfl) (gw hw 47 rfl) (by decide) (by decide)) (g := (mkF m 1 #[.val (.int (1 : Int32))] [(.int (1 : Int32))])) rfl (by rw [hml]; rfl) (argsL := [(.int (1 : Int32))]) (rest := []) (lenOf own_pd8 rfl) rfl (w0 (Nat.le_of_eq rfl)) (hb hby d15_1) (fun _ _ => ⟨rfl, e0, (by decide : 0 + 0 ≤ _), (by decide : 0 + 0 ≤ _)⟩)
  dsimp only [Pt.U, Pt.locs, Pt.cells, Pt.slots] at X1 l1 y1 z1 st1 hQ1
  subst l1 y1 z1
  obtain ⟨rfl, N1q, e1⟩ := hQ1
  have N1 := Fr.app N0 N1q
  refine Gs st1 ?_
  show Goes _ _ _ _ _ (T1.setTop (mkF m 4 #[.val (.int (1 : Int32))] [(.int (2 : Int32))]))
  obtain ⟨T2, h2, k2, X2, e2, E2, A2, st2⟩ := newP X1 hx hZ (gw hw 20 rfl) e1 (g := (mkF m 4 #[.val (.int (1 : Int32))] [(.int (2 : Int32))])) rfl (hb hby d15_4) rfl (by decide) (cap := 2) (by decide) (by decide) (by decide) (by decide)
  obtain ⟨b2, gq2⟩ : ∃ z, z = h0.size := ⟨_, rfl⟩
  rw [← gq2] at A2 st2
  have g_b2 : n0 ≤ b2 := by rw [gq2]; exact Z0
  have sz_b2 : h0.size ≤ b2 := by rw [gq2]; exact KP.1
  replace KP := KP.ext E2
  replace Z0 : n0 ≤ h2.size := Nat.le_trans Z0 E2.1
  have V_b2 : Arv Z h2 b2 k2 .byte (2 : Int32) [(.int (0 : Int32)), (.int (0 : Int32))] (.int (0 : Int32)) := (Arv.new A2 (by decide)).pad (pad_rep [] (.int (0 : Int32)) 2)
  refine Gs st2 ?_
  show Goes _ _ _ _ _ (T2.setTop (mkF m 6 #[.val (.int (1 : Int32))] [(.ref b2)]))
  refine Goes.ret X2 (some (.ref b2)) (fun h => by rw [hret] at h; cases h) hlk (by decide) (by decide) ?_ (fun fs hr => ?_)
  · rw [e2]; exact ⟨b2, k2, rfl, N1, KP, V_b2, g_b2, sz_b2⟩
  · exact own_retA X2 hx hret rfl rfl (hb hby d15_6) hr
theorem d16_0 : decode jdk_52_method_14_code 0 = .ok (.iload_n 2, 1) := by decide +kernel
theorem d16_1 : decode jdk_52_method_14_code 1 = .ok (.invokestatic 107, 3) := by decide +kernel
theorem own_pd9 : parseMethodDescriptor "(I)[B" = some ⟨[.int], some (.array .byte)⟩ := by decide +kernel
theorem d16_4 : decode jdk_52_method_14_code 4 = .ok (.astore_n 3, 1) := by decide +kernel
theorem d16_5 : decode jdk_52_method_14_code 5 = .ok (.iconst 0, 1) := by decide +kernel
theorem d16_6 : decode jdk_52_method_14_code 6 = .ok (.istore 4, 2) := by decide +kernel
theorem d16_8 : decode jdk_52_method_14_code 8 = .ok (.iload 4, 2) := by decide +kernel
theorem d16_10 : decode jdk_52_method_14_code 10 = .ok (.iload_n 2, 1) := by decide +kernel
theorem d16_11 : decode jdk_52_method_14_code 11 = .ok (.if_icmp .ge 21, 3) := by decide +kernel
theorem d16_14 : decode jdk_52_method_14_code 14 = .ok (.aload_n 3, 1) := by decide +kernel
theorem d16_15 : decode jdk_52_method_14_code 15 = .ok (.iload 4, 2) := by decide +kernel
theorem d16_17 : decode jdk_52_method_14_code 17 = .ok (.aload_n 0, 1) := by decide +kernel
theorem d16_18 : decode jdk_52_method_14_code 18 = .ok (.iload_n 1, 1) := by decide +kernel
theorem d16_19 : decode jdk_52_method_14_code 19 = .ok (.caload, 1) := by decide +kernel
theorem d16_20 : decode jdk_52_method_14_code 20 = .ok (.invokestatic 111, 3) := by decide +kernel
theorem own_pd10 : parseMethodDescriptor "([BII)V" = some ⟨[(.array .byte), .int, .int], none⟩ := by decide +kernel
theorem d16_23 : decode jdk_52_method_14_code 23 = .ok (.iinc 1 1, 3) := by decide +kernel
theorem d16_26 : decode jdk_52_method_14_code 26 = .ok (.iinc 4 1, 3) := by decide +kernel
theorem d16_29 : decode jdk_52_method_14_code 29 = .ok (.goto (-21), 3) := by decide +kernel
theorem d16_32 : decode jdk_52_method_14_code 32 = .ok (.aload_n 3, 1) := by decide +kernel
theorem d16_33 : decode jdk_52_method_14_code 33 = .ok (.areturn, 1) := by decide +kernel
theorem own_ef_rs_tb_1 (m : MethodId) (x0 : Addr) : entryFrame m #[(.ref x0), (.int (0 : Int32)), (.int (1 : Int32))] 5 = mkF m 0 #[.val (.ref x0), .val (.int (0 : Int32)), .val (.int (1 : Int32)), .unset, .unset] [] := by first | (simp [entryFrame, mkF, argsToLocals, Value.category]; done) | rfl
def Q_rs_tb_1 (Z : State) (x : Addr) (kx : ClassId) (c0 : Int32) (h0 : Heap) (n0 : Nat) (v : Option Value) (h : Heap) (L : List Loc) : Prop := ∃ y : Addr, ∃ ky : ClassId, v = some (.ref y) ∧ Fr n0 L ∧ Keep h0 h [] ∧ Arv Z h y ky .byte (2 : Int32) [(.int (lo8 c0)), (.int (hi8 c0))] (.int (0 : Int32)) ∧ n0 ≤ y ∧ h0.size ≤ y
set_option maxRecDepth 65536 in
set_option maxHeartbeats 40000000 in
theorem rs_tb_1 (l : Launch) (Z : State) (a0 : Array Value) (hw : ∀ d ∈ tables_1, d.before a0 Z = true) (ws : List Jvm.Cond) (x : Addr) (kx : ClassId) (c0 : Int32) (h0 : Heap) (n0 : Nat) (Z0 : n0 ≤ h0.size) (V_x : Arv Z h0 x kx .char (1 : Int32) [(.int c0)] (.int (0 : Int32))) (S__assertionsDisabled : Sta Z h0 "java/lang/StringUTF16" "$assertionsDisabled" "Z" (.int (1 : Int32))) (S_HI_BYTE_SHIFT : Sta Z h0 "java/lang/StringUTF16" "HI_BYTE_SHIFT" "I" (.int (0 : Int32))) (S_LO_BYTE_SHIFT : Sta Z h0 "java/lang/StringUTF16" "LO_BYTE_SHIFT" "I" (.int (8 : Int32))) :
    Met l Z mN16 jdk_52_method_14_code 5 (some (.array .byte)) ({ frames := 2, cells := 1, slots := 2, locals := 24 } : Room) ws #[(.ref x), (.int (0 : Int32)), (.int (1 : Int32))] h0 (Q_rs_tb_1 Z x kx c0 h0 n0) := by
  refine own_met (plainFor_of_name own_pn3) ?_
  intro p e s m below meth c s₁ hret hx hby hlk hml hown hnm X0 e0 hZ hh
  have N0 := Fr.nil n0
  refine Gs (fun _ tk => castTop (own_ef_rs_tb_1 m x) tk) ?_
  have KP : Keep h0 h0 [] := Keep.refl _ _
  show Goes _ _ _ _ _ (s₁.setTop (mkF m 0 #[.val (.ref x), .val (.int (0 : Int32)), .val (.int (1 : Int32)), .unset, .unset] []))
  refine Gs (fun _ tk => XS.iloadN X0.here hx rfl (hb hby d16_0) rfl tk) ?_
  have szs1 : h0.size ≤ h0.size := KP.1
  obtain ⟨_, _, ⟨T1, L1, k1, n1⟩, -, X1, ⟨Lc1, hQ1, l1, y1, z1⟩, st1⟩ := Jvm.LawKit.callS X0 hx (y := mN15) hown (mvT hZ (gw hw 72 rfl)) (mvT hZ (gw hw 73 rfl)) (mvT hZ (gw hw 47 rfl)) (mvT hZ (gw hw 74 rfl)) (by decide) (backOf (W := 0) (rs_nbf_1 l Z a0 hw []  h0 n0 Z0) hZ (gw hw 74 rfl) (gw hw 47 rfl) (by decide) (by decide)) (g := (mkF m 1 #[.val (.ref x), .val (.int (0 : Int32)), .val (.int (1 : Int32)), .unset, .unset] [(.int (1 : Int32))])) rfl (by rw [hml]; rfl) (argsL := [(.int (1 : Int32))]) (rest := []) (lenOf own_pd9 rfl) rfl (w0 (Nat.le_of_eq rfl)) (hb hby d16_1) (fun _ _ => ⟨rfl, e0, (by decide : 0 + 1 ≤ _), (by decide : 0 + 2 ≤ _)⟩)
  dsimp only [Pt.U, Pt.locs, Pt.cells, Pt.slots] at X1 l1 y1 z1 st1 hQ1
  subst l1 y1 z1
  obtain ⟨y1, ky1, rfl, N1q, K1, V_y1_1', g_y1_1', sz_y1_1'⟩ := hQ1
  have N1 := Fr.app N0 N1q
  replace S__assertionsDisabled := own_staK S__assertionsDisabled K1 all0
  replace S_HI_BYTE_SHIFT := own_staK S_HI_BYTE_SHIFT K1 all0
  replace S_LO_BYTE_SHIFT := own_staK S_LO_BYTE_SHIFT K1 all0
  replace V_x := V_x.keep K1 nin0
  replace KP := KP.trans K1 all0
  replace Z0 := Nat.le_trans Z0 K1.1
  have V_y1 := V_y1_1'
  have g_y1 := g_y1_1'
  have szc_y1 := sz_y1_1'
  have sz_y1 : h0.size ≤ y1 := Nat.le_trans szs1 szc_y1
  refine Gs st1 ?_
  show Goes _ _ _ _ _ (T1.setTop (mkF m 4 #[.val (.ref x), .val (.int (0 : Int32)), .val (.int (1 : Int32)), .unset, .unset] [(.ref y1)]))
  refine Gs (fun _ tk => XS.astoreN X1.here hx rfl (hb hby d16_4) rfl rfl (l' := #[.val (.ref x), .val (.int (0 : Int32)), .val (.int (1 : Int32)), .val (.ref y1), .unset]) rfl tk) ?_
  refine Gs (fun _ tk => XS.iconst X1.here hx rfl (hb hby d16_5) tk) ?_
  refine Gs (fun _ tk => XS.istore X1.here hx rfl (hb hby d16_6) rfl (l' := #[.val (.ref x), .val (.int (0 : Int32)), .val (.int (1 : Int32)), .val (.ref y1), .val (.int (0 : Int32))]) rfl tk) ?_
  refine Gs (fun _ tk => XS.iload X1.here hx rfl (hb hby d16_8) rfl tk) ?_
  refine Gs (fun _ tk => XS.iloadN X1.here hx rfl (hb hby d16_10) rfl tk) ?_
  refine Gs (fun _ tk => XS.icmpNo X1.here hx rfl (hb hby d16_11) rfl (tlt (by decide : ((0 : Int32) < (1 : Int32)))).2.1 tk) ?_
  show Goes _ _ _ _ _ (T1.setTop (mkF m 14 #[.val (.ref x), .val (.int (0 : Int32)), .val (.int (1 : Int32)), .val (.ref y1), .val (.int (0 : Int32))] []))
  refine Gs (fun _ tk => XS.aloadN X1.here hx rfl (hb hby d16_14) rfl rfl tk) ?_
  refine Gs (fun _ tk => XS.iload X1.here hx rfl (hb hby d16_15) rfl tk) ?_
  refine Gs (fun _ tk => XS.aloadN X1.here hx rfl (hb hby d16_17) rfl rfl tk) ?_
  refine Gs (fun _ tk => XS.iloadN X1.here hx rfl (hb hby d16_18) rfl tk) ?_
  obtain ⟨cl2, Ar2, -, S2, N2z, H2, -⟩ := id V_x
  have hin2 : ¬ ((0 : Int32) < 0 ∨ cl2.slots.size ≤ ((0 : Int32)).toNatClampNeg) := inb_of S2 ⟨by decide, by decide⟩
  have hat2 : cl2.slots[((0 : Int32)).toNatClampNeg]? = some (.int c0) := Has.at H2 hin2 rfl
  refine Gs (fun _ tk => X1.caload hx (j := (0 : Int32)) (v := (.int c0)) Ar2.1 (State.isArrayOf_alike hZ.alike Ar2.2.1) Ar2.2.2 hin2 hat2 (g := (mkF m 19 #[.val (.ref x), .val (.int (0 : Int32)), .val (.int (1 : Int32)), .val (.ref y1), .val (.int (0 : Int32))] [(.int (0 : Int32)), (.ref x), (.int (0 : Int32)), (.ref y1)])) rfl rfl (hb hby d16_19) _ tk) ?_
  show Goes _ _ _ _ _ (T1.setTop (mkF m 20 #[.val (.ref x), .val (.int (0 : Int32)), .val (.int (1 : Int32)), .val (.ref y1), .val (.int (0 : Int32))] [(.int c0), (.int (0 : Int32)), (.ref y1)]))
  obtain ⟨_, _, ⟨T3, L3, k3, n3⟩, -, X3, ⟨Lc3, hQ3, l3, y3, z3⟩, st3⟩ := Jvm.LawKit.callS X1 hx (y := mN13) hown (mvT hZ (gw hw 79 rfl)) (mvT hZ (gw hw 80 rfl)) (mvT hZ (gw hw 47 rfl)) (mvT hZ (gw hw 81 rfl)) (by decide) (backOf (W := 0) (rs_pc_1_0 l Z a0 hw [] y1 ky1 c0 T1.heap n0 Z0 V_y1 g_y1 S__assertionsDisabled S_HI_BYTE_SHIFT S_LO_BYTE_SHIFT) hZ (gw hw 81 rfl) (gw hw 47 rfl) (by decide) (by decide)) (g := (mkF m 20 #[.val (.ref x), .val (.int (0 : Int32)), .val (.int (1 : Int32)), .val (.ref y1), .val (.int (0 : Int32))] [(.int c0), (.int (0 : Int32)), (.ref y1)])) rfl (by rw [hml]; rfl) (argsL := [(.ref y1), (.int (0 : Int32)), (.int c0)]) (rest := []) (lenOf own_pd10 rfl) rfl (w0 (Nat.le_of_eq rfl)) (hb hby d16_20) (fun _ _ => ⟨rfl, rfl, (by decide : 1 + 0 ≤ _), (by decide : 2 + 0 ≤ _)⟩)
  dsimp only [Pt.U, Pt.locs, Pt.cells, Pt.slots] at X3 l3 y3 z3 st3 hQ3
  subst l3 y3 z3
  obtain ⟨rfl, N3q, K3, V_y1_3'⟩ := hQ3
  have N3 := Fr.app N1 N3q
  replace KP := KP.trans K3 (allS (Or.inr sz_y1) all0)
  replace Z0 := Nat.le_trans Z0 K3.1
  have V_y1 := V_y1_3'
  refine Gs st3 ?_
  show Goes _ _ _ _ _ (T3.setTop (mkF m 23 #[.val (.ref x), .val (.int (0 : Int32)), .val (.int (1 : Int32)), .val (.ref y1), .val (.int (0 : Int32))] []))
  refine Gs (fun _ tk => XS.iinc X3.here hx rfl (hb hby d16_23) rfl (l' := #[.val (.ref x), .val (.int ((0 : Int32) + (1 : Int32))), .val (.int (1 : Int32)), .val (.ref y1), .val (.int (0 : Int32))]) rfl tk) ?_
  rw [show ((0 : Int32) + (1 : Int32)) = (1 : Int32) from by decide]
  show Goes _ _ _ _ _ (T3.setTop (mkF m 26 #[.val (.ref x), .val (.int (1 : Int32)), .val (.int (1 : Int32)), .val (.ref y1), .val (.int (0 : Int32))] []))
  refine Gs (fun _ tk => XS.iinc X3.here hx rfl (hb hby d16_26) rfl (l' := #[.val (.ref x), .val (.int (1 : Int32)), .val (.int (1 : Int32)), .val (.ref y1), .val (.int ((0 : Int32) + (1 : Int32)))]) rfl tk) ?_
  rw [show ((0 : Int32) + (1 : Int32)) = (1 : Int32) from by decide]
  show Goes _ _ _ _ _ (T3.setTop (mkF m 29 #[.val (.ref x), .val (.int (1 : Int32)), .val (.int (1 : Int32)), .val (.ref y1), .val (.int (1 : Int32))] []))
  refine Gs (fun _ tk => XS.goto X3.here hx rfl (pc0 := 29) (pc' := 8) rfl (hb hby d16_29) (by decide) (by decide) tk) ?_
  refine Gs (fun _ tk => XS.iload X3.here hx rfl (hb hby d16_8) rfl tk) ?_
  refine Gs (fun _ tk => XS.iloadN X3.here hx rfl (hb hby d16_10) rfl tk) ?_
  refine Gs (fun _ tk => XS.icmpYes X3.here hx rfl (pc0 := 11) (pc' := 32) rfl (hb hby d16_11) rfl (flt (by decide : ¬ ((1 : Int32) < (1 : Int32)))).2.1 (by decide) (by decide) tk) ?_
  refine Gs (fun _ tk => XS.aloadN X3.here hx rfl (hb hby d16_32) rfl rfl tk) ?_
  refine Goes.ret X3 (some (.ref y1)) (fun h => by rw [hret] at h; cases h) hlk (by decide) (by decide) ?_ (fun fs hr => ?_)
  · exact ⟨y1, ky1, rfl, N3, KP, V_y1, g_y1, sz_y1⟩
  · exact own_retA X3 hx hret rfl rfl (hb hby d16_33) hr
theorem d17_0 : decode jdk_52_method_21_code 0 = .ok (.iconst 0, 1) := by decide +kernel
theorem d17_1 : decode jdk_52_method_21_code 1 = .ok (.istore 5, 2) := by decide +kernel
theorem d17_3 : decode jdk_52_method_21_code 3 = .ok (.iload 5, 2) := by decide +kernel
theorem d17_5 : decode jdk_52_method_21_code 5 = .ok (.iload 4, 2) := by decide +kernel
theorem d17_7 : decode jdk_52_method_21_code 7 = .ok (.if_icmp .ge 37, 3) := by decide +kernel
theorem d17_10 : decode jdk_52_method_21_code 10 = .ok (.aload_n 0, 1) := by decide +kernel
theorem d17_11 : decode jdk_52_method_21_code 11 = .ok (.iload_n 1, 1) := by decide +kernel
theorem d17_12 : decode jdk_52_method_21_code 12 = .ok (.caload, 1) := by decide +kernel
theorem d17_13 : decode jdk_52_method_21_code 13 = .ok (.istore 6, 2) := by decide +kernel
theorem d17_15 : decode jdk_52_method_21_code 15 = .ok (.iload 6, 2) := by decide +kernel
theorem d17_17 : decode jdk_52_method_21_code 17 = .ok (.sipush 255, 3) := by decide +kernel
theorem d17_20 : decode jdk_52_method_21_code 20 = .ok (.if_icmp .le 6, 3) := by decide +kernel
theorem d17_23 : decode jdk_52_method_21_code 23 = .ok (.iload 5, 2) := by decide +kernel
theorem d17_25 : decode jdk_52_method_21_code 25 = .ok (.ireturn, 1) := by decide +kernel
theorem own_ef_rs_c5_1_0 (m : MethodId) (x0 : Addr) (x2 : Addr) : entryFrame m #[(.ref x0), (.int (0 : Int32)), (.ref x2), (.int (0 : Int32)), (.int (1 : Int32))] 7 = mkF m 0 #[.val (.ref x0), .val (.int (0 : Int32)), .val (.ref x2), .val (.int (0 : Int32)), .val (.int (1 : Int32)), .unset, .unset] [] := by first | (simp [entryFrame, mkF, argsToLocals, Value.category]; done) | rfl
def Q_rs_c5_1_0 (Z : State) (x : Addr) (kx : ClassId) (y : Addr) (ky : ClassId) (c0 : Int32) (h0 : Heap) (n0 : Nat) (v : Option Value) (h : Heap) (L : List Loc) : Prop := v = some (.int (0 : Int32)) ∧ Fr n0 L ∧ Keep h0 h [y] ∧ Arv Z h y ky .byte (1 : Int32) [(.int (0 : Int32))] (.int (0 : Int32))
set_option maxRecDepth 65536 in
set_option maxHeartbeats 40000000 in
theorem rs_c5_1_0 (l : Launch) (Z : State) (a0 : Array Value) (hw : ∀ d ∈ tables_1, d.before a0 Z = true) (ws : List Jvm.Cond) (x : Addr) (kx : ClassId) (y : Addr) (ky : ClassId) (c0 : Int32) (h0 : Heap) (n0 : Nat) (Z0 : n0 ≤ h0.size) (V_x : Arv Z h0 x kx .char (1 : Int32) [(.int c0)] (.int (0 : Int32))) (V_y : Arv Z h0 y ky .byte (1 : Int32) [(.int (0 : Int32))] (.int (0 : Int32))) (g_y : n0 ≤ y) (ne_x_y : x ≠ y) (hn_c0 : (255 : Int32) < c0) :
    Met l Z mN17 jdk_52_method_21_code 7 (some .int) ({ frames := 0, cells := 0, slots := 0, locals := 0 } : Room) ws #[(.ref x), (.int (0 : Int32)), (.ref y), (.int (0 : Int32)), (.int (1 : Int32))] h0 (Q_rs_c5_1_0 Z x kx y ky c0 h0 n0) := by
  refine own_met (plainFor_of_name own_pn3) ?_
  intro p e s m below meth c s₁ hret hx hby hlk hml hown hnm X0 e0 hZ hh
  have N0 := Fr.nil n0
  refine Gs (fun _ tk => castTop (own_ef_rs_c5_1_0 m x y) tk) ?_
  have KP : Keep h0 h0 [y] := Keep.refl _ _
  show Goes _ _ _ _ _ (s₁.setTop (mkF m 0 #[.val (.ref x), .val (.int (0 : Int32)), .val (.ref y), .val (.int (0 : Int32)), .val (.int (1 : Int32)), .unset, .unset] []))
  refine Gs (fun _ tk => XS.iconst X0.here hx rfl (hb hby d17_0) tk) ?_
  refine Gs (fun _ tk => XS.istore X0.here hx rfl (hb hby d17_1) rfl (l' := #[.val (.ref x), .val (.int (0 : Int32)), .val (.ref y), .val (.int (0 : Int32)), .val (.int (1 : Int32)), .val (.int (0 : Int32)), .unset]) rfl tk) ?_
  refine Gs (fun _ tk => XS.iload X0.here hx rfl (hb hby d17_3) rfl tk) ?_
  refine Gs (fun _ tk => XS.iload X0.here hx rfl (hb hby d17_5) rfl tk) ?_
  refine Gs (fun _ tk => XS.icmpNo X0.here hx rfl (hb hby d17_7) rfl (tlt (by decide : ((0 : Int32) < (1 : Int32)))).2.1 tk) ?_
  refine Gs (fun _ tk => XS.aloadN X0.here hx rfl (hb hby d17_10) rfl rfl tk) ?_
  show Goes _ _ _ _ _ (s₁.setTop (mkF m 11 #[.val (.ref x), .val (.int (0 : Int32)), .val (.ref y), .val (.int (0 : Int32)), .val (.int (1 : Int32)), .val (.int (0 : Int32)), .unset] [(.ref x)]))
  refine Gs (fun _ tk => XS.iloadN X0.here hx rfl (hb hby d17_11) rfl tk) ?_
  obtain ⟨cl1, Ar1, -, S1, N1z, H1, -⟩ := id V_x
  have hin1 : ¬ ((0 : Int32) < 0 ∨ cl1.slots.size ≤ ((0 : Int32)).toNatClampNeg) := inb_of S1 ⟨by decide, by decide⟩
  have hat1 : cl1.slots[((0 : Int32)).toNatClampNeg]? = some (.int c0) := Has.at H1 hin1 rfl
  refine Gs (fun _ tk => X0.caload hx (j := (0 : Int32)) (v := (.int c0)) (by rw [e0]; exact Ar1.1) (State.isArrayOf_alike hZ.alike Ar1.2.1) Ar1.2.2 hin1 hat1 (g := (mkF m 12 #[.val (.ref x), .val (.int (0 : Int32)), .val (.ref y), .val (.int (0 : Int32)), .val (.int (1 : Int32)), .val (.int (0 : Int32)), .unset] [(.int (0 : Int32)), (.ref x)])) rfl rfl (hb hby d17_12) _ tk) ?_
  show Goes _ _ _ _ _ (s₁.setTop (mkF m 13 #[.val (.ref x), .val (.int (0 : Int32)), .val (.ref y), .val (.int (0 : Int32)), .val (.int (1 : Int32)), .val (.int (0 : Int32)), .unset] [(.int c0)]))
  refine Gs (fun _ tk => XS.istore X0.here hx rfl (hb hby d17_13) rfl (l' := #[.val (.ref x), .val (.int (0 : Int32)), .val (.ref y), .val (.int (0 : Int32)), .val (.int (1 : Int32)), .val (.int (0 : Int32)), .val (.int c0)]) rfl tk) ?_
  refine Gs (fun _ tk => XS.iload X0.here hx rfl (hb hby d17_15) rfl tk) ?_
  refine Gs (fun _ tk => XS.sipush X0.here hx rfl (hb hby d17_17) tk) ?_
  refine Gs (fun _ tk => XS.icmpNo X0.here hx rfl (hb hby d17_20) rfl (tlt hn_c0).2.2.2 tk) ?_
  refine Gs (fun _ tk => XS.iload X0.here hx rfl (hb hby d17_23) rfl tk) ?_
  refine Goes.ret X0 (some (.int (0 : Int32))) (fun h => by rw [hret] at h; cases h) hlk (by decide) (by decide) ?_ (fun fs hr => ?_)
  · rw [e0]; exact ⟨rfl, N0, KP, V_y⟩
  · exact retI X0 hx hret (hb hby d17_25) hr
theorem d18_0 : decode jdk_52_method_16_code 0 = .ok (.iload_n 2, 1) := by decide +kernel
theorem d18_1 : decode jdk_52_method_16_code 1 = .ok (.newarray .byte, 2) := by decide +kernel
theorem d18_3 : decode jdk_52_method_16_code 3 = .ok (.astore_n 3, 1) := by decide +kernel
theorem d18_4 : decode jdk_52_method_16_code 4 = .ok (.aload_n 0, 1) := by decide +kernel
theorem d18_5 : decode jdk_52_method_16_code 5 = .ok (.iload_n 1, 1) := by decide +kernel
theorem d18_6 : decode jdk_52_method_16_code 6 = .ok (.aload_n 3, 1) := by decide +kernel
theorem d18_7 : decode jdk_52_method_16_code 7 = .ok (.iconst 0, 1) := by decide +kernel
theorem d18_8 : decode jdk_52_method_16_code 8 = .ok (.iload_n 2, 1) := by decide +kernel
theorem d18_9 : decode jdk_52_method_16_code 9 = .ok (.invokestatic 115, 3) := by decide +kernel
theorem own_pd11 : parseMethodDescriptor "([CI[BII)I" = some ⟨[(.array .char), .int, (.array .byte), .int, .int], some .int⟩ := by decide +kernel
theorem d18_12 : decode jdk_52_method_16_code 12 = .ok (.istore 4, 2) := by decide +kernel
theorem d18_14 : decode jdk_52_method_16_code 14 = .ok (.iload 4, 2) := by decide +kernel
theorem d18_16 : decode jdk_52_method_16_code 16 = .ok (.iload_n 2, 1) := by decide +kernel
theorem d18_17 : decode jdk_52_method_16_code 17 = .ok (.if_icmp .eq 40, 3) := by decide +kernel
theorem d18_20 : decode jdk_52_method_16_code 20 = .ok (.aload_n 0, 1) := by decide +kernel
theorem d18_21 : decode jdk_52_method_16_code 21 = .ok (.iload_n 1, 1) := by decide +kernel
theorem d18_22 : decode jdk_52_method_16_code 22 = .ok (.iload_n 2, 1) := by decide +kernel
theorem d18_23 : decode jdk_52_method_16_code 23 = .ok (.invokestatic 119, 3) := by decide +kernel
theorem own_pd12 : parseMethodDescriptor "([CII)[B" = some ⟨[(.array .char), .int, .int], some (.array .byte)⟩ := by decide +kernel
theorem d18_26 : decode jdk_52_method_16_code 26 = .ok (.astore 5, 2) := by decide +kernel
theorem d18_28 : decode jdk_52_method_16_code 28 = .ok (.aload 5, 2) := by decide +kernel
theorem d18_30 : decode jdk_52_method_16_code 30 = .ok (.iload 4, 2) := by decide +kernel
theorem d18_32 : decode jdk_52_method_16_code 32 = .ok (.invokestatic 71, 3) := by decide +kernel
theorem d18_35 : decode jdk_52_method_16_code 35 = .ok (.sipush 255, 3) := by decide +kernel
theorem d18_38 : decode jdk_52_method_16_code 38 = .ok (.if_icmp .gt 16, 3) := by decide +kernel
theorem d18_54 : decode jdk_52_method_16_code 54 = .ok (.aload 5, 2) := by decide +kernel
theorem d18_56 : decode jdk_52_method_16_code 56 = .ok (.areturn, 1) := by decide +kernel
theorem own_ef_rs_c3_1_0 (m : MethodId) (x0 : Addr) : entryFrame m #[(.ref x0), (.int (0 : Int32)), (.int (1 : Int32))] 6 = mkF m 0 #[.val (.ref x0), .val (.int (0 : Int32)), .val (.int (1 : Int32)), .unset, .unset, .unset] [] := by first | (simp [entryFrame, mkF, argsToLocals, Value.category]; done) | rfl
def Q_rs_c3_1_0 (Z : State) (x : Addr) (kx : ClassId) (c0 : Int32) (h0 : Heap) (n0 : Nat) (v : Option Value) (h : Heap) (L : List Loc) : Prop := ∃ y : Addr, ∃ ky : ClassId, v = some (.ref y) ∧ Fr n0 L ∧ Keep h0 h [] ∧ Arv Z h y ky .byte (2 : Int32) [(.int (lo8 c0)), (.int (hi8 c0))] (.int (0 : Int32)) ∧ n0 ≤ y ∧ h0.size ≤ y
set_option maxRecDepth 65536 in
set_option maxHeartbeats 40000000 in
theorem rs_c3_1_0 (l : Launch) (Z : State) (a0 : Array Value) (hw : ∀ d ∈ tables_1, d.before a0 Z = true) (ws : List Jvm.Cond) (x : Addr) (kx : ClassId) (c0 : Int32) (h0 : Heap) (n0 : Nat) (Z0 : n0 ≤ h0.size) (V_x : Arv Z h0 x kx .char (1 : Int32) [(.int c0)] (.int (0 : Int32))) (hn_c0 : (255 : Int32) < c0) (hC_c0 : Chr c0) (S__assertionsDisabled : Sta Z h0 "java/lang/StringUTF16" "$assertionsDisabled" "Z" (.int (1 : Int32))) (S_HI_BYTE_SHIFT : Sta Z h0 "java/lang/StringUTF16" "HI_BYTE_SHIFT" "I" (.int (0 : Int32))) (S_LO_BYTE_SHIFT : Sta Z h0 "java/lang/StringUTF16" "LO_BYTE_SHIFT" "I" (.int (8 : Int32))) :
    Met l Z mN18 jdk_52_method_16_code 6 (some (.array .byte)) ({ frames := 3, cells := 2, slots := 3, locals := 40 } : Room) ws #[(.ref x), (.int (0 : Int32)), (.int (1 : Int32))] h0 (Q_rs_c3_1_0 Z x kx c0 h0 n0) := by
  refine own_met (plainFor_of_name own_pn3) ?_
  intro p e s m below meth c s₁ hret hx hby hlk hml hown hnm X0 e0 hZ hh
  have N0 := Fr.nil n0
  refine Gs (fun _ tk => castTop (own_ef_rs_c3_1_0 m x) tk) ?_
  have KP : Keep h0 h0 [] := Keep.refl _ _
  show Goes _ _ _ _ _ (s₁.setTop (mkF m 0 #[.val (.ref x), .val (.int (0 : Int32)), .val (.int (1 : Int32)), .unset, .unset, .unset] []))
  refine Gs (fun _ tk => XS.iloadN X0.here hx rfl (hb hby d18_0) rfl tk) ?_
  obtain ⟨T1, h1, k1, X1, e1, E1, A1, st1⟩ := newP X0 hx hZ (gw hw 20 rfl) e0 (g := (mkF m 1 #[.val (.ref x), .val (.int (0 : Int32)), .val (.int (1 : Int32)), .unset, .unset, .unset] [(.int (1 : Int32))])) rfl (hb hby d18_1) rfl (by decide) (cap := 1) (by decide) (by decide) (by decide) (by decide)
  obtain ⟨b1, gq1⟩ : ∃ z, z = h0.size := ⟨_, rfl⟩
  rw [← gq1] at A1 st1
  have g_b1 : n0 ≤ b1 := by rw [gq1]; exact Z0
  have sz_b1 : h0.size ≤ b1 := by rw [gq1]; exact KP.1
  have ne_x_b1 : x ≠ b1 := by rw [gq1]; exact Nat.ne_of_lt V_x.lt
  replace V_x := V_x.ext E1
  replace S__assertionsDisabled := S__assertionsDisabled.ext E1
  replace S_HI_BYTE_SHIFT := S_HI_BYTE_SHIFT.ext E1
  replace S_LO_BYTE_SHIFT := S_LO_BYTE_SHIFT.ext E1
  replace KP := KP.ext E1
  replace Z0 : n0 ≤ h1.size := Nat.le_trans Z0 E1.1
  have V_b1 : Arv Z h1 b1 k1 .byte (1 : Int32) [(.int (0 : Int32))] (.int (0 : Int32)) := (Arv.new A1 (by decide)).pad (pad_rep [] (.int (0 : Int32)) 1)
  refine Gs st1 ?_
  show Goes _ _ _ _ _ (T1.setTop (mkF m 3 #[.val (.ref x), .val (.int (0 : Int32)), .val (.int (1 : Int32)), .unset, .unset, .unset] [(.ref b1)]))
  refine Gs (fun _ tk => XS.astoreN X1.here hx rfl (hb hby d18_3) rfl rfl (l' := #[.val (.ref x), .val (.int (0 : Int32)), .val (.int (1 : Int32)), .val (.ref b1), .unset, .unset]) rfl tk) ?_
  refine Gs (fun _ tk => XS.aloadN X1.here hx rfl (hb hby d18_4) rfl rfl tk) ?_
  refine Gs (fun _ tk => XS.iloadN X1.here hx rfl (hb hby d18_5) rfl tk) ?_
  refine Gs (fun _ tk => XS.aloadN X1.here hx rfl (hb hby d18_6) rfl rfl tk) ?_
  refine Gs (fun _ tk => XS.iconst X1.here hx rfl (hb hby d18_7) tk) ?_
  refine Gs (fun _ tk => XS.iloadN X1.here hx rfl (hb hby d18_8) rfl tk) ?_
  show Goes _ _ _ _ _ (T1.setTop (mkF m 9 #[.val (.ref x), .val (.int (0 : Int32)), .val (.int (1 : Int32)), .val (.ref b1), .unset, .unset] [(.int (1 : Int32)), (.int (0 : Int32)), (.ref b1), (.int (0 : Int32)), (.ref x)]))
  obtain ⟨_, _, ⟨T2, L2, k2, n2⟩, -, X2, ⟨Lc2, hQ2, l2, y2, z2⟩, st2⟩ := Jvm.LawKit.callS X1 hx (y := mN17) hown (mvT hZ (gw hw 49 rfl)) (mvT hZ (gw hw 50 rfl)) (mvT hZ (gw hw 47 rfl)) (mvT hZ (gw hw 51 rfl)) (by decide) (backOf (W := 0) (rs_c5_1_0 l Z a0 hw [] x kx b1 k1 c0 h1 n0 Z0 V_x V_b1 g_b1 ne_x_b1 (by first | assumption | decide)) hZ (gw hw 51 rfl) (gw hw 47 rfl) (by decide) (by decide)) (g := (mkF m 9 #[.val (.ref x), .val (.int (0 : Int32)), .val (.int (1 : Int32)), .val (.ref b1), .unset, .unset] [(.int (1 : Int32)), (.int (0 : Int32)), (.ref b1), (.int (0 : Int32)), (.ref x)])) rfl (by rw [hml]; rfl) (argsL := [(.ref x), (.int (0 : Int32)), (.ref b1), (.int (0 : Int32)), (.int (1 : Int32))]) (rest := []) (lenOf own_pd11 rfl) rfl (w0 (Nat.le_of_eq rfl)) (hb hby d18_9) (fun _ _ => ⟨rfl, e1, (by decide : 1 + 0 ≤ _), (by decide : 1 + 0 ≤ _)⟩)
  dsimp only [Pt.U, Pt.locs, Pt.cells, Pt.slots] at X2 l2 y2 z2 st2 hQ2
  subst l2 y2 z2
  obtain ⟨rfl, N2q, K2, V_b1_2'⟩ := hQ2
  have N2 := Fr.app N0 N2q
  replace S__assertionsDisabled := own_staK S__assertionsDisabled K2 (allS (own_obA V_b1) all0)
  replace S_HI_BYTE_SHIFT := own_staK S_HI_BYTE_SHIFT K2 (allS (own_obA V_b1) all0)
  replace S_LO_BYTE_SHIFT := own_staK S_LO_BYTE_SHIFT K2 (allS (own_obA V_b1) all0)
  replace V_x := V_x.keep K2 (ninS ne_x_b1 nin0)
  replace KP := KP.trans K2 (allS (Or.inr sz_b1) all0)
  replace Z0 := Nat.le_trans Z0 K2.1
  have V_b1 := V_b1_2'
  refine Gs st2 ?_
  show Goes _ _ _ _ _ (T2.setTop (mkF m 12 #[.val (.ref x), .val (.int (0 : Int32)), .val (.int (1 : Int32)), .val (.ref b1), .unset, .unset] [(.int (0 : Int32))]))
  refine Gs (fun _ tk => XS.istore X2.here hx rfl (hb hby d18_12) rfl (l' := #[.val (.ref x), .val (.int (0 : Int32)), .val (.int (1 : Int32)), .val (.ref b1), .val (.int (0 : Int32)), .unset]) rfl tk) ?_
  refine Gs (fun _ tk => XS.iload X2.here hx rfl (hb hby d18_14) rfl tk) ?_
  refine Gs (fun _ tk => XS.iloadN X2.here hx rfl (hb hby d18_16) rfl tk) ?_
  refine Gs (fun _ tk => XS.icmpNo X2.here hx rfl (hb hby d18_17) rfl (feq (by decide : ¬ ((0 : Int32) = (1 : Int32)))).1 tk) ?_
  refine Gs (fun _ tk => XS.aloadN X2.here hx rfl (hb hby d18_20) rfl rfl tk) ?_
  refine Gs (fun _ tk => XS.iloadN X2.here hx rfl (hb hby d18_21) rfl tk) ?_
  show Goes _ _ _ _ _ (T2.setTop (mkF m 22 #[.val (.ref x), .val (.int (0 : Int32)), .val (.int (1 : Int32)), .val (.ref b1), .val (.int (0 : Int32)), .unset] [(.int (0 : Int32)), (.ref x)]))
  refine Gs (fun _ tk => XS.iloadN X2.here hx rfl (hb hby d18_22) rfl tk) ?_
  have ltc3_x : x < T2.heap.size := V_x.lt
  have ltc3_b1 : b1 < T2.heap.size := V_b1.lt
  have szs3 : h0.size ≤ T2.heap.size := KP.1
  obtain ⟨_, _, ⟨T3, L3, k3, n3⟩, -, X3, ⟨Lc3, hQ3, l3, y3, z3⟩, st3⟩ := Jvm.LawKit.callS X2 hx (y := mN16) hown (mvT hZ (gw hw 69 rfl)) (mvT hZ (gw hw 70 rfl)) (mvT hZ (gw hw 47 rfl)) (mvT hZ (gw hw 71 rfl)) (by decide) (backOf (W := 0) (rs_tb_1 l Z a0 hw [] x kx c0 T2.heap n0 Z0 V_x S__assertionsDisabled S_HI_BYTE_SHIFT S_LO_BYTE_SHIFT) hZ (gw hw 71 rfl) (gw hw 47 rfl) (by decide) (by decide)) (g := (mkF m 23 #[.val (.ref x), .val (.int (0 : Int32)), .val (.int (1 : Int32)), .val (.ref b1), .val (.int (0 : Int32)), .unset] [(.int (1 : Int32)), (.int (0 : Int32)), (.ref x)])) rfl (by rw [hml]; rfl) (argsL := [(.ref x), (.int (0 : Int32)), (.int (1 : Int32))]) (rest := []) (lenOf own_pd12 rfl) rfl (w0 (Nat.le_of_eq rfl)) (hb hby d18_23) (fun _ _ => ⟨rfl, rfl, (by decide : 1 + 1 ≤ _), (by decide : 1 + 2 ≤ _)⟩)
  dsimp only [Pt.U, Pt.locs, Pt.cells, Pt.slots] at X3 l3 y3 z3 st3 hQ3
  subst l3 y3 z3
  obtain ⟨y3, ky3, rfl, N3q, K3, V_y3_3', g_y3_3', sz_y3_3'⟩ := hQ3
  have N3 := Fr.app N2 N3q
  replace S__assertionsDisabled := own_staK S__assertionsDisabled K3 all0
  replace S_HI_BYTE_SHIFT := own_staK S_HI_BYTE_SHIFT K3 all0
  replace S_LO_BYTE_SHIFT := own_staK S_LO_BYTE_SHIFT K3 all0
  replace KP := KP.trans K3 all0
  replace Z0 := Nat.le_trans Z0 K3.1
  have V_y3 := V_y3_3'
  have g_y3 := g_y3_3'
  have szc_y3 := sz_y3_3'
  have ne_x_y3 : x ≠ y3 := Nat.ne_of_lt (Nat.lt_of_lt_of_le ltc3_x szc_y3)
  have ne_b1_y3 : b1 ≠ y3 := Nat.ne_of_lt (Nat.lt_of_lt_of_le ltc3_b1 szc_y3)
  have sz_y3 : h0.size ≤ y3 := Nat.le_trans szs3 szc_y3
  refine Gs st3 ?_
  show Goes _ _ _ _ _ (T3.setTop (mkF m 26 #[.val (.ref x), .val (.int (0 : Int32)), .val (.int (1 : Int32)), .val (.ref b1), .val (.int (0 : Int32)), .unset] [(.ref y3)]))
  refine Gs (fun _ tk => XS.astore X3.here hx rfl (hb hby d18_26) rfl rfl (l' := #[.val (.ref x), .val (.int (0 : Int32)), .val (.int (1 : Int32)), .val (.ref b1), .val (.int (0 : Int32)), .val (.ref y3)]) rfl tk) ?_
  refine Gs (fun _ tk => XS.aload X3.here hx rfl (hb hby d18_28) rfl rfl tk) ?_
  refine Gs (fun _ tk => XS.iload X3.here hx rfl (hb hby d18_30) rfl tk) ?_
  obtain ⟨_, _, ⟨T4, L4, k4, n4⟩, -, X4, ⟨Lc4, hQ4, l4, y4, z4⟩, st4⟩ := Jvm.LawKit.callS X3 hx (y := mN8) hown (mvT hZ (gw hw 85 rfl)) (mvT hZ (gw hw 86 rfl)) (mvT hZ (gw hw 47 rfl)) (mvT hZ (gw hw 87 rfl)) (by decide) (backOf (W := 0) (rs_gch l Z a0 hw [] y3 ky3 [c0] (0 : Int32) c0 T3.heap n0 Z0 V_y3 (by first | assumption | decide) (own_il 0 _ (by decide) (by simp) (Nat.le_of_ble_eq_true rfl)) rfl (Nat.le_of_ble_eq_true rfl) hC_c0 S__assertionsDisabled S_HI_BYTE_SHIFT S_LO_BYTE_SHIFT) hZ (gw hw 87 rfl) (gw hw 47 rfl) (by decide) (by decide)) (g := (mkF m 32 #[.val (.ref x), .val (.int (0 : Int32)), .val (.int (1 : Int32)), .val (.ref b1), .val (.int (0 : Int32)), .val (.ref y3)] [(.int (0 : Int32)), (.ref y3)])) rfl (by rw [hml]; rfl) (argsL := [(.ref y3), (.int (0 : Int32))]) (rest := []) (lenOf own_pd5 rfl) rfl (w0 (Nat.le_of_eq rfl)) (hb hby d18_32) (fun _ _ => ⟨rfl, rfl, (by decide : 2 + 0 ≤ _), (by decide : 3 + 0 ≤ _)⟩)
  dsimp only [Pt.U, Pt.locs, Pt.cells, Pt.slots] at X4 l4 y4 z4 st4 hQ4
  subst l4 y4 z4
  obtain ⟨rfl, N4q, e4⟩ := hQ4
  have N4 := Fr.app N3 N4q
  refine Gs st4 ?_
  show Goes _ _ _ _ _ (T4.setTop (mkF m 35 #[.val (.ref x), .val (.int (0 : Int32)), .val (.int (1 : Int32)), .val (.ref b1), .val (.int (0 : Int32)), .val (.ref y3)] [(.int c0)]))
  refine Gs (fun _ tk => XS.sipush X4.here hx rfl (hb hby d18_35) tk) ?_
  refine Gs (fun _ tk => XS.icmpYes X4.here hx rfl (pc0 := 38) (pc' := 54) rfl (hb hby d18_38) rfl (tlt hn_c0).2.2.1 (by decide) (by decide) tk) ?_
  refine Gs (fun _ tk => XS.aload X4.here hx rfl (hb hby d18_54) rfl rfl tk) ?_
  refine Goes.ret X4 (some (.ref y3)) (fun h => by rw [hret] at h; cases h) hlk (by decide) (by decide) ?_ (fun fs hr => ?_)
  · rw [e4]; exact ⟨y3, ky3, rfl, N4, KP, V_y3, g_y3, sz_y3⟩
  · exact own_retA X4 hx hret rfl rfl (hb hby d18_56) hr
theorem d17_26 : decode jdk_52_method_21_code 26 = .ok (.aload_n 2, 1) := by decide +kernel
theorem d17_27 : decode jdk_52_method_21_code 27 = .ok (.iload_n 3, 1) := by decide +kernel
theorem d17_28 : decode jdk_52_method_21_code 28 = .ok (.iload 6, 2) := by decide +kernel
theorem d17_30 : decode jdk_52_method_21_code 30 = .ok (.i2b, 1) := by decide +kernel
theorem d17_31 : decode jdk_52_method_21_code 31 = .ok (.bastore, 1) := by decide +kernel
theorem d17_32 : decode jdk_52_method_21_code 32 = .ok (.iinc 1 1, 3) := by decide +kernel
theorem d17_35 : decode jdk_52_method_21_code 35 = .ok (.iinc 3 1, 3) := by decide +kernel
theorem d17_38 : decode jdk_52_method_21_code 38 = .ok (.iinc 5 1, 3) := by decide +kernel
theorem d17_41 : decode jdk_52_method_21_code 41 = .ok (.goto (-38), 3) := by decide +kernel
theorem d17_44 : decode jdk_52_method_21_code 44 = .ok (.iload 4, 2) := by decide +kernel
theorem d17_46 : decode jdk_52_method_21_code 46 = .ok (.ireturn, 1) := by decide +kernel
theorem own_ef_rs_c5_1_1 (m : MethodId) (x0 : Addr) (x2 : Addr) : entryFrame m #[(.ref x0), (.int (0 : Int32)), (.ref x2), (.int (0 : Int32)), (.int (1 : Int32))] 7 = mkF m 0 #[.val (.ref x0), .val (.int (0 : Int32)), .val (.ref x2), .val (.int (0 : Int32)), .val (.int (1 : Int32)), .unset, .unset] [] := by first | (simp [entryFrame, mkF, argsToLocals, Value.category]; done) | rfl
def Q_rs_c5_1_1 (Z : State) (x : Addr) (kx : ClassId) (y : Addr) (ky : ClassId) (c0 : Int32) (h0 : Heap) (n0 : Nat) (v : Option Value) (h : Heap) (L : List Loc) : Prop := v = some (.int (1 : Int32)) ∧ Fr n0 L ∧ Keep h0 h [y] ∧ Arv Z h y ky .byte (1 : Int32) [(.int (lo8 c0))] (.int (0 : Int32))
set_option maxRecDepth 65536 in
set_option maxHeartbeats 40000000 in
theorem rs_c5_1_1 (l : Launch) (Z : State) (a0 : Array Value) (hw : ∀ d ∈ tables_1, d.before a0 Z = true) (ws : List Jvm.Cond) (x : Addr) (kx : ClassId) (y : Addr) (ky : ClassId) (c0 : Int32) (h0 : Heap) (n0 : Nat) (Z0 : n0 ≤ h0.size) (V_x : Arv Z h0 x kx .char (1 : Int32) [(.int c0)] (.int (0 : Int32))) (V_y : Arv Z h0 y ky .byte (1 : Int32) [(.int (0 : Int32))] (.int (0 : Int32))) (g_y : n0 ≤ y) (ne_x_y : x ≠ y) (hn_c0 : ¬ ((255 : Int32) < c0)) :
    Met l Z mN17 jdk_52_method_21_code 7 (some .int) ({ frames := 0, cells := 0, slots := 0, locals := 0 } : Room) ws #[(.ref x), (.int (0 : Int32)), (.ref y), (.int (0 : Int32)), (.int (1 : Int32))] h0 (Q_rs_c5_1_1 Z x kx y ky c0 h0 n0) := by
  refine own_met (plainFor_of_name own_pn3) ?_
  intro p e s m below meth c s₁ hret hx hby hlk hml hown hnm X0 e0 hZ hh
  have N0 := Fr.nil n0
  refine Gs (fun _ tk => castTop (own_ef_rs_c5_1_1 m x y) tk) ?_
  have KP : Keep h0 h0 [y] := Keep.refl _ _
  show Goes _ _ _ _ _ (s₁.setTop (mkF m 0 #[.val (.ref x), .val (.int (0 : Int32)), .val (.ref y), .val (.int (0 : Int32)), .val (.int (1 : Int32)), .unset, .unset] []))
  refine Gs (fun _ tk => XS.iconst X0.here hx rfl (hb hby d17_0) tk) ?_
  refine Gs (fun _ tk => XS.istore X0.here hx rfl (hb hby d17_1) rfl (l' := #[.val (.ref x), .val (.int (0 : Int32)), .val (.ref y), .val (.int (0 : Int32)), .val (.int (1 : Int32)), .val (.int (0 : Int32)), .unset]) rfl tk) ?_
  refine Gs (fun _ tk => XS.iload X0.here hx rfl (hb hby d17_3) rfl tk) ?_
  refine Gs (fun _ tk => XS.iload X0.here hx rfl (hb hby d17_5) rfl tk) ?_
  refine Gs (fun _ tk => XS.icmpNo X0.here hx rfl (hb hby d17_7) rfl (tlt (by decide : ((0 : Int32) < (1 : Int32)))).2.1 tk) ?_
  refine Gs (fun _ tk => XS.aloadN X0.here hx rfl (hb hby d17_10) rfl rfl tk) ?_
  show Goes _ _ _ _ _ (s₁.setTop (mkF m 11 #[.val (.ref x), .val (.int (0 : Int32)), .val (.ref y), .val (.int (0 : Int32)), .val (.int (1 : Int32)), .val (.int (0 : Int32)), .unset] [(.ref x)]))
  refine Gs (fun _ tk => XS.iloadN X0.here hx rfl (hb hby d17_11) rfl tk) ?_
  obtain ⟨cl1, Ar1, -, S1, N1z, H1, -⟩ := id V_x
  have hin1 : ¬ ((0 : Int32) < 0 ∨ cl1.slots.size ≤ ((0 : Int32)).toNatClampNeg) := inb_of S1 ⟨by decide, by decide⟩
  have hat1 : cl1.slots[((0 : Int32)).toNatClampNeg]? = some (.int c0) := Has.at H1 hin1 rfl
  refine Gs (fun _ tk => X0.caload hx (j := (0 : Int32)) (v := (.int c0)) (by rw [e0]; exact Ar1.1) (State.isArrayOf_alike hZ.alike Ar1.2.1) Ar1.2.2 hin1 hat1 (g := (mkF m 12 #[.val (.ref x), .val (.int (0 : Int32)), .val (.ref y), .val (.int (0 : Int32)), .val (.int (1 : Int32)), .val (.int (0 : Int32)), .unset] [(.int (0 : Int32)), (.ref x)])) rfl rfl (hb hby d17_12) _ tk) ?_
  show Goes _ _ _ _ _ (s₁.setTop (mkF m 13 #[.val (.ref x), .val (.int (0 : Int32)), .val (.ref y), .val (.int (0 : Int32)), .val (.int (1 : Int32)), .val (.int (0 : Int32)), .unset] [(.int c0)]))
  refine Gs (fun _ tk => XS.istore X0.here hx rfl (hb hby d17_13) rfl (l' := #[.val (.ref x), .val (.int (0 : Int32)), .val (.ref y), .val (.int (0 : Int32)), .val (.int (1 : Int32)), .val (.int (0 : Int32)), .val (.int c0)]) rfl tk) ?_
  refine Gs (fun _ tk => XS.iload X0.here hx rfl (hb hby d17_15) rfl tk) ?_
  refine Gs (fun _ tk => XS.sipush X0.here hx rfl (hb hby d17_17) tk) ?_
  refine Gs (fun _ tk => XS.icmpYes X0.here hx rfl (pc0 := 20) (pc' := 26) rfl (hb hby d17_20) rfl (flt hn_c0).2.2.2 (by decide) (by decide) tk) ?_
  refine Gs (fun _ tk => XS.aloadN X0.here hx rfl (hb hby d17_26) rfl rfl tk) ?_
  refine Gs (fun _ tk => XS.iloadN X0.here hx rfl (hb hby d17_27) rfl tk) ?_
  show Goes _ _ _ _ _ (s₁.setTop (mkF m 28 #[.val (.ref x), .val (.int (0 : Int32)), .val (.ref y), .val (.int (0 : Int32)), .val (.int (1 : Int32)), .val (.int (0 : Int32)), .val (.int c0)] [(.int (0 : Int32)), (.ref y)]))
  refine Gs (fun _ tk => XS.iload X0.here hx rfl (hb hby d17_28) rfl tk) ?_
  show Goes _ _ _ _ _ (s₁.setTop (mkF m 30 #[.val (.ref x), .val (.int (0 : Int32)), .val (.ref y), .val (.int (0 : Int32)), .val (.int (1 : Int32)), .val (.int (0 : Int32)), .val (.int c0)] [(.int c0), (.int (0 : Int32)), (.ref y)]))
  refine Gs (fun _ tk => XS.i2b X0.here hx rfl (hb hby d17_30) rfl tk) ?_
  show Goes _ _ _ _ _ (s₁.setTop (mkF m 31 #[.val (.ref x), .val (.int (0 : Int32)), .val (.ref y), .val (.int (0 : Int32)), .val (.int (1 : Int32)), .val (.int (0 : Int32)), .val (.int c0)] [(.int (c0.toInt8.toInt32)), (.int (0 : Int32)), (.ref y)]))
  obtain ⟨cl2, Ar2, q2, S2, N2z, H2, G2⟩ := V_y
  have hin2 : ¬ ((0 : Int32) < 0 ∨ cl2.slots.size ≤ ((0 : Int32)).toNatClampNeg) := inb_of S2 ⟨by decide, by decide⟩
  obtain ⟨T2, h2, X2, e2, W2, st2⟩ := stB X0 hx hZ e0 Ar2 (j := (0 : Int32)) hin2 (g := (mkF m 31 #[.val (.ref x), .val (.int (0 : Int32)), .val (.ref y), .val (.int (0 : Int32)), .val (.int (1 : Int32)), .val (.int (0 : Int32)), .val (.int c0)] [(.int (c0.toInt8.toInt32)), (.int (0 : Int32)), (.ref y)])) rfl rfl (hb hby d17_31)
  have Vn2 := Arv.set Ar2 q2 S2 N2z H2 G2 (fits_nar_byte _) W2 0 rfl (Nat.le_of_ble_eq_true rfl)
  have N2 := Fr.snoc X2 N0 g_y
  replace KP := KP.wr W2 (Or.inl (List.mem_of_getElem? (i := 0) rfl))
  have V_y : Arv Z h2 y ky .byte (1 : Int32) [(.int (lo8 c0))] (.int (0 : Int32)) := by have q := Vn2; rw [own_nb2] at q; exact q
  replace Z0 : n0 ≤ h2.size := by rw [W2.size]; exact Z0
  refine Gs st2 ?_
  show Goes _ _ _ _ _ (T2.setTop (mkF m 32 #[.val (.ref x), .val (.int (0 : Int32)), .val (.ref y), .val (.int (0 : Int32)), .val (.int (1 : Int32)), .val (.int (0 : Int32)), .val (.int c0)] []))
  refine Gs (fun _ tk => XS.iinc X2.here hx rfl (hb hby d17_32) rfl (l' := #[.val (.ref x), .val (.int ((0 : Int32) + (1 : Int32))), .val (.ref y), .val (.int (0 : Int32)), .val (.int (1 : Int32)), .val (.int (0 : Int32)), .val (.int c0)]) rfl tk) ?_
  rw [show ((0 : Int32) + (1 : Int32)) = (1 : Int32) from by decide]
  show Goes _ _ _ _ _ (T2.setTop (mkF m 35 #[.val (.ref x), .val (.int (1 : Int32)), .val (.ref y), .val (.int (0 : Int32)), .val (.int (1 : Int32)), .val (.int (0 : Int32)), .val (.int c0)] []))
  refine Gs (fun _ tk => XS.iinc X2.here hx rfl (hb hby d17_35) rfl (l' := #[.val (.ref x), .val (.int (1 : Int32)), .val (.ref y), .val (.int ((0 : Int32) + (1 : Int32))), .val (.int (1 : Int32)), .val (.int (0 : Int32)), .val (.int c0)]) rfl tk) ?_
  rw [show ((0 : Int32) + (1 : Int32)) = (1 : Int32) from by decide]
  show Goes _ _ _ _ _ (T2.setTop (mkF m 38 #[.val (.ref x), .val (.int (1 : Int32)), .val (.ref y), .val (.int (1 : Int32)), .val (.int (1 : Int32)), .val (.int (0 : Int32)), .val (.int c0)] []))
  refine Gs (fun _ tk => XS.iinc X2.here hx rfl (hb hby d17_38) rfl (l' := #[.val (.ref x), .val (.int (1 : Int32)), .val (.ref y), .val (.int (1 : Int32)), .val (.int (1 : Int32)), .val (.int ((0 : Int32) + (1 : Int32))), .val (.int c0)]) rfl tk) ?_
  rw [show ((0 : Int32) + (1 : Int32)) = (1 : Int32) from by decide]
  show Goes _ _ _ _ _ (T2.setTop (mkF m 41 #[.val (.ref x), .val (.int (1 : Int32)), .val (.ref y), .val (.int (1 : Int32)), .val (.int (1 : Int32)), .val (.int (1 : Int32)), .val (.int c0)] []))
  refine Gs (fun _ tk => XS.goto X2.here hx rfl (pc0 := 41) (pc' := 3) rfl (hb hby d17_41) (by decide) (by decide) tk) ?_
  refine Gs (fun _ tk => XS.iload X2.here hx rfl (hb hby d17_3) rfl tk) ?_
  refine Gs (fun _ tk => XS.iload X2.here hx rfl (hb hby d17_5) rfl tk) ?_
  refine Gs (fun _ tk => XS.icmpYes X2.here hx rfl (pc0 := 7) (pc' := 44) rfl (hb hby d17_7) rfl (flt (by decide : ¬ ((1 : Int32) < (1 : Int32)))).2.1 (by decide) (by decide) tk) ?_
  refine Gs (fun _ tk => XS.iload X2.here hx rfl (hb hby d17_44) rfl tk) ?_
  refine Goes.ret X2 (some (.int (1 : Int32))) (fun h => by rw [hret] at h; cases h) hlk (by decide) (by decide) ?_ (fun fs hr => ?_)
  · rw [e2]; exact ⟨rfl, N2, KP, V_y⟩
  · exact retI X2 hx hret (hb hby d17_46) hr
theorem d18_57 : decode jdk_52_method_16_code 57 = .ok (.aload_n 3, 1) := by decide +kernel
theorem d18_58 : decode jdk_52_method_16_code 58 = .ok (.areturn, 1) := by decide +kernel
theorem own_ef_rs_c3_1_1 (m : MethodId) (x0 : Addr) : entryFrame m #[(.ref x0), (.int (0 : Int32)), (.int (1 : Int32))] 6 = mkF m 0 #[.val (.ref x0), .val (.int (0 : Int32)), .val (.int (1 : Int32)), .unset, .unset, .unset] [] := by first | (simp [entryFrame, mkF, argsToLocals, Value.category]; done) | rfl
def Q_rs_c3_1_1 (Z : State) (x : Addr) (kx : ClassId) (c0 : Int32) (h0 : Heap) (n0 : Nat) (v : Option Value) (h : Heap) (L : List Loc) : Prop := ∃ y : Addr, ∃ ky : ClassId, v = some (.ref y) ∧ Fr n0 L ∧ Keep h0 h [] ∧ Arv Z h y ky .byte (1 : Int32) [(.int (lo8 c0))] (.int (0 : Int32)) ∧ n0 ≤ y ∧ h0.size ≤ y
set_option maxRecDepth 65536 in
set_option maxHeartbeats 40000000 in
theorem rs_c3_1_1 (l : Launch) (Z : State) (a0 : Array Value) (hw : ∀ d ∈ tables_1, d.before a0 Z = true) (ws : List Jvm.Cond) (x : Addr) (kx : ClassId) (c0 : Int32) (h0 : Heap) (n0 : Nat) (Z0 : n0 ≤ h0.size) (V_x : Arv Z h0 x kx .char (1 : Int32) [(.int c0)] (.int (0 : Int32))) (hn_c0 : ¬ ((255 : Int32) < c0)) :
    Met l Z mN18 jdk_52_method_16_code 6 (some (.array .byte)) ({ frames := 1, cells := 1, slots := 1, locals := 18 } : Room) ws #[(.ref x), (.int (0 : Int32)), (.int (1 : Int32))] h0 (Q_rs_c3_1_1 Z x kx c0 h0 n0) := by
  refine own_met (plainFor_of_name own_pn3) ?_
  intro p e s m below meth c s₁ hret hx hby hlk hml hown hnm X0 e0 hZ hh
  have N0 := Fr.nil n0
  refine Gs (fun _ tk => castTop (own_ef_rs_c3_1_1 m x) tk) ?_
  have KP : Keep h0 h0 [] := Keep.refl _ _
  show Goes _ _ _ _ _ (s₁.setTop (mkF m 0 #[.val (.ref x), .val (.int (0 : Int32)), .val (.int (1 : Int32)), .unset, .unset, .unset] []))
  refine Gs (fun _ tk => XS.iloadN X0.here hx rfl (hb hby d18_0) rfl tk) ?_
  obtain ⟨T1, h1, k1, X1, e1, E1, A1, st1⟩ := newP X0 hx hZ (gw hw 20 rfl) e0 (g := (mkF m 1 #[.val (.ref x), .val (.int (0 : Int32)), .val (.int (1 : Int32)), .unset, .unset, .unset] [(.int (1 : Int32))])) rfl (hb hby d18_1) rfl (by decide) (cap := 1) (by decide) (by decide) (by decide) (by decide)
  obtain ⟨b1, gq1⟩ : ∃ z, z = h0.size := ⟨_, rfl⟩
  rw [← gq1] at A1 st1
  have g_b1 : n0 ≤ b1 := by rw [gq1]; exact Z0
  have sz_b1 : h0.size ≤ b1 := by rw [gq1]; exact KP.1
  have ne_x_b1 : x ≠ b1 := by rw [gq1]; exact Nat.ne_of_lt V_x.lt
  replace V_x := V_x.ext E1
  replace KP := KP.ext E1
  replace Z0 : n0 ≤ h1.size := Nat.le_trans Z0 E1.1
  have V_b1 : Arv Z h1 b1 k1 .byte (1 : Int32) [(.int (0 : Int32))] (.int (0 : Int32)) := (Arv.new A1 (by decide)).pad (pad_rep [] (.int (0 : Int32)) 1)
  refine Gs st1 ?_
  show Goes _ _ _ _ _ (T1.setTop (mkF m 3 #[.val (.ref x), .val (.int (0 : Int32)), .val (.int (1 : Int32)), .unset, .unset, .unset] [(.ref b1)]))
  refine Gs (fun _ tk => XS.astoreN X1.here hx rfl (hb hby d18_3) rfl rfl (l' := #[.val (.ref x), .val (.int (0 : Int32)), .val (.int (1 : Int32)), .val (.ref b1), .unset, .unset]) rfl tk) ?_
  refine Gs (fun _ tk => XS.aloadN X1.here hx rfl (hb hby d18_4) rfl rfl tk) ?_
  refine Gs (fun _ tk => XS.iloadN X1.here hx rfl (hb hby d18_5) rfl tk) ?_
  refine Gs (fun _ tk => XS.aloadN X1.here hx rfl (hb hby d18_6) rfl rfl tk) ?_
  refine Gs (fun _ tk => XS.iconst X1.here hx rfl (hb hby d18_7) tk) ?_
  refine Gs (fun _ tk => XS.iloadN X1.here hx rfl (hb hby d18_8) rfl tk) ?_
  show Goes _ _ _ _ _ (T1.setTop (mkF m 9 #[.val (.ref x), .val (.int (0 : Int32)), .val (.int (1 : Int32)), .val (.ref b1), .unset, .unset] [(.int (1 : Int32)), (.int (0 : Int32)), (.ref b1), (.int (0 : Int32)), (.ref x)]))
  obtain ⟨_, _, ⟨T2, L2, k2, n2⟩, -, X2, ⟨Lc2, hQ2, l2, y2, z2⟩, st2⟩ := Jvm.LawKit.callS X1 hx (y := mN17) hown (mvT hZ (gw hw 49 rfl)) (mvT hZ (gw hw 50 rfl)) (mvT hZ (gw hw 47 rfl)) (mvT hZ (gw hw 51 rfl)) (by decide) (backOf (W := 0) (rs_c5_1_1 l Z a0 hw [] x kx b1 k1 c0 h1 n0 Z0 V_x V_b1 g_b1 ne_x_b1 (by first | assumption | decide)) hZ (gw hw 51 rfl) (gw hw 47 rfl) (by decide) (by decide)) (g := (mkF m 9 #[.val (.ref x), .val (.int (0 : Int32)), .val (.int (1 : Int32)), .val (.ref b1), .unset, .unset] [(.int (1 : Int32)), (.int (0 : Int32)), (.ref b1), (.int (0 : Int32)), (.ref x)])) rfl (by rw [hml]; rfl) (argsL := [(.ref x), (.int (0 : Int32)), (.ref b1), (.int (0 : Int32)), (.int (1 : Int32))]) (rest := []) (lenOf own_pd11 rfl) rfl (w0 (Nat.le_of_eq rfl)) (hb hby d18_9) (fun _ _ => ⟨rfl, e1, (by decide : 1 + 0 ≤ _), (by decide : 1 + 0 ≤ _)⟩)
  dsimp only [Pt.U, Pt.locs, Pt.cells, Pt.slots] at X2 l2 y2 z2 st2 hQ2
  subst l2 y2 z2
  obtain ⟨rfl, N2q, K2, V_b1_2'⟩ := hQ2
  have N2 := Fr.app N0 N2q
  replace KP := KP.trans K2 (allS (Or.inr sz_b1) all0)
  replace Z0 := Nat.le_trans Z0 K2.1
  have V_b1 := V_b1_2'
  refine Gs st2 ?_
  show Goes _ _ _ _ _ (T2.setTop (mkF m 12 #[.val (.ref x), .val (.int (0 : Int32)), .val (.int (1 : Int32)), .val (.ref b1), .unset, .unset] [(.int (1 : Int32))]))
  refine Gs (fun _ tk => XS.istore X2.here hx rfl (hb hby d18_12) rfl (l' := #[.val (.ref x), .val (.int (0 : Int32)), .val (.int (1 : Int32)), .val (.ref b1), .val (.int (1 : Int32)), .unset]) rfl tk) ?_
  refine Gs (fun _ tk => XS.iload X2.here hx rfl (hb hby d18_14) rfl tk) ?_
  refine Gs (fun _ tk => XS.iloadN X2.here hx rfl (hb hby d18_16) rfl tk) ?_
  refine Gs (fun _ tk => XS.icmpYes X2.here hx rfl (pc0 := 17) (pc' := 57) rfl (hb hby d18_17) rfl (teq (by decide : ((1 : Int32) = (1 : Int32)))).1 (by decide) (by decide) tk) ?_
  refine Gs (fun _ tk => XS.aloadN X2.here hx rfl (hb hby d18_57) rfl rfl tk) ?_
  refine Goes.ret X2 (some (.ref b1)) (fun h => by rw [hret] at h; cases h) hlk (by decide) (by decide) ?_ (fun fs hr => ?_)
  · exact ⟨b1, k1, rfl, N2, KP, V_b1, g_b1, sz_b1⟩
  · exact own_retA X2 hx hret rfl rfl (hb hby d18_58) hr
theorem d19_0 : decode jdk_52_method_15_code 0 = .ok (.iload_n 1, 1) := by decide +kernel
theorem d19_1 : decode jdk_52_method_15_code 1 = .ok (.aload_n 0, 1) := by decide +kernel
theorem d19_2 : decode jdk_52_method_15_code 2 = .ok (.arraylength, 1) := by decide +kernel
theorem d19_3 : decode jdk_52_method_15_code 3 = .ok (.isub, 1) := by decide +kernel
theorem d19_4 : decode jdk_52_method_15_code 4 = .ok (.bipush 31, 2) := by decide +kernel
theorem d19_6 : decode jdk_52_method_15_code 6 = .ok (.iushr, 1) := by decide +kernel
theorem d19_7 : decode jdk_52_method_15_code 7 = .ok (.i2b, 1) := by decide +kernel
theorem d19_8 : decode jdk_52_method_15_code 8 = .ok (.ireturn, 1) := by decide +kernel
theorem own_ef_rs_cf_1_1 (m : MethodId) (x0 : Addr) : entryFrame m #[(.ref x0), (.int (1 : Int32))] 2 = mkF m 0 #[.val (.ref x0), .val (.int (1 : Int32))] [] := by first | (simp [entryFrame, mkF, argsToLocals, Value.category]; done) | rfl
def Q_rs_cf_1_1 (Z : State) (y : Addr) (ky : ClassId) (vs : List Value) (h0 : Heap) (n0 : Nat) (v : Option Value) (h : Heap) (L : List Loc) : Prop := v = some (.int (0 : Int32)) ∧ Fr n0 L ∧ h = h0
set_option maxRecDepth 65536 in
set_option maxHeartbeats 40000000 in
theorem rs_cf_1_1 (l : Launch) (Z : State) (a0 : Array Value) (hw : ∀ d ∈ tables_1, d.before a0 Z = true) (ws : List Jvm.Cond) (y : Addr) (ky : ClassId) (vs : List Value) (h0 : Heap) (n0 : Nat) (Z0 : n0 ≤ h0.size) (V_y : Arv Z h0 y ky .byte (1 : Int32) vs (.int (0 : Int32))) :
    Met l Z mN19 jdk_52_method_15_code 2 (some .byte) ({ frames := 0, cells := 0, slots := 0, locals := 0 } : Room) ws #[(.ref y), (.int (1 : Int32))] h0 (Q_rs_cf_1_1 Z y ky vs h0 n0) := by
  refine own_met (plainFor_of_name own_pn3) ?_
  intro p e s m below meth c s₁ hret hx hby hlk hml hown hnm X0 e0 hZ hh
  have N0 := Fr.nil n0
  refine Gs (fun _ tk => castTop (own_ef_rs_cf_1_1 m y) tk) ?_
  show Goes _ _ _ _ _ (s₁.setTop (mkF m 0 #[.val (.ref y), .val (.int (1 : Int32))] []))
  refine Gs (fun _ tk => XS.iloadN X0.here hx rfl (hb hby d19_0) rfl tk) ?_
  refine Gs (fun _ tk => XS.aloadN X0.here hx rfl (hb hby d19_1) rfl rfl tk) ?_
  obtain ⟨cl1, Ar1, -, S1, N1z, -, -⟩ := id V_y
  refine Gs (fun _ tk => X0.arraylength hx (by rw [e0]; exact Ar1.1) (State.isArrayOf_alike hZ.alike Ar1.2.1) (g := (mkF m 2 #[.val (.ref y), .val (.int (1 : Int32))] [(.ref y), (.int (1 : Int32))])) rfl rfl (hb hby d19_2) _ tk) ?_
  rw [len_of S1 N1z]
  show Goes _ _ _ _ _ (s₁.setTop (mkF m 3 #[.val (.ref y), .val (.int (1 : Int32))] [(.int (1 : Int32)), (.int (1 : Int32))]))
  refine Gs (fun _ tk => XS.isub X0.here hx rfl (hb hby d19_3) rfl tk) ?_
  rw [show ((1 : Int32) - (1 : Int32)) = (0 : Int32) from by decide]
  show Goes _ _ _ _ _ (s₁.setTop (mkF m 4 #[.val (.ref y), .val (.int (1 : Int32))] [(.int (0 : Int32))]))
  refine Gs (fun _ tk => XS.bipush X0.here hx rfl (hb hby d19_4) tk) ?_
  show Goes _ _ _ _ _ (s₁.setTop (mkF m 6 #[.val (.ref y), .val (.int (1 : Int32))] [(.int (31 : Int32)), (.int (0 : Int32))]))
  refine Gs (fun _ tk => XS.iushr X0.here hx rfl (hb hby d19_6) rfl tk) ?_
  rw [show (((0 : Int32).toUInt32 >>> ((31 : Int32) &&& 31).toUInt32).toInt32) = (0 : Int32) from by decide]
  show Goes _ _ _ _ _ (s₁.setTop (mkF m 7 #[.val (.ref y), .val (.int (1 : Int32))] [(.int (0 : Int32))]))
  refine Gs (fun _ tk => XS.i2b X0.here hx rfl (hb hby d19_7) rfl tk) ?_
  rw [show ((0 : Int32).toInt8.toInt32) = (0 : Int32) from by decide]
  show Goes _ _ _ _ _ (s₁.setTop (mkF m 8 #[.val (.ref y), .val (.int (1 : Int32))] [(.int (0 : Int32))]))
  refine Goes.ret X0 (some (.int (0 : Int32))) (fun h => by rw [hret] at h; cases h) hlk (by decide) (by decide) ?_ (fun fs hr => ?_)
  · exact ⟨rfl, N0, e0⟩
  · exact own_retN X0 hx (t := .byte) hret (by simp) rfl (hb hby d19_8) hr
theorem own_ef_rs_cf_1_2 (m : MethodId) (x0 : Addr) : entryFrame m #[(.ref x0), (.int (1 : Int32))] 2 = mkF m 0 #[.val (.ref x0), .val (.int (1 : Int32))] [] := by first | (simp [entryFrame, mkF, argsToLocals, Value.category]; done) | rfl
def Q_rs_cf_1_2 (Z : State) (y : Addr) (ky : ClassId) (vs : List Value) (h0 : Heap) (n0 : Nat) (v : Option Value) (h : Heap) (L : List Loc) : Prop := v = some (.int (1 : Int32)) ∧ Fr n0 L ∧ h = h0
set_option maxRecDepth 65536 in
set_option maxHeartbeats 40000000 in
theorem rs_cf_1_2 (l : Launch) (Z : State) (a0 : Array Value) (hw : ∀ d ∈ tables_1, d.before a0 Z = true) (ws : List Jvm.Cond) (y : Addr) (ky : ClassId) (vs : List Value) (h0 : Heap) (n0 : Nat) (Z0 : n0 ≤ h0.size) (V_y : Arv Z h0 y ky .byte (2 : Int32) vs (.int (0 : Int32))) :
    Met l Z mN19 jdk_52_method_15_code 2 (some .byte) ({ frames := 0, cells := 0, slots := 0, locals := 0 } : Room) ws #[(.ref y), (.int (1 : Int32))] h0 (Q_rs_cf_1_2 Z y ky vs h0 n0) := by
  refine own_met (plainFor_of_name own_pn3) ?_
  intro p e s m below meth c s₁ hret hx hby hlk hml hown hnm X0 e0 hZ hh
  have N0 := Fr.nil n0
  refine Gs (fun _ tk => castTop (own_ef_rs_cf_1_2 m y) tk) ?_
  show Goes _ _ _ _ _ (s₁.setTop (mkF m 0 #[.val (.ref y), .val (.int (1 : Int32))] []))
  refine Gs (fun _ tk => XS.iloadN X0.here hx rfl (hb hby d19_0) rfl tk) ?_
  refine Gs (fun _ tk => XS.aloadN X0.here hx rfl (hb hby d19_1) rfl rfl tk) ?_
  obtain ⟨cl1, Ar1, -, S1, N1z, -, -⟩ := id V_y
  refine Gs (fun _ tk => X0.arraylength hx (by rw [e0]; exact Ar1.1) (State.isArrayOf_alike hZ.alike Ar1.2.1) (g := (mkF m 2 #[.val (.ref y), .val (.int (1 : Int32))] [(.ref y), (.int (1 : Int32))])) rfl rfl (hb hby d19_2) _ tk) ?_
  rw [len_of S1 N1z]
  show Goes _ _ _ _ _ (s₁.setTop (mkF m 3 #[.val (.ref y), .val (.int (1 : Int32))] [(.int (2 : Int32)), (.int (1 : Int32))]))
  refine Gs (fun _ tk => XS.isub X0.here hx rfl (hb hby d19_3) rfl tk) ?_
  rw [show ((1 : Int32) - (2 : Int32)) = (-1 : Int32) from by decide]
  show Goes _ _ _ _ _ (s₁.setTop (mkF m 4 #[.val (.ref y), .val (.int (1 : Int32))] [(.int (-1 : Int32))]))
  refine Gs (fun _ tk => XS.bipush X0.here hx rfl (hb hby d19_4) tk) ?_
  show Goes _ _ _ _ _ (s₁.setTop (mkF m 6 #[.val (.ref y), .val (.int (1 : Int32))] [(.int (31 : Int32)), (.int (-1 : Int32))]))
  refine Gs (fun _ tk => XS.iushr X0.here hx rfl (hb hby d19_6) rfl tk) ?_
  rw [show (((-1 : Int32).toUInt32 >>> ((31 : Int32) &&& 31).toUInt32).toInt32) = (1 : Int32) from by decide]
  show Goes _ _ _ _ _ (s₁.setTop (mkF m 7 #[.val (.ref y), .val (.int (1 : Int32))] [(.int (1 : Int32))]))
  refine Gs (fun _ tk => XS.i2b X0.here hx rfl (hb hby d19_7) rfl tk) ?_
  rw [show ((1 : Int32).toInt8.toInt32) = (1 : Int32) from by decide]
  show Goes _ _ _ _ _ (s₁.setTop (mkF m 8 #[.val (.ref y), .val (.int (1 : Int32))] [(.int (1 : Int32))]))
  refine Goes.ret X0 (some (.int (1 : Int32))) (fun h => by rw [hret] at h; cases h) hlk (by decide) (by decide) ?_ (fun fs hr => ?_)
  · exact ⟨rfl, N0, e0⟩
  · exact own_retN X0 hx (t := .byte) hret (by simp) rfl (hb hby d19_8) hr
theorem d11_27 : decode jdk_42_method_149_code 27 = .ok (.getstatic 38, 3) := by decide +kernel
theorem d11_30 : decode jdk_42_method_149_code 30 = .ok (.ifCond .eq 28, 3) := by decide +kernel
theorem d11_33 : decode jdk_42_method_149_code 33 = .ok (.aload_n 1, 1) := by decide +kernel
theorem d11_34 : decode jdk_42_method_149_code 34 = .ok (.iload_n 2, 1) := by decide +kernel
theorem d11_35 : decode jdk_42_method_149_code 35 = .ok (.iload_n 3, 1) := by decide +kernel
theorem d11_36 : decode jdk_42_method_149_code 36 = .ok (.invokestatic 177, 3) := by decide +kernel
theorem d11_39 : decode jdk_42_method_149_code 39 = .ok (.astore 5, 2) := by decide +kernel
theorem d11_41 : decode jdk_42_method_149_code 41 = .ok (.aload_n 0, 1) := by decide +kernel
theorem d11_42 : decode jdk_42_method_149_code 42 = .ok (.aload 5, 2) := by decide +kernel
theorem d11_44 : decode jdk_42_method_149_code 44 = .ok (.iload_n 3, 1) := by decide +kernel
theorem d11_45 : decode jdk_42_method_149_code 45 = .ok (.invokestatic 47, 3) := by decide +kernel
theorem own_pd13 : parseMethodDescriptor "([BI)B" = some ⟨[(.array .byte), .int], some .byte⟩ := by decide +kernel
theorem d11_48 : decode jdk_42_method_149_code 48 = .ok (.putfield 15, 3) := by decide +kernel
theorem d11_51 : decode jdk_42_method_149_code 51 = .ok (.aload_n 0, 1) := by decide +kernel
theorem d11_52 : decode jdk_42_method_149_code 52 = .ok (.aload 5, 2) := by decide +kernel
theorem d11_54 : decode jdk_42_method_149_code 54 = .ok (.putfield 9, 3) := by decide +kernel
theorem d11_57 : decode jdk_42_method_149_code 57 = .ok (.return_, 1) := by decide +kernel
theorem own_ef_rs_i4_1 (m : MethodId) (x0 : Addr) (x1 : Addr) : entryFrame m #[(.ref x0), (.ref x1), (.int (0 : Int32)), (.int (1 : Int32)), .null] 6 = mkF m 0 #[.val (.ref x0), .val (.ref x1), .val (.int (0 : Int32)), .val (.int (1 : Int32)), .val .null, .unset] [] := by first | (simp [entryFrame, mkF, argsToLocals, Value.category]; done) | rfl
def Q_rs_i4_1 (Z : State) (a : Addr) (x : Addr) (kx : ClassId) (c0 : Int32) (cz : Int32) (h0 : Heap) (n0 : Nat) (v : Option Value) (h : Heap) (L : List Loc) : Prop := v = none ∧ Fr n0 L ∧ Keep h0 h [a] ∧ StrOf Z h a [c0]
set_option maxRecDepth 65536 in
set_option maxHeartbeats 40000000 in
theorem rs_i4_1 (l : Launch) (Z : State) (a0 : Array Value) (hw : ∀ d ∈ tables_1, d.before a0 Z = true) (ws : List Jvm.Cond) (a : Addr) (x : Addr) (kx : ClassId) (c0 : Int32) (cz : Int32) (h0 : Heap) (n0 : Nat) (Z0 : n0 ≤ h0.size) (A_a : Exa Z h0 a "java/lang/String") (F_value_a : Fld Z h0 a "java/lang/String" "value" "[B" .null) (F_coder_a : Fld Z h0 a "java/lang/String" "coder" "B" (.int (0 : Int32))) (V_x : Arv Z h0 x kx .char (1 : Int32) [(.int c0)] (.int (0 : Int32))) (g_a : n0 ≤ a) (ne_x_a : x ≠ a) (S_COMPACT_STRINGS : Sta Z h0 "java/lang/String" "COMPACT_STRINGS" "Z" (.int cz)) (hcz : ¬ (cz = (0 : Int32))) (hC_c0 : Chr c0) (S__assertionsDisabled : Sta Z h0 "java/lang/StringUTF16" "$assertionsDisabled" "Z" (.int (1 : Int32))) (S_HI_BYTE_SHIFT : Sta Z h0 "java/lang/StringUTF16" "HI_BYTE_SHIFT" "I" (.int (0 : Int32))) (S_LO_BYTE_SHIFT : Sta Z h0 "java/lang/StringUTF16" "LO_BYTE_SHIFT" "I" (.int (8 : Int32))) :
    Met l Z mN11 jdk_42_method_149_code 6 none ({ frames := 4, cells := 2, slots := 3, locals := 57 } : Room) ws #[(.ref a), (.ref x), (.int (0 : Int32)), (.int (1 : Int32)), .null] h0 (Q_rs_i4_1 Z a x kx c0 cz h0 n0) := by
  refine own_met (plainFor_of_name own_pn0) ?_
  intro p e s m below meth c s₁ hret hx hby hlk hml hown hnm X0 e0 hZ hh
  have N0 := Fr.nil n0
  refine Gs (fun _ tk => castTop (own_ef_rs_i4_1 m a x) tk) ?_
  have KP : Keep h0 h0 [a] := Keep.refl _ _
  show Goes _ _ _ _ _ (s₁.setTop (mkF m 0 #[.val (.ref a), .val (.ref x), .val (.int (0 : Int32)), .val (.int (1 : Int32)), .val .null, .unset] []))
  by_cases hn_c0 : (255 : Int32) < c0
  · show Goes _ _ _ _ _ (s₁.setTop (mkF m 0 #[.val (.ref a), .val (.ref x), .val (.int (0 : Int32)), .val (.int (1 : Int32)), .val .null, .unset] []))
    refine Gs (fun _ tk => XS.aloadN X0.here hx rfl (hb hby d11_0) rfl rfl tk) ?_
    obtain ⟨T1, X1, e1, st1⟩ := initO X0 hx hZ hown (gw hw 16 rfl) (gw hw 17 rfl) (gw hw 18 rfl) e0 (g := (mkF m 1 #[.val (.ref a), .val (.ref x), .val (.int (0 : Int32)), .val (.int (1 : Int32)), .val .null, .unset] [(.ref a)])) rfl (by rw [hml]; rfl) rfl (hb hby d11_1) (by decide) (W := 0) (w0 (Nat.le_of_eq rfl)) (by decide)
    refine Gs st1 ?_
    show Goes _ _ _ _ _ (T1.setTop (mkF m 4 #[.val (.ref a), .val (.ref x), .val (.int (0 : Int32)), .val (.int (1 : Int32)), .val .null, .unset] []))
    refine Gs (fun _ tk => XS.iloadN X1.here hx rfl (hb hby d11_4) rfl tk) ?_
    refine Gs (fun _ tk => XS.ifYes X1.here hx rfl (pc0 := 5) (pc' := 27) rfl (hb hby d11_5) rfl ((if0 _ _).trans (feq (by decide : ¬ ((1 : Int32) = (0 : Int32)))).2) (by decide) (by decide) tk) ?_
    obtain ⟨T2, X2, e2, st2⟩ := getS2 X1 hx hZ hown (host := "") (Or.inl (gw hw 41 rfl)) Via.refl e1 S_COMPACT_STRINGS (g := (mkF m 27 #[.val (.ref a), .val (.ref x), .val (.int (0 : Int32)), .val (.int (1 : Int32)), .val .null, .unset] [])) rfl (hb hby d11_27)
    refine Gs st2 ?_
    show Goes _ _ _ _ _ (T2.setTop (mkF m 30 #[.val (.ref a), .val (.ref x), .val (.int (0 : Int32)), .val (.int (1 : Int32)), .val .null, .unset] [(.int cz)]))
    refine Gs (fun _ tk => XS.ifNo X2.here hx rfl (hb hby d11_30) rfl ((if0 _ _).trans (feq hcz).1) tk) ?_
    refine Gs (fun _ tk => XS.aloadN X2.here hx rfl (hb hby d11_33) rfl rfl tk) ?_
    refine Gs (fun _ tk => XS.iloadN X2.here hx rfl (hb hby d11_34) rfl tk) ?_
    refine Gs (fun _ tk => XS.iloadN X2.here hx rfl (hb hby d11_35) rfl tk) ?_
    have ltc3_a : a < h0.size := A_a.lt
    have ltc3_x : x < h0.size := V_x.lt
    obtain ⟨_, _, ⟨T3, L3, k3, n3⟩, -, X3, ⟨Lc3, hQ3, l3, y3, z3⟩, st3⟩ := Jvm.LawKit.callS X2 hx (y := mN18) hown (mvT hZ (gw hw 45 rfl)) (mvT hZ (gw hw 46 rfl)) (mvT hZ (gw hw 47 rfl)) (mvT hZ (gw hw 48 rfl)) (by decide) (backOf (W := 0) (rs_c3_1_0 l Z a0 hw [] x kx c0 h0 n0 Z0 V_x (by first | assumption | decide) (by first | assumption | decide) S__assertionsDisabled S_HI_BYTE_SHIFT S_LO_BYTE_SHIFT) hZ (gw hw 48 rfl) (gw hw 47 rfl) (by decide) (by decide)) (g := (mkF m 36 #[.val (.ref a), .val (.ref x), .val (.int (0 : Int32)), .val (.int (1 : Int32)), .val .null, .unset] [(.int (1 : Int32)), (.int (0 : Int32)), (.ref x)])) rfl (by rw [hml]; rfl) (argsL := [(.ref x), (.int (0 : Int32)), (.int (1 : Int32))]) (rest := []) (lenOf own_pd12 rfl) rfl (w0 (Nat.le_of_eq rfl)) (hb hby d11_36) (fun _ _ => ⟨rfl, e2, (by decide : 0 + 2 ≤ _), (by decide : 0 + 3 ≤ _)⟩)
    dsimp only [Pt.U, Pt.locs, Pt.cells, Pt.slots] at X3 l3 y3 z3 st3 hQ3
    subst l3 y3 z3
    obtain ⟨y3, ky3, rfl, N3q, K3, V_y3_3', g_y3_3', sz_y3_3'⟩ := hQ3
    have N3 := Fr.app N0 N3q
    replace S_COMPACT_STRINGS := own_staK S_COMPACT_STRINGS K3 all0
    replace A_a := A_a.keep K3
    replace F_value_a := F_value_a.keep K3 nin0
    replace F_coder_a := F_coder_a.keep K3 nin0
    replace V_x := V_x.keep K3 nin0
    replace KP := KP.trans K3 all0
    replace Z0 := Nat.le_trans Z0 K3.1
    have V_y3 := V_y3_3'
    have g_y3 := g_y3_3'
    have szc_y3 := sz_y3_3'
    have ne_a_y3 : a ≠ y3 := Nat.ne_of_lt (Nat.lt_of_lt_of_le ltc3_a szc_y3)
    have ne_x_y3 : x ≠ y3 := Nat.ne_of_lt (Nat.lt_of_lt_of_le ltc3_x szc_y3)
    refine Gs st3 ?_
    show Goes _ _ _ _ _ (T3.setTop (mkF m 39 #[.val (.ref a), .val (.ref x), .val (.int (0 : Int32)), .val (.int (1 : Int32)), .val .null, .unset] [(.ref y3)]))
    refine Gs (fun _ tk => XS.astore X3.here hx rfl (hb hby d11_39) rfl rfl (l' := #[.val (.ref a), .val (.ref x), .val (.int (0 : Int32)), .val (.int (1 : Int32)), .val .null, .val (.ref y3)]) rfl tk) ?_
    refine Gs (fun _ tk => XS.aloadN X3.here hx rfl (hb hby d11_41) rfl rfl tk) ?_
    refine Gs (fun _ tk => XS.aload X3.here hx rfl (hb hby d11_42) rfl rfl tk) ?_
    refine Gs (fun _ tk => XS.iloadN X3.here hx rfl (hb hby d11_44) rfl tk) ?_
    obtain ⟨_, _, ⟨T4, L4, k4, n4⟩, -, X4, ⟨Lc4, hQ4, l4, y4, z4⟩, st4⟩ := Jvm.LawKit.callS X3 hx (y := mN19) hown (mvT hZ (gw hw 52 rfl)) (mvT hZ (gw hw 53 rfl)) (mvT hZ (gw hw 47 rfl)) (mvT hZ (gw hw 54 rfl)) (by decide) (backOf (W := 1) (rs_cf_1_2 l Z a0 hw [] y3 ky3 [(.int (lo8 c0)), (.int (hi8 c0))] T3.heap n0 Z0 V_y3) hZ (gw hw 54 rfl) (gw hw 47 rfl) (by decide) (by decide)) (g := (mkF m 45 #[.val (.ref a), .val (.ref x), .val (.int (0 : Int32)), .val (.int (1 : Int32)), .val .null, .val (.ref y3)] [(.int (1 : Int32)), (.ref y3), (.ref a)])) rfl (by rw [hml]; rfl) (argsL := [(.ref y3), (.int (1 : Int32))]) (rest := [(.ref a)]) (lenOf own_pd13 rfl) rfl (w0 (Nat.le_of_eq rfl)) (hb hby d11_45) (fun _ _ => ⟨rfl, rfl, (by decide : 2 + 0 ≤ _), (by decide : 3 + 0 ≤ _)⟩)
    dsimp only [Pt.U, Pt.locs, Pt.cells, Pt.slots] at X4 l4 y4 z4 st4 hQ4
    subst l4 y4 z4
    obtain ⟨rfl, N4q, e4⟩ := hQ4
    have N4 := Fr.app N3 N4q
    refine Gs st4 ?_
    show Goes _ _ _ _ _ (T4.setTop (mkF m 48 #[.val (.ref a), .val (.ref x), .val (.int (0 : Int32)), .val (.int (1 : Int32)), .val .null, .val (.ref y3)] [(.int (1 : Int32)), (.ref a)]))
    obtain ⟨T5, h5, X5, e5, W5, st5⟩ := putFN X4 hx hZ hown (gw hw 26 rfl) Via.refl e4 F_coder_a A_a (Or.inr ⟨(gw hw 22 rfl), rfl, hnm⟩) (gw hw 6 rfl) (ty := .byte) (v' := .int (1 : Int32)) (by decide) rfl rfl (g := (mkF m 48 #[.val (.ref a), .val (.ref x), .val (.int (0 : Int32)), .val (.int (1 : Int32)), .val .null, .val (.ref y3)] [(.int (1 : Int32)), (.ref a)])) rfl rfl (hb hby d11_48)
    have N5 := Fr.snoc X5 N4 g_a
    replace A_a := A_a.wr W5
    replace F_value_a := F_value_a.other W5 (Or.inr (slot_ne (Or.inr (gw hw 21 rfl)) (Or.inr (gw hw 22 rfl)) (by decide) (t := (.array .byte)) (t' := .byte) (by decide) (by decide)))
    replace V_x := V_x.other W5 ne_x_a
    replace S_COMPACT_STRINGS := S_COMPACT_STRINGS.wr W5
    replace V_y3 := V_y3.other W5 (Ne.symm ne_a_y3)
    replace KP := KP.wr W5 (Or.inl (List.mem_of_getElem? (i := 0) rfl))
    replace F_coder_a := F_coder_a.same W5
    replace Z0 : n0 ≤ h5.size := by rw [W5.size]; exact Z0
    refine Gs st5 ?_
    show Goes _ _ _ _ _ (T5.setTop (mkF m 51 #[.val (.ref a), .val (.ref x), .val (.int (0 : Int32)), .val (.int (1 : Int32)), .val .null, .val (.ref y3)] []))
    refine Gs (fun _ tk => XS.aloadN X5.here hx rfl (hb hby d11_51) rfl rfl tk) ?_
    refine Gs (fun _ tk => XS.aload X5.here hx rfl (hb hby d11_52) rfl rfl tk) ?_
    obtain ⟨T6, h6, X6, e6, W6, st6⟩ := putF X5 hx hZ hown (host := "") (Or.inl (gw hw 25 rfl)) Via.refl e5 F_value_a A_a (Or.inr ⟨(gw hw 21 rfl), rfl, hnm⟩) (gw hw 6 rfl) (ty := (.array .byte)) (by decide) rfl rfl (g := (mkF m 54 #[.val (.ref a), .val (.ref x), .val (.int (0 : Int32)), .val (.int (1 : Int32)), .val .null, .val (.ref y3)] [(.ref y3), (.ref a)])) rfl rfl (hb hby d11_54)
    have N6 := Fr.snoc X6 N5 g_a
    replace A_a := A_a.wr W6
    replace F_coder_a := F_coder_a.other W6 (Or.inr (slot_ne (Or.inr (gw hw 22 rfl)) (Or.inr (gw hw 21 rfl)) (by decide) (t := .byte) (t' := (.array .byte)) (by decide) (by decide)))
    replace V_x := V_x.other W6 ne_x_a
    replace S_COMPACT_STRINGS := S_COMPACT_STRINGS.wr W6
    replace V_y3 := V_y3.other W6 (Ne.symm ne_a_y3)
    replace KP := KP.wr W6 (Or.inl (List.mem_of_getElem? (i := 0) rfl))
    replace F_value_a := F_value_a.same W6
    replace Z0 : n0 ≤ h6.size := by rw [W6.size]; exact Z0
    refine Gs st6 ?_
    show Goes _ _ _ _ _ (T6.setTop (mkF m 57 #[.val (.ref a), .val (.ref x), .val (.int (0 : Int32)), .val (.int (1 : Int32)), .val .null, .val (.ref y3)] []))
    have T_a : StrOf Z h6 a [c0] := StrOf.utf A_a F_value_a F_coder_a V_y3 (by intro c hc; simp only [List.mem_cons, List.not_mem_nil, or_false] at hc; rcases hc with rfl <;> first | assumption | (exact own_toLat (by assumption) (by assumption))) rfl rfl (Nat.le_of_ble_eq_true rfl)
    refine Goes.ret X6 none (fun _ => rfl) hlk (by decide) (by decide) ?_ (fun fs hr => ?_)
    · rw [e6]; exact ⟨rfl, N6, KP, T_a⟩
    · exact X6.returnOut hx hret (hb hby d11_57) hr
  · show Goes _ _ _ _ _ (s₁.setTop (mkF m 0 #[.val (.ref a), .val (.ref x), .val (.int (0 : Int32)), .val (.int (1 : Int32)), .val .null, .unset] []))
    show Goes _ _ _ _ _ (s₁.setTop (mkF m 0 #[.val (.ref a), .val (.ref x), .val (.int (0 : Int32)), .val (.int (1 : Int32)), .val .null, .unset] []))
    refine Gs (fun _ tk => XS.aloadN X0.here hx rfl (hb hby d11_0) rfl rfl tk) ?_
    obtain ⟨T7, X7, e7, st7⟩ := initO X0 hx hZ hown (gw hw 16 rfl) (gw hw 17 rfl) (gw hw 18 rfl) e0 (g := (mkF m 1 #[.val (.ref a), .val (.ref x), .val (.int (0 : Int32)), .val (.int (1 : Int32)), .val .null, .unset] [(.ref a)])) rfl (by rw [hml]; rfl) rfl (hb hby d11_1) (by decide) (W := 0) (w0 (Nat.le_of_eq rfl)) (by decide)
    refine Gs st7 ?_
    show Goes _ _ _ _ _ (T7.setTop (mkF m 4 #[.val (.ref a), .val (.ref x), .val (.int (0 : Int32)), .val (.int (1 : Int32)), .val .null, .unset] []))
    refine Gs (fun _ tk => XS.iloadN X7.here hx rfl (hb hby d11_4) rfl tk) ?_
    refine Gs (fun _ tk => XS.ifYes X7.here hx rfl (pc0 := 5) (pc' := 27) rfl (hb hby d11_5) rfl ((if0 _ _).trans (feq (by decide : ¬ ((1 : Int32) = (0 : Int32)))).2) (by decide) (by decide) tk) ?_
    obtain ⟨T8, X8, e8, st8⟩ := getS2 X7 hx hZ hown (host := "") (Or.inl (gw hw 41 rfl)) Via.refl e7 S_COMPACT_STRINGS (g := (mkF m 27 #[.val (.ref a), .val (.ref x), .val (.int (0 : Int32)), .val (.int (1 : Int32)), .val .null, .unset] [])) rfl (hb hby d11_27)
    refine Gs st8 ?_
    show Goes _ _ _ _ _ (T8.setTop (mkF m 30 #[.val (.ref a), .val (.ref x), .val (.int (0 : Int32)), .val (.int (1 : Int32)), .val .null, .unset] [(.int cz)]))
    refine Gs (fun _ tk => XS.ifNo X8.here hx rfl (hb hby d11_30) rfl ((if0 _ _).trans (feq hcz).1) tk) ?_
    refine Gs (fun _ tk => XS.aloadN X8.here hx rfl (hb hby d11_33) rfl rfl tk) ?_
    refine Gs (fun _ tk => XS.iloadN X8.here hx rfl (hb hby d11_34) rfl tk) ?_
    refine Gs (fun _ tk => XS.iloadN X8.here hx rfl (hb hby d11_35) rfl tk) ?_
    have ltc9_a : a < h0.size := A_a.lt
    have ltc9_x : x < h0.size := V_x.lt
    obtain ⟨_, _, ⟨T9, L9, k9, n9⟩, -, X9, ⟨Lc9, hQ9, l9, y9, z9⟩, st9⟩ := Jvm.LawKit.callS X8 hx (y := mN18) hown (mvT hZ (gw hw 45 rfl)) (mvT hZ (gw hw 46 rfl)) (mvT hZ (gw hw 47 rfl)) (mvT hZ (gw hw 48 rfl)) (by decide) (backOf (W := 0) (rs_c3_1_1 l Z a0 hw [] x kx c0 h0 n0 Z0 V_x (by first | assumption | decide)) hZ (gw hw 48 rfl) (gw hw 47 rfl) (by decide) (by decide)) (g := (mkF m 36 #[.val (.ref a), .val (.ref x), .val (.int (0 : Int32)), .val (.int (1 : Int32)), .val .null, .unset] [(.int (1 : Int32)), (.int (0 : Int32)), (.ref x)])) rfl (by rw [hml]; rfl) (argsL := [(.ref x), (.int (0 : Int32)), (.int (1 : Int32))]) (rest := []) (lenOf own_pd12 rfl) rfl (w0 (Nat.le_of_eq rfl)) (hb hby d11_36) (fun _ _ => ⟨rfl, e8, (by decide : 0 + 1 ≤ _), (by decide : 0 + 1 ≤ _)⟩)
    dsimp only [Pt.U, Pt.locs, Pt.cells, Pt.slots] at X9 l9 y9 z9 st9 hQ9
    subst l9 y9 z9
    obtain ⟨y9, ky9, rfl, N9q, K9, V_y9_9', g_y9_9', sz_y9_9'⟩ := hQ9
    have N9 := Fr.app N0 N9q
    replace A_a := A_a.keep K9
    replace F_value_a := F_value_a.keep K9 nin0
    replace F_coder_a := F_coder_a.keep K9 nin0
    replace KP := KP.trans K9 all0
    replace Z0 := Nat.le_trans Z0 K9.1
    have V_y9 := V_y9_9'
    have g_y9 := g_y9_9'
    have szc_y9 := sz_y9_9'
    have ne_a_y9 : a ≠ y9 := Nat.ne_of_lt (Nat.lt_of_lt_of_le ltc9_a szc_y9)
    have ne_x_y9 : x ≠ y9 := Nat.ne_of_lt (Nat.lt_of_lt_of_le ltc9_x szc_y9)
    refine Gs st9 ?_
    show Goes _ _ _ _ _ (T9.setTop (mkF m 39 #[.val (.ref a), .val (.ref x), .val (.int (0 : Int32)), .val (.int (1 : Int32)), .val .null, .unset] [(.ref y9)]))
    refine Gs (fun _ tk => XS.astore X9.here hx rfl (hb hby d11_39) rfl rfl (l' := #[.val (.ref a), .val (.ref x), .val (.int (0 : Int32)), .val (.int (1 : Int32)), .val .null, .val (.ref y9)]) rfl tk) ?_
    refine Gs (fun _ tk => XS.aloadN X9.here hx rfl (hb hby d11_41) rfl rfl tk) ?_
    refine Gs (fun _ tk => XS.aload X9.here hx rfl (hb hby d11_42) rfl rfl tk) ?_
    refine Gs (fun _ tk => XS.iloadN X9.here hx rfl (hb hby d11_44) rfl tk) ?_
    obtain ⟨_, _, ⟨T10, L10, k10, n10⟩, -, X10, ⟨Lc10, hQ10, l10, y10, z10⟩, st10⟩ := Jvm.LawKit.callS X9 hx (y := mN19) hown (mvT hZ (gw hw 52 rfl)) (mvT hZ (gw hw 53 rfl)) (mvT hZ (gw hw 47 rfl)) (mvT hZ (gw hw 54 rfl)) (by decide) (backOf (W := 1) (rs_cf_1_1 l Z a0 hw [] y9 ky9 [(.int (lo8 c0))] T9.heap n0 Z0 V_y9) hZ (gw hw 54 rfl) (gw hw 47 rfl) (by decide) (by decide)) (g := (mkF m 45 #[.val (.ref a), .val (.ref x), .val (.int (0 : Int32)), .val (.int (1 : Int32)), .val .null, .val (.ref y9)] [(.int (1 : Int32)), (.ref y9), (.ref a)])) rfl (by rw [hml]; rfl) (argsL := [(.ref y9), (.int (1 : Int32))]) (rest := [(.ref a)]) (lenOf own_pd13 rfl) rfl (w0 (Nat.le_of_eq rfl)) (hb hby d11_45) (fun _ _ => ⟨rfl, rfl, (by decide : 1 + 0 ≤ _), (by decide : 1 + 0 ≤ _)⟩)
    dsimp only [Pt.U, Pt.locs, Pt.cells, Pt.slots] at X10 l10 y10 z10 st10 hQ10
    subst l10 y10 z10
    obtain ⟨rfl, N10q, e10⟩ := hQ10
    have N10 := Fr.app N9 N10q
    refine Gs st10 ?_
    show Goes _ _ _ _ _ (T10.setTop (mkF m 48 #[.val (.ref a), .val (.ref x), .val (.int (0 : Int32)), .val (.int (1 : Int32)), .val .null, .val (.ref y9)] [(.int (0 : Int32)), (.ref a)]))
    obtain ⟨T11, h11, X11, e11, W11, st11⟩ := putFN X10 hx hZ hown (gw hw 26 rfl) Via.refl e10 F_coder_a A_a (Or.inr ⟨(gw hw 22 rfl), rfl, hnm⟩) (gw hw 6 rfl) (ty := .byte) (v' := .int (0 : Int32)) (by decide) rfl rfl (g := (mkF m 48 #[.val (.ref a), .val (.ref x), .val (.int (0 : Int32)), .val (.int (1 : Int32)), .val .null, .val (.ref y9)] [(.int (0 : Int32)), (.ref a)])) rfl rfl (hb hby d11_48)
    have N11 := Fr.snoc X11 N10 g_a
    replace A_a := A_a.wr W11
    replace F_value_a := F_value_a.other W11 (Or.inr (slot_ne (Or.inr (gw hw 21 rfl)) (Or.inr (gw hw 22 rfl)) (by decide) (t := (.array .byte)) (t' := .byte) (by decide) (by decide)))
    replace V_y9 := V_y9.other W11 (Ne.symm ne_a_y9)
    replace KP := KP.wr W11 (Or.inl (List.mem_of_getElem? (i := 0) rfl))
    replace F_coder_a := F_coder_a.same W11
    replace Z0 : n0 ≤ h11.size := by rw [W11.size]; exact Z0
    refine Gs st11 ?_
    show Goes _ _ _ _ _ (T11.setTop (mkF m 51 #[.val (.ref a), .val (.ref x), .val (.int (0 : Int32)), .val (.int (1 : Int32)), .val .null, .val (.ref y9)] []))
    refine Gs (fun _ tk => XS.aloadN X11.here hx rfl (hb hby d11_51) rfl rfl tk) ?_
    refine Gs (fun _ tk => XS.aload X11.here hx rfl (hb hby d11_52) rfl rfl tk) ?_
    obtain ⟨T12, h12, X12, e12, W12, st12⟩ := putF X11 hx hZ hown (host := "") (Or.inl (gw hw 25 rfl)) Via.refl e11 F_value_a A_a (Or.inr ⟨(gw hw 21 rfl), rfl, hnm⟩) (gw hw 6 rfl) (ty := (.array .byte)) (by decide) rfl rfl (g := (mkF m 54 #[.val (.ref a), .val (.ref x), .val (.int (0 : Int32)), .val (.int (1 : Int32)), .val .null, .val (.ref y9)] [(.ref y9), (.ref a)])) rfl rfl (hb hby d11_54)
    have N12 := Fr.snoc X12 N11 g_a
    replace A_a := A_a.wr W12
    replace F_coder_a := F_coder_a.other W12 (Or.inr (slot_ne (Or.inr (gw hw 22 rfl)) (Or.inr (gw hw 21 rfl)) (by decide) (t := .byte) (t' := (.array .byte)) (by decide) (by decide)))
    replace V_y9 := V_y9.other W12 (Ne.symm ne_a_y9)
    replace KP := KP.wr W12 (Or.inl (List.mem_of_getElem? (i := 0) rfl))
    replace F_value_a := F_value_a.same W12
    replace Z0 : n0 ≤ h12.size := by rw [W12.size]; exact Z0
    refine Gs st12 ?_
    show Goes _ _ _ _ _ (T12.setTop (mkF m 57 #[.val (.ref a), .val (.ref x), .val (.int (0 : Int32)), .val (.int (1 : Int32)), .val .null, .val (.ref y9)] []))
    have T_a : StrOf Z h12 a [c0] := StrOf.latin A_a F_value_a F_coder_a V_y9 (by intro c hc; simp only [List.mem_cons, List.not_mem_nil, or_false] at hc; rcases hc with rfl <;> first | assumption | (exact own_toLat (by assumption) (by assumption))) rfl rfl (Nat.le_of_ble_eq_true rfl)
    refine Goes.ret X12 none (fun _ => rfl) hlk (by decide) (by decide) ?_ (fun fs hr => ?_)
    · rw [e12]; exact ⟨rfl, N12, KP, T_a⟩
    · exact X12.returnOut hx hret (hb hby d11_57) hr
theorem own_ef_rs_i1_1 (m : MethodId) (x0 : Addr) (x1 : Addr) : entryFrame m #[(.ref x0), (.ref x1)] 2 = mkF m 0 #[.val (.ref x0), .val (.ref x1)] [] := by first | (simp [entryFrame, mkF, argsToLocals, Value.category]; done) | rfl
def Q_rs_i1_1 (Z : State) (a : Addr) (x : Addr) (kx : ClassId) (c0 : Int32) (cz : Int32) (h0 : Heap) (n0 : Nat) (v : Option Value) (h : Heap) (L : List Loc) : Prop := v = none ∧ Fr n0 L ∧ Keep h0 h [a] ∧ StrOf Z h a [c0]
set_option maxRecDepth 65536 in
set_option maxHeartbeats 40000000 in
theorem rs_i1_1 (l : Launch) (Z : State) (a0 : Array Value) (hw : ∀ d ∈ tables_1, d.before a0 Z = true) (ws : List Jvm.Cond) (a : Addr) (x : Addr) (kx : ClassId) (c0 : Int32) (cz : Int32) (h0 : Heap) (n0 : Nat) (Z0 : n0 ≤ h0.size) (A_a : Exa Z h0 a "java/lang/String") (F_value_a : Fld Z h0 a "java/lang/String" "value" "[B" .null) (F_coder_a : Fld Z h0 a "java/lang/String" "coder" "B" (.int (0 : Int32))) (V_x : Arv Z h0 x kx .char (1 : Int32) [(.int c0)] (.int (0 : Int32))) (g_a : n0 ≤ a) (ne_x_a : x ≠ a) (S_COMPACT_STRINGS : Sta Z h0 "java/lang/String" "COMPACT_STRINGS" "Z" (.int cz)) (hcz : ¬ (cz = (0 : Int32))) (hC_c0 : Chr c0) (S__assertionsDisabled : Sta Z h0 "java/lang/StringUTF16" "$assertionsDisabled" "Z" (.int (1 : Int32))) (S_HI_BYTE_SHIFT : Sta Z h0 "java/lang/StringUTF16" "HI_BYTE_SHIFT" "I" (.int (0 : Int32))) (S_LO_BYTE_SHIFT : Sta Z h0 "java/lang/StringUTF16" "LO_BYTE_SHIFT" "I" (.int (8 : Int32))) :
    Met l Z mN12 jdk_42_method_3_code 2 none ({ frames := 5, cells := 2, slots := 3, locals := 74 } : Room) ws #[(.ref a), (.ref x)] h0 (Q_rs_i1_1 Z a x kx c0 cz h0 n0) := by
  refine own_met (plainFor_of_name own_pn0) ?_
  intro p e s m below meth c s₁ hret hx hby hlk hml hown hnm X0 e0 hZ hh
  have N0 := Fr.nil n0
  refine Gs (fun _ tk => castTop (own_ef_rs_i1_1 m a x) tk) ?_
  have KP : Keep h0 h0 [a] := Keep.refl _ _
  show Goes _ _ _ _ _ (s₁.setTop (mkF m 0 #[.val (.ref a), .val (.ref x)] []))
  refine Gs (fun _ tk => XS.aloadN X0.here hx rfl (hb hby d12_0) rfl rfl tk) ?_
  refine Gs (fun _ tk => XS.aloadN X0.here hx rfl (hb hby d12_1) rfl rfl tk) ?_
  refine Gs (fun _ tk => XS.iconst X0.here hx rfl (hb hby d12_2) tk) ?_
  refine Gs (fun _ tk => XS.aloadN X0.here hx rfl (hb hby d12_3) rfl rfl tk) ?_
  obtain ⟨cl1, Ar1, -, S1, N1z, -, -⟩ := id V_x
  refine Gs (fun _ tk => X0.arraylength hx (by rw [e0]; exact Ar1.1) (State.isArrayOf_alike hZ.alike Ar1.2.1) (g := (mkF m 4 #[.val (.ref a), .val (.ref x)] [(.ref x), (.int (0 : Int32)), (.ref x), (.ref a)])) rfl rfl (hb hby d12_4) _ tk) ?_
  rw [len_of S1 N1z]
  show Goes _ _ _ _ _ (s₁.setTop (mkF m 5 #[.val (.ref a), .val (.ref x)] [(.int (1 : Int32)), (.int (0 : Int32)), (.ref x), (.ref a)]))
  refine Gs (fun _ tk => XS.aconstNull X0.here hx rfl (hb hby d12_5) tk) ?_
  obtain ⟨_, _, ⟨T2, L2, k2, n2⟩, -, X2, ⟨Lc2, hQ2, l2, y2, z2⟩, st2⟩ := X0.specialBack hx (y := mN11) rfl hown (mvT hZ (gw hw 12 rfl)) (mvT hZ (gw hw 13 rfl)) (mvT hZ (gw hw 15 rfl)) (by decide) (backOf (W := 0) (rs_i4_1 l Z a0 hw [] a x kx c0 cz h0 n0 Z0 A_a F_value_a F_coder_a V_x g_a ne_x_a S_COMPACT_STRINGS (by first | assumption | decide) (by first | assumption | decide) S__assertionsDisabled S_HI_BYTE_SHIFT S_LO_BYTE_SHIFT) hZ (gw hw 15 rfl) (gw hw 7 rfl) (by decide) (by decide)) (g := (mkF m 6 #[.val (.ref a), .val (.ref x)] [.null, (.int (1 : Int32)), (.int (0 : Int32)), (.ref x), (.ref a)])) rfl (by rw [hml]; rfl) (Steps.refl _) (a := a) (argsL := [(.ref x), (.int (0 : Int32)), (.int (1 : Int32)), .null]) (rest := []) (lenOf own_pd7 rfl) rfl (w0 (Nat.le_of_eq rfl)) (hb hby d12_6) (fun _ _ => ⟨rfl, e0, (by decide : 0 + 2 ≤ _), (by decide : 0 + 3 ≤ _)⟩)
  dsimp only [Pt.U, Pt.locs, Pt.cells, Pt.slots] at X2 l2 y2 z2 st2 hQ2
  subst l2 y2 z2
  obtain ⟨rfl, N2q, K2, T_a_2'⟩ := hQ2
  have N2 := Fr.app N0 N2q
  replace KP := KP.trans K2 (allS (Or.inl (List.mem_of_getElem? (i := 0) rfl)) all0)
  replace Z0 := Nat.le_trans Z0 K2.1
  have T_a := T_a_2'
  refine Gs (fun _ tk => st2.trans tk) ?_
  show Goes _ _ _ _ _ (T2.setTop (mkF m 9 #[.val (.ref a), .val (.ref x)] []))
  refine Goes.ret X2 none (fun _ => rfl) hlk (by decide) (by decide) ?_ (fun fs hr => ?_)
  · exact ⟨rfl, N2, KP, T_a⟩
  · exact X2.returnOut hx hret (hb hby d12_9) hr
theorem own_ef_rs_pc_2_0 (m : MethodId) (x0 : Addr) (x2 : Int32) : entryFrame m #[(.ref x0), (.int (0 : Int32)), (.int x2)] 3 = mkF m 0 #[.val (.ref x0), .val (.int (0 : Int32)), .val (.int x2)] [] := by first | (simp [entryFrame, mkF, argsToLocals, Value.category]; done) | rfl
def Q_rs_pc_2_0 (Z : State) (y : Addr) (ky : ClassId) (c0 : Int32) (h0 : Heap) (n0 : Nat) (v : Option Value) (h : Heap) (L : List Loc) : Prop := v = none ∧ Fr n0 L ∧ Keep h0 h [y] ∧ Arv Z h y ky .byte (4 : Int32) [(.int (lo8 c0)), (.int (hi8 c0)), (.int (0 : Int32)), (.int (0 : Int32))] (.int (0 : Int32))
set_option maxRecDepth 65536 in
set_option maxHeartbeats 40000000 in
theorem rs_pc_2_0 (l : Launch) (Z : State) (a0 : Array Value) (hw : ∀ d ∈ tables_1, d.before a0 Z = true) (ws : List Jvm.Cond) (y : Addr) (ky : ClassId) (c0 : Int32) (h0 : Heap) (n0 : Nat) (Z0 : n0 ≤ h0.size) (V_y : Arv Z h0 y ky .byte (4 : Int32) [(.int (0 : Int32)), (.int (0 : Int32)), (.int (0 : Int32)), (.int (0 : Int32))] (.int (0 : Int32))) (g_y : n0 ≤ y) (S__assertionsDisabled : Sta Z h0 "java/lang/StringUTF16" "$assertionsDisabled" "Z" (.int (1 : Int32))) (S_HI_BYTE_SHIFT : Sta Z h0 "java/lang/StringUTF16" "HI_BYTE_SHIFT" "I" (.int (0 : Int32))) (S_LO_BYTE_SHIFT : Sta Z h0 "java/lang/StringUTF16" "LO_BYTE_SHIFT" "I" (.int (8 : Int32))) :
    Met l Z mN13 jdk_52_method_4_code 3 none ({ frames := 0, cells := 0, slots := 0, locals := 0 } : Room) ws #[(.ref y), (.int (0 : Int32)), (.int c0)] h0 (Q_rs_pc_2_0 Z y ky c0 h0 n0) := by
  refine own_met (plainFor_of_name own_pn3) ?_
  intro p e s m below meth c s₁ hret hx hby hlk hml hown hnm X0 e0 hZ hh
  have N0 := Fr.nil n0
  refine Gs (fun _ tk => castTop (own_ef_rs_pc_2_0 m y c0) tk) ?_
  have KP : Keep h0 h0 [y] := Keep.refl _ _
  show Goes _ _ _ _ _ (s₁.setTop (mkF m 0 #[.val (.ref y), .val (.int (0 : Int32)), .val (.int c0)] []))
  obtain ⟨T1, X1, e1, st1⟩ := getS2 X0 hx hZ hown (host := "") (Or.inl (gw hw 82 rfl)) Via.refl e0 S__assertionsDisabled (g := (mkF m 0 #[.val (.ref y), .val (.int (0 : Int32)), .val (.int c0)] [])) rfl (hb hby d13_0)
  refine Gs st1 ?_
  show Goes _ _ _ _ _ (T1.setTop (mkF m 3 #[.val (.ref y), .val (.int (0 : Int32)), .val (.int c0)] [(.int (1 : Int32))]))
  refine Gs (fun _ tk => XS.ifYes X1.here hx rfl (pc0 := 3) (pc' := 28) rfl (hb hby d13_3) rfl ((if0 _ _).trans (feq (by decide : ¬ ((1 : Int32) = (0 : Int32)))).2) (by decide) (by decide) tk) ?_
  refine Gs (fun _ tk => XS.iloadN X1.here hx rfl (hb hby d13_28) rfl tk) ?_
  refine Gs (fun _ tk => XS.iconst X1.here hx rfl (hb hby d13_29) tk) ?_
  show Goes _ _ _ _ _ (T1.setTop (mkF m 30 #[.val (.ref y), .val (.int (0 : Int32)), .val (.int c0)] [(.int (1 : Int32)), (.int (0 : Int32))]))
  refine Gs (fun _ tk => XS.ishl X1.here hx rfl (hb hby d13_30) rfl tk) ?_
  rw [show ((0 : Int32) <<< ((1 : Int32) &&& 31)) = (0 : Int32) from by decide]
  show Goes _ _ _ _ _ (T1.setTop (mkF m 31 #[.val (.ref y), .val (.int (0 : Int32)), .val (.int c0)] [(.int (0 : Int32))]))
  refine Gs (fun _ tk => XS.istoreN X1.here hx rfl (hb hby d13_31) rfl (l' := #[.val (.ref y), .val (.int (0 : Int32)), .val (.int c0)]) rfl tk) ?_
  refine Gs (fun _ tk => XS.aloadN X1.here hx rfl (hb hby d13_32) rfl rfl tk) ?_
  refine Gs (fun _ tk => XS.iloadN X1.here hx rfl (hb hby d13_33) rfl tk) ?_
  show Goes _ _ _ _ _ (T1.setTop (mkF m 34 #[.val (.ref y), .val (.int (0 : Int32)), .val (.int c0)] [(.int (0 : Int32)), (.ref y)]))
  refine Gs (fun _ tk => XS.iinc X1.here hx rfl (hb hby d13_34) rfl (l' := #[.val (.ref y), .val (.int ((0 : Int32) + (1 : Int32))), .val (.int c0)]) rfl tk) ?_
  rw [show ((0 : Int32) + (1 : Int32)) = (1 : Int32) from by decide]
  show Goes _ _ _ _ _ (T1.setTop (mkF m 37 #[.val (.ref y), .val (.int (1 : Int32)), .val (.int c0)] [(.int (0 : Int32)), (.ref y)]))
  refine Gs (fun _ tk => XS.iloadN X1.here hx rfl (hb hby d13_37) rfl tk) ?_
  obtain ⟨T2, X2, e2, st2⟩ := getS2 X1 hx hZ hown (host := "") (Or.inl (gw hw 83 rfl)) Via.refl e1 S_HI_BYTE_SHIFT (g := (mkF m 38 #[.val (.ref y), .val (.int (1 : Int32)), .val (.int c0)] [(.int c0), (.int (0 : Int32)), (.ref y)])) rfl (hb hby d13_38)
  refine Gs st2 ?_
  show Goes _ _ _ _ _ (T2.setTop (mkF m 41 #[.val (.ref y), .val (.int (1 : Int32)), .val (.int c0)] [(.int (0 : Int32)), (.int c0), (.int (0 : Int32)), (.ref y)]))
  refine Gs (fun _ tk => XS.ishr X2.here hx rfl (hb hby d13_41) rfl tk) ?_
  show Goes _ _ _ _ _ (T2.setTop (mkF m 42 #[.val (.ref y), .val (.int (1 : Int32)), .val (.int c0)] [(.int (c0 >>> ((0 : Int32) &&& 31))), (.int (0 : Int32)), (.ref y)]))
  rw [own_shr0]
  show Goes _ _ _ _ _ (T2.setTop (mkF m 42 #[.val (.ref y), .val (.int (1 : Int32)), .val (.int c0)] [(.int c0), (.int (0 : Int32)), (.ref y)]))
  refine Gs (fun _ tk => XS.i2b X2.here hx rfl (hb hby d13_42) rfl tk) ?_
  show Goes _ _ _ _ _ (T2.setTop (mkF m 43 #[.val (.ref y), .val (.int (1 : Int32)), .val (.int c0)] [(.int (c0.toInt8.toInt32)), (.int (0 : Int32)), (.ref y)]))
  obtain ⟨cl3, Ar3, q3, S3, N3z, H3, G3⟩ := V_y
  have hin3 : ¬ ((0 : Int32) < 0 ∨ cl3.slots.size ≤ ((0 : Int32)).toNatClampNeg) := inb_of S3 ⟨by decide, by decide⟩
  obtain ⟨T3, h3, X3, e3, W3, st3⟩ := stB X2 hx hZ e2 Ar3 (j := (0 : Int32)) hin3 (g := (mkF m 43 #[.val (.ref y), .val (.int (1 : Int32)), .val (.int c0)] [(.int (c0.toInt8.toInt32)), (.int (0 : Int32)), (.ref y)])) rfl rfl (hb hby d13_43)
  have Vn3 := Arv.set Ar3 q3 S3 N3z H3 G3 (fits_nar_byte _) W3 0 rfl (Nat.le_of_ble_eq_true rfl)
  have N3 := Fr.snoc X3 N0 g_y
  replace S_LO_BYTE_SHIFT := S_LO_BYTE_SHIFT.wr W3
  replace KP := KP.wr W3 (Or.inl (List.mem_of_getElem? (i := 0) rfl))
  have V_y : Arv Z h3 y ky .byte (4 : Int32) [(.int (lo8 c0)), (.int (0 : Int32)), (.int (0 : Int32)), (.int (0 : Int32))] (.int (0 : Int32)) := by have q := Vn3; rw [own_nb2] at q; exact q
  replace Z0 : n0 ≤ h3.size := by rw [W3.size]; exact Z0
  refine Gs st3 ?_
  show Goes _ _ _ _ _ (T3.setTop (mkF m 44 #[.val (.ref y), .val (.int (1 : Int32)), .val (.int c0)] []))
  refine Gs (fun _ tk => XS.aloadN X3.here hx rfl (hb hby d13_44) rfl rfl tk) ?_
  refine Gs (fun _ tk => XS.iloadN X3.here hx rfl (hb hby d13_45) rfl tk) ?_
  refine Gs (fun _ tk => XS.iloadN X3.here hx rfl (hb hby d13_46) rfl tk) ?_
  obtain ⟨T4, X4, e4, st4⟩ := getS2 X3 hx hZ hown (host := "") (Or.inl (gw hw 84 rfl)) Via.refl e3 S_LO_BYTE_SHIFT (g := (mkF m 47 #[.val (.ref y), .val (.int (1 : Int32)), .val (.int c0)] [(.int c0), (.int (1 : Int32)), (.ref y)])) rfl (hb hby d13_47)
  refine Gs st4 ?_
  show Goes _ _ _ _ _ (T4.setTop (mkF m 50 #[.val (.ref y), .val (.int (1 : Int32)), .val (.int c0)] [(.int (8 : Int32)), (.int c0), (.int (1 : Int32)), (.ref y)]))
  refine Gs (fun _ tk => XS.ishr X4.here hx rfl (hb hby d13_50) rfl tk) ?_
  show Goes _ _ _ _ _ (T4.setTop (mkF m 51 #[.val (.ref y), .val (.int (1 : Int32)), .val (.int c0)] [(.int (c0 >>> ((8 : Int32) &&& 31))), (.int (1 : Int32)), (.ref y)]))
  refine Gs (fun _ tk => XS.i2b X4.here hx rfl (hb hby d13_51) rfl tk) ?_
  show Goes _ _ _ _ _ (T4.setTop (mkF m 52 #[.val (.ref y), .val (.int (1 : Int32)), .val (.int c0)] [(.int ((c0 >>> ((8 : Int32) &&& 31)).toInt8.toInt32)), (.int (1 : Int32)), (.ref y)]))
  obtain ⟨cl5, Ar5, q5, S5, N5z, H5, G5⟩ := V_y
  have hin5 : ¬ ((1 : Int32) < 0 ∨ cl5.slots.size ≤ ((1 : Int32)).toNatClampNeg) := inb_of S5 ⟨by decide, by decide⟩
  obtain ⟨T5, h5, X5, e5, W5, st5⟩ := stB X4 hx hZ e4 Ar5 (j := (1 : Int32)) hin5 (g := (mkF m 52 #[.val (.ref y), .val (.int (1 : Int32)), .val (.int c0)] [(.int ((c0 >>> ((8 : Int32) &&& 31)).toInt8.toInt32)), (.int (1 : Int32)), (.ref y)])) rfl rfl (hb hby d13_52)
  have Vn5 := Arv.set Ar5 q5 S5 N5z H5 G5 (fits_nar_byte _) W5 1 rfl (Nat.le_of_ble_eq_true rfl)
  have N5 := Fr.snoc X5 N3 g_y
  replace KP := KP.wr W5 (Or.inl (List.mem_of_getElem? (i := 0) rfl))
  have V_y : Arv Z h5 y ky .byte (4 : Int32) [(.int (lo8 c0)), (.int (hi8 c0)), (.int (0 : Int32)), (.int (0 : Int32))] (.int (0 : Int32)) := by have q := Vn5; rw [own_nbh2] at q; exact q
  replace Z0 : n0 ≤ h5.size := by rw [W5.size]; exact Z0
  refine Gs st5 ?_
  show Goes _ _ _ _ _ (T5.setTop (mkF m 53 #[.val (.ref y), .val (.int (1 : Int32)), .val (.int c0)] []))
  refine Goes.ret X5 none (fun _ => rfl) hlk (by decide) (by decide) ?_ (fun fs hr => ?_)
  · rw [e5]; exact ⟨rfl, N5, KP, V_y⟩
  · exact X5.returnOut hx hret (hb hby d13_53) hr
theorem own_ef_rs_pc_2_1 (m : MethodId) (x0 : Addr) (x2 : Int32) : entryFrame m #[(.ref x0), (.int (1 : Int32)), (.int x2)] 3 = mkF m 0 #[.val (.ref x0), .val (.int (1 : Int32)), .val (.int x2)] [] := by first | (simp [entryFrame, mkF, argsToLocals, Value.category]; done) | rfl
def Q_rs_pc_2_1 (Z : State) (y : Addr) (ky : ClassId) (c0 : Int32) (c1 : Int32) (h0 : Heap) (n0 : Nat) (v : Option Value) (h : Heap) (L : List Loc) : Prop := v = none ∧ Fr n0 L ∧ Keep h0 h [y] ∧ Arv Z h y ky .byte (4 : Int32) [(.int (lo8 c0)), (.int (hi8 c0)), (.int (lo8 c1)), (.int (hi8 c1))] (.int (0 : Int32))
set_option maxRecDepth 65536 in
set_option maxHeartbeats 40000000 in
theorem rs_pc_2_1 (l : Launch) (Z : State) (a0 : Array Value) (hw : ∀ d ∈ tables_1, d.before a0 Z = true) (ws : List Jvm.Cond) (y : Addr) (ky : ClassId) (c0 : Int32) (c1 : Int32) (h0 : Heap) (n0 : Nat) (Z0 : n0 ≤ h0.size) (V_y : Arv Z h0 y ky .byte (4 : Int32) [(.int (lo8 c0)), (.int (hi8 c0)), (.int (0 : Int32)), (.int (0 : Int32))] (.int (0 : Int32))) (g_y : n0 ≤ y) (S__assertionsDisabled : Sta Z h0 "java/lang/StringUTF16" "$assertionsDisabled" "Z" (.int (1 : Int32))) (S_HI_BYTE_SHIFT : Sta Z h0 "java/lang/StringUTF16" "HI_BYTE_SHIFT" "I" (.int (0 : Int32))) (S_LO_BYTE_SHIFT : Sta Z h0 "java/lang/StringUTF16" "LO_BYTE_SHIFT" "I" (.int (8 : Int32))) :
    Met l Z mN13 jdk_52_method_4_code 3 none ({ frames := 0, cells := 0, slots := 0, locals := 0 } : Room) ws #[(.ref y), (.int (1 : Int32)), (.int c1)] h0 (Q_rs_pc_2_1 Z y ky c0 c1 h0 n0) := by
  refine own_met (plainFor_of_name own_pn3) ?_
  intro p e s m below meth c s₁ hret hx hby hlk hml hown hnm X0 e0 hZ hh
  have N0 := Fr.nil n0
  refine Gs (fun _ tk => castTop (own_ef_rs_pc_2_1 m y c1) tk) ?_
  have KP : Keep h0 h0 [y] := Keep.refl _ _
  show Goes _ _ _ _ _ (s₁.setTop (mkF m 0 #[.val (.ref y), .val (.int (1 : Int32)), .val (.int c1)] []))
  obtain ⟨T1, X1, e1, st1⟩ := getS2 X0 hx hZ hown (host := "") (Or.inl (gw hw 82 rfl)) Via.refl e0 S__assertionsDisabled (g := (mkF m 0 #[.val (.ref y), .val (.int (1 : Int32)), .val (.int c1)] [])) rfl (hb hby d13_0)
  refine Gs st1 ?_
  show Goes _ _ _ _ _ (T1.setTop (mkF m 3 #[.val (.ref y), .val (.int (1 : Int32)), .val (.int c1)] [(.int (1 : Int32))]))
  refine Gs (fun _ tk => XS.ifYes X1.here hx rfl (pc0 := 3) (pc' := 28) rfl (hb hby d13_3) rfl ((if0 _ _).trans (feq (by decide : ¬ ((1 : Int32) = (0 : Int32)))).2) (by decide) (by decide) tk) ?_
  refine Gs (fun _ tk => XS.iloadN X1.here hx rfl (hb hby d13_28) rfl tk) ?_
  refine Gs (fun _ tk => XS.iconst X1.here hx rfl (hb hby d13_29) tk) ?_
  show Goes _ _ _ _ _ (T1.setTop (mkF m 30 #[.val (.ref y), .val (.int (1 : Int32)), .val (.int c1)] [(.int (1 : Int32)), (.int (1 : Int32))]))
  refine Gs (fun _ tk => XS.ishl X1.here hx rfl (hb hby d13_30) rfl tk) ?_
  rw [show ((1 : Int32) <<< ((1 : Int32) &&& 31)) = (2 : Int32) from by decide]
  show Goes _ _ _ _ _ (T1.setTop (mkF m 31 #[.val (.ref y), .val (.int (1 : Int32)), .val (.int c1)] [(.int (2 : Int32))]))
  refine Gs (fun _ tk => XS.istoreN X1.here hx rfl (hb hby d13_31) rfl (l' := #[.val (.ref y), .val (.int (2 : Int32)), .val (.int c1)]) rfl tk) ?_
  refine Gs (fun _ tk => XS.aloadN X1.here hx rfl (hb hby d13_32) rfl rfl tk) ?_
  refine Gs (fun _ tk => XS.iloadN X1.here hx rfl (hb hby d13_33) rfl tk) ?_
  show Goes _ _ _ _ _ (T1.setTop (mkF m 34 #[.val (.ref y), .val (.int (2 : Int32)), .val (.int c1)] [(.int (2 : Int32)), (.ref y)]))
  refine Gs (fun _ tk => XS.iinc X1.here hx rfl (hb hby d13_34) rfl (l' := #[.val (.ref y), .val (.int ((2 : Int32) + (1 : Int32))), .val (.int c1)]) rfl tk) ?_
  rw [show ((2 : Int32) + (1 : Int32)) = (3 : Int32) from by decide]
  show Goes _ _ _ _ _ (T1.setTop (mkF m 37 #[.val (.ref y), .val (.int (3 : Int32)), .val (.int c1)] [(.int (2 : Int32)), (.ref y)]))
  refine Gs (fun _ tk => XS.iloadN X1.here hx rfl (hb hby d13_37) rfl tk) ?_
  obtain ⟨T2, X2, e2, st2⟩ := getS2 X1 hx hZ hown (host := "") (Or.inl (gw hw 83 rfl)) Via.refl e1 S_HI_BYTE_SHIFT (g := (mkF m 38 #[.val (.ref y), .val (.int (3 : Int32)), .val (.int c1)] [(.int c1), (.int (2 : Int32)), (.ref y)])) rfl (hb hby d13_38)
  refine Gs st2 ?_
  show Goes _ _ _ _ _ (T2.setTop (mkF m 41 #[.val (.ref y), .val (.int (3 : Int32)), .val (.int c1)] [(.int (0 : Int32)), (.int c1), (.int (2 : Int32)), (.ref y)]))
  refine Gs (fun _ tk => XS.ishr X2.here hx rfl (hb hby d13_41) rfl tk) ?_
  show Goes _ _ _ _ _ (T2.setTop (mkF m 42 #[.val (.ref y), .val (.int (3 : Int32)), .val (.int c1)] [(.int (c1 >>> ((0 : Int32) &&& 31))), (.int (2 : Int32)), (.ref y)]))
  rw [own_shr0]
  show Goes _ _ _ _ _ (T2.setTop (mkF m 42 #[.val (.ref y), .val (.int (3 : Int32)), .val (.int c1)] [(.int c1), (.int (2 : Int32)), (.ref y)]))
  refine Gs (fun _ tk => XS.i2b X2.here hx rfl (hb hby d13_42) rfl tk) ?_
  show Goes _ _ _ _ _ (T2.setTop (mkF m 43 #[.val (.ref y), .val (.int (3 : Int32)), .val (.int c1)] [(.int (c1.toInt8.toInt32)), (.int (2 : Int32)), (.ref y)]))
  obtain ⟨cl3, Ar3, q3, S3, N3z, H3, G3⟩ := V_y
  have hin3 : ¬ ((2 : Int32) < 0 ∨ cl3.slots.size ≤ ((2 : Int32)).toNatClampNeg) := inb_of S3 ⟨by decide, by decide⟩
  obtain ⟨T3, h3, X3, e3, W3, st3⟩ := stB X2 hx hZ e2 Ar3 (j := (2 : Int32)) hin3 (g := (mkF m 43 #[.val (.ref y), .val (.int (3 : Int32)), .val (.int c1)] [(.int (c1.toInt8.toInt32)), (.int (2 : Int32)), (.ref y)])) rfl rfl (hb hby d13_43)
  have Vn3 := Arv.set Ar3 q3 S3 N3z H3 G3 (fits_nar_byte _) W3 2 rfl (Nat.le_of_ble_eq_true rfl)
  have N3 := Fr.snoc X3 N0 g_y
  replace S_LO_BYTE_SHIFT := S_LO_BYTE_SHIFT.wr W3
  replace KP := KP.wr W3 (Or.inl (List.mem_of_getElem? (i := 0) rfl))
  have V_y : Arv Z h3 y ky .byte (4 : Int32) [(.int (lo8 c0)), (.int (hi8 c0)), (.int (lo8 c1)), (.int (0 : Int32))] (.int (0 : Int32)) := by have q := Vn3; rw [own_nb2] at q; exact q
  replace Z0 : n0 ≤ h3.size := by rw [W3.size]; exact Z0
  refine Gs st3 ?_
  show Goes _ _ _ _ _ (T3.setTop (mkF m 44 #[.val (.ref y), .val (.int (3 : Int32)), .val (.int c1)] []))
  refine Gs (fun _ tk => XS.aloadN X3.here hx rfl (hb hby d13_44) rfl rfl tk) ?_
  refine Gs (fun _ tk => XS.iloadN X3.here hx rfl (hb hby d13_45) rfl tk) ?_
  refine Gs (fun _ tk => XS.iloadN X3.here hx rfl (hb hby d13_46) rfl tk) ?_
  obtain ⟨T4, X4, e4, st4⟩ := getS2 X3 hx hZ hown (host := "") (Or.inl (gw hw 84 rfl)) Via.refl e3 S_LO_BYTE_SHIFT (g := (mkF m 47 #[.val (.ref y), .val (.int (3 : Int32)), .val (.int c1)] [(.int c1), (.int (3 : Int32)), (.ref y)])) rfl (hb hby d13_47)
  refine Gs st4 ?_
  show Goes _ _ _ _ _ (T4.setTop (mkF m 50 #[.val (.ref y), .val (.int (3 : Int32)), .val (.int c1)] [(.int (8 : Int32)), (.int c1), (.int (3 : Int32)), (.ref y)]))
  refine Gs (fun _ tk => XS.ishr X4.here hx rfl (hb hby d13_50) rfl tk) ?_
  show Goes _ _ _ _ _ (T4.setTop (mkF m 51 #[.val (.ref y), .val (.int (3 : Int32)), .val (.int c1)] [(.int (c1 >>> ((8 : Int32) &&& 31))), (.int (3 : Int32)), (.ref y)]))
  refine Gs (fun _ tk => XS.i2b X4.here hx rfl (hb hby d13_51) rfl tk) ?_
  show Goes _ _ _ _ _ (T4.setTop (mkF m 52 #[.val (.ref y), .val (.int (3 : Int32)), .val (.int c1)] [(.int ((c1 >>> ((8 : Int32) &&& 31)).toInt8.toInt32)), (.int (3 : Int32)), (.ref y)]))
  obtain ⟨cl5, Ar5, q5, S5, N5z, H5, G5⟩ := V_y
  have hin5 : ¬ ((3 : Int32) < 0 ∨ cl5.slots.size ≤ ((3 : Int32)).toNatClampNeg) := inb_of S5 ⟨by decide, by decide⟩
  obtain ⟨T5, h5, X5, e5, W5, st5⟩ := stB X4 hx hZ e4 Ar5 (j := (3 : Int32)) hin5 (g := (mkF m 52 #[.val (.ref y), .val (.int (3 : Int32)), .val (.int c1)] [(.int ((c1 >>> ((8 : Int32) &&& 31)).toInt8.toInt32)), (.int (3 : Int32)), (.ref y)])) rfl rfl (hb hby d13_52)
  have Vn5 := Arv.set Ar5 q5 S5 N5z H5 G5 (fits_nar_byte _) W5 3 rfl (Nat.le_of_ble_eq_true rfl)
  have N5 := Fr.snoc X5 N3 g_y
  replace KP := KP.wr W5 (Or.inl (List.mem_of_getElem? (i := 0) rfl))
  have V_y : Arv Z h5 y ky .byte (4 : Int32) [(.int (lo8 c0)), (.int (hi8 c0)), (.int (lo8 c1)), (.int (hi8 c1))] (.int (0 : Int32)) := by have q := Vn5; rw [own_nbh2] at q; exact q
  replace Z0 : n0 ≤ h5.size := by rw [W5.size]; exact Z0
  refine Gs st5 ?_
  show Goes _ _ _ _ _ (T5.setTop (mkF m 53 #[.val (.ref y), .val (.int (3 : Int32)), .val (.int c1)] []))
  refine Goes.ret X5 none (fun _ => rfl) hlk (by decide) (by decide) ?_ (fun fs hr => ?_)
  · rw [e5]; exact ⟨rfl, N5, KP, V_y⟩
  · exact X5.returnOut hx hret (hb hby d13_53) hr
theorem own_ef_rs_nbl_2 (m : MethodId)  : entryFrame m #[(.int (2 : Int32))] 1 = mkF m 0 #[.val (.int (2 : Int32))] [] := by first | (simp [entryFrame, mkF, argsToLocals, Value.category]; done) | rfl
def Q_rs_nbl_2 (Z : State)  (h0 : Heap) (n0 : Nat) (v : Option Value) (h : Heap) (L : List Loc) : Prop := v = some (.int (4 : Int32)) ∧ Fr n0 L ∧ h = h0
set_option maxRecDepth 65536 in
set_option maxHeartbeats 40000000 in
theorem rs_nbl_2 (l : Launch) (Z : State) (a0 : Array Value) (hw : ∀ d ∈ tables_1, d.before a0 Z = true) (ws : List Jvm.Cond)  (h0 : Heap) (n0 : Nat) (Z0 : n0 ≤ h0.size) :
    Met l Z mN14 jdk_52_method_3_code 1 (some .int) ({ frames := 0, cells := 0, slots := 0, locals := 0 } : Room) ws #[(.int (2 : Int32))] h0 (Q_rs_nbl_2 Z  h0 n0) := by
  refine own_met (plainFor_of_name own_pn3) ?_
  intro p e s m below meth c s₁ hret hx hby hlk hml hown hnm X0 e0 hZ hh
  have N0 := Fr.nil n0
  refine Gs (fun _ tk => castTop (own_ef_rs_nbl_2 m ) tk) ?_
  show Goes _ _ _ _ _ (s₁.setTop (mkF m 0 #[.val (.int (2 : Int32))] []))
  refine Gs (fun _ tk => XS.iloadN X0.here hx rfl (hb hby d14_0) rfl tk) ?_
  refine Gs (fun _ tk => XS.ifYes X0.here hx rfl (pc0 := 1) (pc' := 12) rfl (hb hby d14_1) rfl ((if0 _ _).trans (flt (by decide : ¬ ((2 : Int32) < (0 : Int32)))).2.1) (by decide) (by decide) tk) ?_
  refine Gs (fun _ tk => XS.iloadN X0.here hx rfl (hb hby d14_12) rfl tk) ?_
  refine Gs (fun _ tk => Jvm.Stand.ldcI X0 hx hown (mvT hZ (gw hw 78 rfl)) rfl (hb hby d14_13) tk) ?_
  show Goes _ _ _ _ _ (s₁.setTop (mkF m 15 #[.val (.int (2 : Int32))] [(.int (1073741823 : Int32)), (.int (2 : Int32))]))
  refine Gs (fun _ tk => XS.icmpYes X0.here hx rfl (pc0 := 15) (pc' := 55) rfl (hb hby d14_15) rfl (tlt (by decide : ((2 : Int32) < (1073741823 : Int32)))).1 (by decide) (by decide) tk) ?_
  refine Gs (fun _ tk => XS.iloadN X0.here hx rfl (hb hby d14_55) rfl tk) ?_
  refine Gs (fun _ tk => XS.iconst X0.here hx rfl (hb hby d14_56) tk) ?_
  show Goes _ _ _ _ _ (s₁.setTop (mkF m 57 #[.val (.int (2 : Int32))] [(.int (1 : Int32)), (.int (2 : Int32))]))
  refine Gs (fun _ tk => XS.ishl X0.here hx rfl (hb hby d14_57) rfl tk) ?_
  rw [show ((2 : Int32) <<< ((1 : Int32) &&& 31)) = (4 : Int32) from by decide]
  show Goes _ _ _ _ _ (s₁.setTop (mkF m 58 #[.val (.int (2 : Int32))] [(.int (4 : Int32))]))
  refine Goes.ret X0 (some (.int (4 : Int32))) (fun h => by rw [hret] at h; cases h) hlk (by decide) (by decide) ?_ (fun fs hr => ?_)
  · exact ⟨rfl, N0, e0⟩
  · exact retI X0 hx hret (hb hby d14_58) hr
theorem own_ef_rs_nbf_2 (m : MethodId)  : entryFrame m #[(.int (2 : Int32))] 1 = mkF m 0 #[.val (.int (2 : Int32))] [] := by first | (simp [entryFrame, mkF, argsToLocals, Value.category]; done) | rfl
def Q_rs_nbf_2 (Z : State)  (h0 : Heap) (n0 : Nat) (v : Option Value) (h : Heap) (L : List Loc) : Prop := ∃ y : Addr, ∃ ky : ClassId, v = some (.ref y) ∧ Fr n0 L ∧ Keep h0 h [] ∧ Arv Z h y ky .byte (4 : Int32) [(.int (0 : Int32)), (.int (0 : Int32)), (.int (0 : Int32)), (.int (0 : Int32))] (.int (0 : Int32)) ∧ n0 ≤ y ∧ h0.size ≤ y
set_option maxRecDepth 65536 in
set_option maxHeartbeats 40000000 in
theorem rs_nbf_2 (l : Launch) (Z : State) (a0 : Array Value) (hw : ∀ d ∈ tables_1, d.before a0 Z = true) (ws : List Jvm.Cond)  (h0 : Heap) (n0 : Nat) (Z0 : n0 ≤ h0.size) :
    Met l Z mN15 jdk_52_method_2_code 1 (some (.array .byte)) ({ frames := 1, cells := 1, slots := 4, locals := 12 } : Room) ws #[(.int (2 : Int32))] h0 (Q_rs_nbf_2 Z  h0 n0) := by
  refine own_met (plainFor_of_name own_pn3) ?_
  intro p e s m below meth c s₁ hret hx hby hlk hml hown hnm X0 e0 hZ hh
  have N0 := Fr.nil n0
  refine Gs (fun _ tk => castTop (own_ef_rs_nbf_2 m ) tk) ?_
  have KP : Keep h0 h0 [] := Keep.refl _ _
  show Goes _ _ _ _ _ (s₁.setTop (mkF m 0 #[.val (.int (2 : Int32))] []))
  refine Gs (fun _ tk => XS.iloadN X0.here hx rfl (hb hby d15_0) rfl tk) ?_
  obtain ⟨_, _, ⟨T1, L1, k1, n1⟩, -, X1, ⟨Lc1, hQ1, l1, y1, z1⟩, st1⟩ := Jvm.LawKit.callS X0 hx (y := mN14) hown (mvT hZ (gw hw 75 rfl)) (mvT hZ (gw hw 76 rfl)) (mvT hZ (gw hw 47 rfl)) (mvT hZ (gw hw 77 rfl)) (by decide) (backOf (W := 0) (rs_nbl_2 l Z a0 hw []  h0 n0 Z0) hZ (gw hw 77 rfl) (gw hw 47 rfl) (by decide) (by decide)) (g := (mkF m 1 #[.val (.int (2 : Int32))] [(.int (2 : Int32))])) rfl (by rw [hml]; rfl) (argsL := [(.int (2 : Int32))]) (rest := []) (lenOf own_pd8 rfl) rfl (w0 (Nat.le_of_eq rfl)) (hb hby d15_1) (fun _ _ => ⟨rfl, e0, (by decide : 0 + 0 ≤ _), (by decide : 0 + 0 ≤ _)⟩)
  dsimp only [Pt.U, Pt.locs, Pt.cells, Pt.slots] at X1 l1 y1 z1 st1 hQ1
  subst l1 y1 z1
  obtain ⟨rfl, N1q, e1⟩ := hQ1
  have N1 := Fr.app N0 N1q
  refine Gs st1 ?_
  show Goes _ _ _ _ _ (T1.setTop (mkF m 4 #[.val (.int (2 : Int32))] [(.int (4 : Int32))]))
  obtain ⟨T2, h2, k2, X2, e2, E2, A2, st2⟩ := newP X1 hx hZ (gw hw 20 rfl) e1 (g := (mkF m 4 #[.val (.int (2 : Int32))] [(.int (4 : Int32))])) rfl (hb hby d15_4) rfl (by decide) (cap := 4) (by decide) (by decide) (by decide) (by decide)
  obtain ⟨b2, gq2⟩ : ∃ z, z = h0.size := ⟨_, rfl⟩
  rw [← gq2] at A2 st2
  have g_b2 : n0 ≤ b2 := by rw [gq2]; exact Z0
  have sz_b2 : h0.size ≤ b2 := by rw [gq2]; exact KP.1
  replace KP := KP.ext E2
  replace Z0 : n0 ≤ h2.size := Nat.le_trans Z0 E2.1
  have V_b2 : Arv Z h2 b2 k2 .byte (4 : Int32) [(.int (0 : Int32)), (.int (0 : Int32)), (.int (0 : Int32)), (.int (0 : Int32))] (.int (0 : Int32)) := (Arv.new A2 (by decide)).pad (pad_rep [] (.int (0 : Int32)) 4)
  refine Gs st2 ?_
  show Goes _ _ _ _ _ (T2.setTop (mkF m 6 #[.val (.int (2 : Int32))] [(.ref b2)]))
  refine Goes.ret X2 (some (.ref b2)) (fun h => by rw [hret] at h; cases h) hlk (by decide) (by decide) ?_ (fun fs hr => ?_)
  · rw [e2]; exact ⟨b2, k2, rfl, N1, KP, V_b2, g_b2, sz_b2⟩
  · exact own_retA X2 hx hret rfl rfl (hb hby d15_6) hr
theorem own_ef_rs_tb_2 (m : MethodId) (x0 : Addr) : entryFrame m #[(.ref x0), (.int (0 : Int32)), (.int (2 : Int32))] 5 = mkF m 0 #[.val (.ref x0), .val (.int (0 : Int32)), .val (.int (2 : Int32)), .unset, .unset] [] := by first | (simp [entryFrame, mkF, argsToLocals, Value.category]; done) | rfl
def Q_rs_tb_2 (Z : State) (x : Addr) (kx : ClassId) (c0 : Int32) (c1 : Int32) (h0 : Heap) (n0 : Nat) (v : Option Value) (h : Heap) (L : List Loc) : Prop := ∃ y : Addr, ∃ ky : ClassId, v = some (.ref y) ∧ Fr n0 L ∧ Keep h0 h [] ∧ Arv Z h y ky .byte (4 : Int32) [(.int (lo8 c0)), (.int (hi8 c0)), (.int (lo8 c1)), (.int (hi8 c1))] (.int (0 : Int32)) ∧ n0 ≤ y ∧ h0.size ≤ y
set_option maxRecDepth 65536 in
set_option maxHeartbeats 40000000 in
theorem rs_tb_2 (l : Launch) (Z : State) (a0 : Array Value) (hw : ∀ d ∈ tables_1, d.before a0 Z = true) (ws : List Jvm.Cond) (x : Addr) (kx : ClassId) (c0 : Int32) (c1 : Int32) (h0 : Heap) (n0 : Nat) (Z0 : n0 ≤ h0.size) (V_x : Arv Z h0 x kx .char (2 : Int32) [(.int c0), (.int c1)] (.int (0 : Int32))) (S__assertionsDisabled : Sta Z h0 "java/lang/StringUTF16" "$assertionsDisabled" "Z" (.int (1 : Int32))) (S_HI_BYTE_SHIFT : Sta Z h0 "java/lang/StringUTF16" "HI_BYTE_SHIFT" "I" (.int (0 : Int32))) (S_LO_BYTE_SHIFT : Sta Z h0 "java/lang/StringUTF16" "LO_BYTE_SHIFT" "I" (.int (8 : Int32))) :
    Met l Z mN16 jdk_52_method_14_code 5 (some (.array .byte)) ({ frames := 2, cells := 1, slots := 4, locals := 24 } : Room) ws #[(.ref x), (.int (0 : Int32)), (.int (2 : Int32))] h0 (Q_rs_tb_2 Z x kx c0 c1 h0 n0) := by
  refine own_met (plainFor_of_name own_pn3) ?_
  intro p e s m below meth c s₁ hret hx hby hlk hml hown hnm X0 e0 hZ hh
  have N0 := Fr.nil n0
  refine Gs (fun _ tk => castTop (own_ef_rs_tb_2 m x) tk) ?_
  have KP : Keep h0 h0 [] := Keep.refl _ _
  show Goes _ _ _ _ _ (s₁.setTop (mkF m 0 #[.val (.ref x), .val (.int (0 : Int32)), .val (.int (2 : Int32)), .unset, .unset] []))
  refine Gs (fun _ tk => XS.iloadN X0.here hx rfl (hb hby d16_0) rfl tk) ?_
  have ltc1_x : x < h0.size := V_x.lt
  have szs1 : h0.size ≤ h0.size := KP.1
  obtain ⟨_, _, ⟨T1, L1, k1, n1⟩, -, X1, ⟨Lc1, hQ1, l1, y1, z1⟩, st1⟩ := Jvm.LawKit.callS X0 hx (y := mN15) hown (mvT hZ (gw hw 72 rfl)) (mvT hZ (gw hw 73 rfl)) (mvT hZ (gw hw 47 rfl)) (mvT hZ (gw hw 74 rfl)) (by decide) (backOf (W := 0) (rs_nbf_2 l Z a0 hw []  h0 n0 Z0) hZ (gw hw 74 rfl) (gw hw 47 rfl) (by decide) (by decide)) (g := (mkF m 1 #[.val (.ref x), .val (.int (0 : Int32)), .val (.int (2 : Int32)), .unset, .unset] [(.int (2 : Int32))])) rfl (by rw [hml]; rfl) (argsL := [(.int (2 : Int32))]) (rest := []) (lenOf own_pd9 rfl) rfl (w0 (Nat.le_of_eq rfl)) (hb hby d16_1) (fun _ _ => ⟨rfl, e0, (by decide : 0 + 1 ≤ _), (by decide : 0 + 4 ≤ _)⟩)
  dsimp only [Pt.U, Pt.locs, Pt.cells, Pt.slots] at X1 l1 y1 z1 st1 hQ1
  subst l1 y1 z1
  obtain ⟨y1, ky1, rfl, N1q, K1, V_y1_1', g_y1_1', sz_y1_1'⟩ := hQ1
  have N1 := Fr.app N0 N1q
  replace S__assertionsDisabled := own_staK S__assertionsDisabled K1 all0
  replace S_HI_BYTE_SHIFT := own_staK S_HI_BYTE_SHIFT K1 all0
  replace S_LO_BYTE_SHIFT := own_staK S_LO_BYTE_SHIFT K1 all0
  replace V_x := V_x.keep K1 nin0
  replace KP := KP.trans K1 all0
  replace Z0 := Nat.le_trans Z0 K1.1
  have V_y1 := V_y1_1'
  have g_y1 := g_y1_1'
  have szc_y1 := sz_y1_1'
  have ne_x_y1 : x ≠ y1 := Nat.ne_of_lt (Nat.lt_of_lt_of_le ltc1_x szc_y1)
  have sz_y1 : h0.size ≤ y1 := Nat.le_trans szs1 szc_y1
  refine Gs st1 ?_
  show Goes _ _ _ _ _ (T1.setTop (mkF m 4 #[.val (.ref x), .val (.int (0 : Int32)), .val (.int (2 : Int32)), .unset, .unset] [(.ref y1)]))
  refine Gs (fun _ tk => XS.astoreN X1.here hx rfl (hb hby d16_4) rfl rfl (l' := #[.val (.ref x), .val (.int (0 : Int32)), .val (.int (2 : Int32)), .val (.ref y1), .unset]) rfl tk) ?_
  refine Gs (fun _ tk => XS.iconst X1.here hx rfl (hb hby d16_5) tk) ?_
  refine Gs (fun _ tk => XS.istore X1.here hx rfl (hb hby d16_6) rfl (l' := #[.val (.ref x), .val (.int (0 : Int32)), .val (.int (2 : Int32)), .val (.ref y1), .val (.int (0 : Int32))]) rfl tk) ?_
  refine Gs (fun _ tk => XS.iload X1.here hx rfl (hb hby d16_8) rfl tk) ?_
  refine Gs (fun _ tk => XS.iloadN X1.here hx rfl (hb hby d16_10) rfl tk) ?_
  refine Gs (fun _ tk => XS.icmpNo X1.here hx rfl (hb hby d16_11) rfl (tlt (by decide : ((0 : Int32) < (2 : Int32)))).2.1 tk) ?_
  show Goes _ _ _ _ _ (T1.setTop (mkF m 14 #[.val (.ref x), .val (.int (0 : Int32)), .val (.int (2 : Int32)), .val (.ref y1), .val (.int (0 : Int32))] []))
  refine Gs (fun _ tk => XS.aloadN X1.here hx rfl (hb hby d16_14) rfl rfl tk) ?_
  refine Gs (fun _ tk => XS.iload X1.here hx rfl (hb hby d16_15) rfl tk) ?_
  refine Gs (fun _ tk => XS.aloadN X1.here hx rfl (hb hby d16_17) rfl rfl tk) ?_
  refine Gs (fun _ tk => XS.iloadN X1.here hx rfl (hb hby d16_18) rfl tk) ?_
  obtain ⟨cl2, Ar2, -, S2, N2z, H2, -⟩ := id V_x
  have hin2 : ¬ ((0 : Int32) < 0 ∨ cl2.slots.size ≤ ((0 : Int32)).toNatClampNeg) := inb_of S2 ⟨by decide, by decide⟩
  have hat2 : cl2.slots[((0 : Int32)).toNatClampNeg]? = some (.int c0) := Has.at H2 hin2 rfl
  refine Gs (fun _ tk => X1.caload hx (j := (0 : Int32)) (v := (.int c0)) Ar2.1 (State.isArrayOf_alike hZ.alike Ar2.2.1) Ar2.2.2 hin2 hat2 (g := (mkF m 19 #[.val (.ref x), .val (.int (0 : Int32)), .val (.int (2 : Int32)), .val (.ref y1), .val (.int (0 : Int32))] [(.int (0 : Int32)), (.ref x), (.int (0 : Int32)), (.ref y1)])) rfl rfl (hb hby d16_19) _ tk) ?_
  show Goes _ _ _ _ _ (T1.setTop (mkF m 20 #[.val (.ref x), .val (.int (0 : Int32)), .val (.int (2 : Int32)), .val (.ref y1), .val (.int (0 : Int32))] [(.int c0), (.int (0 : Int32)), (.ref y1)]))
  obtain ⟨_, _, ⟨T3, L3, k3, n3⟩, -, X3, ⟨Lc3, hQ3, l3, y3, z3⟩, st3⟩ := Jvm.LawKit.callS X1 hx (y := mN13) hown (mvT hZ (gw hw 79 rfl)) (mvT hZ (gw hw 80 rfl)) (mvT hZ (gw hw 47 rfl)) (mvT hZ (gw hw 81 rfl)) (by decide) (backOf (W := 0) (rs_pc_2_0 l Z a0 hw [] y1 ky1 c0 T1.heap n0 Z0 V_y1 g_y1 S__assertionsDisabled S_HI_BYTE_SHIFT S_LO_BYTE_SHIFT) hZ (gw hw 81 rfl) (gw hw 47 rfl) (by decide) (by decide)) (g := (mkF m 20 #[.val (.ref x), .val (.int (0 : Int32)), .val (.int (2 : Int32)), .val (.ref y1), .val (.int (0 : Int32))] [(.int c0), (.int (0 : Int32)), (.ref y1)])) rfl (by rw [hml]; rfl) (argsL := [(.ref y1), (.int (0 : Int32)), (.int c0)]) (rest := []) (lenOf own_pd10 rfl) rfl (w0 (Nat.le_of_eq rfl)) (hb hby d16_20) (fun _ _ => ⟨rfl, rfl, (by decide : 1 + 0 ≤ _), (by decide : 4 + 0 ≤ _)⟩)
  dsimp only [Pt.U, Pt.locs, Pt.cells, Pt.slots] at X3 l3 y3 z3 st3 hQ3
  subst l3 y3 z3
  obtain ⟨rfl, N3q, K3, V_y1_3'⟩ := hQ3
  have N3 := Fr.app N1 N3q
  replace S__assertionsDisabled := own_staK S__assertionsDisabled K3 (allS (own_obA V_y1) all0)
  replace S_HI_BYTE_SHIFT := own_staK S_HI_BYTE_SHIFT K3 (allS (own_obA V_y1) all0)
  replace S_LO_BYTE_SHIFT := own_staK S_LO_BYTE_SHIFT K3 (allS (own_obA V_y1) all0)
  replace V_x := V_x.keep K3 (ninS ne_x_y1 nin0)
  replace KP := KP.trans K3 (allS (Or.inr sz_y1) all0)
  replace Z0 := Nat.le_trans Z0 K3.1
  have V_y1 := V_y1_3'
  refine Gs st3 ?_
  show Goes _ _ _ _ _ (T3.setTop (mkF m 23 #[.val (.ref x), .val (.int (0 : Int32)), .val (.int (2 : Int32)), .val (.ref y1), .val (.int (0 : Int32))] []))
  refine Gs (fun _ tk => XS.iinc X3.here hx rfl (hb hby d16_23) rfl (l' := #[.val (.ref x), .val (.int ((0 : Int32) + (1 : Int32))), .val (.int (2 : Int32)), .val (.ref y1), .val (.int (0 : Int32))]) rfl tk) ?_
  rw [show ((0 : Int32) + (1 : Int32)) = (1 : Int32) from by decide]
  show Goes _ _ _ _ _ (T3.setTop (mkF m 26 #[.val (.ref x), .val (.int (1 : Int32)), .val (.int (2 : Int32)), .val (.ref y1), .val (.int (0 : Int32))] []))
  refine Gs (fun _ tk => XS.iinc X3.here hx rfl (hb hby d16_26) rfl (l' := #[.val (.ref x), .val (.int (1 : Int32)), .val (.int (2 : Int32)), .val (.ref y1), .val (.int ((0 : Int32) + (1 : Int32)))]) rfl tk) ?_
  rw [show ((0 : Int32) + (1 : Int32)) = (1 : Int32) from by decide]
  show Goes _ _ _ _ _ (T3.setTop (mkF m 29 #[.val (.ref x), .val (.int (1 : Int32)), .val (.int (2 : Int32)), .val (.ref y1), .val (.int (1 : Int32))] []))
  refine Gs (fun _ tk => XS.goto X3.here hx rfl (pc0 := 29) (pc' := 8) rfl (hb hby d16_29) (by decide) (by decide) tk) ?_
  refine Gs (fun _ tk => XS.iload X3.here hx rfl (hb hby d16_8) rfl tk) ?_
  refine Gs (fun _ tk => XS.iloadN X3.here hx rfl (hb hby d16_10) rfl tk) ?_
  refine Gs (fun _ tk => XS.icmpNo X3.here hx rfl (hb hby d16_11) rfl (tlt (by decide : ((1 : Int32) < (2 : Int32)))).2.1 tk) ?_
  refine Gs (fun _ tk => XS.aloadN X3.here hx rfl (hb hby d16_14) rfl rfl tk) ?_
  refine Gs (fun _ tk => XS.iload X3.here hx rfl (hb hby d16_15) rfl tk) ?_
  show Goes _ _ _ _ _ (T3.setTop (mkF m 17 #[.val (.ref x), .val (.int (1 : Int32)), .val (.int (2 : Int32)), .val (.ref y1), .val (.int (1 : Int32))] [(.int (1 : Int32)), (.ref y1)]))
  refine Gs (fun _ tk => XS.aloadN X3.here hx rfl (hb hby d16_17) rfl rfl tk) ?_
  refine Gs (fun _ tk => XS.iloadN X3.here hx rfl (hb hby d16_18) rfl tk) ?_
  obtain ⟨cl4, Ar4, -, S4, N4z, H4, -⟩ := id V_x
  have hin4 : ¬ ((1 : Int32) < 0 ∨ cl4.slots.size ≤ ((1 : Int32)).toNatClampNeg) := inb_of S4 ⟨by decide, by decide⟩
  have hat4 : cl4.slots[((1 : Int32)).toNatClampNeg]? = some (.int c1) := Has.at H4 hin4 rfl
  refine Gs (fun _ tk => X3.caload hx (j := (1 : Int32)) (v := (.int c1)) Ar4.1 (State.isArrayOf_alike hZ.alike Ar4.2.1) Ar4.2.2 hin4 hat4 (g := (mkF m 19 #[.val (.ref x), .val (.int (1 : Int32)), .val (.int (2 : Int32)), .val (.ref y1), .val (.int (1 : Int32))] [(.int (1 : Int32)), (.ref x), (.int (1 : Int32)), (.ref y1)])) rfl rfl (hb hby d16_19) _ tk) ?_
  show Goes _ _ _ _ _ (T3.setTop (mkF m 20 #[.val (.ref x), .val (.int (1 : Int32)), .val (.int (2 : Int32)), .val (.ref y1), .val (.int (1 : Int32))] [(.int c1), (.int (1 : Int32)), (.ref y1)]))
  obtain ⟨_, _, ⟨T5, L5, k5, n5⟩, -, X5, ⟨Lc5, hQ5, l5, y5, z5⟩, st5⟩ := Jvm.LawKit.callS X3 hx (y := mN13) hown (mvT hZ (gw hw 79 rfl)) (mvT hZ (gw hw 80 rfl)) (mvT hZ (gw hw 47 rfl)) (mvT hZ (gw hw 81 rfl)) (by decide) (backOf (W := 0) (rs_pc_2_1 l Z a0 hw [] y1 ky1 c0 c1 T3.heap n0 Z0 V_y1 g_y1 S__assertionsDisabled S_HI_BYTE_SHIFT S_LO_BYTE_SHIFT) hZ (gw hw 81 rfl) (gw hw 47 rfl) (by decide) (by decide)) (g := (mkF m 20 #[.val (.ref x), .val (.int (1 : Int32)), .val (.int (2 : Int32)), .val (.ref y1), .val (.int (1 : Int32))] [(.int c1), (.int (1 : Int32)), (.ref y1)])) rfl (by rw [hml]; rfl) (argsL := [(.ref y1), (.int (1 : Int32)), (.int c1)]) (rest := []) (lenOf own_pd10 rfl) rfl (w0 (Nat.le_of_eq rfl)) (hb hby d16_20) (fun _ _ => ⟨rfl, rfl, (by decide : 1 + 0 ≤ _), (by decide : 4 + 0 ≤ _)⟩)
  dsimp only [Pt.U, Pt.locs, Pt.cells, Pt.slots] at X5 l5 y5 z5 st5 hQ5
  subst l5 y5 z5
  obtain ⟨rfl, N5q, K5, V_y1_5'⟩ := hQ5
  have N5 := Fr.app N3 N5q
  replace KP := KP.trans K5 (allS (Or.inr sz_y1) all0)
  replace Z0 := Nat.le_trans Z0 K5.1
  have V_y1 := V_y1_5'
  refine Gs st5 ?_
  show Goes _ _ _ _ _ (T5.setTop (mkF m 23 #[.val (.ref x), .val (.int (1 : Int32)), .val (.int (2 : Int32)), .val (.ref y1), .val (.int (1 : Int32))] []))
  refine Gs (fun _ tk => XS.iinc X5.here hx rfl (hb hby d16_23) rfl (l' := #[.val (.ref x), .val (.int ((1 : Int32) + (1 : Int32))), .val (.int (2 : Int32)), .val (.ref y1), .val (.int (1 : Int32))]) rfl tk) ?_
  rw [show ((1 : Int32) + (1 : Int32)) = (2 : Int32) from by decide]
  show Goes _ _ _ _ _ (T5.setTop (mkF m 26 #[.val (.ref x), .val (.int (2 : Int32)), .val (.int (2 : Int32)), .val (.ref y1), .val (.int (1 : Int32))] []))
  refine Gs (fun _ tk => XS.iinc X5.here hx rfl (hb hby d16_26) rfl (l' := #[.val (.ref x), .val (.int (2 : Int32)), .val (.int (2 : Int32)), .val (.ref y1), .val (.int ((1 : Int32) + (1 : Int32)))]) rfl tk) ?_
  rw [show ((1 : Int32) + (1 : Int32)) = (2 : Int32) from by decide]
  show Goes _ _ _ _ _ (T5.setTop (mkF m 29 #[.val (.ref x), .val (.int (2 : Int32)), .val (.int (2 : Int32)), .val (.ref y1), .val (.int (2 : Int32))] []))
  refine Gs (fun _ tk => XS.goto X5.here hx rfl (pc0 := 29) (pc' := 8) rfl (hb hby d16_29) (by decide) (by decide) tk) ?_
  refine Gs (fun _ tk => XS.iload X5.here hx rfl (hb hby d16_8) rfl tk) ?_
  refine Gs (fun _ tk => XS.iloadN X5.here hx rfl (hb hby d16_10) rfl tk) ?_
  refine Gs (fun _ tk => XS.icmpYes X5.here hx rfl (pc0 := 11) (pc' := 32) rfl (hb hby d16_11) rfl (flt (by decide : ¬ ((2 : Int32) < (2 : Int32)))).2.1 (by decide) (by decide) tk) ?_
  refine Gs (fun _ tk => XS.aloadN X5.here hx rfl (hb hby d16_32) rfl rfl tk) ?_
  refine Goes.ret X5 (some (.ref y1)) (fun h => by rw [hret] at h; cases h) hlk (by decide) (by decide) ?_ (fun fs hr => ?_)
  · exact ⟨y1, ky1, rfl, N5, KP, V_y1, g_y1, sz_y1⟩
  · exact own_retA X5 hx hret rfl rfl (hb hby d16_33) hr
theorem own_ef_rs_c5_2_0 (m : MethodId) (x0 : Addr) (x2 : Addr) : entryFrame m #[(.ref x0), (.int (0 : Int32)), (.ref x2), (.int (0 : Int32)), (.int (2 : Int32))] 7 = mkF m 0 #[.val (.ref x0), .val (.int (0 : Int32)), .val (.ref x2), .val (.int (0 : Int32)), .val (.int (2 : Int32)), .unset, .unset] [] := by first | (simp [entryFrame, mkF, argsToLocals, Value.category]; done) | rfl
def Q_rs_c5_2_0 (Z : State) (x : Addr) (kx : ClassId) (y : Addr) (ky : ClassId) (c0 : Int32) (c1 : Int32) (h0 : Heap) (n0 : Nat) (v : Option Value) (h : Heap) (L : List Loc) : Prop := v = some (.int (0 : Int32)) ∧ Fr n0 L ∧ Keep h0 h [y] ∧ Arv Z h y ky .byte (2 : Int32) [(.int (0 : Int32)), (.int (0 : Int32))] (.int (0 : Int32))
set_option maxRecDepth 65536 in
set_option maxHeartbeats 40000000 in
theorem rs_c5_2_0 (l : Launch) (Z : State) (a0 : Array Value) (hw : ∀ d ∈ tables_1, d.before a0 Z = true) (ws : List Jvm.Cond) (x : Addr) (kx : ClassId) (y : Addr) (ky : ClassId) (c0 : Int32) (c1 : Int32) (h0 : Heap) (n0 : Nat) (Z0 : n0 ≤ h0.size) (V_x : Arv Z h0 x kx .char (2 : Int32) [(.int c0), (.int c1)] (.int (0 : Int32))) (V_y : Arv Z h0 y ky .byte (2 : Int32) [(.int (0 : Int32)), (.int (0 : Int32))] (.int (0 : Int32))) (g_y : n0 ≤ y) (ne_x_y : x ≠ y) (hn_c0 : (255 : Int32) < c0) :
    Met l Z mN17 jdk_52_method_21_code 7 (some .int) ({ frames := 0, cells := 0, slots := 0, locals := 0 } : Room) ws #[(.ref x), (.int (0 : Int32)), (.ref y), (.int (0 : Int32)), (.int (2 : Int32))] h0 (Q_rs_c5_2_0 Z x kx y ky c0 c1 h0 n0) := by
  refine own_met (plainFor_of_name own_pn3) ?_
  intro p e s m below meth c s₁ hret hx hby hlk hml hown hnm X0 e0 hZ hh
  have N0 := Fr.nil n0
  refine Gs (fun _ tk => castTop (own_ef_rs_c5_2_0 m x y) tk) ?_
  have KP : Keep h0 h0 [y] := Keep.refl _ _
  show Goes _ _ _ _ _ (s₁.setTop (mkF m 0 #[.val (.ref x), .val (.int (0 : Int32)), .val (.ref y), .val (.int (0 : Int32)), .val (.int (2 : Int32)), .unset, .unset] []))
  refine Gs (fun _ tk => XS.iconst X0.here hx rfl (hb hby d17_0) tk) ?_
  refine Gs (fun _ tk => XS.istore X0.here hx rfl (hb hby d17_1) rfl (l' := #[.val (.ref x), .val (.int (0 : Int32)), .val (.ref y), .val (.int (0 : Int32)), .val (.int (2 : Int32)), .val (.int (0 : Int32)), .unset]) rfl tk) ?_
  refine Gs (fun _ tk => XS.iload X0.here hx rfl (hb hby d17_3) rfl tk) ?_
  refine Gs (fun _ tk => XS.iload X0.here hx rfl (hb hby d17_5) rfl tk) ?_
  refine Gs (fun _ tk => XS.icmpNo X0.here hx rfl (hb hby d17_7) rfl (tlt (by decide : ((0 : Int32) < (2 : Int32)))).2.1 tk) ?_
  refine Gs (fun _ tk => XS.aloadN X0.here hx rfl (hb hby d17_10) rfl rfl tk) ?_
  show Goes _ _ _ _ _ (s₁.setTop (mkF m 11 #[.val (.ref x), .val (.int (0 : Int32)), .val (.ref y), .val (.int (0 : Int32)), .val (.int (2 : Int32)), .val (.int (0 : Int32)), .unset] [(.ref x)]))
  refine Gs (fun _ tk => XS.iloadN X0.here hx rfl (hb hby d17_11) rfl tk) ?_
  obtain ⟨cl1, Ar1, -, S1, N1z, H1, -⟩ := id V_x
  have hin1 : ¬ ((0 : Int32) < 0 ∨ cl1.slots.size ≤ ((0 : Int32)).toNatClampNeg) := inb_of S1 ⟨by decide, by decide⟩
  have hat1 : cl1.slots[((0 : Int32)).toNatClampNeg]? = some (.int c0) := Has.at H1 hin1 rfl
  refine Gs (fun _ tk => X0.caload hx (j := (0 : Int32)) (v := (.int c0)) (by rw [e0]; exact Ar1.1) (State.isArrayOf_alike hZ.alike Ar1.2.1) Ar1.2.2 hin1 hat1 (g := (mkF m 12 #[.val (.ref x), .val (.int (0 : Int32)), .val (.ref y), .val (.int (0 : Int32)), .val (.int (2 : Int32)), .val (.int (0 : Int32)), .unset] [(.int (0 : Int32)), (.ref x)])) rfl rfl (hb hby d17_12) _ tk) ?_
  show Goes _ _ _ _ _ (s₁.setTop (mkF m 13 #[.val (.ref x), .val (.int (0 : Int32)), .val (.ref y), .val (.int (0 : Int32)), .val (.int (2 : Int32)), .val (.int (0 : Int32)), .unset] [(.int c0)]))
  refine Gs (fun _ tk => XS.istore X0.here hx rfl (hb hby d17_13) rfl (l' := #[.val (.ref x), .val (.int (0 : Int32)), .val (.ref y), .val (.int (0 : Int32)), .val (.int (2 : Int32)), .val (.int (0 : Int32)), .val (.int c0)]) rfl tk) ?_
  refine Gs (fun _ tk => XS.iload X0.here hx rfl (hb hby d17_15) rfl tk) ?_
  refine Gs (fun _ tk => XS.sipush X0.here hx rfl (hb hby d17_17) tk) ?_
  refine Gs (fun _ tk => XS.icmpNo X0.here hx rfl (hb hby d17_20) rfl (tlt hn_c0).2.2.2 tk) ?_
  refine Gs (fun _ tk => XS.iload X0.here hx rfl (hb hby d17_23) rfl tk) ?_
  refine Goes.ret X0 (some (.int (0 : Int32))) (fun h => by rw [hret] at h; cases h) hlk (by decide) (by decide) ?_ (fun fs hr => ?_)
  · rw [e0]; exact ⟨rfl, N0, KP, V_y⟩
  · exact retI X0 hx hret (hb hby d17_25) hr
theorem own_ef_rs_c3_2_0 (m : MethodId) (x0 : Addr) : entryFrame m #[(.ref x0), (.int (0 : Int32)), (.int (2 : Int32))] 6 = mkF m 0 #[.val (.ref x0), .val (.int (0 : Int32)), .val (.int (2 : Int32)), .unset, .unset, .unset] [] := by first | (simp [entryFrame, mkF, argsToLocals, Value.category]; done) | rfl
def Q_rs_c3_2_0 (Z : State) (x : Addr) (kx : ClassId) (c0 : Int32) (c1 : Int32) (h0 : Heap) (n0 : Nat) (v : Option Value) (h : Heap) (L : List Loc) : Prop := ∃ y : Addr, ∃ ky : ClassId, v = some (.ref y) ∧ Fr n0 L ∧ Keep h0 h [] ∧ Arv Z h y ky .byte (4 : Int32) [(.int (lo8 c0)), (.int (hi8 c0)), (.int (lo8 c1)), (.int (hi8 c1))] (.int (0 : Int32)) ∧ n0 ≤ y ∧ h0.size ≤ y
set_option maxRecDepth 65536 in
set_option maxHeartbeats 40000000 in
theorem rs_c3_2_0 (l : Launch) (Z : State) (a0 : Array Value) (hw : ∀ d ∈ tables_1, d.before a0 Z = true) (ws : List Jvm.Cond) (x : Addr) (kx : ClassId) (c0 : Int32) (c1 : Int32) (h0 : Heap) (n0 : Nat) (Z0 : n0 ≤ h0.size) (V_x : Arv Z h0 x kx .char (2 : Int32) [(.int c0), (.int c1)] (.int (0 : Int32))) (hn_c0 : (255 : Int32) < c0) (hC_c0 : Chr c0) (hC_c1 : Chr c1) (S__assertionsDisabled : Sta Z h0 "java/lang/StringUTF16" "$assertionsDisabled" "Z" (.int (1 : Int32))) (S_HI_BYTE_SHIFT : Sta Z h0 "java/lang/StringUTF16" "HI_BYTE_SHIFT" "I" (.int (0 : Int32))) (S_LO_BYTE_SHIFT : Sta Z h0 "java/lang/StringUTF16" "LO_BYTE_SHIFT" "I" (.int (8 : Int32))) :
    Met l Z mN18 jdk_52_method_16_code 6 (some (.array .byte)) ({ frames := 3, cells := 2, slots := 6, locals := 40 } : Room) ws #[(.ref x), (.int (0 : Int32)), (.int (2 : Int32))] h0 (Q_rs_c3_2_0 Z x kx c0 c1 h0 n0) := by
  refine own_met (plainFor_of_name own_pn3) ?_
  intro p e s m below meth c s₁ hret hx hby hlk hml hown hnm X0 e0 hZ hh
  have N0 := Fr.nil n0
  refine Gs (fun _ tk => castTop (own_ef_rs_c3_2_0 m x) tk) ?_
  have KP : Keep h0 h0 [] := Keep.refl _ _
  show Goes _ _ _ _ _ (s₁.setTop (mkF m 0 #[.val (.ref x), .val (.int (0 : Int32)), .val (.int (2 : Int32)), .unset, .unset, .unset] []))
  refine Gs (fun _ tk => XS.iloadN X0.here hx rfl (hb hby d18_0) rfl tk) ?_
  obtain ⟨T1, h1, k1, X1, e1, E1, A1, st1⟩ := newP X0 hx hZ (gw hw 20 rfl) e0 (g := (mkF m 1 #[.val (.ref x), .val (.int (0 : Int32)), .val (.int (2 : Int32)), .unset, .unset, .unset] [(.int (2 : Int32))])) rfl (hb hby d18_1) rfl (by decide) (cap := 2) (by decide) (by decide) (by decide) (by decide)
  obtain ⟨b1, gq1⟩ : ∃ z, z = h0.size := ⟨_, rfl⟩
  rw [← gq1] at A1 st1
  have g_b1 : n0 ≤ b1 := by rw [gq1]; exact Z0
  have sz_b1 : h0.size ≤ b1 := by rw [gq1]; exact KP.1
  have ne_x_b1 : x ≠ b1 := by rw [gq1]; exact Nat.ne_of_lt V_x.lt
  replace V_x := V_x.ext E1
  replace S__assertionsDisabled := S__assertionsDisabled.ext E1
  replace S_HI_BYTE_SHIFT := S_HI_BYTE_SHIFT.ext E1
  replace S_LO_BYTE_SHIFT := S_LO_BYTE_SHIFT.ext E1
  replace KP := KP.ext E1
  replace Z0 : n0 ≤ h1.size := Nat.le_trans Z0 E1.1
  have V_b1 : Arv Z h1 b1 k1 .byte (2 : Int32) [(.int (0 : Int32)), (.int (0 : Int32))] (.int (0 : Int32)) := (Arv.new A1 (by decide)).pad (pad_rep [] (.int (0 : Int32)) 2)
  refine Gs st1 ?_
  show Goes _ _ _ _ _ (T1.setTop (mkF m 3 #[.val (.ref x), .val (.int (0 : Int32)), .val (.int (2 : Int32)), .unset, .unset, .unset] [(.ref b1)]))
  refine Gs (fun _ tk => XS.astoreN X1.here hx rfl (hb hby d18_3) rfl rfl (l' := #[.val (.ref x), .val (.int (0 : Int32)), .val (.int (2 : Int32)), .val (.ref b1), .unset, .unset]) rfl tk) ?_
  refine Gs (fun _ tk => XS.aloadN X1.here hx rfl (hb hby d18_4) rfl rfl tk) ?_
  refine Gs (fun _ tk => XS.iloadN X1.here hx rfl (hb hby d18_5) rfl tk) ?_
  refine Gs (fun _ tk => XS.aloadN X1.here hx rfl (hb hby d18_6) rfl rfl tk) ?_
  refine Gs (fun _ tk => XS.iconst X1.here hx rfl (hb hby d18_7) tk) ?_
  refine Gs (fun _ tk => XS.iloadN X1.here hx rfl (hb hby d18_8) rfl tk) ?_
  show Goes _ _ _ _ _ (T1.setTop (mkF m 9 #[.val (.ref x), .val (.int (0 : Int32)), .val (.int (2 : Int32)), .val (.ref b1), .unset, .unset] [(.int (2 : Int32)), (.int (0 : Int32)), (.ref b1), (.int (0 : Int32)), (.ref x)]))
  obtain ⟨_, _, ⟨T2, L2, k2, n2⟩, -, X2, ⟨Lc2, hQ2, l2, y2, z2⟩, st2⟩ := Jvm.LawKit.callS X1 hx (y := mN17) hown (mvT hZ (gw hw 49 rfl)) (mvT hZ (gw hw 50 rfl)) (mvT hZ (gw hw 47 rfl)) (mvT hZ (gw hw 51 rfl)) (by decide) (backOf (W := 0) (rs_c5_2_0 l Z a0 hw [] x kx b1 k1 c0 c1 h1 n0 Z0 V_x V_b1 g_b1 ne_x_b1 (by first | assumption | decide)) hZ (gw hw 51 rfl) (gw hw 47 rfl) (by decide) (by decide)) (g := (mkF m 9 #[.val (.ref x), .val (.int (0 : Int32)), .val (.int (2 : Int32)), .val (.ref b1), .unset, .unset] [(.int (2 : Int32)), (.int (0 : Int32)), (.ref b1), (.int (0 : Int32)), (.ref x)])) rfl (by rw [hml]; rfl) (argsL := [(.ref x), (.int (0 : Int32)), (.ref b1), (.int (0 : Int32)), (.int (2 : Int32))]) (rest := []) (lenOf own_pd11 rfl) rfl (w0 (Nat.le_of_eq rfl)) (hb hby d18_9) (fun _ _ => ⟨rfl, e1, (by decide : 1 + 0 ≤ _), (by decide : 2 + 0 ≤ _)⟩)
  dsimp only [Pt.U, Pt.locs, Pt.cells, Pt.slots] at X2 l2 y2 z2 st2 hQ2
  subst l2 y2 z2
  obtain ⟨rfl, N2q, K2, V_b1_2'⟩ := hQ2
  have N2 := Fr.app N0 N2q
  replace S__assertionsDisabled := own_staK S__assertionsDisabled K2 (allS (own_obA V_b1) all0)
  replace S_HI_BYTE_SHIFT := own_staK S_HI_BYTE_SHIFT K2 (allS (own_obA V_b1) all0)
  replace S_LO_BYTE_SHIFT := own_staK S_LO_BYTE_SHIFT K2 (allS (own_obA V_b1) all0)
  replace V_x := V_x.keep K2 (ninS ne_x_b1 nin0)
  replace KP := KP.trans K2 (allS (Or.inr sz_b1) all0)
  replace Z0 := Nat.le_trans Z0 K2.1
  have V_b1 := V_b1_2'
  refine Gs st2 ?_
  show Goes _ _ _ _ _ (T2.setTop (mkF m 12 #[.val (.ref x), .val (.int (0 : Int32)), .val (.int (2 : Int32)), .val (.ref b1), .unset, .unset] [(.int (0 : Int32))]))
  refine Gs (fun _ tk => XS.istore X2.here hx rfl (hb hby d18_12) rfl (l' := #[.val (.ref x), .val (.int (0 : Int32)), .val (.int (2 : Int32)), .val (.ref b1), .val (.int (0 : Int32)), .unset]) rfl tk) ?_
  refine Gs (fun _ tk => XS.iload X2.here hx rfl (hb hby d18_14) rfl tk) ?_
  refine Gs (fun _ tk => XS.iloadN X2.here hx rfl (hb hby d18_16) rfl tk) ?_
  refine Gs (fun _ tk => XS.icmpNo X2.here hx rfl (hb hby d18_17) rfl (feq (by decide : ¬ ((0 : Int32) = (2 : Int32)))).1 tk) ?_
  refine Gs (fun _ tk => XS.aloadN X2.here hx rfl (hb hby d18_20) rfl rfl tk) ?_
  refine Gs (fun _ tk => XS.iloadN X2.here hx rfl (hb hby d18_21) rfl tk) ?_
  show Goes _ _ _ _ _ (T2.setTop (mkF m 22 #[.val (.ref x), .val (.int (0 : Int32)), .val (.int (2 : Int32)), .val (.ref b1), .val (.int (0 : Int32)), .unset] [(.int (0 : Int32)), (.ref x)]))
  refine Gs (fun _ tk => XS.iloadN X2.here hx rfl (hb hby d18_22) rfl tk) ?_
  have ltc3_x : x < T2.heap.size := V_x.lt
  have ltc3_b1 : b1 < T2.heap.size := V_b1.lt
  have szs3 : h0.size ≤ T2.heap.size := KP.1
  obtain ⟨_, _, ⟨T3, L3, k3, n3⟩, -, X3, ⟨Lc3, hQ3, l3, y3, z3⟩, st3⟩ := Jvm.LawKit.callS X2 hx (y := mN16) hown (mvT hZ (gw hw 69 rfl)) (mvT hZ (gw hw 70 rfl)) (mvT hZ (gw hw 47 rfl)) (mvT hZ (gw hw 71 rfl)) (by decide) (backOf (W := 0) (rs_tb_2 l Z a0 hw [] x kx c0 c1 T2.heap n0 Z0 V_x S__assertionsDisabled S_HI_BYTE_SHIFT S_LO_BYTE_SHIFT) hZ (gw hw 71 rfl) (gw hw 47 rfl) (by decide) (by decide)) (g := (mkF m 23 #[.val (.ref x), .val (.int (0 : Int32)), .val (.int (2 : Int32)), .val (.ref b1), .val (.int (0 : Int32)), .unset] [(.int (2 : Int32)), (.int (0 : Int32)), (.ref x)])) rfl (by rw [hml]; rfl) (argsL := [(.ref x), (.int (0 : Int32)), (.int (2 : Int32))]) (rest := []) (lenOf own_pd12 rfl) rfl (w0 (Nat.le_of_eq rfl)) (hb hby d18_23) (fun _ _ => ⟨rfl, rfl, (by decide : 1 + 1 ≤ _), (by decide : 2 + 4 ≤ _)⟩)
  dsimp only [Pt.U, Pt.locs, Pt.cells, Pt.slots] at X3 l3 y3 z3 st3 hQ3
  subst l3 y3 z3
  obtain ⟨y3, ky3, rfl, N3q, K3, V_y3_3', g_y3_3', sz_y3_3'⟩ := hQ3
  have N3 := Fr.app N2 N3q
  replace S__assertionsDisabled := own_staK S__assertionsDisabled K3 all0
  replace S_HI_BYTE_SHIFT := own_staK S_HI_BYTE_SHIFT K3 all0
  replace S_LO_BYTE_SHIFT := own_staK S_LO_BYTE_SHIFT K3 all0
  replace KP := KP.trans K3 all0
  replace Z0 := Nat.le_trans Z0 K3.1
  have V_y3 := V_y3_3'
  have g_y3 := g_y3_3'
  have szc_y3 := sz_y3_3'
  have ne_x_y3 : x ≠ y3 := Nat.ne_of_lt (Nat.lt_of_lt_of_le ltc3_x szc_y3)
  have ne_b1_y3 : b1 ≠ y3 := Nat.ne_of_lt (Nat.lt_of_lt_of_le ltc3_b1 szc_y3)
  have sz_y3 : h0.size ≤ y3 := Nat.le_trans szs3 szc_y3
  refine Gs st3 ?_
  show Goes _ _ _ _ _ (T3.setTop (mkF m 26 #[.val (.ref x), .val (.int (0 : Int32)), .val (.int (2 : Int32)), .val (.ref b1), .val (.int (0 : Int32)), .unset] [(.ref y3)]))
  refine Gs (fun _ tk => XS.astore X3.here hx rfl (hb hby d18_26) rfl rfl (l' := #[.val (.ref x), .val (.int (0 : Int32)), .val (.int (2 : Int32)), .val (.ref b1), .val (.int (0 : Int32)), .val (.ref y3)]) rfl tk) ?_
  refine Gs (fun _ tk => XS.aload X3.here hx rfl (hb hby d18_28) rfl rfl tk) ?_
  refine Gs (fun _ tk => XS.iload X3.here hx rfl (hb hby d18_30) rfl tk) ?_
  obtain ⟨_, _, ⟨T4, L4, k4, n4⟩, -, X4, ⟨Lc4, hQ4, l4, y4, z4⟩, st4⟩ := Jvm.LawKit.callS X3 hx (y := mN8) hown (mvT hZ (gw hw 85 rfl)) (mvT hZ (gw hw 86 rfl)) (mvT hZ (gw hw 47 rfl)) (mvT hZ (gw hw 87 rfl)) (by decide) (backOf (W := 0) (rs_gch l Z a0 hw [] y3 ky3 [c0, c1] (0 : Int32) c0 T3.heap n0 Z0 V_y3 (by first | assumption | decide) (own_il 0 _ (by decide) (by simp) (Nat.le_of_ble_eq_true rfl)) rfl (Nat.le_of_ble_eq_true rfl) hC_c0 S__assertionsDisabled S_HI_BYTE_SHIFT S_LO_BYTE_SHIFT) hZ (gw hw 87 rfl) (gw hw 47 rfl) (by decide) (by decide)) (g := (mkF m 32 #[.val (.ref x), .val (.int (0 : Int32)), .val (.int (2 : Int32)), .val (.ref b1), .val (.int (0 : Int32)), .val (.ref y3)] [(.int (0 : Int32)), (.ref y3)])) rfl (by rw [hml]; rfl) (argsL := [(.ref y3), (.int (0 : Int32))]) (rest := []) (lenOf own_pd5 rfl) rfl (w0 (Nat.le_of_eq rfl)) (hb hby d18_32) (fun _ _ => ⟨rfl, rfl, (by decide : 2 + 0 ≤ _), (by decide : 6 + 0 ≤ _)⟩)
  dsimp only [Pt.U, Pt.locs, Pt.cells, Pt.slots] at X4 l4 y4 z4 st4 hQ4
  subst l4 y4 z4
  obtain ⟨rfl, N4q, e4⟩ := hQ4
  have N4 := Fr.app N3 N4q
  refine Gs st4 ?_
  show Goes _ _ _ _ _ (T4.setTop (mkF m 35 #[.val (.ref x), .val (.int (0 : Int32)), .val (.int (2 : Int32)), .val (.ref b1), .val (.int (0 : Int32)), .val (.ref y3)] [(.int c0)]))
  refine Gs (fun _ tk => XS.sipush X4.here hx rfl (hb hby d18_35) tk) ?_
  refine Gs (fun _ tk => XS.icmpYes X4.here hx rfl (pc0 := 38) (pc' := 54) rfl (hb hby d18_38) rfl (tlt hn_c0).2.2.1 (by decide) (by decide) tk) ?_
  refine Gs (fun _ tk => XS.aload X4.here hx rfl (hb hby d18_54) rfl rfl tk) ?_
  refine Goes.ret X4 (some (.ref y3)) (fun h => by rw [hret] at h; cases h) hlk (by decide) (by decide) ?_ (fun fs hr => ?_)
  · rw [e4]; exact ⟨y3, ky3, rfl, N4, KP, V_y3, g_y3, sz_y3⟩
  · exact own_retA X4 hx hret rfl rfl (hb hby d18_56) hr
theorem own_ef_rs_c5_2_1 (m : MethodId) (x0 : Addr) (x2 : Addr) : entryFrame m #[(.ref x0), (.int (0 : Int32)), (.ref x2), (.int (0 : Int32)), (.int (2 : Int32))] 7 = mkF m 0 #[.val (.ref x0), .val (.int (0 : Int32)), .val (.ref x2), .val (.int (0 : Int32)), .val (.int (2 : Int32)), .unset, .unset] [] := by first | (simp [entryFrame, mkF, argsToLocals, Value.category]; done) | rfl
def Q_rs_c5_2_1 (Z : State) (x : Addr) (kx : ClassId) (y : Addr) (ky : ClassId) (c0 : Int32) (c1 : Int32) (h0 : Heap) (n0 : Nat) (v : Option Value) (h : Heap) (L : List Loc) : Prop := v = some (.int (1 : Int32)) ∧ Fr n0 L ∧ Keep h0 h [y] ∧ Arv Z h y ky .byte (2 : Int32) [(.int (lo8 c0)), (.int (0 : Int32))] (.int (0 : Int32))
set_option maxRecDepth 65536 in
set_option maxHeartbeats 40000000 in
theorem rs_c5_2_1 (l : Launch) (Z : State) (a0 : Array Value) (hw : ∀ d ∈ tables_1, d.before a0 Z = true) (ws : List Jvm.Cond) (x : Addr) (kx : ClassId) (y : Addr) (ky : ClassId) (c0 : Int32) (c1 : Int32) (h0 : Heap) (n0 : Nat) (Z0 : n0 ≤ h0.size) (V_x : Arv Z h0 x kx .char (2 : Int32) [(.int c0), (.int c1)] (.int (0 : Int32))) (V_y : Arv Z h0 y ky .byte (2 : Int32) [(.int (0 : Int32)), (.int (0 : Int32))] (.int (0 : Int32))) (g_y : n0 ≤ y) (ne_x_y : x ≠ y) (hn_c0 : ¬ ((255 : Int32) < c0)) (hn_c1 : (255 : Int32) < c1) :
    Met l Z mN17 jdk_52_method_21_code 7 (some .int) ({ frames := 0, cells := 0, slots := 0, locals := 0 } : Room) ws #[(.ref x), (.int (0 : Int32)), (.ref y), (.int (0 : Int32)), (.int (2 : Int32))] h0 (Q_rs_c5_2_1 Z x kx y ky c0 c1 h0 n0) := by
  refine own_met (plainFor_of_name own_pn3) ?_
  intro p e s m below meth c s₁ hret hx hby hlk hml hown hnm X0 e0 hZ hh
  have N0 := Fr.nil n0
  refine Gs (fun _ tk => castTop (own_ef_rs_c5_2_1 m x y) tk) ?_
  have KP : Keep h0 h0 [y] := Keep.refl _ _
  show Goes _ _ _ _ _ (s₁.setTop (mkF m 0 #[.val (.ref x), .val (.int (0 : Int32)), .val (.ref y), .val (.int (0 : Int32)), .val (.int (2 : Int32)), .unset, .unset] []))
  refine Gs (fun _ tk => XS.iconst X0.here hx rfl (hb hby d17_0) tk) ?_
  refine Gs (fun _ tk => XS.istore X0.here hx rfl (hb hby d17_1) rfl (l' := #[.val (.ref x), .val (.int (0 : Int32)), .val (.ref y), .val (.int (0 : Int32)), .val (.int (2 : Int32)), .val (.int (0 : Int32)), .unset]) rfl tk) ?_
  refine Gs (fun _ tk => XS.iload X0.here hx rfl (hb hby d17_3) rfl tk) ?_
  refine Gs (fun _ tk => XS.iload X0.here hx rfl (hb hby d17_5) rfl tk) ?_
  refine Gs (fun _ tk => XS.icmpNo X0.here hx rfl (hb hby d17_7) rfl (tlt (by decide : ((0 : Int32) < (2 : Int32)))).2.1 tk) ?_
  refine Gs (fun _ tk => XS.aloadN X0.here hx rfl (hb hby d17_10) rfl rfl tk) ?_
  show Goes _ _ _ _ _ (s₁.setTop (mkF m 11 #[.val (.ref x), .val (.int (0 : Int32)), .val (.ref y), .val (.int (0 : Int32)), .val (.int (2 : Int32)), .val (.int (0 : Int32)), .unset] [(.ref x)]))
  refine Gs (fun _ tk => XS.iloadN X0.here hx rfl (hb hby d17_11) rfl tk) ?_
  obtain ⟨cl1, Ar1, -, S1, N1z, H1, -⟩ := id V_x
  have hin1 : ¬ ((0 : Int32) < 0 ∨ cl1.slots.size ≤ ((0 : Int32)).toNatClampNeg) := inb_of S1 ⟨by decide, by decide⟩
  have hat1 : cl1.slots[((0 : Int32)).toNatClampNeg]? = some (.int c0) := Has.at H1 hin1 rfl
  refine Gs (fun _ tk => X0.caload hx (j := (0 : Int32)) (v := (.int c0)) (by rw [e0]; exact Ar1.1) (State.isArrayOf_alike hZ.alike Ar1.2.1) Ar1.2.2 hin1 hat1 (g := (mkF m 12 #[.val (.ref x), .val (.int (0 : Int32)), .val (.ref y), .val (.int (0 : Int32)), .val (.int (2 : Int32)), .val (.int (0 : Int32)), .unset] [(.int (0 : Int32)), (.ref x)])) rfl rfl (hb hby d17_12) _ tk) ?_
  show Goes _ _ _ _ _ (s₁.setTop (mkF m 13 #[.val (.ref x), .val (.int (0 : Int32)), .val (.ref y), .val (.int (0 : Int32)), .val (.int (2 : Int32)), .val (.int (0 : Int32)), .unset] [(.int c0)]))
  refine Gs (fun _ tk => XS.istore X0.here hx rfl (hb hby d17_13) rfl (l' := #[.val (.ref x), .val (.int (0 : Int32)), .val (.ref y), .val (.int (0 : Int32)), .val (.int (2 : Int32)), .val (.int (0 : Int32)), .val (.int c0)]) rfl tk) ?_
  refine Gs (fun _ tk => XS.iload X0.here hx rfl (hb hby d17_15) rfl tk) ?_
  refine Gs (fun _ tk => XS.sipush X0.here hx rfl (hb hby d17_17) tk) ?_
  refine Gs (fun _ tk => XS.icmpYes X0.here hx rfl (pc0 := 20) (pc' := 26) rfl (hb hby d17_20) rfl (flt hn_c0).2.2.2 (by decide) (by decide) tk) ?_
  refine Gs (fun _ tk => XS.aloadN X0.here hx rfl (hb hby d17_26) rfl rfl tk) ?_
  refine Gs (fun _ tk => XS.iloadN X0.here hx rfl (hb hby d17_27) rfl tk) ?_
  show Goes _ _ _ _ _ (s₁.setTop (mkF m 28 #[.val (.ref x), .val (.int (0 : Int32)), .val (.ref y), .val (.int (0 : Int32)), .val (.int (2 : Int32)), .val (.int (0 : Int32)), .val (.int c0)] [(.int (0 : Int32)), (.ref y)]))
  refine Gs (fun _ tk => XS.iload X0.here hx rfl (hb hby d17_28) rfl tk) ?_
  show Goes _ _ _ _ _ (s₁.setTop (mkF m 30 #[.val (.ref x), .val (.int (0 : Int32)), .val (.ref y), .val (.int (0 : Int32)), .val (.int (2 : Int32)), .val (.int (0 : Int32)), .val (.int c0)] [(.int c0), (.int (0 : Int32)), (.ref y)]))
  refine Gs (fun _ tk => XS.i2b X0.here hx rfl (hb hby d17_30) rfl tk) ?_
  show Goes _ _ _ _ _ (s₁.setTop (mkF m 31 #[.val (.ref x), .val (.int (0 : Int32)), .val (.ref y), .val (.int (0 : Int32)), .val (.int (2 : Int32)), .val (.int (0 : Int32)), .val (.int c0)] [(.int (c0.toInt8.toInt32)), (.int (0 : Int32)), (.ref y)]))
  obtain ⟨cl2, Ar2, q2, S2, N2z, H2, G2⟩ := V_y
  have hin2 : ¬ ((0 : Int32) < 0 ∨ cl2.slots.size ≤ ((0 : Int32)).toNatClampNeg) := inb_of S2 ⟨by decide, by decide⟩
  obtain ⟨T2, h2, X2, e2, W2, st2⟩ := stB X0 hx hZ e0 Ar2 (j := (0 : Int32)) hin2 (g := (mkF m 31 #[.val (.ref x), .val (.int (0 : Int32)), .val (.ref y), .val (.int (0 : Int32)), .val (.int (2 : Int32)), .val (.int (0 : Int32)), .val (.int c0)] [(.int (c0.toInt8.toInt32)), (.int (0 : Int32)), (.ref y)])) rfl rfl (hb hby d17_31)
  have Vn2 := Arv.set Ar2 q2 S2 N2z H2 G2 (fits_nar_byte _) W2 0 rfl (Nat.le_of_ble_eq_true rfl)
  have N2 := Fr.snoc X2 N0 g_y
  replace V_x := V_x.other W2 ne_x_y
  replace KP := KP.wr W2 (Or.inl (List.mem_of_getElem? (i := 0) rfl))
  have V_y : Arv Z h2 y ky .byte (2 : Int32) [(.int (lo8 c0)), (.int (0 : Int32))] (.int (0 : Int32)) := by have q := Vn2; rw [own_nb2] at q; exact q
  replace Z0 : n0 ≤ h2.size := by rw [W2.size]; exact Z0
  refine Gs st2 ?_
  show Goes _ _ _ _ _ (T2.setTop (mkF m 32 #[.val (.ref x), .val (.int (0 : Int32)), .val (.ref y), .val (.int (0 : Int32)), .val (.int (2 : Int32)), .val (.int (0 : Int32)), .val (.int c0)] []))
  refine Gs (fun _ tk => XS.iinc X2.here hx rfl (hb hby d17_32) rfl (l' := #[.val (.ref x), .val (.int ((0 : Int32) + (1 : Int32))), .val (.ref y), .val (.int (0 : Int32)), .val (.int (2 : Int32)), .val (.int (0 : Int32)), .val (.int c0)]) rfl tk) ?_
  rw [show ((0 : Int32) + (1 : Int32)) = (1 : Int32) from by decide]
  show Goes _ _ _ _ _ (T2.setTop (mkF m 35 #[.val (.ref x), .val (.int (1 : Int32)), .val (.ref y), .val (.int (0 : Int32)), .val (.int (2 : Int32)), .val (.int (0 : Int32)), .val (.int c0)] []))
  refine Gs (fun _ tk => XS.iinc X2.here hx rfl (hb hby d17_35) rfl (l' := #[.val (.ref x), .val (.int (1 : Int32)), .val (.ref y), .val (.int ((0 : Int32) + (1 : Int32))), .val (.int (2 : Int32)), .val (.int (0 : Int32)), .val (.int c0)]) rfl tk) ?_
  rw [show ((0 : Int32) + (1 : Int32)) = (1 : Int32) from by decide]
  show Goes _ _ _ _ _ (T2.setTop (mkF m 38 #[.val (.ref x), .val (.int (1 : Int32)), .val (.ref y), .val (.int (1 : Int32)), .val (.int (2 : Int32)), .val (.int (0 : Int32)), .val (.int c0)] []))
  refine Gs (fun _ tk => XS.iinc X2.here hx rfl (hb hby d17_38) rfl (l' := #[.val (.ref x), .val (.int (1 : Int32)), .val (.ref y), .val (.int (1 : Int32)), .val (.int (2 : Int32)), .val (.int ((0 : Int32) + (1 : Int32))), .val (.int c0)]) rfl tk) ?_
  rw [show ((0 : Int32) + (1 : Int32)) = (1 : Int32) from by decide]
  show Goes _ _ _ _ _ (T2.setTop (mkF m 41 #[.val (.ref x), .val (.int (1 : Int32)), .val (.ref y), .val (.int (1 : Int32)), .val (.int (2 : Int32)), .val (.int (1 : Int32)), .val (.int c0)] []))
  refine Gs (fun _ tk => XS.goto X2.here hx rfl (pc0 := 41) (pc' := 3) rfl (hb hby d17_41) (by decide) (by decide) tk) ?_
  refine Gs (fun _ tk => XS.iload X2.here hx rfl (hb hby d17_3) rfl tk) ?_
  refine Gs (fun _ tk => XS.iload X2.here hx rfl (hb hby d17_5) rfl tk) ?_
  refine Gs (fun _ tk => XS.icmpNo X2.here hx rfl (hb hby d17_7) rfl (tlt (by decide : ((1 : Int32) < (2 : Int32)))).2.1 tk) ?_
  refine Gs (fun _ tk => XS.aloadN X2.here hx rfl (hb hby d17_10) rfl rfl tk) ?_
  refine Gs (fun _ tk => XS.iloadN X2.here hx rfl (hb hby d17_11) rfl tk) ?_
  show Goes _ _ _ _ _ (T2.setTop (mkF m 12 #[.val (.ref x), .val (.int (1 : Int32)), .val (.ref y), .val (.int (1 : Int32)), .val (.int (2 : Int32)), .val (.int (1 : Int32)), .val (.int c0)] [(.int (1 : Int32)), (.ref x)]))
  obtain ⟨cl3, Ar3, -, S3, N3z, H3, -⟩ := id V_x
  have hin3 : ¬ ((1 : Int32) < 0 ∨ cl3.slots.size ≤ ((1 : Int32)).toNatClampNeg) := inb_of S3 ⟨by decide, by decide⟩
  have hat3 : cl3.slots[((1 : Int32)).toNatClampNeg]? = some (.int c1) := Has.at H3 hin3 rfl
  refine Gs (fun _ tk => X2.caload hx (j := (1 : Int32)) (v := (.int c1)) (by rw [e2]; exact Ar3.1) (State.isArrayOf_alike hZ.alike Ar3.2.1) Ar3.2.2 hin3 hat3 (g := (mkF m 12 #[.val (.ref x), .val (.int (1 : Int32)), .val (.ref y), .val (.int (1 : Int32)), .val (.int (2 : Int32)), .val (.int (1 : Int32)), .val (.int c0)] [(.int (1 : Int32)), (.ref x)])) rfl rfl (hb hby d17_12) _ tk) ?_
  show Goes _ _ _ _ _ (T2.setTop (mkF m 13 #[.val (.ref x), .val (.int (1 : Int32)), .val (.ref y), .val (.int (1 : Int32)), .val (.int (2 : Int32)), .val (.int (1 : Int32)), .val (.int c0)] [(.int c1)]))
  refine Gs (fun _ tk => XS.istore X2.here hx rfl (hb hby d17_13) rfl (l' := #[.val (.ref x), .val (.int (1 : Int32)), .val (.ref y), .val (.int (1 : Int32)), .val (.int (2 : Int32)), .val (.int (1 : Int32)), .val (.int c1)]) rfl tk) ?_
  refine Gs (fun _ tk => XS.iload X2.here hx rfl (hb hby d17_15) rfl tk) ?_
  refine Gs (fun _ tk => XS.sipush X2.here hx rfl (hb hby d17_17) tk) ?_
  refine Gs (fun _ tk => XS.icmpNo X2.here hx rfl (hb hby d17_20) rfl (tlt hn_c1).2.2.2 tk) ?_
  refine Gs (fun _ tk => XS.iload X2.here hx rfl (hb hby d17_23) rfl tk) ?_
  refine Goes.ret X2 (some (.int (1 : Int32))) (fun h => by rw [hret] at h; cases h) hlk (by decide) (by decide) ?_ (fun fs hr => ?_)
  · rw [e2]; exact ⟨rfl, N2, KP, V_y⟩
  · exact retI X2 hx hret (hb hby d17_25) hr
theorem own_ef_rs_c3_2_1 (m : MethodId) (x0 : Addr) : entryFrame m #[(.ref x0), (.int (0 : Int32)), (.int (2 : Int32))] 6 = mkF m 0 #[.val (.ref x0), .val (.int (0 : Int32)), .val (.int (2 : Int32)), .unset, .unset, .unset] [] := by first | (simp [entryFrame, mkF, argsToLocals, Value.category]; done) | rfl
def Q_rs_c3_2_1 (Z : State) (x : Addr) (kx : ClassId) (c0 : Int32) (c1 : Int32) (h0 : Heap) (n0 : Nat) (v : Option Value) (h : Heap) (L : List Loc) : Prop := ∃ y : Addr, ∃ ky : ClassId, v = some (.ref y) ∧ Fr n0 L ∧ Keep h0 h [] ∧ Arv Z h y ky .byte (4 : Int32) [(.int (lo8 c0)), (.int (hi8 c0)), (.int (lo8 c1)), (.int (hi8 c1))] (.int (0 : Int32)) ∧ n0 ≤ y ∧ h0.size ≤ y
set_option maxRecDepth 65536 in
set_option maxHeartbeats 40000000 in
theorem rs_c3_2_1 (l : Launch) (Z : State) (a0 : Array Value) (hw : ∀ d ∈ tables_1, d.before a0 Z = true) (ws : List Jvm.Cond) (x : Addr) (kx : ClassId) (c0 : Int32) (c1 : Int32) (h0 : Heap) (n0 : Nat) (Z0 : n0 ≤ h0.size) (V_x : Arv Z h0 x kx .char (2 : Int32) [(.int c0), (.int c1)] (.int (0 : Int32))) (hn_c0 : ¬ ((255 : Int32) < c0)) (hn_c1 : (255 : Int32) < c1) (hC_c0 : Chr c0) (hC_c1 : Chr c1) (S__assertionsDisabled : Sta Z h0 "java/lang/StringUTF16" "$assertionsDisabled" "Z" (.int (1 : Int32))) (S_HI_BYTE_SHIFT : Sta Z h0 "java/lang/StringUTF16" "HI_BYTE_SHIFT" "I" (.int (0 : Int32))) (S_LO_BYTE_SHIFT : Sta Z h0 "java/lang/StringUTF16" "LO_BYTE_SHIFT" "I" (.int (8 : Int32))) :
    Met l Z mN18 jdk_52_method_16_code 6 (some (.array .byte)) ({ frames := 3, cells := 2, slots := 6, locals := 40 } : Room) ws #[(.ref x), (.int (0 : Int32)), (.int (2 : Int32))] h0 (Q_rs_c3_2_1 Z x kx c0 c1 h0 n0) := by
  refine own_met (plainFor_of_name own_pn3) ?_
  intro p e s m below meth c s₁ hret hx hby hlk hml hown hnm X0 e0 hZ hh
  have N0 := Fr.nil n0
  refine Gs (fun _ tk => castTop (own_ef_rs_c3_2_1 m x) tk) ?_
  have KP : Keep h0 h0 [] := Keep.refl _ _
  show Goes _ _ _ _ _ (s₁.setTop (mkF m 0 #[.val (.ref x), .val (.int (0 : Int32)), .val (.int (2 : Int32)), .unset, .unset, .unset] []))
  refine Gs (fun _ tk => XS.iloadN X0.here hx rfl (hb hby d18_0) rfl tk) ?_
  obtain ⟨T1, h1, k1, X1, e1, E1, A1, st1⟩ := newP X0 hx hZ (gw hw 20 rfl) e0 (g := (mkF m 1 #[.val (.ref x), .val (.int (0 : Int32)), .val (.int (2 : Int32)), .unset, .unset, .unset] [(.int (2 : Int32))])) rfl (hb hby d18_1) rfl (by decide) (cap := 2) (by decide) (by decide) (by decide) (by decide)
  obtain ⟨b1, gq1⟩ : ∃ z, z = h0.size := ⟨_, rfl⟩
  rw [← gq1] at A1 st1
  have g_b1 : n0 ≤ b1 := by rw [gq1]; exact Z0
  have sz_b1 : h0.size ≤ b1 := by rw [gq1]; exact KP.1
  have ne_x_b1 : x ≠ b1 := by rw [gq1]; exact Nat.ne_of_lt V_x.lt
  replace V_x := V_x.ext E1
  replace S__assertionsDisabled := S__assertionsDisabled.ext E1
  replace S_HI_BYTE_SHIFT := S_HI_BYTE_SHIFT.ext E1
  replace S_LO_BYTE_SHIFT := S_LO_BYTE_SHIFT.ext E1
  replace KP := KP.ext E1
  replace Z0 : n0 ≤ h1.size := Nat.le_trans Z0 E1.1
  have V_b1 : Arv Z h1 b1 k1 .byte (2 : Int32) [(.int (0 : Int32)), (.int (0 : Int32))] (.int (0 : Int32)) := (Arv.new A1 (by decide)).pad (pad_rep [] (.int (0 : Int32)) 2)
  refine Gs st1 ?_
  show Goes _ _ _ _ _ (T1.setTop (mkF m 3 #[.val (.ref x), .val (.int (0 : Int32)), .val (.int (2 : Int32)), .unset, .unset, .unset] [(.ref b1)]))
  refine Gs (fun _ tk => XS.astoreN X1.here hx rfl (hb hby d18_3) rfl rfl (l' := #[.val (.ref x), .val (.int (0 : Int32)), .val (.int (2 : Int32)), .val (.ref b1), .unset, .unset]) rfl tk) ?_
  refine Gs (fun _ tk => XS.aloadN X1.here hx rfl (hb hby d18_4) rfl rfl tk) ?_
  refine Gs (fun _ tk => XS.iloadN X1.here hx rfl (hb hby d18_5) rfl tk) ?_
  refine Gs (fun _ tk => XS.aloadN X1.here hx rfl (hb hby d18_6) rfl rfl tk) ?_
  refine Gs (fun _ tk => XS.iconst X1.here hx rfl (hb hby d18_7) tk) ?_
  refine Gs (fun _ tk => XS.iloadN X1.here hx rfl (hb hby d18_8) rfl tk) ?_
  show Goes _ _ _ _ _ (T1.setTop (mkF m 9 #[.val (.ref x), .val (.int (0 : Int32)), .val (.int (2 : Int32)), .val (.ref b1), .unset, .unset] [(.int (2 : Int32)), (.int (0 : Int32)), (.ref b1), (.int (0 : Int32)), (.ref x)]))
  obtain ⟨_, _, ⟨T2, L2, k2, n2⟩, -, X2, ⟨Lc2, hQ2, l2, y2, z2⟩, st2⟩ := Jvm.LawKit.callS X1 hx (y := mN17) hown (mvT hZ (gw hw 49 rfl)) (mvT hZ (gw hw 50 rfl)) (mvT hZ (gw hw 47 rfl)) (mvT hZ (gw hw 51 rfl)) (by decide) (backOf (W := 0) (rs_c5_2_1 l Z a0 hw [] x kx b1 k1 c0 c1 h1 n0 Z0 V_x V_b1 g_b1 ne_x_b1 (by first | assumption | decide) (by first | assumption | decide)) hZ (gw hw 51 rfl) (gw hw 47 rfl) (by decide) (by decide)) (g := (mkF m 9 #[.val (.ref x), .val (.int (0 : Int32)), .val (.int (2 : Int32)), .val (.ref b1), .unset, .unset] [(.int (2 : Int32)), (.int (0 : Int32)), (.ref b1), (.int (0 : Int32)), (.ref x)])) rfl (by rw [hml]; rfl) (argsL := [(.ref x), (.int (0 : Int32)), (.ref b1), (.int (0 : Int32)), (.int (2 : Int32))]) (rest := []) (lenOf own_pd11 rfl) rfl (w0 (Nat.le_of_eq rfl)) (hb hby d18_9) (fun _ _ => ⟨rfl, e1, (by decide : 1 + 0 ≤ _), (by decide : 2 + 0 ≤ _)⟩)
  dsimp only [Pt.U, Pt.locs, Pt.cells, Pt.slots] at X2 l2 y2 z2 st2 hQ2
  subst l2 y2 z2
  obtain ⟨rfl, N2q, K2, V_b1_2'⟩ := hQ2
  have N2 := Fr.app N0 N2q
  replace S__assertionsDisabled := own_staK S__assertionsDisabled K2 (allS (own_obA V_b1) all0)
  replace S_HI_BYTE_SHIFT := own_staK S_HI_BYTE_SHIFT K2 (allS (own_obA V_b1) all0)
  replace S_LO_BYTE_SHIFT := own_staK S_LO_BYTE_SHIFT K2 (allS (own_obA V_b1) all0)
  replace V_x := V_x.keep K2 (ninS ne_x_b1 nin0)
  replace KP := KP.trans K2 (allS (Or.inr sz_b1) all0)
  replace Z0 := Nat.le_trans Z0 K2.1
  have V_b1 := V_b1_2'
  refine Gs st2 ?_
  show Goes _ _ _ _ _ (T2.setTop (mkF m 12 #[.val (.ref x), .val (.int (0 : Int32)), .val (.int (2 : Int32)), .val (.ref b1), .unset, .unset] [(.int (1 : Int32))]))
  refine Gs (fun _ tk => XS.istore X2.here hx rfl (hb hby d18_12) rfl (l' := #[.val (.ref x), .val (.int (0 : Int32)), .val (.int (2 : Int32)), .val (.ref b1), .val (.int (1 : Int32)), .unset]) rfl tk) ?_
  refine Gs (fun _ tk => XS.iload X2.here hx rfl (hb hby d18_14) rfl tk) ?_
  refine Gs (fun _ tk => XS.iloadN X2.here hx rfl (hb hby d18_16) rfl tk) ?_
  refine Gs (fun _ tk => XS.icmpNo X2.here hx rfl (hb hby d18_17) rfl (feq (by decide : ¬ ((1 : Int32) = (2 : Int32)))).1 tk) ?_
  refine Gs (fun _ tk => XS.aloadN X2.here hx rfl (hb hby d18_20) rfl rfl tk) ?_
  refine Gs (fun _ tk => XS.iloadN X2.here hx rfl (hb hby d18_21) rfl tk) ?_
  show Goes _ _ _ _ _ (T2.setTop (mkF m 22 #[.val (.ref x), .val (.int (0 : Int32)), .val (.int (2 : Int32)), .val (.ref b1), .val (.int (1 : Int32)), .unset] [(.int (0 : Int32)), (.ref x)]))
  refine Gs (fun _ tk => XS.iloadN X2.here hx rfl (hb hby d18_22) rfl tk) ?_
  have ltc3_x : x < T2.heap.size := V_x.lt
  have ltc3_b1 : b1 < T2.heap.size := V_b1.lt
  have szs3 : h0.size ≤ T2.heap.size := KP.1
  obtain ⟨_, _, ⟨T3, L3, k3, n3⟩, -, X3, ⟨Lc3, hQ3, l3, y3, z3⟩, st3⟩ := Jvm.LawKit.callS X2 hx (y := mN16) hown (mvT hZ (gw hw 69 rfl)) (mvT hZ (gw hw 70 rfl)) (mvT hZ (gw hw 47 rfl)) (mvT hZ (gw hw 71 rfl)) (by decide) (backOf (W := 0) (rs_tb_2 l Z a0 hw [] x kx c0 c1 T2.heap n0 Z0 V_x S__assertionsDisabled S_HI_BYTE_SHIFT S_LO_BYTE_SHIFT) hZ (gw hw 71 rfl) (gw hw 47 rfl) (by decide) (by decide)) (g := (mkF m 23 #[.val (.ref x), .val (.int (0 : Int32)), .val (.int (2 : Int32)), .val (.ref b1), .val (.int (1 : Int32)), .unset] [(.int (2 : Int32)), (.int (0 : Int32)), (.ref x)])) rfl (by rw [hml]; rfl) (argsL := [(.ref x), (.int (0 : Int32)), (.int (2 : Int32))]) (rest := []) (lenOf own_pd12 rfl) rfl (w0 (Nat.le_of_eq rfl)) (hb hby d18_23) (fun _ _ => ⟨rfl, rfl, (by decide : 1 + 1 ≤ _), (by decide : 2 + 4 ≤ _)⟩)
  dsimp only [Pt.U, Pt.locs, Pt.cells, Pt.slots] at X3 l3 y3 z3 st3 hQ3
  subst l3 y3 z3
  obtain ⟨y3, ky3, rfl, N3q, K3, V_y3_3', g_y3_3', sz_y3_3'⟩ := hQ3
  have N3 := Fr.app N2 N3q
  replace S__assertionsDisabled := own_staK S__assertionsDisabled K3 all0
  replace S_HI_BYTE_SHIFT := own_staK S_HI_BYTE_SHIFT K3 all0
  replace S_LO_BYTE_SHIFT := own_staK S_LO_BYTE_SHIFT K3 all0
  replace KP := KP.trans K3 all0
  replace Z0 := Nat.le_trans Z0 K3.1
  have V_y3 := V_y3_3'
  have g_y3 := g_y3_3'
  have szc_y3 := sz_y3_3'
  have ne_x_y3 : x ≠ y3 := Nat.ne_of_lt (Nat.lt_of_lt_of_le ltc3_x szc_y3)
  have ne_b1_y3 : b1 ≠ y3 := Nat.ne_of_lt (Nat.lt_of_lt_of_le ltc3_b1 szc_y3)
  have sz_y3 : h0.size ≤ y3 := Nat.le_trans szs3 szc_y3
  refine Gs st3 ?_
  show Goes _ _ _ _ _ (T3.setTop (mkF m 26 #[.val (.ref x), .val (.int (0 : Int32)), .val (.int (2 : Int32)), .val (.ref b1), .val (.int (1 : Int32)), .unset] [(.ref y3)]))
  refine Gs (fun _ tk => XS.astore X3.here hx rfl (hb hby d18_26) rfl rfl (l' := #[.val (.ref x), .val (.int (0 : Int32)), .val (.int (2 : Int32)), .val (.ref b1), .val (.int (1 : Int32)), .val (.ref y3)]) rfl tk) ?_
  refine Gs (fun _ tk => XS.aload X3.here hx rfl (hb hby d18_28) rfl rfl tk) ?_
  refine Gs (fun _ tk => XS.iload X3.here hx rfl (hb hby d18_30) rfl tk) ?_
  obtain ⟨_, _, ⟨T4, L4, k4, n4⟩, -, X4, ⟨Lc4, hQ4, l4, y4, z4⟩, st4⟩ := Jvm.LawKit.callS X3 hx (y := mN8) hown (mvT hZ (gw hw 85 rfl)) (mvT hZ (gw hw 86 rfl)) (mvT hZ (gw hw 47 rfl)) (mvT hZ (gw hw 87 rfl)) (by decide) (backOf (W := 0) (rs_gch l Z a0 hw [] y3 ky3 [c0, c1] (1 : Int32) c1 T3.heap n0 Z0 V_y3 (by first | assumption | decide) (own_il 1 _ (by decide) (by simp) (Nat.le_of_ble_eq_true rfl)) rfl (Nat.le_of_ble_eq_true rfl) hC_c1 S__assertionsDisabled S_HI_BYTE_SHIFT S_LO_BYTE_SHIFT) hZ (gw hw 87 rfl) (gw hw 47 rfl) (by decide) (by decide)) (g := (mkF m 32 #[.val (.ref x), .val (.int (0 : Int32)), .val (.int (2 : Int32)), .val (.ref b1), .val (.int (1 : Int32)), .val (.ref y3)] [(.int (1 : Int32)), (.ref y3)])) rfl (by rw [hml]; rfl) (argsL := [(.ref y3), (.int (1 : Int32))]) (rest := []) (lenOf own_pd5 rfl) rfl (w0 (Nat.le_of_eq rfl)) (hb hby d18_32) (fun _ _ => ⟨rfl, rfl, (by decide : 2 + 0 ≤ _), (by decide : 6 + 0 ≤ _)⟩)
  dsimp only [Pt.U, Pt.locs, Pt.cells, Pt.slots] at X4 l4 y4 z4 st4 hQ4
  subst l4 y4 z4
  obtain ⟨rfl, N4q, e4⟩ := hQ4
  have N4 := Fr.app N3 N4q
  refine Gs st4 ?_
  show Goes _ _ _ _ _ (T4.setTop (mkF m 35 #[.val (.ref x), .val (.int (0 : Int32)), .val (.int (2 : Int32)), .val (.ref b1), .val (.int (1 : Int32)), .val (.ref y3)] [(.int c1)]))
  refine Gs (fun _ tk => XS.sipush X4.here hx rfl (hb hby d18_35) tk) ?_
  refine Gs (fun _ tk => XS.icmpYes X4.here hx rfl (pc0 := 38) (pc' := 54) rfl (hb hby d18_38) rfl (tlt hn_c1).2.2.1 (by decide) (by decide) tk) ?_
  refine Gs (fun _ tk => XS.aload X4.here hx rfl (hb hby d18_54) rfl rfl tk) ?_
  refine Goes.ret X4 (some (.ref y3)) (fun h => by rw [hret] at h; cases h) hlk (by decide) (by decide) ?_ (fun fs hr => ?_)
  · rw [e4]; exact ⟨y3, ky3, rfl, N4, KP, V_y3, g_y3, sz_y3⟩
  · exact own_retA X4 hx hret rfl rfl (hb hby d18_56) hr
theorem own_ef_rs_c5_2_2 (m : MethodId) (x0 : Addr) (x2 : Addr) : entryFrame m #[(.ref x0), (.int (0 : Int32)), (.ref x2), (.int (0 : Int32)), (.int (2 : Int32))] 7 = mkF m 0 #[.val (.ref x0), .val (.int (0 : Int32)), .val (.ref x2), .val (.int (0 : Int32)), .val (.int (2 : Int32)), .unset, .unset] [] := by first | (simp [entryFrame, mkF, argsToLocals, Value.category]; done) | rfl
def Q_rs_c5_2_2 (Z : State) (x : Addr) (kx : ClassId) (y : Addr) (ky : ClassId) (c0 : Int32) (c1 : Int32) (h0 : Heap) (n0 : Nat) (v : Option Value) (h : Heap) (L : List Loc) : Prop := v = some (.int (2 : Int32)) ∧ Fr n0 L ∧ Keep h0 h [y] ∧ Arv Z h y ky .byte (2 : Int32) [(.int (lo8 c0)), (.int (lo8 c1))] (.int (0 : Int32))
set_option maxRecDepth 65536 in
set_option maxHeartbeats 40000000 in
theorem rs_c5_2_2 (l : Launch) (Z : State) (a0 : Array Value) (hw : ∀ d ∈ tables_1, d.before a0 Z = true) (ws : List Jvm.Cond) (x : Addr) (kx : ClassId) (y : Addr) (ky : ClassId) (c0 : Int32) (c1 : Int32) (h0 : Heap) (n0 : Nat) (Z0 : n0 ≤ h0.size) (V_x : Arv Z h0 x kx .char (2 : Int32) [(.int c0), (.int c1)] (.int (0 : Int32))) (V_y : Arv Z h0 y ky .byte (2 : Int32) [(.int (0 : Int32)), (.int (0 : Int32))] (.int (0 : Int32))) (g_y : n0 ≤ y) (ne_x_y : x ≠ y) (hn_c0 : ¬ ((255 : Int32) < c0)) (hn_c1 : ¬ ((255 : Int32) < c1)) :
    Met l Z mN17 jdk_52_method_21_code 7 (some .int) ({ frames := 0, cells := 0, slots := 0, locals := 0 } : Room) ws #[(.ref x), (.int (0 : Int32)), (.ref y), (.int (0 : Int32)), (.int (2 : Int32))] h0 (Q_rs_c5_2_2 Z x kx y ky c0 c1 h0 n0) := by
  refine own_met (plainFor_of_name own_pn3) ?_
  intro p e s m below meth c s₁ hret hx hby hlk hml hown hnm X0 e0 hZ hh
  have N0 := Fr.nil n0
  refine Gs (fun _ tk => castTop (own_ef_rs_c5_2_2 m x y) tk) ?_
  have KP : Keep h0 h0 [y] := Keep.refl _ _
  show Goes _ _ _ _ _ (s₁.setTop (mkF m 0 #[.val (.ref x), .val (.int (0 : Int32)), .val (.ref y), .val (.int (0 : Int32)), .val (.int (2 : Int32)), .unset, .unset] []))
  refine Gs (fun _ tk => XS.iconst X0.here hx rfl (hb hby d17_0) tk) ?_
  refine Gs (fun _ tk => XS.istore X0.here hx rfl (hb hby d17_1) rfl (l' := #[.val (.ref x), .val (.int (0 : Int32)), .val (.ref y), .val (.int (0 : Int32)), .val (.int (2 : Int32)), .val (.int (0 : Int32)), .unset]) rfl tk) ?_
  refine Gs (fun _ tk => XS.iload X0.here hx rfl (hb hby d17_3) rfl tk) ?_
  refine Gs (fun _ tk => XS.iload X0.here hx rfl (hb hby d17_5) rfl tk) ?_
  refine Gs (fun _ tk => XS.icmpNo X0.here hx rfl (hb hby d17_7) rfl (tlt (by decide : ((0 : Int32) < (2 : Int32)))).2.1 tk) ?_
  refine Gs (fun _ tk => XS.aloadN X0.here hx rfl (hb hby d17_10) rfl rfl tk) ?_
  show Goes _ _ _ _ _ (s₁.setTop (mkF m 11 #[.val (.ref x), .val (.int (0 : Int32)), .val (.ref y), .val (.int (0 : Int32)), .val (.int (2 : Int32)), .val (.int (0 : Int32)), .unset] [(.ref x)]))
  refine Gs (fun _ tk => XS.iloadN X0.here hx rfl (hb hby d17_11) rfl tk) ?_
  obtain ⟨cl1, Ar1, -, S1, N1z, H1, -⟩ := id V_x
  have hin1 : ¬ ((0 : Int32) < 0 ∨ cl1.slots.size ≤ ((0 : Int32)).toNatClampNeg) := inb_of S1 ⟨by decide, by decide⟩
  have hat1 : cl1.slots[((0 : Int32)).toNatClampNeg]? = some (.int c0) := Has.at H1 hin1 rfl
  refine Gs (fun _ tk => X0.caload hx (j := (0 : Int32)) (v := (.int c0)) (by rw [e0]; exact Ar1.1) (State.isArrayOf_alike hZ.alike Ar1.2.1) Ar1.2.2 hin1 hat1 (g := (mkF m 12 #[.val (.ref x), .val (.int (0 : Int32)), .val (.ref y), .val (.int (0 : Int32)), .val (.int (2 : Int32)), .val (.int (0 : Int32)), .unset] [(.int (0 : Int32)), (.ref x)])) rfl rfl (hb hby d17_12) _ tk) ?_
  show Goes _ _ _ _ _ (s₁.setTop (mkF m 13 #[.val (.ref x), .val (.int (0 : Int32)), .val (.ref y), .val (.int (0 : Int32)), .val (.int (2 : Int32)), .val (.int (0 : Int32)), .unset] [(.int c0)]))
  refine Gs (fun _ tk => XS.istore X0.here hx rfl (hb hby d17_13) rfl (l' := #[.val (.ref x), .val (.int (0 : Int32)), .val (.ref y), .val (.int (0 : Int32)), .val (.int (2 : Int32)), .val (.int (0 : Int32)), .val (.int c0)]) rfl tk) ?_
  refine Gs (fun _ tk => XS.iload X0.here hx rfl (hb hby d17_15) rfl tk) ?_
  refine Gs (fun _ tk => XS.sipush X0.here hx rfl (hb hby d17_17) tk) ?_
  refine Gs (fun _ tk => XS.icmpYes X0.here hx rfl (pc0 := 20) (pc' := 26) rfl (hb hby d17_20) rfl (flt hn_c0).2.2.2 (by decide) (by decide) tk) ?_
  refine Gs (fun _ tk => XS.aloadN X0.here hx rfl (hb hby d17_26) rfl rfl tk) ?_
  refine Gs (fun _ tk => XS.iloadN X0.here hx rfl (hb hby d17_27) rfl tk) ?_
  show Goes _ _ _ _ _ (s₁.setTop (mkF m 28 #[.val (.ref x), .val (.int (0 : Int32)), .val (.ref y), .val (.int (0 : Int32)), .val (.int (2 : Int32)), .val (.int (0 : Int32)), .val (.int c0)] [(.int (0 : Int32)), (.ref y)]))
  refine Gs (fun _ tk => XS.iload X0.here hx rfl (hb hby d17_28) rfl tk) ?_
  show Goes _ _ _ _ _ (s₁.setTop (mkF m 30 #[.val (.ref x), .val (.int (0 : Int32)), .val (.ref y), .val (.int (0 : Int32)), .val (.int (2 : Int32)), .val (.int (0 : Int32)), .val (.int c0)] [(.int c0), (.int (0 : Int32)), (.ref y)]))
  refine Gs (fun _ tk => XS.i2b X0.here hx rfl (hb hby d17_30) rfl tk) ?_
  show Goes _ _ _ _ _ (s₁.setTop (mkF m 31 #[.val (.ref x), .val (.int (0 : Int32)), .val (.ref y), .val (.int (0 : Int32)), .val (.int (2 : Int32)), .val (.int (0 : Int32)), .val (.int c0)] [(.int (c0.toInt8.toInt32)), (.int (0 : Int32)), (.ref y)]))
  obtain ⟨cl2, Ar2, q2, S2, N2z, H2, G2⟩ := V_y
  have hin2 : ¬ ((0 : Int32) < 0 ∨ cl2.slots.size ≤ ((0 : Int32)).toNatClampNeg) := inb_of S2 ⟨by decide, by decide⟩
  obtain ⟨T2, h2, X2, e2, W2, st2⟩ := stB X0 hx hZ e0 Ar2 (j := (0 : Int32)) hin2 (g := (mkF m 31 #[.val (.ref x), .val (.int (0 : Int32)), .val (.ref y), .val (.int (0 : Int32)), .val (.int (2 : Int32)), .val (.int (0 : Int32)), .val (.int c0)] [(.int (c0.toInt8.toInt32)), (.int (0 : Int32)), (.ref y)])) rfl rfl (hb hby d17_31)
  have Vn2 := Arv.set Ar2 q2 S2 N2z H2 G2 (fits_nar_byte _) W2 0 rfl (Nat.le_of_ble_eq_true rfl)
  have N2 := Fr.snoc X2 N0 g_y
  replace V_x := V_x.other W2 ne_x_y
  replace KP := KP.wr W2 (Or.inl (List.mem_of_getElem? (i := 0) rfl))
  have V_y : Arv Z h2 y ky .byte (2 : Int32) [(.int (lo8 c0)), (.int (0 : Int32))] (.int (0 : Int32)) := by have q := Vn2; rw [own_nb2] at q; exact q
  replace Z0 : n0 ≤ h2.size := by rw [W2.size]; exact Z0
  refine Gs st2 ?_
  show Goes _ _ _ _ _ (T2.setTop (mkF m 32 #[.val (.ref x), .val (.int (0 : Int32)), .val (.ref y), .val (.int (0 : Int32)), .val (.int (2 : Int32)), .val (.int (0 : Int32)), .val (.int c0)] []))
  refine Gs (fun _ tk => XS.iinc X2.here hx rfl (hb hby d17_32) rfl (l' := #[.val (.ref x), .val (.int ((0 : Int32) + (1 : Int32))), .val (.ref y), .val (.int (0 : Int32)), .val (.int (2 : Int32)), .val (.int (0 : Int32)), .val (.int c0)]) rfl tk) ?_
  rw [show ((0 : Int32) + (1 : Int32)) = (1 : Int32) from by decide]
  show Goes _ _ _ _ _ (T2.setTop (mkF m 35 #[.val (.ref x), .val (.int (1 : Int32)), .val (.ref y), .val (.int (0 : Int32)), .val (.int (2 : Int32)), .val (.int (0 : Int32)), .val (.int c0)] []))
  refine Gs (fun _ tk => XS.iinc X2.here hx rfl (hb hby d17_35) rfl (l' := #[.val (.ref x), .val (.int (1 : Int32)), .val (.ref y), .val (.int ((0 : Int32) + (1 : Int32))), .val (.int (2 : Int32)), .val (.int (0 : Int32)), .val (.int c0)]) rfl tk) ?_
  rw [show ((0 : Int32) + (1 : Int32)) = (1 : Int32) from by decide]
  show Goes _ _ _ _ _ (T2.setTop (mkF m 38 #[.val (.ref x), .val (.int (1 : Int32)), .val (.ref y), .val (.int (1 : Int32)), .val (.int (2 : Int32)), .val (.int (0 : Int32)), .val (.int c0)] []))
  refine Gs (fun _ tk => XS.iinc X2.here hx rfl (hb hby d17_38) rfl (l' := #[.val (.ref x), .val (.int (1 : Int32)), .val (.ref y), .val (.int (1 : Int32)), .val (.int (2 : Int32)), .val (.int ((0 : Int32) + (1 : Int32))), .val (.int c0)]) rfl tk) ?_
  rw [show ((0 : Int32) + (1 : Int32)) = (1 : Int32) from by decide]
  show Goes _ _ _ _ _ (T2.setTop (mkF m 41 #[.val (.ref x), .val (.int (1 : Int32)), .val (.ref y), .val (.int (1 : Int32)), .val (.int (2 : Int32)), .val (.int (1 : Int32)), .val (.int c0)] []))
  refine Gs (fun _ tk => XS.goto X2.here hx rfl (pc0 := 41) (pc' := 3) rfl (hb hby d17_41) (by decide) (by decide) tk) ?_
  refine Gs (fun _ tk => XS.iload X2.here hx rfl (hb hby d17_3) rfl tk) ?_
  refine Gs (fun _ tk => XS.iload X2.here hx rfl (hb hby d17_5) rfl tk) ?_
  refine Gs (fun _ tk => XS.icmpNo X2.here hx rfl (hb hby d17_7) rfl (tlt (by decide : ((1 : Int32) < (2 : Int32)))).2.1 tk) ?_
  refine Gs (fun _ tk => XS.aloadN X2.here hx rfl (hb hby d17_10) rfl rfl tk) ?_
  refine Gs (fun _ tk => XS.iloadN X2.here hx rfl (hb hby d17_11) rfl tk) ?_
  show Goes _ _ _ _ _ (T2.setTop (mkF m 12 #[.val (.ref x), .val (.int (1 : Int32)), .val (.ref y), .val (.int (1 : Int32)), .val (.int (2 : Int32)), .val (.int (1 : Int32)), .val (.int c0)] [(.int (1 : Int32)), (.ref x)]))
  obtain ⟨cl3, Ar3, -, S3, N3z, H3, -⟩ := id V_x
  have hin3 : ¬ ((1 : Int32) < 0 ∨ cl3.slots.size ≤ ((1 : Int32)).toNatClampNeg) := inb_of S3 ⟨by decide, by decide⟩
  have hat3 : cl3.slots[((1 : Int32)).toNatClampNeg]? = some (.int c1) := Has.at H3 hin3 rfl
  refine Gs (fun _ tk => X2.caload hx (j := (1 : Int32)) (v := (.int c1)) (by rw [e2]; exact Ar3.1) (State.isArrayOf_alike hZ.alike Ar3.2.1) Ar3.2.2 hin3 hat3 (g := (mkF m 12 #[.val (.ref x), .val (.int (1 : Int32)), .val (.ref y), .val (.int (1 : Int32)), .val (.int (2 : Int32)), .val (.int (1 : Int32)), .val (.int c0)] [(.int (1 : Int32)), (.ref x)])) rfl rfl (hb hby d17_12) _ tk) ?_
  show Goes _ _ _ _ _ (T2.setTop (mkF m 13 #[.val (.ref x), .val (.int (1 : Int32)), .val (.ref y), .val (.int (1 : Int32)), .val (.int (2 : Int32)), .val (.int (1 : Int32)), .val (.int c0)] [(.int c1)]))
  refine Gs (fun _ tk => XS.istore X2.here hx rfl (hb hby d17_13) rfl (l' := #[.val (.ref x), .val (.int (1 : Int32)), .val (.ref y), .val (.int (1 : Int32)), .val (.int (2 : Int32)), .val (.int (1 : Int32)), .val (.int c1)]) rfl tk) ?_
  refine Gs (fun _ tk => XS.iload X2.here hx rfl (hb hby d17_15) rfl tk) ?_
  refine Gs (fun _ tk => XS.sipush X2.here hx rfl (hb hby d17_17) tk) ?_
  refine Gs (fun _ tk => XS.icmpYes X2.here hx rfl (pc0 := 20) (pc' := 26) rfl (hb hby d17_20) rfl (flt hn_c1).2.2.2 (by decide) (by decide) tk) ?_
  refine Gs (fun _ tk => XS.aloadN X2.here hx rfl (hb hby d17_26) rfl rfl tk) ?_
  refine Gs (fun _ tk => XS.iloadN X2.here hx rfl (hb hby d17_27) rfl tk) ?_
  show Goes _ _ _ _ _ (T2.setTop (mkF m 28 #[.val (.ref x), .val (.int (1 : Int32)), .val (.ref y), .val (.int (1 : Int32)), .val (.int (2 : Int32)), .val (.int (1 : Int32)), .val (.int c1)] [(.int (1 : Int32)), (.ref y)]))
  refine Gs (fun _ tk => XS.iload X2.here hx rfl (hb hby d17_28) rfl tk) ?_
  show Goes _ _ _ _ _ (T2.setTop (mkF m 30 #[.val (.ref x), .val (.int (1 : Int32)), .val (.ref y), .val (.int (1 : Int32)), .val (.int (2 : Int32)), .val (.int (1 : Int32)), .val (.int c1)] [(.int c1), (.int (1 : Int32)), (.ref y)]))
  refine Gs (fun _ tk => XS.i2b X2.here hx rfl (hb hby d17_30) rfl tk) ?_
  show Goes _ _ _ _ _ (T2.setTop (mkF m 31 #[.val (.ref x), .val (.int (1 : Int32)), .val (.ref y), .val (.int (1 : Int32)), .val (.int (2 : Int32)), .val (.int (1 : Int32)), .val (.int c1)] [(.int (c1.toInt8.toInt32)), (.int (1 : Int32)), (.ref y)]))
  obtain ⟨cl4, Ar4, q4, S4, N4z, H4, G4⟩ := V_y
  have hin4 : ¬ ((1 : Int32) < 0 ∨ cl4.slots.size ≤ ((1 : Int32)).toNatClampNeg) := inb_of S4 ⟨by decide, by decide⟩
  obtain ⟨T4, h4, X4, e4, W4, st4⟩ := stB X2 hx hZ e2 Ar4 (j := (1 : Int32)) hin4 (g := (mkF m 31 #[.val (.ref x), .val (.int (1 : Int32)), .val (.ref y), .val (.int (1 : Int32)), .val (.int (2 : Int32)), .val (.int (1 : Int32)), .val (.int c1)] [(.int (c1.toInt8.toInt32)), (.int (1 : Int32)), (.ref y)])) rfl rfl (hb hby d17_31)
  have Vn4 := Arv.set Ar4 q4 S4 N4z H4 G4 (fits_nar_byte _) W4 1 rfl (Nat.le_of_ble_eq_true rfl)
  have N4 := Fr.snoc X4 N2 g_y
  replace KP := KP.wr W4 (Or.inl (List.mem_of_getElem? (i := 0) rfl))
  have V_y : Arv Z h4 y ky .byte (2 : Int32) [(.int (lo8 c0)), (.int (lo8 c1))] (.int (0 : Int32)) := by have q := Vn4; rw [own_nb2] at q; exact q
  replace Z0 : n0 ≤ h4.size := by rw [W4.size]; exact Z0
  refine Gs st4 ?_
  show Goes _ _ _ _ _ (T4.setTop (mkF m 32 #[.val (.ref x), .val (.int (1 : Int32)), .val (.ref y), .val (.int (1 : Int32)), .val (.int (2 : Int32)), .val (.int (1 : Int32)), .val (.int c1)] []))
  refine Gs (fun _ tk => XS.iinc X4.here hx rfl (hb hby d17_32) rfl (l' := #[.val (.ref x), .val (.int ((1 : Int32) + (1 : Int32))), .val (.ref y), .val (.int (1 : Int32)), .val (.int (2 : Int32)), .val (.int (1 : Int32)), .val (.int c1)]) rfl tk) ?_
  rw [show ((1 : Int32) + (1 : Int32)) = (2 : Int32) from by decide]
  show Goes _ _ _ _ _ (T4.setTop (mkF m 35 #[.val (.ref x), .val (.int (2 : Int32)), .val (.ref y), .val (.int (1 : Int32)), .val (.int (2 : Int32)), .val (.int (1 : Int32)), .val (.int c1)] []))
  refine Gs (fun _ tk => XS.iinc X4.here hx rfl (hb hby d17_35) rfl (l' := #[.val (.ref x), .val (.int (2 : Int32)), .val (.ref y), .val (.int ((1 : Int32) + (1 : Int32))), .val (.int (2 : Int32)), .val (.int (1 : Int32)), .val (.int c1)]) rfl tk) ?_
  rw [show ((1 : Int32) + (1 : Int32)) = (2 : Int32) from by decide]
  show Goes _ _ _ _ _ (T4.setTop (mkF m 38 #[.val (.ref x), .val (.int (2 : Int32)), .val (.ref y), .val (.int (2 : Int32)), .val (.int (2 : Int32)), .val (.int (1 : Int32)), .val (.int c1)] []))
  refine Gs (fun _ tk => XS.iinc X4.here hx rfl (hb hby d17_38) rfl (l' := #[.val (.ref x), .val (.int (2 : Int32)), .val (.ref y), .val (.int (2 : Int32)), .val (.int (2 : Int32)), .val (.int ((1 : Int32) + (1 : Int32))), .val (.int c1)]) rfl tk) ?_
  rw [show ((1 : Int32) + (1 : Int32)) = (2 : Int32) from by decide]
  show Goes _ _ _ _ _ (T4.setTop (mkF m 41 #[.val (.ref x), .val (.int (2 : Int32)), .val (.ref y), .val (.int (2 : Int32)), .val (.int (2 : Int32)), .val (.int (2 : Int32)), .val (.int c1)] []))
  refine Gs (fun _ tk => XS.goto X4.here hx rfl (pc0 := 41) (pc' := 3) rfl (hb hby d17_41) (by decide) (by decide) tk) ?_
  refine Gs (fun _ tk => XS.iload X4.here hx rfl (hb hby d17_3) rfl tk) ?_
  refine Gs (fun _ tk => XS.iload X4.here hx rfl (hb hby d17_5) rfl tk) ?_
  refine Gs (fun _ tk => XS.icmpYes X4.here hx rfl (pc0 := 7) (pc' := 44) rfl (hb hby d17_7) rfl (flt (by decide : ¬ ((2 : Int32) < (2 : Int32)))).2.1 (by decide) (by decide) tk) ?_
  refine Gs (fun _ tk => XS.iload X4.here hx rfl (hb hby d17_44) rfl tk) ?_
  refine Goes.ret X4 (some (.int (2 : Int32))) (fun h => by rw [hret] at h; cases h) hlk (by decide) (by decide) ?_ (fun fs hr => ?_)
  · rw [e4]; exact ⟨rfl, N4, KP, V_y⟩
  · exact retI X4 hx hret (hb hby d17_46) hr
theorem own_ef_rs_c3_2_2 (m : MethodId) (x0 : Addr) : entryFrame m #[(.ref x0), (.int (0 : Int32)), (.int (2 : Int32))] 6 = mkF m 0 #[.val (.ref x0), .val (.int (0 : Int32)), .val (.int (2 : Int32)), .unset, .unset, .unset] [] := by first | (simp [entryFrame, mkF, argsToLocals, Value.category]; done) | rfl
def Q_rs_c3_2_2 (Z : State) (x : Addr) (kx : ClassId) (c0 : Int32) (c1 : Int32) (h0 : Heap) (n0 : Nat) (v : Option Value) (h : Heap) (L : List Loc) : Prop := ∃ y : Addr, ∃ ky : ClassId, v = some (.ref y) ∧ Fr n0 L ∧ Keep h0 h [] ∧ Arv Z h y ky .byte (2 : Int32) [(.int (lo8 c0)), (.int (lo8 c1))] (.int (0 : Int32)) ∧ n0 ≤ y ∧ h0.size ≤ y
set_option maxRecDepth 65536 in
set_option maxHeartbeats 40000000 in
theorem rs_c3_2_2 (l : Launch) (Z : State) (a0 : Array Value) (hw : ∀ d ∈ tables_1, d.before a0 Z = true) (ws : List Jvm.Cond) (x : Addr) (kx : ClassId) (c0 : Int32) (c1 : Int32) (h0 : Heap) (n0 : Nat) (Z0 : n0 ≤ h0.size) (V_x : Arv Z h0 x kx .char (2 : Int32) [(.int c0), (.int c1)] (.int (0 : Int32))) (hn_c0 : ¬ ((255 : Int32) < c0)) (hn_c1 : ¬ ((255 : Int32) < c1)) :
    Met l Z mN18 jdk_52_method_16_code 6 (some (.array .byte)) ({ frames := 1, cells := 1, slots := 2, locals := 18 } : Room) ws #[(.ref x), (.int (0 : Int32)), (.int (2 : Int32))] h0 (Q_rs_c3_2_2 Z x kx c0 c1 h0 n0) := by
  refine own_met (plainFor_of_name own_pn3) ?_
  intro p e s m below meth c s₁ hret hx hby hlk hml hown hnm X0 e0 hZ hh
  have N0 := Fr.nil n0
  refine Gs (fun _ tk => castTop (own_ef_rs_c3_2_2 m x) tk) ?_
  have KP : Keep h0 h0 [] := Keep.refl _ _
  show Goes _ _ _ _ _ (s₁.setTop (mkF m 0 #[.val (.ref x), .val (.int (0 : Int32)), .val (.int (2 : Int32)), .unset, .unset, .unset] []))
  refine Gs (fun _ tk => XS.iloadN X0.here hx rfl (hb hby d18_0) rfl tk) ?_
  obtain ⟨T1, h1, k1, X1, e1, E1, A1, st1⟩ := newP X0 hx hZ (gw hw 20 rfl) e0 (g := (mkF m 1 #[.val (.ref x), .val (.int (0 : Int32)), .val (.int (2 : Int32)), .unset, .unset, .unset] [(.int (2 : Int32))])) rfl (hb hby d18_1) rfl (by decide) (cap := 2) (by decide) (by decide) (by decide) (by decide)
  obtain ⟨b1, gq1⟩ : ∃ z, z = h0.size := ⟨_, rfl⟩
  rw [← gq1] at A1 st1
  have g_b1 : n0 ≤ b1 := by rw [gq1]; exact Z0
  have sz_b1 : h0.size ≤ b1 := by rw [gq1]; exact KP.1
  have ne_x_b1 : x ≠ b1 := by rw [gq1]; exact Nat.ne_of_lt V_x.lt
  replace V_x := V_x.ext E1
  replace KP := KP.ext E1
  replace Z0 : n0 ≤ h1.size := Nat.le_trans Z0 E1.1
  have V_b1 : Arv Z h1 b1 k1 .byte (2 : Int32) [(.int (0 : Int32)), (.int (0 : Int32))] (.int (0 : Int32)) := (Arv.new A1 (by decide)).pad (pad_rep [] (.int (0 : Int32)) 2)
  refine Gs st1 ?_
  show Goes _ _ _ _ _ (T1.setTop (mkF m 3 #[.val (.ref x), .val (.int (0 : Int32)), .val (.int (2 : Int32)), .unset, .unset, .unset] [(.ref b1)]))
  refine Gs (fun _ tk => XS.astoreN X1.here hx rfl (hb hby d18_3) rfl rfl (l' := #[.val (.ref x), .val (.int (0 : Int32)), .val (.int (2 : Int32)), .val (.ref b1), .unset, .unset]) rfl tk) ?_
  refine Gs (fun _ tk => XS.aloadN X1.here hx rfl (hb hby d18_4) rfl rfl tk) ?_
  refine Gs (fun _ tk => XS.iloadN X1.here hx rfl (hb hby d18_5) rfl tk) ?_
  refine Gs (fun _ tk => XS.aloadN X1.here hx rfl (hb hby d18_6) rfl rfl tk) ?_
  refine Gs (fun _ tk => XS.iconst X1.here hx rfl (hb hby d18_7) tk) ?_
  refine Gs (fun _ tk => XS.iloadN X1.here hx rfl (hb hby d18_8) rfl tk) ?_
  show Goes _ _ _ _ _ (T1.setTop (mkF m 9 #[.val (.ref x), .val (.int (0 : Int32)), .val (.int (2 : Int32)), .val (.ref b1), .unset, .unset] [(.int (2 : Int32)), (.int (0 : Int32)), (.ref b1), (.int (0 : Int32)), (.ref x)]))
  obtain ⟨_, _, ⟨T2, L2, k2, n2⟩, -, X2, ⟨Lc2, hQ2, l2, y2, z2⟩, st2⟩ := Jvm.LawKit.callS X1 hx (y := mN17) hown (mvT hZ (gw hw 49 rfl)) (mvT hZ (gw hw 50 rfl)) (mvT hZ (gw hw 47 rfl)) (mvT hZ (gw hw 51 rfl)) (by decide) (backOf (W := 0) (rs_c5_2_2 l Z a0 hw [] x kx b1 k1 c0 c1 h1 n0 Z0 V_x V_b1 g_b1 ne_x_b1 (by first | assumption | decide) (by first | assumption | decide)) hZ (gw hw 51 rfl) (gw hw 47 rfl) (by decide) (by decide)) (g := (mkF m 9 #[.val (.ref x), .val (.int (0 : Int32)), .val (.int (2 : Int32)), .val (.ref b1), .unset, .unset] [(.int (2 : Int32)), (.int (0 : Int32)), (.ref b1), (.int (0 : Int32)), (.ref x)])) rfl (by rw [hml]; rfl) (argsL := [(.ref x), (.int (0 : Int32)), (.ref b1), (.int (0 : Int32)), (.int (2 : Int32))]) (rest := []) (lenOf own_pd11 rfl) rfl (w0 (Nat.le_of_eq rfl)) (hb hby d18_9) (fun _ _ => ⟨rfl, e1, (by decide : 1 + 0 ≤ _), (by decide : 2 + 0 ≤ _)⟩)
  dsimp only [Pt.U, Pt.locs, Pt.cells, Pt.slots] at X2 l2 y2 z2 st2 hQ2
  subst l2 y2 z2
  obtain ⟨rfl, N2q, K2, V_b1_2'⟩ := hQ2
  have N2 := Fr.app N0 N2q
  replace KP := KP.trans K2 (allS (Or.inr sz_b1) all0)
  replace Z0 := Nat.le_trans Z0 K2.1
  have V_b1 := V_b1_2'
  refine Gs st2 ?_
  show Goes _ _ _ _ _ (T2.setTop (mkF m 12 #[.val (.ref x), .val (.int (0 : Int32)), .val (.int (2 : Int32)), .val (.ref b1), .unset, .unset] [(.int (2 : Int32))]))
  refine Gs (fun _ tk => XS.istore X2.here hx rfl (hb hby d18_12) rfl (l' := #[.val (.ref x), .val (.int (0 : Int32)), .val (.int (2 : Int32)), .val (.ref b1), .val (.int (2 : Int32)), .unset]) rfl tk) ?_
  refine Gs (fun _ tk => XS.iload X2.here hx rfl (hb hby d18_14) rfl tk) ?_
  refine Gs (fun _ tk => XS.iloadN X2.here hx rfl (hb hby d18_16) rfl tk) ?_
  refine Gs (fun _ tk => XS.icmpYes X2.here hx rfl (pc0 := 17) (pc' := 57) rfl (hb hby d18_17) rfl (teq (by decide : ((2 : Int32) = (2 : Int32)))).1 (by decide) (by decide) tk) ?_
  refine Gs (fun _ tk => XS.aloadN X2.here hx rfl (hb hby d18_57) rfl rfl tk) ?_
  refine Goes.ret X2 (some (.ref b1)) (fun h => by rw [hret] at h; cases h) hlk (by decide) (by decide) ?_ (fun fs hr => ?_)
  · exact ⟨b1, k1, rfl, N2, KP, V_b1, g_b1, sz_b1⟩
  · exact own_retA X2 hx hret rfl rfl (hb hby d18_58) hr
theorem own_ef_rs_cf_2_2 (m : MethodId) (x0 : Addr) : entryFrame m #[(.ref x0), (.int (2 : Int32))] 2 = mkF m 0 #[.val (.ref x0), .val (.int (2 : Int32))] [] := by first | (simp [entryFrame, mkF, argsToLocals, Value.category]; done) | rfl
def Q_rs_cf_2_2 (Z : State) (y : Addr) (ky : ClassId) (vs : List Value) (h0 : Heap) (n0 : Nat) (v : Option Value) (h : Heap) (L : List Loc) : Prop := v = some (.int (0 : Int32)) ∧ Fr n0 L ∧ h = h0
set_option maxRecDepth 65536 in
set_option maxHeartbeats 40000000 in
theorem rs_cf_2_2 (l : Launch) (Z : State) (a0 : Array Value) (hw : ∀ d ∈ tables_1, d.before a0 Z = true) (ws : List Jvm.Cond) (y : Addr) (ky : ClassId) (vs : List Value) (h0 : Heap) (n0 : Nat) (Z0 : n0 ≤ h0.size) (V_y : Arv Z h0 y ky .byte (2 : Int32) vs (.int (0 : Int32))) :
    Met l Z mN19 jdk_52_method_15_code 2 (some .byte) ({ frames := 0, cells := 0, slots := 0, locals := 0 } : Room) ws #[(.ref y), (.int (2 : Int32))] h0 (Q_rs_cf_2_2 Z y ky vs h0 n0) := by
  refine own_met (plainFor_of_name own_pn3) ?_
  intro p e s m below meth c s₁ hret hx hby hlk hml hown hnm X0 e0 hZ hh
  have N0 := Fr.nil n0
  refine Gs (fun _ tk => castTop (own_ef_rs_cf_2_2 m y) tk) ?_
  show Goes _ _ _ _ _ (s₁.setTop (mkF m 0 #[.val (.ref y), .val (.int (2 : Int32))] []))
  refine Gs (fun _ tk => XS.iloadN X0.here hx rfl (hb hby d19_0) rfl tk) ?_
  refine Gs (fun _ tk => XS.aloadN X0.here hx rfl (hb hby d19_1) rfl rfl tk) ?_
  obtain ⟨cl1, Ar1, -, S1, N1z, -, -⟩ := id V_y
  refine Gs (fun _ tk => X0.arraylength hx (by rw [e0]; exact Ar1.1) (State.isArrayOf_alike hZ.alike Ar1.2.1) (g := (mkF m 2 #[.val (.ref y), .val (.int (2 : Int32))] [(.ref y), (.int (2 : Int32))])) rfl rfl (hb hby d19_2) _ tk) ?_
  rw [len_of S1 N1z]
  show Goes _ _ _ _ _ (s₁.setTop (mkF m 3 #[.val (.ref y), .val (.int (2 : Int32))] [(.int (2 : Int32)), (.int (2 : Int32))]))
  refine Gs (fun _ tk => XS.isub X0.here hx rfl (hb hby d19_3) rfl tk) ?_
  rw [show ((2 : Int32) - (2 : Int32)) = (0 : Int32) from by decide]
  show Goes _ _ _ _ _ (s₁.setTop (mkF m 4 #[.val (.ref y), .val (.int (2 : Int32))] [(.int (0 : Int32))]))
  refine Gs (fun _ tk => XS.bipush X0.here hx rfl (hb hby d19_4) tk) ?_
  show Goes _ _ _ _ _ (s₁.setTop (mkF m 6 #[.val (.ref y), .val (.int (2 : Int32))] [(.int (31 : Int32)), (.int (0 : Int32))]))
  refine Gs (fun _ tk => XS.iushr X0.here hx rfl (hb hby d19_6) rfl tk) ?_
  rw [show (((0 : Int32).toUInt32 >>> ((31 : Int32) &&& 31).toUInt32).toInt32) = (0 : Int32) from by decide]
  show Goes _ _ _ _ _ (s₁.setTop (mkF m 7 #[.val (.ref y), .val (.int (2 : Int32))] [(.int (0 : Int32))]))
  refine Gs (fun _ tk => XS.i2b X0.here hx rfl (hb hby d19_7) rfl tk) ?_
  rw [show ((0 : Int32).toInt8.toInt32) = (0 : Int32) from by decide]
  show Goes _ _ _ _ _ (s₁.setTop (mkF m 8 #[.val (.ref y), .val (.int (2 : Int32))] [(.int (0 : Int32))]))
  refine Goes.ret X0 (some (.int (0 : Int32))) (fun h => by rw [hret] at h; cases h) hlk (by decide) (by decide) ?_ (fun fs hr => ?_)
  · exact ⟨rfl, N0, e0⟩
  · exact own_retN X0 hx (t := .byte) hret (by simp) rfl (hb hby d19_8) hr
theorem own_ef_rs_cf_2_4 (m : MethodId) (x0 : Addr) : entryFrame m #[(.ref x0), (.int (2 : Int32))] 2 = mkF m 0 #[.val (.ref x0), .val (.int (2 : Int32))] [] := by first | (simp [entryFrame, mkF, argsToLocals, Value.category]; done) | rfl
def Q_rs_cf_2_4 (Z : State) (y : Addr) (ky : ClassId) (vs : List Value) (h0 : Heap) (n0 : Nat) (v : Option Value) (h : Heap) (L : List Loc) : Prop := v = some (.int (1 : Int32)) ∧ Fr n0 L ∧ h = h0
set_option maxRecDepth 65536 in
set_option maxHeartbeats 40000000 in
theorem rs_cf_2_4 (l : Launch) (Z : State) (a0 : Array Value) (hw : ∀ d ∈ tables_1, d.before a0 Z = true) (ws : List Jvm.Cond) (y : Addr) (ky : ClassId) (vs : List Value) (h0 : Heap) (n0 : Nat) (Z0 : n0 ≤ h0.size) (V_y : Arv Z h0 y ky .byte (4 : Int32) vs (.int (0 : Int32))) :
    Met l Z mN19 jdk_52_method_15_code 2 (some .byte) ({ frames := 0, cells := 0, slots := 0, locals := 0 } : Room) ws #[(.ref y), (.int (2 : Int32))] h0 (Q_rs_cf_2_4 Z y ky vs h0 n0) := by
  refine own_met (plainFor_of_name own_pn3) ?_
  intro p e s m below meth c s₁ hret hx hby hlk hml hown hnm X0 e0 hZ hh
  have N0 := Fr.nil n0
  refine Gs (fun _ tk => castTop (own_ef_rs_cf_2_4 m y) tk) ?_
  show Goes _ _ _ _ _ (s₁.setTop (mkF m 0 #[.val (.ref y), .val (.int (2 : Int32))] []))
  refine Gs (fun _ tk => XS.iloadN X0.here hx rfl (hb hby d19_0) rfl tk) ?_
  refine Gs (fun _ tk => XS.aloadN X0.here hx rfl (hb hby d19_1) rfl rfl tk) ?_
  obtain ⟨cl1, Ar1, -, S1, N1z, -, -⟩ := id V_y
  refine Gs (fun _ tk => X0.arraylength hx (by rw [e0]; exact Ar1.1) (State.isArrayOf_alike hZ.alike Ar1.2.1) (g := (mkF m 2 #[.val (.ref y), .val (.int (2 : Int32))] [(.ref y), (.int (2 : Int32))])) rfl rfl (hb hby d19_2) _ tk) ?_
  rw [len_of S1 N1z]
  show Goes _ _ _ _ _ (s₁.setTop (mkF m 3 #[.val (.ref y), .val (.int (2 : Int32))] [(.int (4 : Int32)), (.int (2 : Int32))]))
  refine Gs (fun _ tk => XS.isub X0.here hx rfl (hb hby d19_3) rfl tk) ?_
  rw [show ((2 : Int32) - (4 : Int32)) = (-2 : Int32) from by decide]
  show Goes _ _ _ _ _ (s₁.setTop (mkF m 4 #[.val (.ref y), .val (.int (2 : Int32))] [(.int (-2 : Int32))]))
  refine Gs (fun _ tk => XS.bipush X0.here hx rfl (hb hby d19_4) tk) ?_
  show Goes _ _ _ _ _ (s₁.setTop (mkF m 6 #[.val (.ref y), .val (.int (2 : Int32))] [(.int (31 : Int32)), (.int (-2 : Int32))]))
  refine Gs (fun _ tk => XS.iushr X0.here hx rfl (hb hby d19_6) rfl tk) ?_
  rw [show (((-2 : Int32).toUInt32 >>> ((31 : Int32) &&& 31).toUInt32).toInt32) = (1 : Int32) from by decide]
  show Goes _ _ _ _ _ (s₁.setTop (mkF m 7 #[.val (.ref y), .val (.int (2 : Int32))] [(.int (1 : Int32))]))
  refine Gs (fun _ tk => XS.i2b X0.here hx rfl (hb hby d19_7) rfl tk) ?_
  rw [show ((1 : Int32).toInt8.toInt32) = (1 : Int32) from by decide]
  show Goes _ _ _ _ _ (s₁.setTop (mkF m 8 #[.val (.ref y), .val (.int (2 : Int32))] [(.int (1 : Int32))]))
  refine Goes.ret X0 (some (.int (1 : Int32))) (fun h => by rw [hret] at h; cases h) hlk (by decide) (by decide) ?_ (fun fs hr => ?_)
  · exact ⟨rfl, N0, e0⟩
  · exact own_retN X0 hx (t := .byte) hret (by simp) rfl (hb hby d19_8) hr
theorem own_ef_rs_i4_2 (m : MethodId) (x0 : Addr) (x1 : Addr) : entryFrame m #[(.ref x0), (.ref x1), (.int (0 : Int32)), (.int (2 : Int32)), .null] 6 = mkF m 0 #[.val (.ref x0), .val (.ref x1), .val (.int (0 : Int32)), .val (.int (2 : Int32)), .val .null, .unset] [] := by first | (simp [entryFrame, mkF, argsToLocals, Value.category]; done) | rfl
def Q_rs_i4_2 (Z : State) (a : Addr) (x : Addr) (kx : ClassId) (c0 : Int32) (c1 : Int32) (cz : Int32) (h0 : Heap) (n0 : Nat) (v : Option Value) (h : Heap) (L : List Loc) : Prop := v = none ∧ Fr n0 L ∧ Keep h0 h [a] ∧ StrOf Z h a [c0, c1]
set_option maxRecDepth 65536 in
set_option maxHeartbeats 40000000 in
theorem rs_i4_2 (l : Launch) (Z : State) (a0 : Array Value) (hw : ∀ d ∈ tables_1, d.before a0 Z = true) (ws : List Jvm.Cond) (a : Addr) (x : Addr) (kx : ClassId) (c0 : Int32) (c1 : Int32) (cz : Int32) (h0 : Heap) (n0 : Nat) (Z0 : n0 ≤ h0.size) (A_a : Exa Z h0 a "java/lang/String") (F_value_a : Fld Z h0 a "java/lang/String" "value" "[B" .null) (F_coder_a : Fld Z h0 a "java/lang/String" "coder" "B" (.int (0 : Int32))) (V_x : Arv Z h0 x kx .char (2 : Int32) [(.int c0), (.int c1)] (.int (0 : Int32))) (g_a : n0 ≤ a) (ne_x_a : x ≠ a) (S_COMPACT_STRINGS : Sta Z h0 "java/lang/String" "COMPACT_STRINGS" "Z" (.int cz)) (hcz : ¬ (cz = (0 : Int32))) (hC_c0 : Chr c0) (hC_c1 : Chr c1) (S__assertionsDisabled : Sta Z h0 "java/lang/StringUTF16" "$assertionsDisabled" "Z" (.int (1 : Int32))) (S_HI_BYTE_SHIFT : Sta Z h0 "java/lang/StringUTF16" "HI_BYTE_SHIFT" "I" (.int (0 : Int32))) (S_LO_BYTE_SHIFT : Sta Z h0 "java/lang/StringUTF16" "LO_BYTE_SHIFT" "I" (.int (8 : Int32))) :
    Met l Z mN11 jdk_42_method_149_code 6 none ({ frames := 4, cells := 2, slots := 6, locals := 57 } : Room) ws #[(.ref a), (.ref x), (.int (0 : Int32)), (.int (2 : Int32)), .null] h0 (Q_rs_i4_2 Z a x kx c0 c1 cz h0 n0) := by
  refine own_met (plainFor_of_name own_pn0) ?_
  intro p e s m below meth c s₁ hret hx hby hlk hml hown hnm X0 e0 hZ hh
  have N0 := Fr.nil n0
  refine Gs (fun _ tk => castTop (own_ef_rs_i4_2 m a x) tk) ?_
  have KP : Keep h0 h0 [a] := Keep.refl _ _
  show Goes _ _ _ _ _ (s₁.setTop (mkF m 0 #[.val (.ref a), .val (.ref x), .val (.int (0 : Int32)), .val (.int (2 : Int32)), .val .null, .unset] []))
  by_cases hn_c0 : (255 : Int32) < c0
  · show Goes _ _ _ _ _ (s₁.setTop (mkF m 0 #[.val (.ref a), .val (.ref x), .val (.int (0 : Int32)), .val (.int (2 : Int32)), .val .null, .unset] []))
    refine Gs (fun _ tk => XS.aloadN X0.here hx rfl (hb hby d11_0) rfl rfl tk) ?_
    obtain ⟨T1, X1, e1, st1⟩ := initO X0 hx hZ hown (gw hw 16 rfl) (gw hw 17 rfl) (gw hw 18 rfl) e0 (g := (mkF m 1 #[.val (.ref a), .val (.ref x), .val (.int (0 : Int32)), .val (.int (2 : Int32)), .val .null, .unset] [(.ref a)])) rfl (by rw [hml]; rfl) rfl (hb hby d11_1) (by decide) (W := 0) (w0 (Nat.le_of_eq rfl)) (by decide)
    refine Gs st1 ?_
    show Goes _ _ _ _ _ (T1.setTop (mkF m 4 #[.val (.ref a), .val (.ref x), .val (.int (0 : Int32)), .val (.int (2 : Int32)), .val .null, .unset] []))
    refine Gs (fun _ tk => XS.iloadN X1.here hx rfl (hb hby d11_4) rfl tk) ?_
    refine Gs (fun _ tk => XS.ifYes X1.here hx rfl (pc0 := 5) (pc' := 27) rfl (hb hby d11_5) rfl ((if0 _ _).trans (feq (by decide : ¬ ((2 : Int32) = (0 : Int32)))).2) (by decide) (by decide) tk) ?_
    obtain ⟨T2, X2, e2, st2⟩ := getS2 X1 hx hZ hown (host := "") (Or.inl (gw hw 41 rfl)) Via.refl e1 S_COMPACT_STRINGS (g := (mkF m 27 #[.val (.ref a), .val (.ref x), .val (.int (0 : Int32)), .val (.int (2 : Int32)), .val .null, .unset] [])) rfl (hb hby d11_27)
    refine Gs st2 ?_
    show Goes _ _ _ _ _ (T2.setTop (mkF m 30 #[.val (.ref a), .val (.ref x), .val (.int (0 : Int32)), .val (.int (2 : Int32)), .val .null, .unset] [(.int cz)]))
    refine Gs (fun _ tk => XS.ifNo X2.here hx rfl (hb hby d11_30) rfl ((if0 _ _).trans (feq hcz).1) tk) ?_
    refine Gs (fun _ tk => XS.aloadN X2.here hx rfl (hb hby d11_33) rfl rfl tk) ?_
    refine Gs (fun _ tk => XS.iloadN X2.here hx rfl (hb hby d11_34) rfl tk) ?_
    refine Gs (fun _ tk => XS.iloadN X2.here hx rfl (hb hby d11_35) rfl tk) ?_
    have ltc3_a : a < h0.size := A_a.lt
    have ltc3_x : x < h0.size := V_x.lt
    obtain ⟨_, _, ⟨T3, L3, k3, n3⟩, -, X3, ⟨Lc3, hQ3, l3, y3, z3⟩, st3⟩ := Jvm.LawKit.callS X2 hx (y := mN18) hown (mvT hZ (gw hw 45 rfl)) (mvT hZ (gw hw 46 rfl)) (mvT hZ (gw hw 47 rfl)) (mvT hZ (gw hw 48 rfl)) (by decide) (backOf (W := 0) (rs_c3_2_0 l Z a0 hw [] x kx c0 c1 h0 n0 Z0 V_x (by first | assumption | decide) (by first | assumption | decide) (by first | assumption | decide) S__assertionsDisabled S_HI_BYTE_SHIFT S_LO_BYTE_SHIFT) hZ (gw hw 48 rfl) (gw hw 47 rfl) (by decide) (by decide)) (g := (mkF m 36 #[.val (.ref a), .val (.ref x), .val (.int (0 : Int32)), .val (.int (2 : Int32)), .val .null, .unset] [(.int (2 : Int32)), (.int (0 : Int32)), (.ref x)])) rfl (by rw [hml]; rfl) (argsL := [(.ref x), (.int (0 : Int32)), (.int (2 : Int32))]) (rest := []) (lenOf own_pd12 rfl) rfl (w0 (Nat.le_of_eq rfl)) (hb hby d11_36) (fun _ _ => ⟨rfl, e2, (by decide : 0 + 2 ≤ _), (by decide : 0 + 6 ≤ _)⟩)
    dsimp only [Pt.U, Pt.locs, Pt.cells, Pt.slots] at X3 l3 y3 z3 st3 hQ3
    subst l3 y3 z3
    obtain ⟨y3, ky3, rfl, N3q, K3, V_y3_3', g_y3_3', sz_y3_3'⟩ := hQ3
    have N3 := Fr.app N0 N3q
    replace S_COMPACT_STRINGS := own_staK S_COMPACT_STRINGS K3 all0
    replace S__assertionsDisabled := own_staK S__assertionsDisabled K3 all0
    replace S_HI_BYTE_SHIFT := own_staK S_HI_BYTE_SHIFT K3 all0
    replace S_LO_BYTE_SHIFT := own_staK S_LO_BYTE_SHIFT K3 all0
    replace A_a := A_a.keep K3
    replace F_value_a := F_value_a.keep K3 nin0
    replace F_coder_a := F_coder_a.keep K3 nin0
    replace V_x := V_x.keep K3 nin0
    replace KP := KP.trans K3 all0
    replace Z0 := Nat.le_trans Z0 K3.1
    have V_y3 := V_y3_3'
    have g_y3 := g_y3_3'
    have szc_y3 := sz_y3_3'
    have ne_a_y3 : a ≠ y3 := Nat.ne_of_lt (Nat.lt_of_lt_of_le ltc3_a szc_y3)
    have ne_x_y3 : x ≠ y3 := Nat.ne_of_lt (Nat.lt_of_lt_of_le ltc3_x szc_y3)
    refine Gs st3 ?_
    show Goes _ _ _ _ _ (T3.setTop (mkF m 39 #[.val (.ref a), .val (.ref x), .val (.int (0 : Int32)), .val (.int (2 : Int32)), .val .null, .unset] [(.ref y3)]))
    refine Gs (fun _ tk => XS.astore X3.here hx rfl (hb hby d11_39) rfl rfl (l' := #[.val (.ref a), .val (.ref x), .val (.int (0 : Int32)), .val (.int (2 : Int32)), .val .null, .val (.ref y3)]) rfl tk) ?_
    refine Gs (fun _ tk => XS.aloadN X3.here hx rfl (hb hby d11_41) rfl rfl tk) ?_
    refine Gs (fun _ tk => XS.aload X3.here hx rfl (hb hby d11_42) rfl rfl tk) ?_
    refine Gs (fun _ tk => XS.iloadN X3.here hx rfl (hb hby d11_44) rfl tk) ?_
    obtain ⟨_, _, ⟨T4, L4, k4, n4⟩, -, X4, ⟨Lc4, hQ4, l4, y4, z4⟩, st4⟩ := Jvm.LawKit.callS X3 hx (y := mN19) hown (mvT hZ (gw hw 52 rfl)) (mvT hZ (gw hw 53 rfl)) (mvT hZ (gw hw 47 rfl)) (mvT hZ (gw hw 54 rfl)) (by decide) (backOf (W := 1) (rs_cf_2_4 l Z a0 hw [] y3 ky3 [(.int (lo8 c0)), (.int (hi8 c0)), (.int (lo8 c1)), (.int (hi8 c1))] T3.heap n0 Z0 V_y3) hZ (gw hw 54 rfl) (gw hw 47 rfl) (by decide) (by decide)) (g := (mkF m 45 #[.val (.ref a), .val (.ref x), .val (.int (0 : Int32)), .val (.int (2 : Int32)), .val .null, .val (.ref y3)] [(.int (2 : Int32)), (.ref y3), (.ref a)])) rfl (by rw [hml]; rfl) (argsL := [(.ref y3), (.int (2 : Int32))]) (rest := [(.ref a)]) (lenOf own_pd13 rfl) rfl (w0 (Nat.le_of_eq rfl)) (hb hby d11_45) (fun _ _ => ⟨rfl, rfl, (by decide : 2 + 0 ≤ _), (by decide : 6 + 0 ≤ _)⟩)
    dsimp only [Pt.U, Pt.locs, Pt.cells, Pt.slots] at X4 l4 y4 z4 st4 hQ4
    subst l4 y4 z4
    obtain ⟨rfl, N4q, e4⟩ := hQ4
    have N4 := Fr.app N3 N4q
    refine Gs st4 ?_
    show Goes _ _ _ _ _ (T4.setTop (mkF m 48 #[.val (.ref a), .val (.ref x), .val (.int (0 : Int32)), .val (.int (2 : Int32)), .val .null, .val (.ref y3)] [(.int (1 : Int32)), (.ref a)]))
    obtain ⟨T5, h5, X5, e5, W5, st5⟩ := putFN X4 hx hZ hown (gw hw 26 rfl) Via.refl e4 F_coder_a A_a (Or.inr ⟨(gw hw 22 rfl), rfl, hnm⟩) (gw hw 6 rfl) (ty := .byte) (v' := .int (1 : Int32)) (by decide) rfl rfl (g := (mkF m 48 #[.val (.ref a), .val (.ref x), .val (.int (0 : Int32)), .val (.int (2 : Int32)), .val .null, .val (.ref y3)] [(.int (1 : Int32)), (.ref a)])) rfl rfl (hb hby d11_48)
    have N5 := Fr.snoc X5 N4 g_a
    replace A_a := A_a.wr W5
    replace F_value_a := F_value_a.other W5 (Or.inr (slot_ne (Or.inr (gw hw 21 rfl)) (Or.inr (gw hw 22 rfl)) (by decide) (t := (.array .byte)) (t' := .byte) (by decide) (by decide)))
    replace V_x := V_x.other W5 ne_x_a
    replace S_COMPACT_STRINGS := S_COMPACT_STRINGS.wr W5
    replace S__assertionsDisabled := S__assertionsDisabled.wr W5
    replace S_HI_BYTE_SHIFT := S_HI_BYTE_SHIFT.wr W5
    replace S_LO_BYTE_SHIFT := S_LO_BYTE_SHIFT.wr W5
    replace V_y3 := V_y3.other W5 (Ne.symm ne_a_y3)
    replace KP := KP.wr W5 (Or.inl (List.mem_of_getElem? (i := 0) rfl))
    replace F_coder_a := F_coder_a.same W5
    replace Z0 : n0 ≤ h5.size := by rw [W5.size]; exact Z0
    refine Gs st5 ?_
    show Goes _ _ _ _ _ (T5.setTop (mkF m 51 #[.val (.ref a), .val (.ref x), .val (.int (0 : Int32)), .val (.int (2 : Int32)), .val .null, .val (.ref y3)] []))
    refine Gs (fun _ tk => XS.aloadN X5.here hx rfl (hb hby d11_51) rfl rfl tk) ?_
    refine Gs (fun _ tk => XS.aload X5.here hx rfl (hb hby d11_52) rfl rfl tk) ?_
    obtain ⟨T6, h6, X6, e6, W6, st6⟩ := putF X5 hx hZ hown (host := "") (Or.inl (gw hw 25 rfl)) Via.refl e5 F_value_a A_a (Or.inr ⟨(gw hw 21 rfl), rfl, hnm⟩) (gw hw 6 rfl) (ty := (.array .byte)) (by decide) rfl rfl (g := (mkF m 54 #[.val (.ref a), .val (.ref x), .val (.int (0 : Int32)), .val (.int (2 : Int32)), .val .null, .val (.ref y3)] [(.ref y3), (.ref a)])) rfl rfl (hb hby d11_54)
    have N6 := Fr.snoc X6 N5 g_a
    replace A_a := A_a.wr W6
    replace F_coder_a := F_coder_a.other W6 (Or.inr (slot_ne (Or.inr (gw hw 22 rfl)) (Or.inr (gw hw 21 rfl)) (by decide) (t := .byte) (t' := (.array .byte)) (by decide) (by decide)))
    replace V_x := V_x.other W6 ne_x_a
    replace S_COMPACT_STRINGS := S_COMPACT_STRINGS.wr W6
    replace S__assertionsDisabled := S__assertionsDisabled.wr W6
    replace S_HI_BYTE_SHIFT := S_HI_BYTE_SHIFT.wr W6
    replace S_LO_BYTE_SHIFT := S_LO_BYTE_SHIFT.wr W6
    replace V_y3 := V_y3.other W6 (Ne.symm ne_a_y3)
    replace KP := KP.wr W6 (Or.inl (List.mem_of_getElem? (i := 0) rfl))
    replace F_value_a := F_value_a.same W6
    replace Z0 : n0 ≤ h6.size := by rw [W6.size]; exact Z0
    refine Gs st6 ?_
    show Goes _ _ _ _ _ (T6.setTop (mkF m 57 #[.val (.ref a), .val (.ref x), .val (.int (0 : Int32)), .val (.int (2 : Int32)), .val .null, .val (.ref y3)] []))
    have T_a : StrOf Z h6 a [c0, c1] := StrOf.utf A_a F_value_a F_coder_a V_y3 (by intro c hc; simp only [List.mem_cons, List.not_mem_nil, or_false] at hc; rcases hc with rfl | rfl <;> first | assumption | (exact own_toLat (by assumption) (by assumption))) rfl rfl (Nat.le_of_ble_eq_true rfl)
    refine Goes.ret X6 none (fun _ => rfl) hlk (by decide) (by decide) ?_ (fun fs hr => ?_)
    · rw [e6]; exact ⟨rfl, N6, KP, T_a⟩
    · exact X6.returnOut hx hret (hb hby d11_57) hr
  · show Goes _ _ _ _ _ (s₁.setTop (mkF m 0 #[.val (.ref a), .val (.ref x), .val (.int (0 : Int32)), .val (.int (2 : Int32)), .val .null, .unset] []))
    by_cases hn_c1 : (255 : Int32) < c1
    · show Goes _ _ _ _ _ (s₁.setTop (mkF m 0 #[.val (.ref a), .val (.ref x), .val (.int (0 : Int32)), .val (.int (2 : Int32)), .val .null, .unset] []))
      refine Gs (fun _ tk => XS.aloadN X0.here hx rfl (hb hby d11_0) rfl rfl tk) ?_
      obtain ⟨T7, X7, e7, st7⟩ := initO X0 hx hZ hown (gw hw 16 rfl) (gw hw 17 rfl) (gw hw 18 rfl) e0 (g := (mkF m 1 #[.val (.ref a), .val (.ref x), .val (.int (0 : Int32)), .val (.int (2 : Int32)), .val .null, .unset] [(.ref a)])) rfl (by rw [hml]; rfl) rfl (hb hby d11_1) (by decide) (W := 0) (w0 (Nat.le_of_eq rfl)) (by decide)
      refine Gs st7 ?_
      show Goes _ _ _ _ _ (T7.setTop (mkF m 4 #[.val (.ref a), .val (.ref x), .val (.int (0 : Int32)), .val (.int (2 : Int32)), .val .null, .unset] []))
      refine Gs (fun _ tk => XS.iloadN X7.here hx rfl (hb hby d11_4) rfl tk) ?_
      refine Gs (fun _ tk => XS.ifYes X7.here hx rfl (pc0 := 5) (pc' := 27) rfl (hb hby d11_5) rfl ((if0 _ _).trans (feq (by decide : ¬ ((2 : Int32) = (0 : Int32)))).2) (by decide) (by decide) tk) ?_
      obtain ⟨T8, X8, e8, st8⟩ := getS2 X7 hx hZ hown (host := "") (Or.inl (gw hw 41 rfl)) Via.refl e7 S_COMPACT_STRINGS (g := (mkF m 27 #[.val (.ref a), .val (.ref x), .val (.int (0 : Int32)), .val (.int (2 : Int32)), .val .null, .unset] [])) rfl (hb hby d11_27)
      refine Gs st8 ?_
      show Goes _ _ _ _ _ (T8.setTop (mkF m 30 #[.val (.ref a), .val (.ref x), .val (.int (0 : Int32)), .val (.int (2 : Int32)), .val .null, .unset] [(.int cz)]))
      refine Gs (fun _ tk => XS.ifNo X8.here hx rfl (hb hby d11_30) rfl ((if0 _ _).trans (feq hcz).1) tk) ?_
      refine Gs (fun _ tk => XS.aloadN X8.here hx rfl (hb hby d11_33) rfl rfl tk) ?_
      refine Gs (fun _ tk => XS.iloadN X8.here hx rfl (hb hby d11_34) rfl tk) ?_
      refine Gs (fun _ tk => XS.iloadN X8.here hx rfl (hb hby d11_35) rfl tk) ?_
      have ltc9_a : a < h0.size := A_a.lt
      have ltc9_x : x < h0.size := V_x.lt
      obtain ⟨_, _, ⟨T9, L9, k9, n9⟩, -, X9, ⟨Lc9, hQ9, l9, y9, z9⟩, st9⟩ := Jvm.LawKit.callS X8 hx (y := mN18) hown (mvT hZ (gw hw 45 rfl)) (mvT hZ (gw hw 46 rfl)) (mvT hZ (gw hw 47 rfl)) (mvT hZ (gw hw 48 rfl)) (by decide) (backOf (W := 0) (rs_c3_2_1 l Z a0 hw [] x kx c0 c1 h0 n0 Z0 V_x (by first | assumption | decide) (by first | assumption | decide) (by first | assumption | decide) (by first | assumption | decide) S__assertionsDisabled S_HI_BYTE_SHIFT S_LO_BYTE_SHIFT) hZ (gw hw 48 rfl) (gw hw 47 rfl) (by decide) (by decide)) (g := (mkF m 36 #[.val (.ref a), .val (.ref x), .val (.int (0 : Int32)), .val (.int (2 : Int32)), .val .null, .unset] [(.int (2 : Int32)), (.int (0 : Int32)), (.ref x)])) rfl (by rw [hml]; rfl) (argsL := [(.ref x), (.int (0 : Int32)), (.int (2 : Int32))]) (rest := []) (lenOf own_pd12 rfl) rfl (w0 (Nat.le_of_eq rfl)) (hb hby d11_36) (fun _ _ => ⟨rfl, e8, (by decide : 0 + 2 ≤ _), (by decide : 0 + 6 ≤ _)⟩)
      dsimp only [Pt.U, Pt.locs, Pt.cells, Pt.slots] at X9 l9 y9 z9 st9 hQ9
      subst l9 y9 z9
      obtain ⟨y9, ky9, rfl, N9q, K9, V_y9_9', g_y9_9', sz_y9_9'⟩ := hQ9
      have N9 := Fr.app N0 N9q
      replace S_COMPACT_STRINGS := own_staK S_COMPACT_STRINGS K9 all0
      replace A_a := A_a.keep K9
      replace F_value_a := F_value_a.keep K9 nin0
      replace F_coder_a := F_coder_a.keep K9 nin0
      replace V_x := V_x.keep K9 nin0
      replace KP := KP.trans K9 all0
      replace Z0 := Nat.le_trans Z0 K9.1
      have V_y9 := V_y9_9'
      have g_y9 := g_y9_9'
      have szc_y9 := sz_y9_9'
      have ne_a_y9 : a ≠ y9 := Nat.ne_of_lt (Nat.lt_of_lt_of_le ltc9_a szc_y9)
      have ne_x_y9 : x ≠ y9 := Nat.ne_of_lt (Nat.lt_of_lt_of_le ltc9_x szc_y9)
      refine Gs st9 ?_
      show Goes _ _ _ _ _ (T9.setTop (mkF m 39 #[.val (.ref a), .val (.ref x), .val (.int (0 : Int32)), .val (.int (2 : Int32)), .val .null, .unset] [(.ref y9)]))
      refine Gs (fun _ tk => XS.astore X9.here hx rfl (hb hby d11_39) rfl rfl (l' := #[.val (.ref a), .val (.ref x), .val (.int (0 : Int32)), .val (.int (2 : Int32)), .val .null, .val (.ref y9)]) rfl tk) ?_
      refine Gs (fun _ tk => XS.aloadN X9.here hx rfl (hb hby d11_41) rfl rfl tk) ?_
      refine Gs (fun _ tk => XS.aload X9.here hx rfl (hb hby d11_42) rfl rfl tk) ?_
      refine Gs (fun _ tk => XS.iloadN X9.here hx rfl (hb hby d11_44) rfl tk) ?_
      obtain ⟨_, _, ⟨T10, L10, k10, n10⟩, -, X10, ⟨Lc10, hQ10, l10, y10, z10⟩, st10⟩ := Jvm.LawKit.callS X9 hx (y := mN19) hown (mvT hZ (gw hw 52 rfl)) (mvT hZ (gw hw 53 rfl)) (mvT hZ (gw hw 47 rfl)) (mvT hZ (gw hw 54 rfl)) (by decide) (backOf (W := 1) (rs_cf_2_4 l Z a0 hw [] y9 ky9 [(.int (lo8 c0)), (.int (hi8 c0)), (.int (lo8 c1)), (.int (hi8 c1))] T9.heap n0 Z0 V_y9) hZ (gw hw 54 rfl) (gw hw 47 rfl) (by decide) (by decide)) (g := (mkF m 45 #[.val (.ref a), .val (.ref x), .val (.int (0 : Int32)), .val (.int (2 : Int32)), .val .null, .val (.ref y9)] [(.int (2 : Int32)), (.ref y9), (.ref a)])) rfl (by rw [hml]; rfl) (argsL := [(.ref y9), (.int (2 : Int32))]) (rest := [(.ref a)]) (lenOf own_pd13 rfl) rfl (w0 (Nat.le_of_eq rfl)) (hb hby d11_45) (fun _ _ => ⟨rfl, rfl, (by decide : 2 + 0 ≤ _), (by decide : 6 + 0 ≤ _)⟩)
      dsimp only [Pt.U, Pt.locs, Pt.cells, Pt.slots] at X10 l10 y10 z10 st10 hQ10
      subst l10 y10 z10
      obtain ⟨rfl, N10q, e10⟩ := hQ10
      have N10 := Fr.app N9 N10q
      refine Gs st10 ?_
      show Goes _ _ _ _ _ (T10.setTop (mkF m 48 #[.val (.ref a), .val (.ref x), .val (.int (0 : Int32)), .val (.int (2 : Int32)), .val .null, .val (.ref y9)] [(.int (1 : Int32)), (.ref a)]))
      obtain ⟨T11, h11, X11, e11, W11, st11⟩ := putFN X10 hx hZ hown (gw hw 26 rfl) Via.refl e10 F_coder_a A_a (Or.inr ⟨(gw hw 22 rfl), rfl, hnm⟩) (gw hw 6 rfl) (ty := .byte) (v' := .int (1 : Int32)) (by decide) rfl rfl (g := (mkF m 48 #[.val (.ref a), .val (.ref x), .val (.int (0 : Int32)), .val (.int (2 : Int32)), .val .null, .val (.ref y9)] [(.int (1 : Int32)), (.ref a)])) rfl rfl (hb hby d11_48)
      have N11 := Fr.snoc X11 N10 g_a
      replace A_a := A_a.wr W11
      replace F_value_a := F_value_a.other W11 (Or.inr (slot_ne (Or.inr (gw hw 21 rfl)) (Or.inr (gw hw 22 rfl)) (by decide) (t := (.array .byte)) (t' := .byte) (by decide) (by decide)))
      replace V_x := V_x.other W11 ne_x_a
      replace S_COMPACT_STRINGS := S_COMPACT_STRINGS.wr W11
      replace V_y9 := V_y9.other W11 (Ne.symm ne_a_y9)
      replace KP := KP.wr W11 (Or.inl (List.mem_of_getElem? (i := 0) rfl))
      replace F_coder_a := F_coder_a.same W11
      replace Z0 : n0 ≤ h11.size := by rw [W11.size]; exact Z0
      refine Gs st11 ?_
      show Goes _ _ _ _ _ (T11.setTop (mkF m 51 #[.val (.ref a), .val (.ref x), .val (.int (0 : Int32)), .val (.int (2 : Int32)), .val .null, .val (.ref y9)] []))
      refine Gs (fun _ tk => XS.aloadN X11.here hx rfl (hb hby d11_51) rfl rfl tk) ?_
      refine Gs (fun _ tk => XS.aload X11.here hx rfl (hb hby d11_52) rfl rfl tk) ?_
      obtain ⟨T12, h12, X12, e12, W12, st12⟩ := putF X11 hx hZ hown (host := "") (Or.inl (gw hw 25 rfl)) Via.refl e11 F_value_a A_a (Or.inr ⟨(gw hw 21 rfl), rfl, hnm⟩) (gw hw 6 rfl) (ty := (.array .byte)) (by decide) rfl rfl (g := (mkF m 54 #[.val (.ref a), .val (.ref x), .val (.int (0 : Int32)), .val (.int (2 : Int32)), .val .null, .val (.ref y9)] [(.ref y9), (.ref a)])) rfl rfl (hb hby d11_54)
      have N12 := Fr.snoc X12 N11 g_a
      replace A_a := A_a.wr W12
      replace F_coder_a := F_coder_a.other W12 (Or.inr (slot_ne (Or.inr (gw hw 22 rfl)) (Or.inr (gw hw 21 rfl)) (by decide) (t := .byte) (t' := (.array .byte)) (by decide) (by decide)))
      replace V_x := V_x.other W12 ne_x_a
      replace S_COMPACT_STRINGS := S_COMPACT_STRINGS.wr W12
      replace V_y9 := V_y9.other W12 (Ne.symm ne_a_y9)
      replace KP := KP.wr W12 (Or.inl (List.mem_of_getElem? (i := 0) rfl))
      replace F_value_a := F_value_a.same W12
      replace Z0 : n0 ≤ h12.size := by rw [W12.size]; exact Z0
      refine Gs st12 ?_
      show Goes _ _ _ _ _ (T12.setTop (mkF m 57 #[.val (.ref a), .val (.ref x), .val (.int (0 : Int32)), .val (.int (2 : Int32)), .val .null, .val (.ref y9)] []))
      have T_a : StrOf Z h12 a [c0, c1] := StrOf.utf A_a F_value_a F_coder_a V_y9 (by intro c hc; simp only [List.mem_cons, List.not_mem_nil, or_false] at hc; rcases hc with rfl | rfl <;> first | assumption | (exact own_toLat (by assumption) (by assumption))) rfl rfl (Nat.le_of_ble_eq_true rfl)
      refine Goes.ret X12 none (fun _ => rfl) hlk (by decide) (by decide) ?_ (fun fs hr => ?_)
      · rw [e12]; exact ⟨rfl, N12, KP, T_a⟩
      · exact X12.returnOut hx hret (hb hby d11_57) hr
    · show Goes _ _ _ _ _ (s₁.setTop (mkF m 0 #[.val (.ref a), .val (.ref x), .val (.int (0 : Int32)), .val (.int (2 : Int32)), .val .null, .unset] []))
      show Goes _ _ _ _ _ (s₁.setTop (mkF m 0 #[.val (.ref a), .val (.ref x), .val (.int (0 : Int32)), .val (.int (2 : Int32)), .val .null, .unset] []))
      refine Gs (fun _ tk => XS.aloadN X0.here hx rfl (hb hby d11_0) rfl rfl tk) ?_
      obtain ⟨T13, X13, e13, st13⟩ := initO X0 hx hZ hown (gw hw 16 rfl) (gw hw 17 rfl) (gw hw 18 rfl) e0 (g := (mkF m 1 #[.val (.ref a), .val (.ref x), .val (.int (0 : Int32)), .val (.int (2 : Int32)), .val .null, .unset] [(.ref a)])) rfl (by rw [hml]; rfl) rfl (hb hby d11_1) (by decide) (W := 0) (w0 (Nat.le_of_eq rfl)) (by decide)
      refine Gs st13 ?_
      show Goes _ _ _ _ _ (T13.setTop (mkF m 4 #[.val (.ref a), .val (.ref x), .val (.int (0 : Int32)), .val (.int (2 : Int32)), .val .null, .unset] []))
      refine Gs (fun _ tk => XS.iloadN X13.here hx rfl (hb hby d11_4) rfl tk) ?_
      refine Gs (fun _ tk => XS.ifYes X13.here hx rfl (pc0 := 5) (pc' := 27) rfl (hb hby d11_5) rfl ((if0 _ _).trans (feq (by decide : ¬ ((2 : Int32) = (0 : Int32)))).2) (by decide) (by decide) tk) ?_
      obtain ⟨T14, X14, e14, st14⟩ := getS2 X13 hx hZ hown (host := "") (Or.inl (gw hw 41 rfl)) Via.refl e13 S_COMPACT_STRINGS (g := (mkF m 27 #[.val (.ref a), .val (.ref x), .val (.int (0 : Int32)), .val (.int (2 : Int32)), .val .null, .unset] [])) rfl (hb hby d11_27)
      refine Gs st14 ?_
      show Goes _ _ _ _ _ (T14.setTop (mkF m 30 #[.val (.ref a), .val (.ref x), .val (.int (0 : Int32)), .val (.int (2 : Int32)), .val .null, .unset] [(.int cz)]))
      refine Gs (fun _ tk => XS.ifNo X14.here hx rfl (hb hby d11_30) rfl ((if0 _ _).trans (feq hcz).1) tk) ?_
      refine Gs (fun _ tk => XS.aloadN X14.here hx rfl (hb hby d11_33) rfl rfl tk) ?_
      refine Gs (fun _ tk => XS.iloadN X14.here hx rfl (hb hby d11_34) rfl tk) ?_
      refine Gs (fun _ tk => XS.iloadN X14.here hx rfl (hb hby d11_35) rfl tk) ?_
      have ltc15_a : a < h0.size := A_a.lt
      have ltc15_x : x < h0.size := V_x.lt
      obtain ⟨_, _, ⟨T15, L15, k15, n15⟩, -, X15, ⟨Lc15, hQ15, l15, y15, z15⟩, st15⟩ := Jvm.LawKit.callS X14 hx (y := mN18) hown (mvT hZ (gw hw 45 rfl)) (mvT hZ (gw hw 46 rfl)) (mvT hZ (gw hw 47 rfl)) (mvT hZ (gw hw 48 rfl)) (by decide) (backOf (W := 0) (rs_c3_2_2 l Z a0 hw [] x kx c0 c1 h0 n0 Z0 V_x (by first | assumption | decide) (by first | assumption | decide)) hZ (gw hw 48 rfl) (gw hw 47 rfl) (by decide) (by decide)) (g := (mkF m 36 #[.val (.ref a), .val (.ref x), .val (.int (0 : Int32)), .val (.int (2 : Int32)), .val .null, .unset] [(.int (2 : Int32)), (.int (0 : Int32)), (.ref x)])) rfl (by rw [hml]; rfl) (argsL := [(.ref x), (.int (0 : Int32)), (.int (2 : Int32))]) (rest := []) (lenOf own_pd12 rfl) rfl (w0 (Nat.le_of_eq rfl)) (hb hby d11_36) (fun _ _ => ⟨rfl, e14, (by decide : 0 + 1 ≤ _), (by decide : 0 + 2 ≤ _)⟩)
      dsimp only [Pt.U, Pt.locs, Pt.cells, Pt.slots] at X15 l15 y15 z15 st15 hQ15
      subst l15 y15 z15
      obtain ⟨y15, ky15, rfl, N15q, K15, V_y15_15', g_y15_15', sz_y15_15'⟩ := hQ15
      have N15 := Fr.app N0 N15q
      replace A_a := A_a.keep K15
      replace F_value_a := F_value_a.keep K15 nin0
      replace F_coder_a := F_coder_a.keep K15 nin0
      replace KP := KP.trans K15 all0
      replace Z0 := Nat.le_trans Z0 K15.1
      have V_y15 := V_y15_15'
      have g_y15 := g_y15_15'
      have szc_y15 := sz_y15_15'
      have ne_a_y15 : a ≠ y15 := Nat.ne_of_lt (Nat.lt_of_lt_of_le ltc15_a szc_y15)
      have ne_x_y15 : x ≠ y15 := Nat.ne_of_lt (Nat.lt_of_lt_of_le ltc15_x szc_y15)
      refine Gs st15 ?_
      show Goes _ _ _ _ _ (T15.setTop (mkF m 39 #[.val (.ref a), .val (.ref x), .val (.int (0 : Int32)), .val (.int (2 : Int32)), .val .null, .unset] [(.ref y15)]))
      refine Gs (fun _ tk => XS.astore X15.here hx rfl (hb hby d11_39) rfl rfl (l' := #[.val (.ref a), .val (.ref x), .val (.int (0 : Int32)), .val (.int (2 : Int32)), .val .null, .val (.ref y15)]) rfl tk) ?_
      refine Gs (fun _ tk => XS.aloadN X15.here hx rfl (hb hby d11_41) rfl rfl tk) ?_
      refine Gs (fun _ tk => XS.aload X15.here hx rfl (hb hby d11_42) rfl rfl tk) ?_
      refine Gs (fun _ tk => XS.iloadN X15.here hx rfl (hb hby d11_44) rfl tk) ?_
      obtain ⟨_, _, ⟨T16, L16, k16, n16⟩, -, X16, ⟨Lc16, hQ16, l16, y16, z16⟩, st16⟩ := Jvm.LawKit.callS X15 hx (y := mN19) hown (mvT hZ (gw hw 52 rfl)) (mvT hZ (gw hw 53 rfl)) (mvT hZ (gw hw 47 rfl)) (mvT hZ (gw hw 54 rfl)) (by decide) (backOf (W := 1) (rs_cf_2_2 l Z a0 hw [] y15 ky15 [(.int (lo8 c0)), (.int (lo8 c1))] T15.heap n0 Z0 V_y15) hZ (gw hw 54 rfl) (gw hw 47 rfl) (by decide) (by decide)) (g := (mkF m 45 #[.val (.ref a), .val (.ref x), .val (.int (0 : Int32)), .val (.int (2 : Int32)), .val .null, .val (.ref y15)] [(.int (2 : Int32)), (.ref y15), (.ref a)])) rfl (by rw [hml]; rfl) (argsL := [(.ref y15), (.int (2 : Int32))]) (rest := [(.ref a)]) (lenOf own_pd13 rfl) rfl (w0 (Nat.le_of_eq rfl)) (hb hby d11_45) (fun _ _ => ⟨rfl, rfl, (by decide : 1 + 0 ≤ _), (by decide : 2 + 0 ≤ _)⟩)
      dsimp only [Pt.U, Pt.locs, Pt.cells, Pt.slots] at X16 l16 y16 z16 st16 hQ16
      subst l16 y16 z16
      obtain ⟨rfl, N16q, e16⟩ := hQ16
      have N16 := Fr.app N15 N16q
      refine Gs st16 ?_
      show Goes _ _ _ _ _ (T16.setTop (mkF m 48 #[.val (.ref a), .val (.ref x), .val (.int (0 : Int32)), .val (.int (2 : Int32)), .val .null, .val (.ref y15)] [(.int (0 : Int32)), (.ref a)]))
      obtain ⟨T17, h17, X17, e17, W17, st17⟩ := putFN X16 hx hZ hown (gw hw 26 rfl) Via.refl e16 F_coder_a A_a (Or.inr ⟨(gw hw 22 rfl), rfl, hnm⟩) (gw hw 6 rfl) (ty := .byte) (v' := .int (0 : Int32)) (by decide) rfl rfl (g := (mkF m 48 #[.val (.ref a), .val (.ref x), .val (.int (0 : Int32)), .val (.int (2 : Int32)), .val .null, .val (.ref y15)] [(.int (0 : Int32)), (.ref a)])) rfl rfl (hb hby d11_48)
      have N17 := Fr.snoc X17 N16 g_a
      replace A_a := A_a.wr W17
      replace F_value_a := F_value_a.other W17 (Or.inr (slot_ne (Or.inr (gw hw 21 rfl)) (Or.inr (gw hw 22 rfl)) (by decide) (t := (.array .byte)) (t' := .byte) (by decide) (by decide)))
      replace V_y15 := V_y15.other W17 (Ne.symm ne_a_y15)
      replace KP := KP.wr W17 (Or.inl (List.mem_of_getElem? (i := 0) rfl))
      replace F_coder_a := F_coder_a.same W17
      replace Z0 : n0 ≤ h17.size := by rw [W17.size]; exact Z0
      refine Gs st17 ?_
      show Goes _ _ _ _ _ (T17.setTop (mkF m 51 #[.val (.ref a), .val (.ref x), .val (.int (0 : Int32)), .val (.int (2 : Int32)), .val .null, .val (.ref y15)] []))
      refine Gs (fun _ tk => XS.aloadN X17.here hx rfl (hb hby d11_51) rfl rfl tk) ?_
      refine Gs (fun _ tk => XS.aload X17.here hx rfl (hb hby d11_52) rfl rfl tk) ?_
      obtain ⟨T18, h18, X18, e18, W18, st18⟩ := putF X17 hx hZ hown (host := "") (Or.inl (gw hw 25 rfl)) Via.refl e17 F_value_a A_a (Or.inr ⟨(gw hw 21 rfl), rfl, hnm⟩) (gw hw 6 rfl) (ty := (.array .byte)) (by decide) rfl rfl (g := (mkF m 54 #[.val (.ref a), .val (.ref x), .val (.int (0 : Int32)), .val (.int (2 : Int32)), .val .null, .val (.ref y15)] [(.ref y15), (.ref a)])) rfl rfl (hb hby d11_54)
      have N18 := Fr.snoc X18 N17 g_a
      replace A_a := A_a.wr W18
      replace F_coder_a := F_coder_a.other W18 (Or.inr (slot_ne (Or.inr (gw hw 22 rfl)) (Or.inr (gw hw 21 rfl)) (by decide) (t := .byte) (t' := (.array .byte)) (by decide) (by decide)))
      replace V_y15 := V_y15.other W18 (Ne.symm ne_a_y15)
      replace KP := KP.wr W18 (Or.inl (List.mem_of_getElem? (i := 0) rfl))
      replace F_value_a := F_value_a.same W18
      replace Z0 : n0 ≤ h18.size := by rw [W18.size]; exact Z0
      refine Gs st18 ?_
      show Goes _ _ _ _ _ (T18.setTop (mkF m 57 #[.val (.ref a), .val (.ref x), .val (.int (0 : Int32)), .val (.int (2 : Int32)), .val .null, .val (.ref y15)] []))
      have T_a : StrOf Z h18 a [c0, c1] := StrOf.latin A_a F_value_a F_coder_a V_y15 (by intro c hc; simp only [List.mem_cons, List.not_mem_nil, or_false] at hc; rcases hc with rfl | rfl <;> first | assumption | (exact own_toLat (by assumption) (by assumption))) rfl rfl (Nat.le_of_ble_eq_true rfl)
      refine Goes.ret X18 none (fun _ => rfl) hlk (by decide) (by decide) ?_ (fun fs hr => ?_)
      · rw [e18]; exact ⟨rfl, N18, KP, T_a⟩
      · exact X18.returnOut hx hret (hb hby d11_57) hr
theorem own_ef_rs_i1_2 (m : MethodId) (x0 : Addr) (x1 : Addr) : entryFrame m #[(.ref x0), (.ref x1)] 2 = mkF m 0 #[.val (.ref x0), .val (.ref x1)] [] := by first | (simp [entryFrame, mkF, argsToLocals, Value.category]; done) | rfl
def Q_rs_i1_2 (Z : State) (a : Addr) (x : Addr) (kx : ClassId) (c0 : Int32) (c1 : Int32) (cz : Int32) (h0 : Heap) (n0 : Nat) (v : Option Value) (h : Heap) (L : List Loc) : Prop := v = none ∧ Fr n0 L ∧ Keep h0 h [a] ∧ StrOf Z h a [c0, c1]
set_option maxRecDepth 65536 in
set_option maxHeartbeats 40000000 in
theorem rs_i1_2 (l : Launch) (Z : State) (a0 : Array Value) (hw : ∀ d ∈ tables_1, d.before a0 Z = true) (ws : List Jvm.Cond) (a : Addr) (x : Addr) (kx : ClassId) (c0 : Int32) (c1 : Int32) (cz : Int32) (h0 : Heap) (n0 : Nat) (Z0 : n0 ≤ h0.size) (A_a : Exa Z h0 a "java/lang/String") (F_value_a : Fld Z h0 a "java/lang/String" "value" "[B" .null) (F_coder_a : Fld Z h0 a "java/lang/String" "coder" "B" (.int (0 : Int32))) (V_x : Arv Z h0 x kx .char (2 : Int32) [(.int c0), (.int c1)] (.int (0 : Int32))) (g_a : n0 ≤ a) (ne_x_a : x ≠ a) (S_COMPACT_STRINGS : Sta Z h0 "java/lang/String" "COMPACT_STRINGS" "Z" (.int cz)) (hcz : ¬ (cz = (0 : Int32))) (hC_c0 : Chr c0) (hC_c1 : Chr c1) (S__assertionsDisabled : Sta Z h0 "java/lang/StringUTF16" "$assertionsDisabled" "Z" (.int (1 : Int32))) (S_HI_BYTE_SHIFT : Sta Z h0 "java/lang/StringUTF16" "HI_BYTE_SHIFT" "I" (.int (0 : Int32))) (S_LO_BYTE_SHIFT : Sta Z h0 "java/lang/StringUTF16" "LO_BYTE_SHIFT" "I" (.int (8 : Int32))) :
    Met l Z mN12 jdk_42_method_3_code 2 none ({ frames := 5, cells := 2, slots := 6, locals := 74 } : Room) ws #[(.ref a), (.ref x)] h0 (Q_rs_i1_2 Z a x kx c0 c1 cz h0 n0) := by
  refine own_met (plainFor_of_name own_pn0) ?_
  intro p e s m below meth c s₁ hret hx hby hlk hml hown hnm X0 e0 hZ hh
  have N0 := Fr.nil n0
  refine Gs (fun _ tk => castTop (own_ef_rs_i1_2 m a x) tk) ?_
  have KP : Keep h0 h0 [a] := Keep.refl _ _
  show Goes _ _ _ _ _ (s₁.setTop (mkF m 0 #[.val (.ref a), .val (.ref x)] []))
  refine Gs (fun _ tk => XS.aloadN X0.here hx rfl (hb hby d12_0) rfl rfl tk) ?_
  refine Gs (fun _ tk => XS.aloadN X0.here hx rfl (hb hby d12_1) rfl rfl tk) ?_
  refine Gs (fun _ tk => XS.iconst X0.here hx rfl (hb hby d12_2) tk) ?_
  refine Gs (fun _ tk => XS.aloadN X0.here hx rfl (hb hby d12_3) rfl rfl tk) ?_
  obtain ⟨cl1, Ar1, -, S1, N1z, -, -⟩ := id V_x
  refine Gs (fun _ tk => X0.arraylength hx (by rw [e0]; exact Ar1.1) (State.isArrayOf_alike hZ.alike Ar1.2.1) (g := (mkF m 4 #[.val (.ref a), .val (.ref x)] [(.ref x), (.int (0 : Int32)), (.ref x), (.ref a)])) rfl rfl (hb hby d12_4) _ tk) ?_
  rw [len_of S1 N1z]
  show Goes _ _ _ _ _ (s₁.setTop (mkF m 5 #[.val (.ref a), .val (.ref x)] [(.int (2 : Int32)), (.int (0 : Int32)), (.ref x), (.ref a)]))
  refine Gs (fun _ tk => XS.aconstNull X0.here hx rfl (hb hby d12_5) tk) ?_
  obtain ⟨_, _, ⟨T2, L2, k2, n2⟩, -, X2, ⟨Lc2, hQ2, l2, y2, z2⟩, st2⟩ := X0.specialBack hx (y := mN11) rfl hown (mvT hZ (gw hw 12 rfl)) (mvT hZ (gw hw 13 rfl)) (mvT hZ (gw hw 15 rfl)) (by decide) (backOf (W := 0) (rs_i4_2 l Z a0 hw [] a x kx c0 c1 cz h0 n0 Z0 A_a F_value_a F_coder_a V_x g_a ne_x_a S_COMPACT_STRINGS (by first | assumption | decide) (by first | assumption | decide) (by first | assumption | decide) S__assertionsDisabled S_HI_BYTE_SHIFT S_LO_BYTE_SHIFT) hZ (gw hw 15 rfl) (gw hw 7 rfl) (by decide) (by decide)) (g := (mkF m 6 #[.val (.ref a), .val (.ref x)] [.null, (.int (2 : Int32)), (.int (0 : Int32)), (.ref x), (.ref a)])) rfl (by rw [hml]; rfl) (Steps.refl _) (a := a) (argsL := [(.ref x), (.int (0 : Int32)), (.int (2 : Int32)), .null]) (rest := []) (lenOf own_pd7 rfl) rfl (w0 (Nat.le_of_eq rfl)) (hb hby d12_6) (fun _ _ => ⟨rfl, e0, (by decide : 0 + 2 ≤ _), (by decide : 0 + 6 ≤ _)⟩)
  dsimp only [Pt.U, Pt.locs, Pt.cells, Pt.slots] at X2 l2 y2 z2 st2 hQ2
  subst l2 y2 z2
  obtain ⟨rfl, N2q, K2, T_a_2'⟩ := hQ2
  have N2 := Fr.app N0 N2q
  replace KP := KP.trans K2 (allS (Or.inl (List.mem_of_getElem? (i := 0) rfl)) all0)
  replace Z0 := Nat.le_trans Z0 K2.1
  have T_a := T_a_2'
  refine Gs (fun _ tk => st2.trans tk) ?_
  show Goes _ _ _ _ _ (T2.setTop (mkF m 9 #[.val (.ref a), .val (.ref x)] []))
  refine Goes.ret X2 none (fun _ => rfl) hlk (by decide) (by decide) ?_ (fun fs hr => ?_)
  · exact ⟨rfl, N2, KP, T_a⟩
  · exact X2.returnOut hx hret (hb hby d12_9) hr
theorem own_ef_rs_pc_3_0 (m : MethodId) (x0 : Addr) (x2 : Int32) : entryFrame m #[(.ref x0), (.int (0 : Int32)), (.int x2)] 3 = mkF m 0 #[.val (.ref x0), .val (.int (0 : Int32)), .val (.int x2)] [] := by first | (simp [entryFrame, mkF, argsToLocals, Value.category]; done) | rfl
def Q_rs_pc_3_0 (Z : State) (y : Addr) (ky : ClassId) (c0 : Int32) (h0 : Heap) (n0 : Nat) (v : Option Value) (h : Heap) (L : List Loc) : Prop := v = none ∧ Fr n0 L ∧ Keep h0 h [y] ∧ Arv Z h y ky .byte (6 : Int32) [(.int (lo8 c0)), (.int (hi8 c0)), (.int (0 : Int32)), (.int (0 : Int32)), (.int (0 : Int32)), (.int (0 : Int32))] (.int (0 : Int32))
set_option maxRecDepth 65536 in
set_option maxHeartbeats 40000000 in
theorem rs_pc_3_0 (l : Launch) (Z : State) (a0 : Array Value) (hw : ∀ d ∈ tables_1, d.before a0 Z = true) (ws : List Jvm.Cond) (y : Addr) (ky : ClassId) (c0 : Int32) (h0 : Heap) (n0 : Nat) (Z0 : n0 ≤ h0.size) (V_y : Arv Z h0 y ky .byte (6 : Int32) [(.int (0 : Int32)), (.int (0 : Int32)), (.int (0 : Int32)), (.int (0 : Int32)), (.int (0 : Int32)), (.int (0 : Int32))] (.int (0 : Int32))) (g_y : n0 ≤ y) (S__assertionsDisabled : Sta Z h0 "java/lang/StringUTF16" "$assertionsDisabled" "Z" (.int (1 : Int32))) (S_HI_BYTE_SHIFT : Sta Z h0 "java/lang/StringUTF16" "HI_BYTE_SHIFT" "I" (.int (0 : Int32))) (S_LO_BYTE_SHIFT : Sta Z h0 "java/lang/StringUTF16" "LO_BYTE_SHIFT" "I" (.int (8 : Int32))) :
    Met l Z mN13 jdk_52_method_4_code 3 none ({ frames := 0, cells := 0, slots := 0, locals := 0 } : Room) ws #[(.ref y), (.int (0 : Int32)), (.int c0)] h0 (Q_rs_pc_3_0 Z y ky c0 h0 n0) := by
  refine own_met (plainFor_of_name own_pn3) ?_
  intro p e s m below meth c s₁ hret hx hby hlk hml hown hnm X0 e0 hZ hh
  have N0 := Fr.nil n0
  refine Gs (fun _ tk => castTop (own_ef_rs_pc_3_0 m y c0) tk) ?_
  have KP : Keep h0 h0 [y] := Keep.refl _ _
  show Goes _ _ _ _ _ (s₁.setTop (mkF m 0 #[.val (.ref y), .val (.int (0 : Int32)), .val (.int c0)] []))
  obtain ⟨T1, X1, e1, st1⟩ := getS2 X0 hx hZ hown (host := "") (Or.inl (gw hw 82 rfl)) Via.refl e0 S__assertionsDisabled (g := (mkF m 0 #[.val (.ref y), .val (.int (0 : Int32)), .val (.int c0)] [])) rfl (hb hby d13_0)
  refine Gs st1 ?_
  show Goes _ _ _ _ _ (T1.setTop (mkF m 3 #[.val (.ref y), .val (.int (0 : Int32)), .val (.int c0)] [(.int (1 : Int32))]))
  refine Gs (fun _ tk => XS.ifYes X1.here hx rfl (pc0 := 3) (pc' := 28) rfl (hb hby d13_3) rfl ((if0 _ _).trans (feq (by decide : ¬ ((1 : Int32) = (0 : Int32)))).2) (by decide) (by decide) tk) ?_
  refine Gs (fun _ tk => XS.iloadN X1.here hx rfl (hb hby d13_28) rfl tk) ?_
  refine Gs (fun _ tk => XS.iconst X1.here hx rfl (hb hby d13_29) tk) ?_
  show Goes _ _ _ _ _ (T1.setTop (mkF m 30 #[.val (.ref y), .val (.int (0 : Int32)), .val (.int c0)] [(.int (1 : Int32)), (.int (0 : Int32))]))
  refine Gs (fun _ tk => XS.ishl X1.here hx rfl (hb hby d13_30) rfl tk) ?_
  rw [show ((0 : Int32) <<< ((1 : Int32) &&& 31)) = (0 : Int32) from by decide]
  show Goes _ _ _ _ _ (T1.setTop (mkF m 31 #[.val (.ref y), .val (.int (0 : Int32)), .val (.int c0)] [(.int (0 : Int32))]))
  refine Gs (fun _ tk => XS.istoreN X1.here hx rfl (hb hby d13_31) rfl (l' := #[.val (.ref y), .val (.int (0 : Int32)), .val (.int c0)]) rfl tk) ?_
  refine Gs (fun _ tk => XS.aloadN X1.here hx rfl (hb hby d13_32) rfl rfl tk) ?_
  refine Gs (fun _ tk => XS.iloadN X1.here hx rfl (hb hby d13_33) rfl tk) ?_
  show Goes _ _ _ _ _ (T1.setTop (mkF m 34 #[.val (.ref y), .val (.int (0 : Int32)), .val (.int c0)] [(.int (0 : Int32)), (.ref y)]))
  refine Gs (fun _ tk => XS.iinc X1.here hx rfl (hb hby d13_34) rfl (l' := #[.val (.ref y), .val (.int ((0 : Int32) + (1 : Int32))), .val (.int c0)]) rfl tk) ?_
  rw [show ((0 : Int32) + (1 : Int32)) = (1 : Int32) from by decide]
  show Goes _ _ _ _ _ (T1.setTop (mkF m 37 #[.val (.ref y), .val (.int (1 : Int32)), .val (.int c0)] [(.int (0 : Int32)), (.ref y)]))
  refine Gs (fun _ tk => XS.iloadN X1.here hx rfl (hb hby d13_37) rfl tk) ?_
  obtain ⟨T2, X2, e2, st2⟩ := getS2 X1 hx hZ hown (host := "") (Or.inl (gw hw 83 rfl)) Via.refl e1 S_HI_BYTE_SHIFT (g := (mkF m 38 #[.val (.ref y), .val (.int (1 : Int32)), .val (.int c0)] [(.int c0), (.int (0 : Int32)), (.ref y)])) rfl (hb hby d13_38)
  refine Gs st2 ?_
  show Goes _ _ _ _ _ (T2.setTop (mkF m 41 #[.val (.ref y), .val (.int (1 : Int32)), .val (.int c0)] [(.int (0 : Int32)), (.int c0), (.int (0 : Int32)), (.ref y)]))
  refine Gs (fun _ tk => XS.ishr X2.here hx rfl (hb hby d13_41) rfl tk) ?_
  show Goes _ _ _ _ _ (T2.setTop (mkF m 42 #[.val (.ref y), .val (.int (1 : Int32)), .val (.int c0)] [(.int (c0 >>> ((0 : Int32) &&& 31))), (.int (0 : Int32)), (.ref y)]))
  rw [own_shr0]
  show Goes _ _ _ _ _ (T2.setTop (mkF m 42 #[.val (.ref y), .val (.int (1 : Int32)), .val (.int c0)] [(.int c0), (.int (0 : Int32)), (.ref y)]))
  refine Gs (fun _ tk => XS.i2b X2.here hx rfl (hb hby d13_42) rfl tk) ?_
  show Goes _ _ _ _ _ (T2.setTop (mkF m 43 #[.val (.ref y), .val (.int (1 : Int32)), .val (.int c0)] [(.int (c0.toInt8.toInt32)), (.int (0 : Int32)), (.ref y)]))
  obtain ⟨cl3, Ar3, q3, S3, N3z, H3, G3⟩ := V_y
  have hin3 : ¬ ((0 : Int32) < 0 ∨ cl3.slots.size ≤ ((0 : Int32)).toNatClampNeg) := inb_of S3 ⟨by decide, by decide⟩
  obtain ⟨T3, h3, X3, e3, W3, st3⟩ := stB X2 hx hZ e2 Ar3 (j := (0 : Int32)) hin3 (g := (mkF m 43 #[.val (.ref y), .val (.int (1 : Int32)), .val (.int c0)] [(.int (c0.toInt8.toInt32)), (.int (0 : Int32)), (.ref y)])) rfl rfl (hb hby d13_43)
  have Vn3 := Arv.set Ar3 q3 S3 N3z H3 G3 (fits_nar_byte _) W3 0 rfl (Nat.le_of_ble_eq_true rfl)
  have N3 := Fr.snoc X3 N0 g_y
  replace S_LO_BYTE_SHIFT := S_LO_BYTE_SHIFT.wr W3
  replace KP := KP.wr W3 (Or.inl (List.mem_of_getElem? (i := 0) rfl))
  have V_y : Arv Z h3 y ky .byte (6 : Int32) [(.int (lo8 c0)), (.int (0 : Int32)), (.int (0 : Int32)), (.int (0 : Int32)), (.int (0 : Int32)), (.int (0 : Int32))] (.int (0 : Int32)) := by have q := Vn3; rw [own_nb2] at q; exact q
  replace Z0 : n0 ≤ h3.size := by rw [W3.size]; exact Z0
  refine Gs st3 ?_
  show Goes _ _ _ _ _ (T3.setTop (mkF m 44 #[.val (.ref y), .val (.int (1 : Int32)), .val (.int c0)] []))
  refine Gs (fun _ tk => XS.aloadN X3.here hx rfl (hb hby d13_44) rfl rfl tk) ?_
  refine Gs (fun _ tk => XS.iloadN X3.here hx rfl (hb hby d13_45) rfl tk) ?_
  refine Gs (fun _ tk => XS.iloadN X3.here hx rfl (hb hby d13_46) rfl tk) ?_
  obtain ⟨T4, X4, e4, st4⟩ := getS2 X3 hx hZ hown (host := "") (Or.inl (gw hw 84 rfl)) Via.refl e3 S_LO_BYTE_SHIFT (g := (mkF m 47 #[.val (.ref y), .val (.int (1 : Int32)), .val (.int c0)] [(.int c0), (.int (1 : Int32)), (.ref y)])) rfl (hb hby d13_47)
  refine Gs st4 ?_
  show Goes _ _ _ _ _ (T4.setTop (mkF m 50 #[.val (.ref y), .val (.int (1 : Int32)), .val (.int c0)] [(.int (8 : Int32)), (.int c0), (.int (1 : Int32)), (.ref y)]))
  refine Gs (fun _ tk => XS.ishr X4.here hx rfl (hb hby d13_50) rfl tk) ?_
  show Goes _ _ _ _ _ (T4.setTop (mkF m 51 #[.val (.ref y), .val (.int (1 : Int32)), .val (.int c0)] [(.int (c0 >>> ((8 : Int32) &&& 31))), (.int (1 : Int32)), (.ref y)]))
  refine Gs (fun _ tk => XS.i2b X4.here hx rfl (hb hby d13_51) rfl tk) ?_
  show Goes _ _ _ _ _ (T4.setTop (mkF m 52 #[.val (.ref y), .val (.int (1 : Int32)), .val (.int c0)] [(.int ((c0 >>> ((8 : Int32) &&& 31)).toInt8.toInt32)), (.int (1 : Int32)), (.ref y)]))
  obtain ⟨cl5, Ar5, q5, S5, N5z, H5, G5⟩ := V_y
  have hin5 : ¬ ((1 : Int32) < 0 ∨ cl5.slots.size ≤ ((1 : Int32)).toNatClampNeg) := inb_of S5 ⟨by decide, by decide⟩
  obtain ⟨T5, h5, X5, e5, W5, st5⟩ := stB X4 hx hZ e4 Ar5 (j := (1 : Int32)) hin5 (g := (mkF m 52 #[.val (.ref y), .val (.int (1 : Int32)), .val (.int c0)] [(.int ((c0 >>> ((8 : Int32) &&& 31)).toInt8.toInt32)), (.int (1 : Int32)), (.ref y)])) rfl rfl (hb hby d13_52)
  have Vn5 := Arv.set Ar5 q5 S5 N5z H5 G5 (fits_nar_byte _) W5 1 rfl (Nat.le_of_ble_eq_true rfl)
  have N5 := Fr.snoc X5 N3 g_y
  replace KP := KP.wr W5 (Or.inl (List.mem_of_getElem? (i := 0) rfl))
  have V_y : Arv Z h5 y ky .byte (6 : Int32) [(.int (lo8 c0)), (.int (hi8 c0)), (.int (0 : Int32)), (.int (0 : Int32)), (.int (0 : Int32)), (.int (0 : Int32))] (.int (0 : Int32)) := by have q := Vn5; rw [own_nbh2] at q; exact q
  replace Z0 : n0 ≤ h5.size := by rw [W5.size]; exact Z0
  refine Gs st5 ?_
  show Goes _ _ _ _ _ (T5.setTop (mkF m 53 #[.val (.ref y), .val (.int (1 : Int32)), .val (.int c0)] []))
  refine Goes.ret X5 none (fun _ => rfl) hlk (by decide) (by decide) ?_ (fun fs hr => ?_)
  · rw [e5]; exact ⟨rfl, N5, KP, V_y⟩
  · exact X5.returnOut hx hret (hb hby d13_53) hr
theorem own_ef_rs_pc_3_1 (m : MethodId) (x0 : Addr) (x2 : Int32) : entryFrame m #[(.ref x0), (.int (1 : Int32)), (.int x2)] 3 = mkF m 0 #[.val (.ref x0), .val (.int (1 : Int32)), .val (.int x2)] [] := by first | (simp [entryFrame, mkF, argsToLocals, Value.category]; done) | rfl
def Q_rs_pc_3_1 (Z : State) (y : Addr) (ky : ClassId) (c0 : Int32) (c1 : Int32) (h0 : Heap) (n0 : Nat) (v : Option Value) (h : Heap) (L : List Loc) : Prop := v = none ∧ Fr n0 L ∧ Keep h0 h [y] ∧ Arv Z h y ky .byte (6 : Int32) [(.int (lo8 c0)), (.int (hi8 c0)), (.int (lo8 c1)), (.int (hi8 c1)), (.int (0 : Int32)), (.int (0 : Int32))] (.int (0 : Int32))
set_option maxRecDepth 65536 in
set_option maxHeartbeats 40000000 in
theorem rs_pc_3_1 (l : Launch) (Z : State) (a0 : Array Value) (hw : ∀ d ∈ tables_1, d.before a0 Z = true) (ws : List Jvm.Cond) (y : Addr) (ky : ClassId) (c0 : Int32) (c1 : Int32) (h0 : Heap) (n0 : Nat) (Z0 : n0 ≤ h0.size) (V_y : Arv Z h0 y ky .byte (6 : Int32) [(.int (lo8 c0)), (.int (hi8 c0)), (.int (0 : Int32)), (.int (0 : Int32)), (.int (0 : Int32)), (.int (0 : Int32))] (.int (0 : Int32))) (g_y : n0 ≤ y) (S__assertionsDisabled : Sta Z h0 "java/lang/StringUTF16" "$assertionsDisabled" "Z" (.int (1 : Int32))) (S_HI_BYTE_SHIFT : Sta Z h0 "java/lang/StringUTF16" "HI_BYTE_SHIFT" "I" (.int (0 : Int32))) (S_LO_BYTE_SHIFT : Sta Z h0 "java/lang/StringUTF16" "LO_BYTE_SHIFT" "I" (.int (8 : Int32))) :
    Met l Z mN13 jdk_52_method_4_code 3 none ({ frames := 0, cells := 0, slots := 0, locals := 0 } : Room) ws #[(.ref y), (.int (1 : Int32)), (.int c1)] h0 (Q_rs_pc_3_1 Z y ky c0 c1 h0 n0) := by
  refine own_met (plainFor_of_name own_pn3) ?_
  intro p e s m below meth c s₁ hret hx hby hlk hml hown hnm X0 e0 hZ hh
  have N0 := Fr.nil n0
  refine Gs (fun _ tk => castTop (own_ef_rs_pc_3_1 m y c1) tk) ?_
  have KP : Keep h0 h0 [y] := Keep.refl _ _
  show Goes _ _ _ _ _ (s₁.setTop (mkF m 0 #[.val (.ref y), .val (.int (1 : Int32)), .val (.int c1)] []))
  obtain ⟨T1, X1, e1, st1⟩ := getS2 X0 hx hZ hown (host := "") (Or.inl (gw hw 82 rfl)) Via.refl e0 S__assertionsDisabled (g := (mkF m 0 #[.val (.ref y), .val (.int (1 : Int32)), .val (.int c1)] [])) rfl (hb hby d13_0)
  refine Gs st1 ?_
  show Goes _ _ _ _ _ (T1.setTop (mkF m 3 #[.val (.ref y), .val (.int (1 : Int32)), .val (.int c1)] [(.int (1 : Int32))]))
  refine Gs (fun _ tk => XS.ifYes X1.here hx rfl (pc0 := 3) (pc' := 28) rfl (hb hby d13_3) rfl ((if0 _ _).trans (feq (by decide : ¬ ((1 : Int32) = (0 : Int32)))).2) (by decide) (by decide) tk) ?_
  refine Gs (fun _ tk => XS.iloadN X1.here hx rfl (hb hby d13_28) rfl tk) ?_
  refine Gs (fun _ tk => XS.iconst X1.here hx rfl (hb hby d13_29) tk) ?_
  show Goes _ _ _ _ _ (T1.setTop (mkF m 30 #[.val (.ref y), .val (.int (1 : Int32)), .val (.int c1)] [(.int (1 : Int32)), (.int (1 : Int32))]))
  refine Gs (fun _ tk => XS.ishl X1.here hx rfl (hb hby d13_30) rfl tk) ?_
  rw [show ((1 : Int32) <<< ((1 : Int32) &&& 31)) = (2 : Int32) from by decide]
  show Goes _ _ _ _ _ (T1.setTop (mkF m 31 #[.val (.ref y), .val (.int (1 : Int32)), .val (.int c1)] [(.int (2 : Int32))]))
  refine Gs (fun _ tk => XS.istoreN X1.here hx rfl (hb hby d13_31) rfl (l' := #[.val (.ref y), .val (.int (2 : Int32)), .val (.int c1)]) rfl tk) ?_
  refine Gs (fun _ tk => XS.aloadN X1.here hx rfl (hb hby d13_32) rfl rfl tk) ?_
  refine Gs (fun _ tk => XS.iloadN X1.here hx rfl (hb hby d13_33) rfl tk) ?_
  show Goes _ _ _ _ _ (T1.setTop (mkF m 34 #[.val (.ref y), .val (.int (2 : Int32)), .val (.int c1)] [(.int (2 : Int32)), (.ref y)]))
  refine Gs (fun _ tk => XS.iinc X1.here hx rfl (hb hby d13_34) rfl (l' := #[.val (.ref y), .val (.int ((2 : Int32) + (1 : Int32))), .val (.int c1)]) rfl tk) ?_
  rw [show ((2 : Int32) + (1 : Int32)) = (3 : Int32) from by decide]
  show Goes _ _ _ _ _ (T1.setTop (mkF m 37 #[.val (.ref y), .val (.int (3 : Int32)), .val (.int c1)] [(.int (2 : Int32)), (.ref y)]))
  refine Gs (fun _ tk => XS.iloadN X1.here hx rfl (hb hby d13_37) rfl tk) ?_
  obtain ⟨T2, X2, e2, st2⟩ := getS2 X1 hx hZ hown (host := "") (Or.inl (gw hw 83 rfl)) Via.refl e1 S_HI_BYTE_SHIFT (g := (mkF m 38 #[.val (.ref y), .val (.int (3 : Int32)), .val (.int c1)] [(.int c1), (.int (2 : Int32)), (.ref y)])) rfl (hb hby d13_38)
  refine Gs st2 ?_
  show Goes _ _ _ _ _ (T2.setTop (mkF m 41 #[.val (.ref y), .val (.int (3 : Int32)), .val (.int c1)] [(.int (0 : Int32)), (.int c1), (.int (2 : Int32)), (.ref y)]))
  refine Gs (fun _ tk => XS.ishr X2.here hx rfl (hb hby d13_41) rfl tk) ?_
  show Goes _ _ _ _ _ (T2.setTop (mkF m 42 #[.val (.ref y), .val (.int (3 : Int32)), .val (.int c1)] [(.int (c1 >>> ((0 : Int32) &&& 31))), (.int (2 : Int32)), (.ref y)]))
  rw [own_shr0]
  show Goes _ _ _ _ _ (T2.setTop (mkF m 42 #[.val (.ref y), .val (.int (3 : Int32)), .val (.int c1)] [(.int c1), (.int (2 : Int32)), (.ref y)]))
  refine Gs (fun _ tk => XS.i2b X2.here hx rfl (hb hby d13_42) rfl tk) ?_
  show Goes _ _ _ _ _ (T2.setTop (mkF m 43 #[.val (.ref y), .val (.int (3 : Int32)), .val (.int c1)] [(.int (c1.toInt8.toInt32)), (.int (2 : Int32)), (.ref y)]))
  obtain ⟨cl3, Ar3, q3, S3, N3z, H3, G3⟩ := V_y
  have hin3 : ¬ ((2 : Int32) < 0 ∨ cl3.slots.size ≤ ((2 : Int32)).toNatClampNeg) := inb_of S3 ⟨by decide, by decide⟩
  obtain ⟨T3, h3, X3, e3, W3, st3⟩ := stB X2 hx hZ e2 Ar3 (j := (2 : Int32)) hin3 (g := (mkF m 43 #[.val (.ref y), .val (.int (3 : Int32)), .val (.int c1)] [(.int (c1.toInt8.toInt32)), (.int (2 : Int32)), (.ref y)])) rfl rfl (hb hby d13_43)
  have Vn3 := Arv.set Ar3 q3 S3 N3z H3 G3 (fits_nar_byte _) W3 2 rfl (Nat.le_of_ble_eq_true rfl)
  have N3 := Fr.snoc X3 N0 g_y
  replace S_LO_BYTE_SHIFT := S_LO_BYTE_SHIFT.wr W3
  replace KP := KP.wr W3 (Or.inl (List.mem_of_getElem? (i := 0) rfl))
  have V_y : Arv Z h3 y ky .byte (6 : Int32) [(.int (lo8 c0)), (.int (hi8 c0)), (.int (lo8 c1)), (.int (0 : Int32)), (.int (0 : Int32)), (.int (0 : Int32))] (.int (0 : Int32)) := by have q := Vn3; rw [own_nb2] at q; exact q
  replace Z0 : n0 ≤ h3.size := by rw [W3.size]; exact Z0
  refine Gs st3 ?_
  show Goes _ _ _ _ _ (T3.setTop (mkF m 44 #[.val (.ref y), .val (.int (3 : Int32)), .val (.int c1)] []))
  refine Gs (fun _ tk => XS.aloadN X3.here hx rfl (hb hby d13_44) rfl rfl tk) ?_
  refine Gs (fun _ tk => XS.iloadN X3.here hx rfl (hb hby d13_45) rfl tk) ?_
  refine Gs (fun _ tk => XS.iloadN X3.here hx rfl (hb hby d13_46) rfl tk) ?_
  obtain ⟨T4, X4, e4, st4⟩ := getS2 X3 hx hZ hown (host := "") (Or.inl (gw hw 84 rfl)) Via.refl e3 S_LO_BYTE_SHIFT (g := (mkF m 47 #[.val (.ref y), .val (.int (3 : Int32)), .val (.int c1)] [(.int c1), (.int (3 : Int32)), (.ref y)])) rfl (hb hby d13_47)
  refine Gs st4 ?_
  show Goes _ _ _ _ _ (T4.setTop (mkF m 50 #[.val (.ref y), .val (.int (3 : Int32)), .val (.int c1)] [(.int (8 : Int32)), (.int c1), (.int (3 : Int32)), (.ref y)]))
  refine Gs (fun _ tk => XS.ishr X4.here hx rfl (hb hby d13_50) rfl tk) ?_
  show Goes _ _ _ _ _ (T4.setTop (mkF m 51 #[.val (.ref y), .val (.int (3 : Int32)), .val (.int c1)] [(.int (c1 >>> ((8 : Int32) &&& 31))), (.int (3 : Int32)), (.ref y)]))
  refine Gs (fun _ tk => XS.i2b X4.here hx rfl (hb hby d13_51) rfl tk) ?_
  show Goes _ _ _ _ _ (T4.setTop (mkF m 52 #[.val (.ref y), .val (.int (3 : Int32)), .val (.int c1)] [(.int ((c1 >>> ((8 : Int32) &&& 31)).toInt8.toInt32)), (.int (3 : Int32)), (.ref y)]))
  obtain ⟨cl5, Ar5, q5, S5, N5z, H5, G5⟩ := V_y
  have hin5 : ¬ ((3 : Int32) < 0 ∨ cl5.slots.size ≤ ((3 : Int32)).toNatClampNeg) := inb_of S5 ⟨by decide, by decide⟩
  obtain ⟨T5, h5, X5, e5, W5, st5⟩ := stB X4 hx hZ e4 Ar5 (j := (3 : Int32)) hin5 (g := (mkF m 52 #[.val (.ref y), .val (.int (3 : Int32)), .val (.int c1)] [(.int ((c1 >>> ((8 : Int32) &&& 31)).toInt8.toInt32)), (.int (3 : Int32)), (.ref y)])) rfl rfl (hb hby d13_52)
  have Vn5 := Arv.set Ar5 q5 S5 N5z H5 G5 (fits_nar_byte _) W5 3 rfl (Nat.le_of_ble_eq_true rfl)
  have N5 := Fr.snoc X5 N3 g_y
  replace KP := KP.wr W5 (Or.inl (List.mem_of_getElem? (i := 0) rfl))
  have V_y : Arv Z h5 y ky .byte (6 : Int32) [(.int (lo8 c0)), (.int (hi8 c0)), (.int (lo8 c1)), (.int (hi8 c1)), (.int (0 : Int32)), (.int (0 : Int32))] (.int (0 : Int32)) := by have q := Vn5; rw [own_nbh2] at q; exact q
  replace Z0 : n0 ≤ h5.size := by rw [W5.size]; exact Z0
  refine Gs st5 ?_
  show Goes _ _ _ _ _ (T5.setTop (mkF m 53 #[.val (.ref y), .val (.int (3 : Int32)), .val (.int c1)] []))
  refine Goes.ret X5 none (fun _ => rfl) hlk (by decide) (by decide) ?_ (fun fs hr => ?_)
  · rw [e5]; exact ⟨rfl, N5, KP, V_y⟩
  · exact X5.returnOut hx hret (hb hby d13_53) hr
theorem own_ef_rs_pc_3_2 (m : MethodId) (x0 : Addr) (x2 : Int32) : entryFrame m #[(.ref x0), (.int (2 : Int32)), (.int x2)] 3 = mkF m 0 #[.val (.ref x0), .val (.int (2 : Int32)), .val (.int x2)] [] := by first | (simp [entryFrame, mkF, argsToLocals, Value.category]; done) | rfl
def Q_rs_pc_3_2 (Z : State) (y : Addr) (ky : ClassId) (c0 : Int32) (c1 : Int32) (c2 : Int32) (h0 : Heap) (n0 : Nat) (v : Option Value) (h : Heap) (L : List Loc) : Prop := v = none ∧ Fr n0 L ∧ Keep h0 h [y] ∧ Arv Z h y ky .byte (6 : Int32) [(.int (lo8 c0)), (.int (hi8 c0)), (.int (lo8 c1)), (.int (hi8 c1)), (.int (lo8 c2)), (.int (hi8 c2))] (.int (0 : Int32))
set_option maxRecDepth 65536 in
set_option maxHeartbeats 40000000 in
theorem rs_pc_3_2 (l : Launch) (Z : State) (a0 : Array Value) (hw : ∀ d ∈ tables_1, d.before a0 Z = true) (ws : List Jvm.Cond) (y : Addr) (ky : ClassId) (c0 : Int32) (c1 : Int32) (c2 : Int32) (h0 : Heap) (n0 : Nat) (Z0 : n0 ≤ h0.size) (V_y : Arv Z h0 y ky .byte (6 : Int32) [(.int (lo8 c0)), (.int (hi8 c0)), (.int (lo8 c1)), (.int (hi8 c1)), (.int (0 : Int32)), (.int (0 : Int32))] (.int (0 : Int32))) (g_y : n0 ≤ y) (S__assertionsDisabled : Sta Z h0 "java/lang/StringUTF16" "$assertionsDisabled" "Z" (.int (1 : Int32))) (S_HI_BYTE_SHIFT : Sta Z h0 "java/lang/StringUTF16" "HI_BYTE_SHIFT" "I" (.int (0 : Int32))) (S_LO_BYTE_SHIFT : Sta Z h0 "java/lang/StringUTF16" "LO_BYTE_SHIFT" "I" (.int (8 : Int32))) :
    Met l Z mN13 jdk_52_method_4_code 3 none ({ frames := 0, cells := 0, slots := 0, locals := 0 } : Room) ws #[(.ref y), (.int (2 : Int32)), (.int c2)] h0 (Q_rs_pc_3_2 Z y ky c0 c1 c2 h0 n0) := by
  refine own_met (plainFor_of_name own_pn3) ?_
  intro p e s m below meth c s₁ hret hx hby hlk hml hown hnm X0 e0 hZ hh
  have N0 := Fr.nil n0
  refine Gs (fun _ tk => castTop (own_ef_rs_pc_3_2 m y c2) tk) ?_
  have KP : Keep h0 h0 [y] := Keep.refl _ _
  show Goes _ _ _ _ _ (s₁.setTop (mkF m 0 #[.val (.ref y), .val (.int (2 : Int32)), .val (.int c2)] []))
  obtain ⟨T1, X1, e1, st1⟩ := getS2 X0 hx hZ hown (host := "") (Or.inl (gw hw 82 rfl)) Via.refl e0 S__assertionsDisabled (g := (mkF m 0 #[.val (.ref y), .val (.int (2 : Int32)), .val (.int c2)] [])) rfl (hb hby d13_0)
  refine Gs st1 ?_
  show Goes _ _ _ _ _ (T1.setTop (mkF m 3 #[.val (.ref y), .val (.int (2 : Int32)), .val (.int c2)] [(.int (1 : Int32))]))
  refine Gs (fun _ tk => XS.ifYes X1.here hx rfl (pc0 := 3) (pc' := 28) rfl (hb hby d13_3) rfl ((if0 _ _).trans (feq (by decide : ¬ ((1 : Int32) = (0 : Int32)))).2) (by decide) (by decide) tk) ?_
  refine Gs (fun _ tk => XS.iloadN X1.here hx rfl (hb hby d13_28) rfl tk) ?_
  refine Gs (fun _ tk => XS.iconst X1.here hx rfl (hb hby d13_29) tk) ?_
  show Goes _ _ _ _ _ (T1.setTop (mkF m 30 #[.val (.ref y), .val (.int (2 : Int32)), .val (.int c2)] [(.int (1 : Int32)), (.int (2 : Int32))]))
  refine Gs (fun _ tk => XS.ishl X1.here hx rfl (hb hby d13_30) rfl tk) ?_
  rw [show ((2 : Int32) <<< ((1 : Int32) &&& 31)) = (4 : Int32) from by decide]
  show Goes _ _ _ _ _ (T1.setTop (mkF m 31 #[.val (.ref y), .val (.int (2 : Int32)), .val (.int c2)] [(.int (4 : Int32))]))
  refine Gs (fun _ tk => XS.istoreN X1.here hx rfl (hb hby d13_31) rfl (l' := #[.val (.ref y), .val (.int (4 : Int32)), .val (.int c2)]) rfl tk) ?_
  refine Gs (fun _ tk => XS.aloadN X1.here hx rfl (hb hby d13_32) rfl rfl tk) ?_
  refine Gs (fun _ tk => XS.iloadN X1.here hx rfl (hb hby d13_33) rfl tk) ?_
  show Goes _ _ _ _ _ (T1.setTop (mkF m 34 #[.val (.ref y), .val (.int (4 : Int32)), .val (.int c2)] [(.int (4 : Int32)), (.ref y)]))
  refine Gs (fun _ tk => XS.iinc X1.here hx rfl (hb hby d13_34) rfl (l' := #[.val (.ref y), .val (.int ((4 : Int32) + (1 : Int32))), .val (.int c2)]) rfl tk) ?_
  rw [show ((4 : Int32) + (1 : Int32)) = (5 : Int32) from by decide]
  show Goes _ _ _ _ _ (T1.setTop (mkF m 37 #[.val (.ref y), .val (.int (5 : Int32)), .val (.int c2)] [(.int (4 : Int32)), (.ref y)]))
  refine Gs (fun _ tk => XS.iloadN X1.here hx rfl (hb hby d13_37) rfl tk) ?_
  obtain ⟨T2, X2, e2, st2⟩ := getS2 X1 hx hZ hown (host := "") (Or.inl (gw hw 83 rfl)) Via.refl e1 S_HI_BYTE_SHIFT (g := (mkF m 38 #[.val (.ref y), .val (.int (5 : Int32)), .val (.int c2)] [(.int c2), (.int (4 : Int32)), (.ref y)])) rfl (hb hby d13_38)
  refine Gs st2 ?_
  show Goes _ _ _ _ _ (T2.setTop (mkF m 41 #[.val (.ref y), .val (.int (5 : Int32)), .val (.int c2)] [(.int (0 : Int32)), (.int c2), (.int (4 : Int32)), (.ref y)]))
  refine Gs (fun _ tk => XS.ishr X2.here hx rfl (hb hby d13_41) rfl tk) ?_
  show Goes _ _ _ _ _ (T2.setTop (mkF m 42 #[.val (.ref y), .val (.int (5 : Int32)), .val (.int c2)] [(.int (c2 >>> ((0 : Int32) &&& 31))), (.int (4 : Int32)), (.ref y)]))
  rw [own_shr0]
  show Goes _ _ _ _ _ (T2.setTop (mkF m 42 #[.val (.ref y), .val (.int (5 : Int32)), .val (.int c2)] [(.int c2), (.int (4 : Int32)), (.ref y)]))
  refine Gs (fun _ tk => XS.i2b X2.here hx rfl (hb hby d13_42) rfl tk) ?_
  show Goes _ _ _ _ _ (T2.setTop (mkF m 43 #[.val (.ref y), .val (.int (5 : Int32)), .val (.int c2)] [(.int (c2.toInt8.toInt32)), (.int (4 : Int32)), (.ref y)]))
  obtain ⟨cl3, Ar3, q3, S3, N3z, H3, G3⟩ := V_y
  have hin3 : ¬ ((4 : Int32) < 0 ∨ cl3.slots.size ≤ ((4 : Int32)).toNatClampNeg) := inb_of S3 ⟨by decide, by decide⟩
  obtain ⟨T3, h3, X3, e3, W3, st3⟩ := stB X2 hx hZ e2 Ar3 (j := (4 : Int32)) hin3 (g := (mkF m 43 #[.val (.ref y), .val (.int (5 : Int32)), .val (.int c2)] [(.int (c2.toInt8.toInt32)), (.int (4 : Int32)), (.ref y)])) rfl rfl (hb hby d13_43)
  have Vn3 := Arv.set Ar3 q3 S3 N3z H3 G3 (fits_nar_byte _) W3 4 rfl (Nat.le_of_ble_eq_true rfl)
  have N3 := Fr.snoc X3 N0 g_y
  replace S_LO_BYTE_SHIFT := S_LO_BYTE_SHIFT.wr W3
  replace KP := KP.wr W3 (Or.inl (List.mem_of_getElem? (i := 0) rfl))
  have V_y : Arv Z h3 y ky .byte (6 : Int32) [(.int (lo8 c0)), (.int (hi8 c0)), (.int (lo8 c1)), (.int (hi8 c1)), (.int (lo8 c2)), (.int (0 : Int32))] (.int (0 : Int32)) := by have q := Vn3; rw [own_nb2] at q; exact q
  replace Z0 : n0 ≤ h3.size := by rw [W3.size]; exact Z0
  refine Gs st3 ?_
  show Goes _ _ _ _ _ (T3.setTop (mkF m 44 #[.val (.ref y), .val (.int (5 : Int32)), .val (.int c2)] []))
  refine Gs (fun _ tk => XS.aloadN X3.here hx rfl (hb hby d13_44) rfl rfl tk) ?_
  refine Gs (fun _ tk => XS.iloadN X3.here hx rfl (hb hby d13_45) rfl tk) ?_
  refine Gs (fun _ tk => XS.iloadN X3.here hx rfl (hb hby d13_46) rfl tk) ?_
  obtain ⟨T4, X4, e4, st4⟩ := getS2 X3 hx hZ hown (host := "") (Or.inl (gw hw 84 rfl)) Via.refl e3 S_LO_BYTE_SHIFT (g := (mkF m 47 #[.val (.ref y), .val (.int (5 : Int32)), .val (.int c2)] [(.int c2), (.int (5 : Int32)), (.ref y)])) rfl (hb hby d13_47)
  refine Gs st4 ?_
  show Goes _ _ _ _ _ (T4.setTop (mkF m 50 #[.val (.ref y), .val (.int (5 : Int32)), .val (.int c2)] [(.int (8 : Int32)), (.int c2), (.int (5 : Int32)), (.ref y)]))
  refine Gs (fun _ tk => XS.ishr X4.here hx rfl (hb hby d13_50) rfl tk) ?_
  show Goes _ _ _ _ _ (T4.setTop (mkF m 51 #[.val (.ref y), .val (.int (5 : Int32)), .val (.int c2)] [(.int (c2 >>> ((8 : Int32) &&& 31))), (.int (5 : Int32)), (.ref y)]))
  refine Gs (fun _ tk => XS.i2b X4.here hx rfl (hb hby d13_51) rfl tk) ?_
  show Goes _ _ _ _ _ (T4.setTop (mkF m 52 #[.val (.ref y), .val (.int (5 : Int32)), .val (.int c2)] [(.int ((c2 >>> ((8 : Int32) &&& 31)).toInt8.toInt32)), (.int (5 : Int32)), (.ref y)]))
  obtain ⟨cl5, Ar5, q5, S5, N5z, H5, G5⟩ := V_y
  have hin5 : ¬ ((5 : Int32) < 0 ∨ cl5.slots.size ≤ ((5 : Int32)).toNatClampNeg) := inb_of S5 ⟨by decide, by decide⟩
  obtain ⟨T5, h5, X5, e5, W5, st5⟩ := stB X4 hx hZ e4 Ar5 (j := (5 : Int32)) hin5 (g := (mkF m 52 #[.val (.ref y), .val (.int (5 : Int32)), .val (.int c2)] [(.int ((c2 >>> ((8 : Int32) &&& 31)).toInt8.toInt32)), (.int (5 : Int32)), (.ref y)])) rfl rfl (hb hby d13_52)
  have Vn5 := Arv.set Ar5 q5 S5 N5z H5 G5 (fits_nar_byte _) W5 5 rfl (Nat.le_of_ble_eq_true rfl)
  have N5 := Fr.snoc X5 N3 g_y
  replace KP := KP.wr W5 (Or.inl (List.mem_of_getElem? (i := 0) rfl))
  have V_y : Arv Z h5 y ky .byte (6 : Int32) [(.int (lo8 c0)), (.int (hi8 c0)), (.int (lo8 c1)), (.int (hi8 c1)), (.int (lo8 c2)), (.int (hi8 c2))] (.int (0 : Int32)) := by have q := Vn5; rw [own_nbh2] at q; exact q
  replace Z0 : n0 ≤ h5.size := by rw [W5.size]; exact Z0
  refine Gs st5 ?_
  show Goes _ _ _ _ _ (T5.setTop (mkF m 53 #[.val (.ref y), .val (.int (5 : Int32)), .val (.int c2)] []))
  refine Goes.ret X5 none (fun _ => rfl) hlk (by decide) (by decide) ?_ (fun fs hr => ?_)
  · rw [e5]; exact ⟨rfl, N5, KP, V_y⟩
  · exact X5.returnOut hx hret (hb hby d13_53) hr
theorem own_ef_rs_nbl_3 (m : MethodId)  : entryFrame m #[(.int (3 : Int32))] 1 = mkF m 0 #[.val (.int (3 : Int32))] [] := by first | (simp [entryFrame, mkF, argsToLocals, Value.category]; done) | rfl
def Q_rs_nbl_3 (Z : State)  (h0 : Heap) (n0 : Nat) (v : Option Value) (h : Heap) (L : List Loc) : Prop := v = some (.int (6 : Int32)) ∧ Fr n0 L ∧ h = h0
set_option maxRecDepth 65536 in
set_option maxHeartbeats 40000000 in
theorem rs_nbl_3 (l : Launch) (Z : State) (a0 : Array Value) (hw : ∀ d ∈ tables_1, d.before a0 Z = true) (ws : List Jvm.Cond)  (h0 : Heap) (n0 : Nat) (Z0 : n0 ≤ h0.size) :
    Met l Z mN14 jdk_52_method_3_code 1 (some .int) ({ frames := 0, cells := 0, slots := 0, locals := 0 } : Room) ws #[(.int (3 : Int32))] h0 (Q_rs_nbl_3 Z  h0 n0) := by
  refine own_met (plainFor_of_name own_pn3) ?_
  intro p e s m below meth c s₁ hret hx hby hlk hml hown hnm X0 e0 hZ hh
  have N0 := Fr.nil n0
  refine Gs (fun _ tk => castTop (own_ef_rs_nbl_3 m ) tk) ?_
  show Goes _ _ _ _ _ (s₁.setTop (mkF m 0 #[.val (.int (3 : Int32))] []))
  refine Gs (fun _ tk => XS.iloadN X0.here hx rfl (hb hby d14_0) rfl tk) ?_
  refine Gs (fun _ tk => XS.ifYes X0.here hx rfl (pc0 := 1) (pc' := 12) rfl (hb hby d14_1) rfl ((if0 _ _).trans (flt (by decide : ¬ ((3 : Int32) < (0 : Int32)))).2.1) (by decide) (by decide) tk) ?_
  refine Gs (fun _ tk => XS.iloadN X0.here hx rfl (hb hby d14_12) rfl tk) ?_
  refine Gs (fun _ tk => Jvm.Stand.ldcI X0 hx hown (mvT hZ (gw hw 78 rfl)) rfl (hb hby d14_13) tk) ?_
  show Goes _ _ _ _ _ (s₁.setTop (mkF m 15 #[.val (.int (3 : Int32))] [(.int (1073741823 : Int32)), (.int (3 : Int32))]))
  refine Gs (fun _ tk => XS.icmpYes X0.here hx rfl (pc0 := 15) (pc' := 55) rfl (hb hby d14_15) rfl (tlt (by decide : ((3 : Int32) < (1073741823 : Int32)))).1 (by decide) (by decide) tk) ?_
  refine Gs (fun _ tk => XS.iloadN X0.here hx rfl (hb hby d14_55) rfl tk) ?_
  refine Gs (fun _ tk => XS.iconst X0.here hx rfl (hb hby d14_56) tk) ?_
  show Goes _ _ _ _ _ (s₁.setTop (mkF m 57 #[.val (.int (3 : Int32))] [(.int (1 : Int32)), (.int (3 : Int32))]))
  refine Gs (fun _ tk => XS.ishl X0.here hx rfl (hb hby d14_57) rfl tk) ?_
  rw [show ((3 : Int32) <<< ((1 : Int32) &&& 31)) = (6 : Int32) from by decide]
  show Goes _ _ _ _ _ (s₁.setTop (mkF m 58 #[.val (.int (3 : Int32))] [(.int (6 : Int32))]))
  refine Goes.ret X0 (some (.int (6 : Int32))) (fun h => by rw [hret] at h; cases h) hlk (by decide) (by decide) ?_ (fun fs hr => ?_)
  · exact ⟨rfl, N0, e0⟩
  · exact retI X0 hx hret (hb hby d14_58) hr
theorem own_ef_rs_nbf_3 (m : MethodId)  : entryFrame m #[(.int (3 : Int32))] 1 = mkF m 0 #[.val (.int (3 : Int32))] [] := by first | (simp [entryFrame, mkF, argsToLocals, Value.category]; done) | rfl
def Q_rs_nbf_3 (Z : State)  (h0 : Heap) (n0 : Nat) (v : Option Value) (h : Heap) (L : List Loc) : Prop := ∃ y : Addr, ∃ ky : ClassId, v = some (.ref y) ∧ Fr n0 L ∧ Keep h0 h [] ∧ Arv Z h y ky .byte (6 : Int32) [(.int (0 : Int32)), (.int (0 : Int32)), (.int (0 : Int32)), (.int (0 : Int32)), (.int (0 : Int32)), (.int (0 : Int32))] (.int (0 : Int32)) ∧ n0 ≤ y ∧ h0.size ≤ y
set_option maxRecDepth 65536 in
set_option maxHeartbeats 40000000 in
theorem rs_nbf_3 (l : Launch) (Z : State) (a0 : Array Value) (hw : ∀ d ∈ tables_1, d.before a0 Z = true) (ws : List Jvm.Cond)  (h0 : Heap) (n0 : Nat) (Z0 : n0 ≤ h0.size) :
    Met l Z mN15 jdk_52_method_2_code 1 (some (.array .byte)) ({ frames := 1, cells := 1, slots := 6, locals := 12 } : Room) ws #[(.int (3 : Int32))] h0 (Q_rs_nbf_3 Z  h0 n0) := by
  refine own_met (plainFor_of_name own_pn3) ?_
  intro p e s m below meth c s₁ hret hx hby hlk hml hown hnm X0 e0 hZ hh
  have N0 := Fr.nil n0
  refine Gs (fun _ tk => castTop (own_ef_rs_nbf_3 m ) tk) ?_
  have KP : Keep h0 h0 [] := Keep.refl _ _
  show Goes _ _ _ _ _ (s₁.setTop (mkF m 0 #[.val (.int (3 : Int32))] []))
  refine Gs (fun _ tk => XS.iloadN X0.here hx rfl (hb hby d15_0) rfl tk) ?_
  obtain ⟨_, _, ⟨T1, L1, k1, n1⟩, -, X1, ⟨Lc1, hQ1, l1, y1, z1⟩, st1⟩ := Jvm.LawKit.callS X0 hx (y := mN14) hown (mvT hZ (gw hw 75 rfl)) (mvT hZ (gw hw 76 rfl)) (mvT hZ (gw hw 47 rfl)) (mvT hZ (gw hw 77 rfl)) (by decide) (backOf (W := 0) (rs_nbl_3 l Z a0 hw []  h0 n0 Z0) hZ (gw hw 77 rfl) (gw hw 47 rfl) (by decide) (by decide)) (g := (mkF m 1 #[.val (.int (3 : Int32))] [(.int (3 : Int32))])) rfl (by rw [hml]; rfl) (argsL := [(.int (3 : Int32))]) (rest := []) (lenOf own_pd8 rfl) rfl (w0 (Nat.le_of_eq rfl)) (hb hby d15_1) (fun _ _ => ⟨rfl, e0, (by decide : 0 + 0 ≤ _), (by decide : 0 + 0 ≤ _)⟩)
  dsimp only [Pt.U, Pt.locs, Pt.cells, Pt.slots] at X1 l1 y1 z1 st1 hQ1
  subst l1 y1 z1
  obtain ⟨rfl, N1q, e1⟩ := hQ1
  have N1 := Fr.app N0 N1q
  refine Gs st1 ?_
  show Goes _ _ _ _ _ (T1.setTop (mkF m 4 #[.val (.int (3 : Int32))] [(.int (6 : Int32))]))
  obtain ⟨T2, h2, k2, X2, e2, E2, A2, st2⟩ := newP X1 hx hZ (gw hw 20 rfl) e1 (g := (mkF m 4 #[.val (.int (3 : Int32))] [(.int (6 : Int32))])) rfl (hb hby d15_4) rfl (by decide) (cap := 6) (by decide) (by decide) (by decide) (by decide)
  obtain ⟨b2, gq2⟩ : ∃ z, z = h0.size := ⟨_, rfl⟩
  rw [← gq2] at A2 st2
  have g_b2 : n0 ≤ b2 := by rw [gq2]; exact Z0
  have sz_b2 : h0.size ≤ b2 := by rw [gq2]; exact KP.1
  replace KP := KP.ext E2
  replace Z0 : n0 ≤ h2.size := Nat.le_trans Z0 E2.1
  have V_b2 : Arv Z h2 b2 k2 .byte (6 : Int32) [(.int (0 : Int32)), (.int (0 : Int32)), (.int (0 : Int32)), (.int (0 : Int32)), (.int (0 : Int32)), (.int (0 : Int32))] (.int (0 : Int32)) := (Arv.new A2 (by decide)).pad (pad_rep [] (.int (0 : Int32)) 6)
  refine Gs st2 ?_
  show Goes _ _ _ _ _ (T2.setTop (mkF m 6 #[.val (.int (3 : Int32))] [(.ref b2)]))
  refine Goes.ret X2 (some (.ref b2)) (fun h => by rw [hret] at h; cases h) hlk (by decide) (by decide) ?_ (fun fs hr => ?_)
  · rw [e2]; exact ⟨b2, k2, rfl, N1, KP, V_b2, g_b2, sz_b2⟩
  · exact own_retA X2 hx hret rfl rfl (hb hby d15_6) hr
theorem own_ef_rs_tb_3 (m : MethodId) (x0 : Addr) : entryFrame m #[(.ref x0), (.int (0 : Int32)), (.int (3 : Int32))] 5 = mkF m 0 #[.val (.ref x0), .val (.int (0 : Int32)), .val (.int (3 : Int32)), .unset, .unset] [] := by first | (simp [entryFrame, mkF, argsToLocals, Value.category]; done) | rfl
def Q_rs_tb_3 (Z : State) (x : Addr) (kx : ClassId) (c0 : Int32) (c1 : Int32) (c2 : Int32) (h0 : Heap) (n0 : Nat) (v : Option Value) (h : Heap) (L : List Loc) : Prop := ∃ y : Addr, ∃ ky : ClassId, v = some (.ref y) ∧ Fr n0 L ∧ Keep h0 h [] ∧ Arv Z h y ky .byte (6 : Int32) [(.int (lo8 c0)), (.int (hi8 c0)), (.int (lo8 c1)), (.int (hi8 c1)), (.int (lo8 c2)), (.int (hi8 c2))] (.int (0 : Int32)) ∧ n0 ≤ y ∧ h0.size ≤ y
set_option maxRecDepth 65536 in
set_option maxHeartbeats 40000000 in
theorem rs_tb_3 (l : Launch) (Z : State) (a0 : Array Value) (hw : ∀ d ∈ tables_1, d.before a0 Z = true) (ws : List Jvm.Cond) (x : Addr) (kx : ClassId) (c0 : Int32) (c1 : Int32) (c2 : Int32) (h0 : Heap) (n0 : Nat) (Z0 : n0 ≤ h0.size) (V_x : Arv Z h0 x kx .char (3 : Int32) [(.int c0), (.int c1), (.int c2)] (.int (0 : Int32))) (S__assertionsDisabled : Sta Z h0 "java/lang/StringUTF16" "$assertionsDisabled" "Z" (.int (1 : Int32))) (S_HI_BYTE_SHIFT : Sta Z h0 "java/lang/StringUTF16" "HI_BYTE_SHIFT" "I" (.int (0 : Int32))) (S_LO_BYTE_SHIFT : Sta Z h0 "java/lang/StringUTF16" "LO_BYTE_SHIFT" "I" (.int (8 : Int32))) :
    Met l Z mN16 jdk_52_method_14_code 5 (some (.array .byte)) ({ frames := 2, cells := 1, slots := 6, locals := 24 } : Room) ws #[(.ref x), (.int (0 : Int32)), (.int (3 : Int32))] h0 (Q_rs_tb_3 Z x kx c0 c1 c2 h0 n0) := by
  refine own_met (plainFor_of_name own_pn3) ?_
  intro p e s m below meth c s₁ hret hx hby hlk hml hown hnm X0 e0 hZ hh
  have N0 := Fr.nil n0
  refine Gs (fun _ tk => castTop (own_ef_rs_tb_3 m x) tk) ?_
  have KP : Keep h0 h0 [] := Keep.refl _ _
  show Goes _ _ _ _ _ (s₁.setTop (mkF m 0 #[.val (.ref x), .val (.int (0 : Int32)), .val (.int (3 : Int32)), .unset, .unset] []))
  refine Gs (fun _ tk => XS.iloadN X0.here hx rfl (hb hby d16_0) rfl tk) ?_
  have ltc1_x : x < h0.size := V_x.lt
  have szs1 : h0.size ≤ h0.size := KP.1
  obtain ⟨_, _, ⟨T1, L1, k1, n1⟩, -, X1, ⟨Lc1, hQ1, l1, y1, z1⟩, st1⟩ := Jvm.LawKit.callS X0 hx (y := mN15) hown (mvT hZ (gw hw 72 rfl)) (mvT hZ (gw hw 73 rfl)) (mvT hZ (gw hw 47 rfl)) (mvT hZ (gw hw 74 rfl)) (by decide) (backOf (W := 0) (rs_nbf_3 l Z a0 hw []  h0 n0 Z0) hZ (gw hw 74 rfl) (gw hw 47 rfl) (by decide) (by decide)) (g := (mkF m 1 #[.val (.ref x), .val (.int (0 : Int32)), .val (.int (3 : Int32)), .unset, .unset] [(.int (3 : Int32))])) rfl (by rw [hml]; rfl) (argsL := [(.int (3 : Int32))]) (rest := []) (lenOf own_pd9 rfl) rfl (w0 (Nat.le_of_eq rfl)) (hb hby d16_1) (fun _ _ => ⟨rfl, e0, (by decide : 0 + 1 ≤ _), (by decide : 0 + 6 ≤ _)⟩)
  dsimp only [Pt.U, Pt.locs, Pt.cells, Pt.slots] at X1 l1 y1 z1 st1 hQ1
  subst l1 y1 z1
  obtain ⟨y1, ky1, rfl, N1q, K1, V_y1_1', g_y1_1', sz_y1_1'⟩ := hQ1
  have N1 := Fr.app N0 N1q
  replace S__assertionsDisabled := own_staK S__assertionsDisabled K1 all0
  replace S_HI_BYTE_SHIFT := own_staK S_HI_BYTE_SHIFT K1 all0
  replace S_LO_BYTE_SHIFT := own_staK S_LO_BYTE_SHIFT K1 all0
  replace V_x := V_x.keep K1 nin0
  replace KP := KP.trans K1 all0
  replace Z0 := Nat.le_trans Z0 K1.1
  have V_y1 := V_y1_1'
  have g_y1 := g_y1_1'
  have szc_y1 := sz_y1_1'
  have ne_x_y1 : x ≠ y1 := Nat.ne_of_lt (Nat.lt_of_lt_of_le ltc1_x szc_y1)
  have sz_y1 : h0.size ≤ y1 := Nat.le_trans szs1 szc_y1
  refine Gs st1 ?_
  show Goes _ _ _ _ _ (T1.setTop (mkF m 4 #[.val (.ref x), .val (.int (0 : Int32)), .val (.int (3 : Int32)), .unset, .unset] [(.ref y1)]))
  refine Gs (fun _ tk => XS.astoreN X1.here hx rfl (hb hby d16_4) rfl rfl (l' := #[.val (.ref x), .val (.int (0 : Int32)), .val (.int (3 : Int32)), .val (.ref y1), .unset]) rfl tk) ?_
  refine Gs (fun _ tk => XS.iconst X1.here hx rfl (hb hby d16_5) tk) ?_
  refine Gs (fun _ tk => XS.istore X1.here hx rfl (hb hby d16_6) rfl (l' := #[.val (.ref x), .val (.int (0 : Int32)), .val (.int (3 : Int32)), .val (.ref y1), .val (.int (0 : Int32))]) rfl tk) ?_
  refine Gs (fun _ tk => XS.iload X1.here hx rfl (hb hby d16_8) rfl tk) ?_
  refine Gs (fun _ tk => XS.iloadN X1.here hx rfl (hb hby d16_10) rfl tk) ?_
  refine Gs (fun _ tk => XS.icmpNo X1.here hx rfl (hb hby d16_11) rfl (tlt (by decide : ((0 : Int32) < (3 : Int32)))).2.1 tk) ?_
  show Goes _ _ _ _ _ (T1.setTop (mkF m 14 #[.val (.ref x), .val (.int (0 : Int32)), .val (.int (3 : Int32)), .val (.ref y1), .val (.int (0 : Int32))] []))
  refine Gs (fun _ tk => XS.aloadN X1.here hx rfl (hb hby d16_14) rfl rfl tk) ?_
  refine Gs (fun _ tk => XS.iload X1.here hx rfl (hb hby d16_15) rfl tk) ?_
  refine Gs (fun _ tk => XS.aloadN X1.here hx rfl (hb hby d16_17) rfl rfl tk) ?_
  refine Gs (fun _ tk => XS.iloadN X1.here hx rfl (hb hby d16_18) rfl tk) ?_
  obtain ⟨cl2, Ar2, -, S2, N2z, H2, -⟩ := id V_x
  have hin2 : ¬ ((0 : Int32) < 0 ∨ cl2.slots.size ≤ ((0 : Int32)).toNatClampNeg) := inb_of S2 ⟨by decide, by decide⟩
  have hat2 : cl2.slots[((0 : Int32)).toNatClampNeg]? = some (.int c0) := Has.at H2 hin2 rfl
  refine Gs (fun _ tk => X1.caload hx (j := (0 : Int32)) (v := (.int c0)) Ar2.1 (State.isArrayOf_alike hZ.alike Ar2.2.1) Ar2.2.2 hin2 hat2 (g := (mkF m 19 #[.val (.ref x), .val (.int (0 : Int32)), .val (.int (3 : Int32)), .val (.ref y1), .val (.int (0 : Int32))] [(.int (0 : Int32)), (.ref x), (.int (0 : Int32)), (.ref y1)])) rfl rfl (hb hby d16_19) _ tk) ?_
  show Goes _ _ _ _ _ (T1.setTop (mkF m 20 #[.val (.ref x), .val (.int (0 : Int32)), .val (.int (3 : Int32)), .val (.ref y1), .val (.int (0 : Int32))] [(.int c0), (.int (0 : Int32)), (.ref y1)]))
  obtain ⟨_, _, ⟨T3, L3, k3, n3⟩, -, X3, ⟨Lc3, hQ3, l3, y3, z3⟩, st3⟩ := Jvm.LawKit.callS X1 hx (y := mN13) hown (mvT hZ (gw hw 79 rfl)) (mvT hZ (gw hw 80 rfl)) (mvT hZ (gw hw 47 rfl)) (mvT hZ (gw hw 81 rfl)) (by decide) (backOf (W := 0) (rs_pc_3_0 l Z a0 hw [] y1 ky1 c0 T1.heap n0 Z0 V_y1 g_y1 S__assertionsDisabled S_HI_BYTE_SHIFT S_LO_BYTE_SHIFT) hZ (gw hw 81 rfl) (gw hw 47 rfl) (by decide) (by decide)) (g := (mkF m 20 #[.val (.ref x), .val (.int (0 : Int32)), .val (.int (3 : Int32)), .val (.ref y1), .val (.int (0 : Int32))] [(.int c0), (.int (0 : Int32)), (.ref y1)])) rfl (by rw [hml]; rfl) (argsL := [(.ref y1), (.int (0 : Int32)), (.int c0)]) (rest := []) (lenOf own_pd10 rfl) rfl (w0 (Nat.le_of_eq rfl)) (hb hby d16_20) (fun _ _ => ⟨rfl, rfl, (by decide : 1 + 0 ≤ _), (by decide : 6 + 0 ≤ _)⟩)
  dsimp only [Pt.U, Pt.locs, Pt.cells, Pt.slots] at X3 l3 y3 z3 st3 hQ3
  subst l3 y3 z3
  obtain ⟨rfl, N3q, K3, V_y1_3'⟩ := hQ3
  have N3 := Fr.app N1 N3q
  replace S__assertionsDisabled := own_staK S__assertionsDisabled K3 (allS (own_obA V_y1) all0)
  replace S_HI_BYTE_SHIFT := own_staK S_HI_BYTE_SHIFT K3 (allS (own_obA V_y1) all0)
  replace S_LO_BYTE_SHIFT := own_staK S_LO_BYTE_SHIFT K3 (allS (own_obA V_y1) all0)
  replace V_x := V_x.keep K3 (ninS ne_x_y1 nin0)
  replace KP := KP.trans K3 (allS (Or.inr sz_y1) all0)
  replace Z0 := Nat.le_trans Z0 K3.1
  have V_y1 := V_y1_3'
  refine Gs st3 ?_
  show Goes _ _ _ _ _ (T3.setTop (mkF m 23 #[.val (.ref x), .val (.int (0 : Int32)), .val (.int (3 : Int32)), .val (.ref y1), .val (.int (0 : Int32))] []))
  refine Gs (fun _ tk => XS.iinc X3.here hx rfl (hb hby d16_23) rfl (l' := #[.val (.ref x), .val (.int ((0 : Int32) + (1 : Int32))), .val (.int (3 : Int32)), .val (.ref y1), .val (.int (0 : Int32))]) rfl tk) ?_
  rw [show ((0 : Int32) + (1 : Int32)) = (1 : Int32) from by decide]
  show Goes _ _ _ _ _ (T3.setTop (mkF m 26 #[.val (.ref x), .val (.int (1 : Int32)), .val (.int (3 : Int32)), .val (.ref y1), .val (.int (0 : Int32))] []))
  refine Gs (fun _ tk => XS.iinc X3.here hx rfl (hb hby d16_26) rfl (l' := #[.val (.ref x), .val (.int (1 : Int32)), .val (.int (3 : Int32)), .val (.ref y1), .val (.int ((0 : Int32) + (1 : Int32)))]) rfl tk) ?_
  rw [show ((0 : Int32) + (1 : Int32)) = (1 : Int32) from by decide]
  show Goes _ _ _ _ _ (T3.setTop (mkF m 29 #[.val (.ref x), .val (.int (1 : Int32)), .val (.int (3 : Int32)), .val (.ref y1), .val (.int (1 : Int32))] []))
  refine Gs (fun _ tk => XS.goto X3.here hx rfl (pc0 := 29) (pc' := 8) rfl (hb hby d16_29) (by decide) (by decide) tk) ?_
  refine Gs (fun _ tk => XS.iload X3.here hx rfl (hb hby d16_8) rfl tk) ?_
  refine Gs (fun _ tk => XS.iloadN X3.here hx rfl (hb hby d16_10) rfl tk) ?_
  refine Gs (fun _ tk => XS.icmpNo X3.here hx rfl (hb hby d16_11) rfl (tlt (by decide : ((1 : Int32) < (3 : Int32)))).2.1 tk) ?_
  refine Gs (fun _ tk => XS.aloadN X3.here hx rfl (hb hby d16_14) rfl rfl tk) ?_
  refine Gs (fun _ tk => XS.iload X3.here hx rfl (hb hby d16_15) rfl tk) ?_
  show Goes _ _ _ _ _ (T3.setTop (mkF m 17 #[.val (.ref x), .val (.int (1 : Int32)), .val (.int (3 : Int32)), .val (.ref y1), .val (.int (1 : Int32))] [(.int (1 : Int32)), (.ref y1)]))
  refine Gs (fun _ tk => XS.aloadN X3.here hx rfl (hb hby d16_17) rfl rfl tk) ?_
  refine Gs (fun _ tk => XS.iloadN X3.here hx rfl (hb hby d16_18) rfl tk) ?_
  obtain ⟨cl4, Ar4, -, S4, N4z, H4, -⟩ := id V_x
  have hin4 : ¬ ((1 : Int32) < 0 ∨ cl4.slots.size ≤ ((1 : Int32)).toNatClampNeg) := inb_of S4 ⟨by decide, by decide⟩
  have hat4 : cl4.slots[((1 : Int32)).toNatClampNeg]? = some (.int c1) := Has.at H4 hin4 rfl
  refine Gs (fun _ tk => X3.caload hx (j := (1 : Int32)) (v := (.int c1)) Ar4.1 (State.isArrayOf_alike hZ.alike Ar4.2.1) Ar4.2.2 hin4 hat4 (g := (mkF m 19 #[.val (.ref x), .val (.int (1 : Int32)), .val (.int (3 : Int32)), .val (.ref y1), .val (.int (1 : Int32))] [(.int (1 : Int32)), (.ref x), (.int (1 : Int32)), (.ref y1)])) rfl rfl (hb hby d16_19) _ tk) ?_
  show Goes _ _ _ _ _ (T3.setTop (mkF m 20 #[.val (.ref x), .val (.int (1 : Int32)), .val (.int (3 : Int32)), .val (.ref y1), .val (.int (1 : Int32))] [(.int c1), (.int (1 : Int32)), (.ref y1)]))
  obtain ⟨_, _, ⟨T5, L5, k5, n5⟩, -, X5, ⟨Lc5, hQ5, l5, y5, z5⟩, st5⟩ := Jvm.LawKit.callS X3 hx (y := mN13) hown (mvT hZ (gw hw 79 rfl)) (mvT hZ (gw hw 80 rfl)) (mvT hZ (gw hw 47 rfl)) (mvT hZ (gw hw 81 rfl)) (by decide) (backOf (W := 0) (rs_pc_3_1 l Z a0 hw [] y1 ky1 c0 c1 T3.heap n0 Z0 V_y1 g_y1 S__assertionsDisabled S_HI_BYTE_SHIFT S_LO_BYTE_SHIFT) hZ (gw hw 81 rfl) (gw hw 47 rfl) (by decide) (by decide)) (g := (mkF m 20 #[.val (.ref x), .val (.int (1 : Int32)), .val (.int (3 : Int32)), .val (.ref y1), .val (.int (1 : Int32))] [(.int c1), (.int (1 : Int32)), (.ref y1)])) rfl (by rw [hml]; rfl) (argsL := [(.ref y1), (.int (1 : Int32)), (.int c1)]) (rest := []) (lenOf own_pd10 rfl) rfl (w0 (Nat.le_of_eq rfl)) (hb hby d16_20) (fun _ _ => ⟨rfl, rfl, (by decide : 1 + 0 ≤ _), (by decide : 6 + 0 ≤ _)⟩)
  dsimp only [Pt.U, Pt.locs, Pt.cells, Pt.slots] at X5 l5 y5 z5 st5 hQ5
  subst l5 y5 z5
  obtain ⟨rfl, N5q, K5, V_y1_5'⟩ := hQ5
  have N5 := Fr.app N3 N5q
  replace S__assertionsDisabled := own_staK S__assertionsDisabled K5 (allS (own_obA V_y1) all0)
  replace S_HI_BYTE_SHIFT := own_staK S_HI_BYTE_SHIFT K5 (allS (own_obA V_y1) all0)
  replace S_LO_BYTE_SHIFT := own_staK S_LO_BYTE_SHIFT K5 (allS (own_obA V_y1) all0)
  replace V_x := V_x.keep K5 (ninS ne_x_y1 nin0)
  replace KP := KP.trans K5 (allS (Or.inr sz_y1) all0)
  replace Z0 := Nat.le_trans Z0 K5.1
  have V_y1 := V_y1_5'
  refine Gs st5 ?_
  show Goes _ _ _ _ _ (T5.setTop (mkF m 23 #[.val (.ref x), .val (.int (1 : Int32)), .val (.int (3 : Int32)), .val (.ref y1), .val (.int (1 : Int32))] []))
  refine Gs (fun _ tk => XS.iinc X5.here hx rfl (hb hby d16_23) rfl (l' := #[.val (.ref x), .val (.int ((1 : Int32) + (1 : Int32))), .val (.int (3 : Int32)), .val (.ref y1), .val (.int (1 : Int32))]) rfl tk) ?_
  rw [show ((1 : Int32) + (1 : Int32)) = (2 : Int32) from by decide]
  show Goes _ _ _ _ _ (T5.setTop (mkF m 26 #[.val (.ref x), .val (.int (2 : Int32)), .val (.int (3 : Int32)), .val (.ref y1), .val (.int (1 : Int32))] []))
  refine Gs (fun _ tk => XS.iinc X5.here hx rfl (hb hby d16_26) rfl (l' := #[.val (.ref x), .val (.int (2 : Int32)), .val (.int (3 : Int32)), .val (.ref y1), .val (.int ((1 : Int32) + (1 : Int32)))]) rfl tk) ?_
  rw [show ((1 : Int32) + (1 : Int32)) = (2 : Int32) from by decide]
  show Goes _ _ _ _ _ (T5.setTop (mkF m 29 #[.val (.ref x), .val (.int (2 : Int32)), .val (.int (3 : Int32)), .val (.ref y1), .val (.int (2 : Int32))] []))
  refine Gs (fun _ tk => XS.goto X5.here hx rfl (pc0 := 29) (pc' := 8) rfl (hb hby d16_29) (by decide) (by decide) tk) ?_
  refine Gs (fun _ tk => XS.iload X5.here hx rfl (hb hby d16_8) rfl tk) ?_
  refine Gs (fun _ tk => XS.iloadN X5.here hx rfl (hb hby d16_10) rfl tk) ?_
  refine Gs (fun _ tk => XS.icmpNo X5.here hx rfl (hb hby d16_11) rfl (tlt (by decide : ((2 : Int32) < (3 : Int32)))).2.1 tk) ?_
  refine Gs (fun _ tk => XS.aloadN X5.here hx rfl (hb hby d16_14) rfl rfl tk) ?_
  refine Gs (fun _ tk => XS.iload X5.here hx rfl (hb hby d16_15) rfl tk) ?_
  show Goes _ _ _ _ _ (T5.setTop (mkF m 17 #[.val (.ref x), .val (.int (2 : Int32)), .val (.int (3 : Int32)), .val (.ref y1), .val (.int (2 : Int32))] [(.int (2 : Int32)), (.ref y1)]))
  refine Gs (fun _ tk => XS.aloadN X5.here hx rfl (hb hby d16_17) rfl rfl tk) ?_
  refine Gs (fun _ tk => XS.iloadN X5.here hx rfl (hb hby d16_18) rfl tk) ?_
  obtain ⟨cl6, Ar6, -, S6, N6z, H6, -⟩ := id V_x
  have hin6 : ¬ ((2 : Int32) < 0 ∨ cl6.slots.size ≤ ((2 : Int32)).toNatClampNeg) := inb_of S6 ⟨by decide, by decide⟩
  have hat6 : cl6.slots[((2 : Int32)).toNatClampNeg]? = some (.int c2) := Has.at H6 hin6 rfl
  refine Gs (fun _ tk => X5.caload hx (j := (2 : Int32)) (v := (.int c2)) Ar6.1 (State.isArrayOf_alike hZ.alike Ar6.2.1) Ar6.2.2 hin6 hat6 (g := (mkF m 19 #[.val (.ref x), .val (.int (2 : Int32)), .val (.int (3 : Int32)), .val (.ref y1), .val (.int (2 : Int32))] [(.int (2 : Int32)), (.ref x), (.int (2 : Int32)), (.ref y1)])) rfl rfl (hb hby d16_19) _ tk) ?_
  show Goes _ _ _ _ _ (T5.setTop (mkF m 20 #[.val (.ref x), .val (.int (2 : Int32)), .val (.int (3 : Int32)), .val (.ref y1), .val (.int (2 : Int32))] [(.int c2), (.int (2 : Int32)), (.ref y1)]))
  obtain ⟨_, _, ⟨T7, L7, k7, n7⟩, -, X7, ⟨Lc7, hQ7, l7, y7, z7⟩, st7⟩ := Jvm.LawKit.callS X5 hx (y := mN13) hown (mvT hZ (gw hw 79 rfl)) (mvT hZ (gw hw 80 rfl)) (mvT hZ (gw hw 47 rfl)) (mvT hZ (gw hw 81 rfl)) (by decide) (backOf (W := 0) (rs_pc_3_2 l Z a0 hw [] y1 ky1 c0 c1 c2 T5.heap n0 Z0 V_y1 g_y1 S__assertionsDisabled S_HI_BYTE_SHIFT S_LO_BYTE_SHIFT) hZ (gw hw 81 rfl) (gw hw 47 rfl) (by decide) (by decide)) (g := (mkF m 20 #[.val (.ref x), .val (.int (2 : Int32)), .val (.int (3 : Int32)), .val (.ref y1), .val (.int (2 : Int32))] [(.int c2), (.int (2 : Int32)), (.ref y1)])) rfl (by rw [hml]; rfl) (argsL := [(.ref y1), (.int (2 : Int32)), (.int c2)]) (rest := []) (lenOf own_pd10 rfl) rfl (w0 (Nat.le_of_eq rfl)) (hb hby d16_20) (fun _ _ => ⟨rfl, rfl, (by decide : 1 + 0 ≤ _), (by decide : 6 + 0 ≤ _)⟩)
  dsimp only [Pt.U, Pt.locs, Pt.cells, Pt.slots] at X7 l7 y7 z7 st7 hQ7
  subst l7 y7 z7
  obtain ⟨rfl, N7q, K7, V_y1_7'⟩ := hQ7
  have N7 := Fr.app N5 N7q
  replace KP := KP.trans K7 (allS (Or.inr sz_y1) all0)
  replace Z0 := Nat.le_trans Z0 K7.1
  have V_y1 := V_y1_7'
  refine Gs st7 ?_
  show Goes _ _ _ _ _ (T7.setTop (mkF m 23 #[.val (.ref x), .val (.int (2 : Int32)), .val (.int (3 : Int32)), .val (.ref y1), .val (.int (2 : Int32))] []))
  refine Gs (fun _ tk => XS.iinc X7.here hx rfl (hb hby d16_23) rfl (l' := #[.val (.ref x), .val (.int ((2 : Int32) + (1 : Int32))), .val (.int (3 : Int32)), .val (.ref y1), .val (.int (2 : Int32))]) rfl tk) ?_
  rw [show ((2 : Int32) + (1 : Int32)) = (3 : Int32) from by decide]
  show Goes _ _ _ _ _ (T7.setTop (mkF m 26 #[.val (.ref x), .val (.int (3 : Int32)), .val (.int (3 : Int32)), .val (.ref y1), .val (.int (2 : Int32))] []))
  refine Gs (fun _ tk => XS.iinc X7.here hx rfl (hb hby d16_26) rfl (l' := #[.val (.ref x), .val (.int (3 : Int32)), .val (.int (3 : Int32)), .val (.ref y1), .val (.int ((2 : Int32) + (1 : Int32)))]) rfl tk) ?_
  rw [show ((2 : Int32) + (1 : Int32)) = (3 : Int32) from by decide]
  show Goes _ _ _ _ _ (T7.setTop (mkF m 29 #[.val (.ref x), .val (.int (3 : Int32)), .val (.int (3 : Int32)), .val (.ref y1), .val (.int (3 : Int32))] []))
  refine Gs (fun _ tk => XS.goto X7.here hx rfl (pc0 := 29) (pc' := 8) rfl (hb hby d16_29) (by decide) (by decide) tk) ?_
  refine Gs (fun _ tk => XS.iload X7.here hx rfl (hb hby d16_8) rfl tk) ?_
  refine Gs (fun _ tk => XS.iloadN X7.here hx rfl (hb hby d16_10) rfl tk) ?_
  refine Gs (fun _ tk => XS.icmpYes X7.here hx rfl (pc0 := 11) (pc' := 32) rfl (hb hby d16_11) rfl (flt (by decide : ¬ ((3 : Int32) < (3 : Int32)))).2.1 (by decide) (by decide) tk) ?_
  refine Gs (fun _ tk => XS.aloadN X7.here hx rfl (hb hby d16_32) rfl rfl tk) ?_
  refine Goes.ret X7 (some (.ref y1)) (fun h => by rw [hret] at h; cases h) hlk (by decide) (by decide) ?_ (fun fs hr => ?_)
  · exact ⟨y1, ky1, rfl, N7, KP, V_y1, g_y1, sz_y1⟩
  · exact own_retA X7 hx hret rfl rfl (hb hby d16_33) hr
theorem own_ef_rs_c5_3_0 (m : MethodId) (x0 : Addr) (x2 : Addr) : entryFrame m #[(.ref x0), (.int (0 : Int32)), (.ref x2), (.int (0 : Int32)), (.int (3 : Int32))] 7 = mkF m 0 #[.val (.ref x0), .val (.int (0 : Int32)), .val (.ref x2), .val (.int (0 : Int32)), .val (.int (3 : Int32)), .unset, .unset] [] := by first | (simp [entryFrame, mkF, argsToLocals, Value.category]; done) | rfl
def Q_rs_c5_3_0 (Z : State) (x : Addr) (kx : ClassId) (y : Addr) (ky : ClassId) (c0 : Int32) (c1 : Int32) (c2 : Int32) (h0 : Heap) (n0 : Nat) (v : Option Value) (h : Heap) (L : List Loc) : Prop := v = some (.int (0 : Int32)) ∧ Fr n0 L ∧ Keep h0 h [y] ∧ Arv Z h y ky .byte (3 : Int32) [(.int (0 : Int32)), (.int (0 : Int32)), (.int (0 : Int32))] (.int (0 : Int32))
set_option maxRecDepth 65536 in
set_option maxHeartbeats 40000000 in
theorem rs_c5_3_0 (l : Launch) (Z : State) (a0 : Array Value) (hw : ∀ d ∈ tables_1, d.before a0 Z = true) (ws : List Jvm.Cond) (x : Addr) (kx : ClassId) (y : Addr) (ky : ClassId) (c0 : Int32) (c1 : Int32) (c2 : Int32) (h0 : Heap) (n0 : Nat) (Z0 : n0 ≤ h0.size) (V_x : Arv Z h0 x kx .char (3 : Int32) [(.int c0), (.int c1), (.int c2)] (.int (0 : Int32))) (V_y : Arv Z h0 y ky .byte (3 : Int32) [(.int (0 : Int32)), (.int (0 : Int32)), (.int (0 : Int32))] (.int (0 : Int32))) (g_y : n0 ≤ y) (ne_x_y : x ≠ y) (hn_c0 : (255 : Int32) < c0) :
    Met l Z mN17 jdk_52_method_21_code 7 (some .int) ({ frames := 0, cells := 0, slots := 0, locals := 0 } : Room) ws #[(.ref x), (.int (0 : Int32)), (.ref y), (.int (0 : Int32)), (.int (3 : Int32))] h0 (Q_rs_c5_3_0 Z x kx y ky c0 c1 c2 h0 n0) := by
  refine own_met (plainFor_of_name own_pn3) ?_
  intro p e s m below meth c s₁ hret hx hby hlk hml hown hnm X0 e0 hZ hh
  have N0 := Fr.nil n0
  refine Gs (fun _ tk => castTop (own_ef_rs_c5_3_0 m x y) tk) ?_
  have KP : Keep h0 h0 [y] := Keep.refl _ _
  show Goes _ _ _ _ _ (s₁.setTop (mkF m 0 #[.val (.ref x), .val (.int (0 : Int32)), .val (.ref y), .val (.int (0 : Int32)), .val (.int (3 : Int32)), .unset, .unset] []))
  refine Gs (fun _ tk => XS.iconst X0.here hx rfl (hb hby d17_0) tk) ?_
  refine Gs (fun _ tk => XS.istore X0.here hx rfl (hb hby d17_1) rfl (l' := #[.val (.ref x), .val (.int (0 : Int32)), .val (.ref y), .val (.int (0 : Int32)), .val (.int (3 : Int32)), .val (.int (0 : Int32)), .unset]) rfl tk) ?_
  refine Gs (fun _ tk => XS.iload X0.here hx rfl (hb hby d17_3) rfl tk) ?_
  refine Gs (fun _ tk => XS.iload X0.here hx rfl (hb hby d17_5) rfl tk) ?_
  refine Gs (fun _ tk => XS.icmpNo X0.here hx rfl (hb hby d17_7) rfl (tlt (by decide : ((0 : Int32) < (3 : Int32)))).2.1 tk) ?_
  refine Gs (fun _ tk => XS.aloadN X0.here hx rfl (hb hby d17_10) rfl rfl tk) ?_
  show Goes _ _ _ _ _ (s₁.setTop (mkF m 11 #[.val (.ref x), .val (.int (0 : Int32)), .val (.ref y), .val (.int (0 : Int32)), .val (.int (3 : Int32)), .val (.int (0 : Int32)), .unset] [(.ref x)]))
  refine Gs (fun _ tk => XS.iloadN X0.here hx rfl (hb hby d17_11) rfl tk) ?_
  obtain ⟨cl1, Ar1, -, S1, N1z, H1, -⟩ := id V_x
  have hin1 : ¬ ((0 : Int32) < 0 ∨ cl1.slots.size ≤ ((0 : Int32)).toNatClampNeg) := inb_of S1 ⟨by decide, by decide⟩
  have hat1 : cl1.slots[((0 : Int32)).toNatClampNeg]? = some (.int c0) := Has.at H1 hin1 rfl
  refine Gs (fun _ tk => X0.caload hx (j := (0 : Int32)) (v := (.int c0)) (by rw [e0]; exact Ar1.1) (State.isArrayOf_alike hZ.alike Ar1.2.1) Ar1.2.2 hin1 hat1 (g := (mkF m 12 #[.val (.ref x), .val (.int (0 : Int32)), .val (.ref y), .val (.int (0 : Int32)), .val (.int (3 : Int32)), .val (.int (0 : Int32)), .unset] [(.int (0 : Int32)), (.ref x)])) rfl rfl (hb hby d17_12) _ tk) ?_
  show Goes _ _ _ _ _ (s₁.setTop (mkF m 13 #[.val (.ref x), .val (.int (0 : Int32)), .val (.ref y), .val (.int (0 : Int32)), .val (.int (3 : Int32)), .val (.int (0 : Int32)), .unset] [(.int c0)]))
  refine Gs (fun _ tk => XS.istore X0.here hx rfl (hb hby d17_13) rfl (l' := #[.val (.ref x), .val (.int (0 : Int32)), .val (.ref y), .val (.int (0 : Int32)), .val (.int (3 : Int32)), .val (.int (0 : Int32)), .val (.int c0)]) rfl tk) ?_
  refine Gs (fun _ tk => XS.iload X0.here hx rfl (hb hby d17_15) rfl tk) ?_
  refine Gs (fun _ tk => XS.sipush X0.here hx rfl (hb hby d17_17) tk) ?_
  refine Gs (fun _ tk => XS.icmpNo X0.here hx rfl (hb hby d17_20) rfl (tlt hn_c0).2.2.2 tk) ?_
  refine Gs (fun _ tk => XS.iload X0.here hx rfl (hb hby d17_23) rfl tk) ?_
  refine Goes.ret X0 (some (.int (0 : Int32))) (fun h => by rw [hret] at h; cases h) hlk (by decide) (by decide) ?_ (fun fs hr => ?_)
  · rw [e0]; exact ⟨rfl, N0, KP, V_y⟩
  · exact retI X0 hx hret (hb hby d17_25) hr
theorem own_ef_rs_c3_3_0 (m : MethodId) (x0 : Addr) : entryFrame m #[(.ref x0), (.int (0 : Int32)), (.int (3 : Int32))] 6 = mkF m 0 #[.val (.ref x0), .val (.int (0 : Int32)), .val (.int (3 : Int32)), .unset, .unset, .unset] [] := by first | (simp [entryFrame, mkF, argsToLocals, Value.category]; done) | rfl
def Q_rs_c3_3_0 (Z : State) (x : Addr) (kx : ClassId) (c0 : Int32) (c1 : Int32) (c2 : Int32) (h0 : Heap) (n0 : Nat) (v : Option Value) (h : Heap) (L : List Loc) : Prop := ∃ y : Addr, ∃ ky : ClassId, v = some (.ref y) ∧ Fr n0 L ∧ Keep h0 h [] ∧ Arv Z h y ky .byte (6 : Int32) [(.int (lo8 c0)), (.int (hi8 c0)), (.int (lo8 c1)), (.int (hi8 c1)), (.int (lo8 c2)), (.int (hi8 c2))] (.int (0 : Int32)) ∧ n0 ≤ y ∧ h0.size ≤ y
set_option maxRecDepth 65536 in
set_option maxHeartbeats 40000000 in
theorem rs_c3_3_0 (l : Launch) (Z : State) (a0 : Array Value) (hw : ∀ d ∈ tables_1, d.before a0 Z = true) (ws : List Jvm.Cond) (x : Addr) (kx : ClassId) (c0 : Int32) (c1 : Int32) (c2 : Int32) (h0 : Heap) (n0 : Nat) (Z0 : n0 ≤ h0.size) (V_x : Arv Z h0 x kx .char (3 : Int32) [(.int c0), (.int c1), (.int c2)] (.int (0 : Int32))) (hn_c0 : (255 : Int32) < c0) (hC_c0 : Chr c0) (hC_c1 : Chr c1) (hC_c2 : Chr c2) (S__assertionsDisabled : Sta Z h0 "java/lang/StringUTF16" "$assertionsDisabled" "Z" (.int (1 : Int32))) (S_HI_BYTE_SHIFT : Sta Z h0 "java/lang/StringUTF16" "HI_BYTE_SHIFT" "I" (.int (0 : Int32))) (S_LO_BYTE_SHIFT : Sta Z h0 "java/lang/StringUTF16" "LO_BYTE_SHIFT" "I" (.int (8 : Int32))) :
    Met l Z mN18 jdk_52_method_16_code 6 (some (.array .byte)) ({ frames := 3, cells := 2, slots := 9, locals := 40 } : Room) ws #[(.ref x), (.int (0 : Int32)), (.int (3 : Int32))] h0 (Q_rs_c3_3_0 Z x kx c0 c1 c2 h0 n0) := by
  refine own_met (plainFor_of_name own_pn3) ?_
  intro p e s m below meth c s₁ hret hx hby hlk hml hown hnm X0 e0 hZ hh
  have N0 := Fr.nil n0
  refine Gs (fun _ tk => castTop (own_ef_rs_c3_3_0 m x) tk) ?_
  have KP : Keep h0 h0 [] := Keep.refl _ _
  show Goes _ _ _ _ _ (s₁.setTop (mkF m 0 #[.val (.ref x), .val (.int (0 : Int32)), .val (.int (3 : Int32)), .unset, .unset, .unset] []))
  refine Gs (fun _ tk => XS.iloadN X0.here hx rfl (hb hby d18_0) rfl tk) ?_
  obtain ⟨T1, h1, k1, X1, e1, E1, A1, st1⟩ := newP X0 hx hZ (gw hw 20 rfl) e0 (g := (mkF m 1 #[.val (.ref x), .val (.int (0 : Int32)), .val (.int (3 : Int32)), .unset, .unset, .unset] [(.int (3 : Int32))])) rfl (hb hby d18_1) rfl (by decide) (cap := 3) (by decide) (by decide) (by decide) (by decide)
  obtain ⟨b1, gq1⟩ : ∃ z, z = h0.size := ⟨_, rfl⟩
  rw [← gq1] at A1 st1
  have g_b1 : n0 ≤ b1 := by rw [gq1]; exact Z0
  have sz_b1 : h0.size ≤ b1 := by rw [gq1]; exact KP.1
  have ne_x_b1 : x ≠ b1 := by rw [gq1]; exact Nat.ne_of_lt V_x.lt
  replace V_x := V_x.ext E1
  replace S__assertionsDisabled := S__assertionsDisabled.ext E1
  replace S_HI_BYTE_SHIFT := S_HI_BYTE_SHIFT.ext E1
  replace S_LO_BYTE_SHIFT := S_LO_BYTE_SHIFT.ext E1
  replace KP := KP.ext E1
  replace Z0 : n0 ≤ h1.size := Nat.le_trans Z0 E1.1
  have V_b1 : Arv Z h1 b1 k1 .byte (3 : Int32) [(.int (0 : Int32)), (.int (0 : Int32)), (.int (0 : Int32))] (.int (0 : Int32)) := (Arv.new A1 (by decide)).pad (pad_rep [] (.int (0 : Int32)) 3)
  refine Gs st1 ?_
  show Goes _ _ _ _ _ (T1.setTop (mkF m 3 #[.val (.ref x), .val (.int (0 : Int32)), .val (.int (3 : Int32)), .unset, .unset, .unset] [(.ref b1)]))
  refine Gs (fun _ tk => XS.astoreN X1.here hx rfl (hb hby d18_3) rfl rfl (l' := #[.val (.ref x), .val (.int (0 : Int32)), .val (.int (3 : Int32)), .val (.ref b1), .unset, .unset]) rfl tk) ?_
  refine Gs (fun _ tk => XS.aloadN X1.here hx rfl (hb hby d18_4) rfl rfl tk) ?_
  refine Gs (fun _ tk => XS.iloadN X1.here hx rfl (hb hby d18_5) rfl tk) ?_
  refine Gs (fun _ tk => XS.aloadN X1.here hx rfl (hb hby d18_6) rfl rfl tk) ?_
  refine Gs (fun _ tk => XS.iconst X1.here hx rfl (hb hby d18_7) tk) ?_
  refine Gs (fun _ tk => XS.iloadN X1.here hx rfl (hb hby d18_8) rfl tk) ?_
  show Goes _ _ _ _ _ (T1.setTop (mkF m 9 #[.val (.ref x), .val (.int (0 : Int32)), .val (.int (3 : Int32)), .val (.ref b1), .unset, .unset] [(.int (3 : Int32)), (.int (0 : Int32)), (.ref b1), (.int (0 : Int32)), (.ref x)]))
  obtain ⟨_, _, ⟨T2, L2, k2, n2⟩, -, X2, ⟨Lc2, hQ2, l2, y2, z2⟩, st2⟩ := Jvm.LawKit.callS X1 hx (y := mN17) hown (mvT hZ (gw hw 49 rfl)) (mvT hZ (gw hw 50 rfl)) (mvT hZ (gw hw 47 rfl)) (mvT hZ (gw hw 51 rfl)) (by decide) (backOf (W := 0) (rs_c5_3_0 l Z a0 hw [] x kx b1 k1 c0 c1 c2 h1 n0 Z0 V_x V_b1 g_b1 ne_x_b1 (by first | assumption | decide)) hZ (gw hw 51 rfl) (gw hw 47 rfl) (by decide) (by decide)) (g := (mkF m 9 #[.val (.ref x), .val (.int (0 : Int32)), .val (.int (3 : Int32)), .val (.ref b1), .unset, .unset] [(.int (3 : Int32)), (.int (0 : Int32)), (.ref b1), (.int (0 : Int32)), (.ref x)])) rfl (by rw [hml]; rfl) (argsL := [(.ref x), (.int (0 : Int32)), (.ref b1), (.int (0 : Int32)), (.int (3 : Int32))]) (rest := []) (lenOf own_pd11 rfl) rfl (w0 (Nat.le_of_eq rfl)) (hb hby d18_9) (fun _ _ => ⟨rfl, e1, (by decide : 1 + 0 ≤ _), (by decide : 3 + 0 ≤ _)⟩)
  dsimp only [Pt.U, Pt.locs, Pt.cells, Pt.slots] at X2 l2 y2 z2 st2 hQ2
  subst l2 y2 z2
  obtain ⟨rfl, N2q, K2, V_b1_2'⟩ := hQ2
  have N2 := Fr.app N0 N2q
  replace S__assertionsDisabled := own_staK S__assertionsDisabled K2 (allS (own_obA V_b1) all0)
  replace S_HI_BYTE_SHIFT := own_staK S_HI_BYTE_SHIFT K2 (allS (own_obA V_b1) all0)
  replace S_LO_BYTE_SHIFT := own_staK S_LO_BYTE_SHIFT K2 (allS (own_obA V_b1) all0)
  replace V_x := V_x.keep K2 (ninS ne_x_b1 nin0)
  replace KP := KP.trans K2 (allS (Or.inr sz_b1) all0)
  replace Z0 := Nat.le_trans Z0 K2.1
  have V_b1 := V_b1_2'
  refine Gs st2 ?_
  show Goes _ _ _ _ _ (T2.setTop (mkF m 12 #[.val (.ref x), .val (.int (0 : Int32)), .val (.int (3 : Int32)), .val (.ref b1), .unset, .unset] [(.int (0 : Int32))]))
  refine Gs (fun _ tk => XS.istore X2.here hx rfl (hb hby d18_12) rfl (l' := #[.val (.ref x), .val (.int (0 : Int32)), .val (.int (3 : Int32)), .val (.ref b1), .val (.int (0 : Int32)), .unset]) rfl tk) ?_
  refine Gs (fun _ tk => XS.iload X2.here hx rfl (hb hby d18_14) rfl tk) ?_
  refine Gs (fun _ tk => XS.iloadN X2.here hx rfl (hb hby d18_16) rfl tk) ?_
  refine Gs (fun _ tk => XS.icmpNo X2.here hx rfl (hb hby d18_17) rfl (feq (by decide : ¬ ((0 : Int32) = (3 : Int32)))).1 tk) ?_
  refine Gs (fun _ tk => XS.aloadN X2.here hx rfl (hb hby d18_20) rfl rfl tk) ?_
  refine Gs (fun _ tk => XS.iloadN X2.here hx rfl (hb hby d18_21) rfl tk) ?_
  show Goes _ _ _ _ _ (T2.setTop (mkF m 22 #[.val (.ref x), .val (.int (0 : Int32)), .val (.int (3 : Int32)), .val (.ref b1), .val (.int (0 : Int32)), .unset] [(.int (0 : Int32)), (.ref x)]))
  refine Gs (fun _ tk => XS.iloadN X2.here hx rfl (hb hby d18_22) rfl tk) ?_
  have ltc3_x : x < T2.heap.size := V_x.lt
  have ltc3_b1 : b1 < T2.heap.size := V_b1.lt
  have szs3 : h0.size ≤ T2.heap.size := KP.1
  obtain ⟨_, _, ⟨T3, L3, k3, n3⟩, -, X3, ⟨Lc3, hQ3, l3, y3, z3⟩, st3⟩ := Jvm.LawKit.callS X2 hx (y := mN16) hown (mvT hZ (gw hw 69 rfl)) (mvT hZ (gw hw 70 rfl)) (mvT hZ (gw hw 47 rfl)) (mvT hZ (gw hw 71 rfl)) (by decide) (backOf (W := 0) (rs_tb_3 l Z a0 hw [] x kx c0 c1 c2 T2.heap n0 Z0 V_x S__assertionsDisabled S_HI_BYTE_SHIFT S_LO_BYTE_SHIFT) hZ (gw hw 71 rfl) (gw hw 47 rfl) (by decide) (by decide)) (g := (mkF m 23 #[.val (.ref x), .val (.int (0 : Int32)), .val (.int (3 : Int32)), .val (.ref b1), .val (.int (0 : Int32)), .unset] [(.int (3 : Int32)), (.int (0 : Int32)), (.ref x)])) rfl (by rw [hml]; rfl) (argsL := [(.ref x), (.int (0 : Int32)), (.int (3 : Int32))]) (rest := []) (lenOf own_pd12 rfl) rfl (w0 (Nat.le_of_eq rfl)) (hb hby d18_23) (fun _ _ => ⟨rfl, rfl, (by decide : 1 + 1 ≤ _), (by decide : 3 + 6 ≤ _)⟩)
  dsimp only [Pt.U, Pt.locs, Pt.cells, Pt.slots] at X3 l3 y3 z3 st3 hQ3
  subst l3 y3 z3
  obtain ⟨y3, ky3, rfl, N3q, K3, V_y3_3', g_y3_3', sz_y3_3'⟩ := hQ3
  have N3 := Fr.app N2 N3q
  replace S__assertionsDisabled := own_staK S__assertionsDisabled K3 all0
  replace S_HI_BYTE_SHIFT := own_staK S_HI_BYTE_SHIFT K3 all0
  replace S_LO_BYTE_SHIFT := own_staK S_LO_BYTE_SHIFT K3 all0
  replace KP := KP.trans K3 all0
  replace Z0 := Nat.le_trans Z0 K3.1
  have V_y3 := V_y3_3'
  have g_y3 := g_y3_3'
  have szc_y3 := sz_y3_3'
  have ne_x_y3 : x ≠ y3 := Nat.ne_of_lt (Nat.lt_of_lt_of_le ltc3_x szc_y3)
  have ne_b1_y3 : b1 ≠ y3 := Nat.ne_of_lt (Nat.lt_of_lt_of_le ltc3_b1 szc_y3)
  have sz_y3 : h0.size ≤ y3 := Nat.le_trans szs3 szc_y3
  refine Gs st3 ?_
  show Goes _ _ _ _ _ (T3.setTop (mkF m 26 #[.val (.ref x), .val (.int (0 : Int32)), .val (.int (3 : Int32)), .val (.ref b1), .val (.int (0 : Int32)), .unset] [(.ref y3)]))
  refine Gs (fun _ tk => XS.astore X3.here hx rfl (hb hby d18_26) rfl rfl (l' := #[.val (.ref x), .val (.int (0 : Int32)), .val (.int (3 : Int32)), .val (.ref b1), .val (.int (0 : Int32)), .val (.ref y3)]) rfl tk) ?_
  refine Gs (fun _ tk => XS.aload X3.here hx rfl (hb hby d18_28) rfl rfl tk) ?_
  refine Gs (fun _ tk => XS.iload X3.here hx rfl (hb hby d18_30) rfl tk) ?_
  obtain ⟨_, _, ⟨T4, L4, k4, n4⟩, -, X4, ⟨Lc4, hQ4, l4, y4, z4⟩, st4⟩ := Jvm.LawKit.callS X3 hx (y := mN8) hown (mvT hZ (gw hw 85 rfl)) (mvT hZ (gw hw 86 rfl)) (mvT hZ (gw hw 47 rfl)) (mvT hZ (gw hw 87 rfl)) (by decide) (backOf (W := 0) (rs_gch l Z a0 hw [] y3 ky3 [c0, c1, c2] (0 : Int32) c0 T3.heap n0 Z0 V_y3 (by first | assumption | decide) (own_il 0 _ (by decide) (by simp) (Nat.le_of_ble_eq_true rfl)) rfl (Nat.le_of_ble_eq_true rfl) hC_c0 S__assertionsDisabled S_HI_BYTE_SHIFT S_LO_BYTE_SHIFT) hZ (gw hw 87 rfl) (gw hw 47 rfl) (by decide) (by decide)) (g := (mkF m 32 #[.val (.ref x), .val (.int (0 : Int32)), .val (.int (3 : Int32)), .val (.ref b1), .val (.int (0 : Int32)), .val (.ref y3)] [(.int (0 : Int32)), (.ref y3)])) rfl (by rw [hml]; rfl) (argsL := [(.ref y3), (.int (0 : Int32))]) (rest := []) (lenOf own_pd5 rfl) rfl (w0 (Nat.le_of_eq rfl)) (hb hby d18_32) (fun _ _ => ⟨rfl, rfl, (by decide : 2 + 0 ≤ _), (by decide : 9 + 0 ≤ _)⟩)
  dsimp only [Pt.U, Pt.locs, Pt.cells, Pt.slots] at X4 l4 y4 z4 st4 hQ4
  subst l4 y4 z4
  obtain ⟨rfl, N4q, e4⟩ := hQ4
  have N4 := Fr.app N3 N4q
  refine Gs st4 ?_
  show Goes _ _ _ _ _ (T4.setTop (mkF m 35 #[.val (.ref x), .val (.int (0 : Int32)), .val (.int (3 : Int32)), .val (.ref b1), .val (.int (0 : Int32)), .val (.ref y3)] [(.int c0)]))
  refine Gs (fun _ tk => XS.sipush X4.here hx rfl (hb hby d18_35) tk) ?_
  refine Gs (fun _ tk => XS.icmpYes X4.here hx rfl (pc0 := 38) (pc' := 54) rfl (hb hby d18_38) rfl (tlt hn_c0).2.2.1 (by decide) (by decide) tk) ?_
  refine Gs (fun _ tk => XS.aload X4.here hx rfl (hb hby d18_54) rfl rfl tk) ?_
  refine Goes.ret X4 (some (.ref y3)) (fun h => by rw [hret] at h; cases h) hlk (by decide) (by decide) ?_ (fun fs hr => ?_)
  · rw [e4]; exact ⟨y3, ky3, rfl, N4, KP, V_y3, g_y3, sz_y3⟩
  · exact own_retA X4 hx hret rfl rfl (hb hby d18_56) hr
theorem own_ef_rs_c5_3_1 (m : MethodId) (x0 : Addr) (x2 : Addr) : entryFrame m #[(.ref x0), (.int (0 : Int32)), (.ref x2), (.int (0 : Int32)), (.int (3 : Int32))] 7 = mkF m 0 #[.val (.ref x0), .val (.int (0 : Int32)), .val (.ref x2), .val (.int (0 : Int32)), .val (.int (3 : Int32)), .unset, .unset] [] := by first | (simp [entryFrame, mkF, argsToLocals, Value.category]; done) | rfl
def Q_rs_c5_3_1 (Z : State) (x : Addr) (kx : ClassId) (y : Addr) (ky : ClassId) (c0 : Int32) (c1 : Int32) (c2 : Int32) (h0 : Heap) (n0 : Nat) (v : Option Value) (h : Heap) (L : List Loc) : Prop := v = some (.int (1 : Int32)) ∧ Fr n0 L ∧ Keep h0 h [y] ∧ Arv Z h y ky .byte (3 : Int32) [(.int (lo8 c0)), (.int (0 : Int32)), (.int (0 : Int32))] (.int (0 : Int32))
set_option maxRecDepth 65536 in
set_option maxHeartbeats 40000000 in
theorem rs_c5_3_1 (l : Launch) (Z : State) (a0 : Array Value) (hw : ∀ d ∈ tables_1, d.before a0 Z = true) (ws : List Jvm.Cond) (x : Addr) (kx : ClassId) (y : Addr) (ky : ClassId) (c0 : Int32) (c1 : Int32) (c2 : Int32) (h0 : Heap) (n0 : Nat) (Z0 : n0 ≤ h0.size) (V_x : Arv Z h0 x kx .char (3 : Int32) [(.int c0), (.int c1), (.int c2)] (.int (0 : Int32))) (V_y : Arv Z h0 y ky .byte (3 : Int32) [(.int (0 : Int32)), (.int (0 : Int32)), (.int (0 : Int32))] (.int (0 : Int32))) (g_y : n0 ≤ y) (ne_x_y : x ≠ y) (hn_c0 : ¬ ((255 : Int32) < c0)) (hn_c1 : (255 : Int32) < c1) :
    Met l Z mN17 jdk_52_method_21_code 7 (some .int) ({ frames := 0, cells := 0, slots := 0, locals := 0 } : Room) ws #[(.ref x), (.int (0 : Int32)), (.ref y), (.int (0 : Int32)), (.int (3 : Int32))] h0 (Q_rs_c5_3_1 Z x kx y ky c0 c1 c2 h0 n0) := by
  refine own_met (plainFor_of_name own_pn3) ?_
  intro p e s m below meth c s₁ hret hx hby hlk hml hown hnm X0 e0 hZ hh
  have N0 := Fr.nil n0
  refine Gs (fun _ tk => castTop (own_ef_rs_c5_3_1 m x y) tk) ?_
  have KP : Keep h0 h0 [y] := Keep.refl _ _
  show Goes _ _ _ _ _ (s₁.setTop (mkF m 0 #[.val (.ref x), .val (.int (0 : Int32)), .val (.ref y), .val (.int (0 : Int32)), .val (.int (3 : Int32)), .unset, .unset] []))
  refine Gs (fun _ tk => XS.iconst X0.here hx rfl (hb hby d17_0) tk) ?_
  refine Gs (fun _ tk => XS.istore X0.here hx rfl (hb hby d17_1) rfl (l' := #[.val (.ref x), .val (.int (0 : Int32)), .val (.ref y), .val (.int (0 : Int32)), .val (.int (3 : Int32)), .val (.int (0 : Int32)), .unset]) rfl tk) ?_
  refine Gs (fun _ tk => XS.iload X0.here hx rfl (hb hby d17_3) rfl tk) ?_
  refine Gs (fun _ tk => XS.iload X0.here hx rfl (hb hby d17_5) rfl tk) ?_
  refine Gs (fun _ tk => XS.icmpNo X0.here hx rfl (hb hby d17_7) rfl (tlt (by decide : ((0 : Int32) < (3 : Int32)))).2.1 tk) ?_
  refine Gs (fun _ tk => XS.aloadN X0.here hx rfl (hb hby d17_10) rfl rfl tk) ?_
  show Goes _ _ _ _ _ (s₁.setTop (mkF m 11 #[.val (.ref x), .val (.int (0 : Int32)), .val (.ref y), .val (.int (0 : Int32)), .val (.int (3 : Int32)), .val (.int (0 : Int32)), .unset] [(.ref x)]))
  refine Gs (fun _ tk => XS.iloadN X0.here hx rfl (hb hby d17_11) rfl tk) ?_
  obtain ⟨cl1, Ar1, -, S1, N1z, H1, -⟩ := id V_x
  have hin1 : ¬ ((0 : Int32) < 0 ∨ cl1.slots.size ≤ ((0 : Int32)).toNatClampNeg) := inb_of S1 ⟨by decide, by decide⟩
  have hat1 : cl1.slots[((0 : Int32)).toNatClampNeg]? = some (.int c0) := Has.at H1 hin1 rfl
  refine Gs (fun _ tk => X0.caload hx (j := (0 : Int32)) (v := (.int c0)) (by rw [e0]; exact Ar1.1) (State.isArrayOf_alike hZ.alike Ar1.2.1) Ar1.2.2 hin1 hat1 (g := (mkF m 12 #[.val (.ref x), .val (.int (0 : Int32)), .val (.ref y), .val (.int (0 : Int32)), .val (.int (3 : Int32)), .val (.int (0 : Int32)), .unset] [(.int (0 : Int32)), (.ref x)])) rfl rfl (hb hby d17_12) _ tk) ?_
  show Goes _ _ _ _ _ (s₁.setTop (mkF m 13 #[.val (.ref x), .val (.int (0 : Int32)), .val (.ref y), .val (.int (0 : Int32)), .val (.int (3 : Int32)), .val (.int (0 : Int32)), .unset] [(.int c0)]))
  refine Gs (fun _ tk => XS.istore X0.here hx rfl (hb hby d17_13) rfl (l' := #[.val (.ref x), .val (.int (0 : Int32)), .val (.ref y), .val (.int (0 : Int32)), .val (.int (3 : Int32)), .val (.int (0 : Int32)), .val (.int c0)]) rfl tk) ?_
  refine Gs (fun _ tk => XS.iload X0.here hx rfl (hb hby d17_15) rfl tk) ?_
  refine Gs (fun _ tk => XS.sipush X0.here hx rfl (hb hby d17_17) tk) ?_
  refine Gs (fun _ tk => XS.icmpYes X0.here hx rfl (pc0 := 20) (pc' := 26) rfl (hb hby d17_20) rfl (flt hn_c0).2.2.2 (by decide) (by decide) tk) ?_
  refine Gs (fun _ tk => XS.aloadN X0.here hx rfl (hb hby d17_26) rfl rfl tk) ?_
  refine Gs (fun _ tk => XS.iloadN X0.here hx rfl (hb hby d17_27) rfl tk) ?_
  show Goes _ _ _ _ _ (s₁.setTop (mkF m 28 #[.val (.ref x), .val (.int (0 : Int32)), .val (.ref y), .val (.int (0 : Int32)), .val (.int (3 : Int32)), .val (.int (0 : Int32)), .val (.int c0)] [(.int (0 : Int32)), (.ref y)]))
  refine Gs (fun _ tk => XS.iload X0.here hx rfl (hb hby d17_28) rfl tk) ?_
  show Goes _ _ _ _ _ (s₁.setTop (mkF m 30 #[.val (.ref x), .val (.int (0 : Int32)), .val (.ref y), .val (.int (0 : Int32)), .val (.int (3 : Int32)), .val (.int (0 : Int32)), .val (.int c0)] [(.int c0), (.int (0 : Int32)), (.ref y)]))
  refine Gs (fun _ tk => XS.i2b X0.here hx rfl (hb hby d17_30) rfl tk) ?_
  show Goes _ _ _ _ _ (s₁.setTop (mkF m 31 #[.val (.ref x), .val (.int (0 : Int32)), .val (.ref y), .val (.int (0 : Int32)), .val (.int (3 : Int32)), .val (.int (0 : Int32)), .val (.int c0)] [(.int (c0.toInt8.toInt32)), (.int (0 : Int32)), (.ref y)]))
  obtain ⟨cl2, Ar2, q2, S2, N2z, H2, G2⟩ := V_y
  have hin2 : ¬ ((0 : Int32) < 0 ∨ cl2.slots.size ≤ ((0 : Int32)).toNatClampNeg) := inb_of S2 ⟨by decide, by decide⟩
  obtain ⟨T2, h2, X2, e2, W2, st2⟩ := stB X0 hx hZ e0 Ar2 (j := (0 : Int32)) hin2 (g := (mkF m 31 #[.val (.ref x), .val (.int (0 : Int32)), .val (.ref y), .val (.int (0 : Int32)), .val (.int (3 : Int32)), .val (.int (0 : Int32)), .val (.int c0)] [(.int (c0.toInt8.toInt32)), (.int (0 : Int32)), (.ref y)])) rfl rfl (hb hby d17_31)
  have Vn2 := Arv.set Ar2 q2 S2 N2z H2 G2 (fits_nar_byte _) W2 0 rfl (Nat.le_of_ble_eq_true rfl)
  have N2 := Fr.snoc X2 N0 g_y
  replace V_x := V_x.other W2 ne_x_y
  replace KP := KP.wr W2 (Or.inl (List.mem_of_getElem? (i := 0) rfl))
  have V_y : Arv Z h2 y ky .byte (3 : Int32) [(.int (lo8 c0)), (.int (0 : Int32)), (.int (0 : Int32))] (.int (0 : Int32)) := by have q := Vn2; rw [own_nb2] at q; exact q
  replace Z0 : n0 ≤ h2.size := by rw [W2.size]; exact Z0
  refine Gs st2 ?_
  show Goes _ _ _ _ _ (T2.setTop (mkF m 32 #[.val (.ref x), .val (.int (0 : Int32)), .val (.ref y), .val (.int (0 : Int32)), .val (.int (3 : Int32)), .val (.int (0 : Int32)), .val (.int c0)] []))
  refine Gs (fun _ tk => XS.iinc X2.here hx rfl (hb hby d17_32) rfl (l' := #[.val (.ref x), .val (.int ((0 : Int32) + (1 : Int32))), .val (.ref y), .val (.int (0 : Int32)), .val (.int (3 : Int32)), .val (.int (0 : Int32)), .val (.int c0)]) rfl tk) ?_
  rw [show ((0 : Int32) + (1 : Int32)) = (1 : Int32) from by decide]
  show Goes _ _ _ _ _ (T2.setTop (mkF m 35 #[.val (.ref x), .val (.int (1 : Int32)), .val (.ref y), .val (.int (0 : Int32)), .val (.int (3 : Int32)), .val (.int (0 : Int32)), .val (.int c0)] []))
  refine Gs (fun _ tk => XS.iinc X2.here hx rfl (hb hby d17_35) rfl (l' := #[.val (.ref x), .val (.int (1 : Int32)), .val (.ref y), .val (.int ((0 : Int32) + (1 : Int32))), .val (.int (3 : Int32)), .val (.int (0 : Int32)), .val (.int c0)]) rfl tk) ?_
  rw [show ((0 : Int32) + (1 : Int32)) = (1 : Int32) from by decide]
  show Goes _ _ _ _ _ (T2.setTop (mkF m 38 #[.val (.ref x), .val (.int (1 : Int32)), .val (.ref y), .val (.int (1 : Int32)), .val (.int (3 : Int32)), .val (.int (0 : Int32)), .val (.int c0)] []))
  refine Gs (fun _ tk => XS.iinc X2.here hx rfl (hb hby d17_38) rfl (l' := #[.val (.ref x), .val (.int (1 : Int32)), .val (.ref y), .val (.int (1 : Int32)), .val (.int (3 : Int32)), .val (.int ((0 : Int32) + (1 : Int32))), .val (.int c0)]) rfl tk) ?_
  rw [show ((0 : Int32) + (1 : Int32)) = (1 : Int32) from by decide]
  show Goes _ _ _ _ _ (T2.setTop (mkF m 41 #[.val (.ref x), .val (.int (1 : Int32)), .val (.ref y), .val (.int (1 : Int32)), .val (.int (3 : Int32)), .val (.int (1 : Int32)), .val (.int c0)] []))
  refine Gs (fun _ tk => XS.goto X2.here hx rfl (pc0 := 41) (pc' := 3) rfl (hb hby d17_41) (by decide) (by decide) tk) ?_
  refine Gs (fun _ tk => XS.iload X2.here hx rfl (hb hby d17_3) rfl tk) ?_
  refine Gs (fun _ tk => XS.iload X2.here hx rfl (hb hby d17_5) rfl tk) ?_
  refine Gs (fun _ tk => XS.icmpNo X2.here hx rfl (hb hby d17_7) rfl (tlt (by decide : ((1 : Int32) < (3 : Int32)))).2.1 tk) ?_
  refine Gs (fun _ tk => XS.aloadN X2.here hx rfl (hb hby d17_10) rfl rfl tk) ?_
  refine Gs (fun _ tk => XS.iloadN X2.here hx rfl (hb hby d17_11) rfl tk) ?_
  show Goes _ _ _ _ _ (T2.setTop (mkF m 12 #[.val (.ref x), .val (.int (1 : Int32)), .val (.ref y), .val (.int (1 : Int32)), .val (.int (3 : Int32)), .val (.int (1 : Int32)), .val (.int c0)] [(.int (1 : Int32)), (.ref x)]))
  obtain ⟨cl3, Ar3, -, S3, N3z, H3, -⟩ := id V_x
  have hin3 : ¬ ((1 : Int32) < 0 ∨ cl3.slots.size ≤ ((1 : Int32)).toNatClampNeg) := inb_of S3 ⟨by decide, by decide⟩
  have hat3 : cl3.slots[((1 : Int32)).toNatClampNeg]? = some (.int c1) := Has.at H3 hin3 rfl
  refine Gs (fun _ tk => X2.caload hx (j := (1 : Int32)) (v := (.int c1)) (by rw [e2]; exact Ar3.1) (State.isArrayOf_alike hZ.alike Ar3.2.1) Ar3.2.2 hin3 hat3 (g := (mkF m 12 #[.val (.ref x), .val (.int (1 : Int32)), .val (.ref y), .val (.int (1 : Int32)), .val (.int (3 : Int32)), .val (.int (1 : Int32)), .val (.int c0)] [(.int (1 : Int32)), (.ref x)])) rfl rfl (hb hby d17_12) _ tk) ?_
  show Goes _ _ _ _ _ (T2.setTop (mkF m 13 #[.val (.ref x), .val (.int (1 : Int32)), .val (.ref y), .val (.int (1 : Int32)), .val (.int (3 : Int32)), .val (.int (1 : Int32)), .val (.int c0)] [(.int c1)]))
  refine Gs (fun _ tk => XS.istore X2.here hx rfl (hb hby d17_13) rfl (l' := #[.val (.ref x), .val (.int (1 : Int32)), .val (.ref y), .val (.int (1 : Int32)), .val (.int (3 : Int32)), .val (.int (1 : Int32)), .val (.int c1)]) rfl tk) ?_
  refine Gs (fun _ tk => XS.iload X2.here hx rfl (hb hby d17_15) rfl tk) ?_
  refine Gs (fun _ tk => XS.sipush X2.here hx rfl (hb hby d17_17) tk) ?_
  refine Gs (fun _ tk => XS.icmpNo X2.here hx rfl (hb hby d17_20) rfl (tlt hn_c1).2.2.2 tk) ?_
  refine Gs (fun _ tk => XS.iload X2.here hx rfl (hb hby d17_23) rfl tk) ?_
  refine Goes.ret X2 (some (.int (1 : Int32))) (fun h => by rw [hret] at h; cases h) hlk (by decide) (by decide) ?_ (fun fs hr => ?_)
  · rw [e2]; exact ⟨rfl, N2, KP, V_y⟩
  · exact retI X2 hx hret (hb hby d17_25) hr
theorem own_ef_rs_c3_3_1 (m : MethodId) (x0 : Addr) : entryFrame m #[(.ref x0), (.int (0 : Int32)), (.int (3 : Int32))] 6 = mkF m 0 #[.val (.ref x0), .val (.int (0 : Int32)), .val (.int (3 : Int32)), .unset, .unset, .unset] [] := by first | (simp [entryFrame, mkF, argsToLocals, Value.category]; done) | rfl
def Q_rs_c3_3_1 (Z : State) (x : Addr) (kx : ClassId) (c0 : Int32) (c1 : Int32) (c2 : Int32) (h0 : Heap) (n0 : Nat) (v : Option Value) (h : Heap) (L : List Loc) : Prop := ∃ y : Addr, ∃ ky : ClassId, v = some (.ref y) ∧ Fr n0 L ∧ Keep h0 h [] ∧ Arv Z h y ky .byte (6 : Int32) [(.int (lo8 c0)), (.int (hi8 c0)), (.int (lo8 c1)), (.int (hi8 c1)), (.int (lo8 c2)), (.int (hi8 c2))] (.int (0 : Int32)) ∧ n0 ≤ y ∧ h0.size ≤ y
set_option maxRecDepth 65536 in
set_option maxHeartbeats 40000000 in
theorem rs_c3_3_1 (l : Launch) (Z : State) (a0 : Array Value) (hw : ∀ d ∈ tables_1, d.before a0 Z = true) (ws : List Jvm.Cond) (x : Addr) (kx : ClassId) (c0 : Int32) (c1 : Int32) (c2 : Int32) (h0 : Heap) (n0 : Nat) (Z0 : n0 ≤ h0.size) (V_x : Arv Z h0 x kx .char (3 : Int32) [(.int c0), (.int c1), (.int c2)] (.int (0 : Int32))) (hn_c0 : ¬ ((255 : Int32) < c0)) (hn_c1 : (255 : Int32) < c1) (hC_c0 : Chr c0) (hC_c1 : Chr c1) (hC_c2 : Chr c2) (S__assertionsDisabled : Sta Z h0 "java/lang/StringUTF16" "$assertionsDisabled" "Z" (.int (1 : Int32))) (S_HI_BYTE_SHIFT : Sta Z h0 "java/lang/StringUTF16" "HI_BYTE_SHIFT" "I" (.int (0 : Int32))) (S_LO_BYTE_SHIFT : Sta Z h0 "java/lang/StringUTF16" "LO_BYTE_SHIFT" "I" (.int (8 : Int32))) :
    Met l Z mN18 jdk_52_method_16_code 6 (some (.array .byte)) ({ frames := 3, cells := 2, slots := 9, locals := 40 } : Room) ws #[(.ref x), (.int (0 : Int32)), (.int (3 : Int32))] h0 (Q_rs_c3_3_1 Z x kx c0 c1 c2 h0 n0) := by
  refine own_met (plainFor_of_name own_pn3) ?_
  intro p e s m below meth c s₁ hret hx hby hlk hml hown hnm X0 e0 hZ hh
  have N0 := Fr.nil n0
  refine Gs (fun _ tk => castTop (own_ef_rs_c3_3_1 m x) tk) ?_
  have KP : Keep h0 h0 [] := Keep.refl _ _
  show Goes _ _ _ _ _ (s₁.setTop (mkF m 0 #[.val (.ref x), .val (.int (0 : Int32)), .val (.int (3 : Int32)), .unset, .unset, .unset] []))
  refine Gs (fun _ tk => XS.iloadN X0.here hx rfl (hb hby d18_0) rfl tk) ?_
  obtain ⟨T1, h1, k1, X1, e1, E1, A1, st1⟩ := newP X0 hx hZ (gw hw 20 rfl) e0 (g := (mkF m 1 #[.val (.ref x), .val (.int (0 : Int32)), .val (.int (3 : Int32)), .unset, .unset, .unset] [(.int (3 : Int32))])) rfl (hb hby d18_1) rfl (by decide) (cap := 3) (by decide) (by decide) (by decide) (by decide)
  obtain ⟨b1, gq1⟩ : ∃ z, z = h0.size := ⟨_, rfl⟩
  rw [← gq1] at A1 st1
  have g_b1 : n0 ≤ b1 := by rw [gq1]; exact Z0
  have sz_b1 : h0.size ≤ b1 := by rw [gq1]; exact KP.1
  have ne_x_b1 : x ≠ b1 := by rw [gq1]; exact Nat.ne_of_lt V_x.lt
  replace V_x := V_x.ext E1
  replace S__assertionsDisabled := S__assertionsDisabled.ext E1
  replace S_HI_BYTE_SHIFT := S_HI_BYTE_SHIFT.ext E1
  replace S_LO_BYTE_SHIFT := S_LO_BYTE_SHIFT.ext E1
  replace KP := KP.ext E1
  replace Z0 : n0 ≤ h1.size := Nat.le_trans Z0 E1.1
  have V_b1 : Arv Z h1 b1 k1 .byte (3 : Int32) [(.int (0 : Int32)), (.int (0 : Int32)), (.int (0 : Int32))] (.int (0 : Int32)) := (Arv.new A1 (by decide)).pad (pad_rep [] (.int (0 : Int32)) 3)
  refine Gs st1 ?_
  show Goes _ _ _ _ _ (T1.setTop (mkF m 3 #[.val (.ref x), .val (.int (0 : Int32)), .val (.int (3 : Int32)), .unset, .unset, .unset] [(.ref b1)]))
  refine Gs (fun _ tk => XS.astoreN X1.here hx rfl (hb hby d18_3) rfl rfl (l' := #[.val (.ref x), .val (.int (0 : Int32)), .val (.int (3 : Int32)), .val (.ref b1), .unset, .unset]) rfl tk) ?_
  refine Gs (fun _ tk => XS.aloadN X1.here hx rfl (hb hby d18_4) rfl rfl tk) ?_
  refine Gs (fun _ tk => XS.iloadN X1.here hx rfl (hb hby d18_5) rfl tk) ?_
  refine Gs (fun _ tk => XS.aloadN X1.here hx rfl (hb hby d18_6) rfl rfl tk) ?_
  refine Gs (fun _ tk => XS.iconst X1.here hx rfl (hb hby d18_7) tk) ?_
  refine Gs (fun _ tk => XS.iloadN X1.here hx rfl (hb hby d18_8) rfl tk) ?_
  show Goes _ _ _ _ _ (T1.setTop (mkF m 9 #[.val (.ref x), .val (.int (0 : Int32)), .val (.int (3 : Int32)), .val (.ref b1), .unset, .unset] [(.int (3 : Int32)), (.int (0 : Int32)), (.ref b1), (.int (0 : Int32)), (.ref x)]))
  obtain ⟨_, _, ⟨T2, L2, k2, n2⟩, -, X2, ⟨Lc2, hQ2, l2, y2, z2⟩, st2⟩ := Jvm.LawKit.callS X1 hx (y := mN17) hown (mvT hZ (gw hw 49 rfl)) (mvT hZ (gw hw 50 rfl)) (mvT hZ (gw hw 47 rfl)) (mvT hZ (gw hw 51 rfl)) (by decide) (backOf (W := 0) (rs_c5_3_1 l Z a0 hw [] x kx b1 k1 c0 c1 c2 h1 n0 Z0 V_x V_b1 g_b1 ne_x_b1 (by first | assumption | decide) (by first | assumption | decide)) hZ (gw hw 51 rfl) (gw hw 47 rfl) (by decide) (by decide)) (g := (mkF m 9 #[.val (.ref x), .val (.int (0 : Int32)), .val (.int (3 : Int32)), .val (.ref b1), .unset, .unset] [(.int (3 : Int32)), (.int (0 : Int32)), (.ref b1), (.int (0 : Int32)), (.ref x)])) rfl (by rw [hml]; rfl) (argsL := [(.ref x), (.int (0 : Int32)), (.ref b1), (.int (0 : Int32)), (.int (3 : Int32))]) (rest := []) (lenOf own_pd11 rfl) rfl (w0 (Nat.le_of_eq rfl)) (hb hby d18_9) (fun _ _ => ⟨rfl, e1, (by decide : 1 + 0 ≤ _), (by decide : 3 + 0 ≤ _)⟩)
  dsimp only [Pt.U, Pt.locs, Pt.cells, Pt.slots] at X2 l2 y2 z2 st2 hQ2
  subst l2 y2 z2
  obtain ⟨rfl, N2q, K2, V_b1_2'⟩ := hQ2
  have N2 := Fr.app N0 N2q
  replace S__assertionsDisabled := own_staK S__assertionsDisabled K2 (allS (own_obA V_b1) all0)
  replace S_HI_BYTE_SHIFT := own_staK S_HI_BYTE_SHIFT K2 (allS (own_obA V_b1) all0)
  replace S_LO_BYTE_SHIFT := own_staK S_LO_BYTE_SHIFT K2 (allS (own_obA V_b1) all0)
  replace V_x := V_x.keep K2 (ninS ne_x_b1 nin0)
  replace KP := KP.trans K2 (allS (Or.inr sz_b1) all0)
  replace Z0 := Nat.le_trans Z0 K2.1
  have V_b1 := V_b1_2'
  refine Gs st2 ?_
  show Goes _ _ _ _ _ (T2.setTop (mkF m 12 #[.val (.ref x), .val (.int (0 : Int32)), .val (.int (3 : Int32)), .val (.ref b1), .unset, .unset] [(.int (1 : Int32))]))
  refine Gs (fun _ tk => XS.istore X2.here hx rfl (hb hby d18_12) rfl (l' := #[.val (.ref x), .val (.int (0 : Int32)), .val (.int (3 : Int32)), .val (.ref b1), .val (.int (1 : Int32)), .unset]) rfl tk) ?_
  refine Gs (fun _ tk => XS.iload X2.here hx rfl (hb hby d18_14) rfl tk) ?_
  refine Gs (fun _ tk => XS.iloadN X2.here hx rfl (hb hby d18_16) rfl tk) ?_
  refine Gs (fun _ tk => XS.icmpNo X2.here hx rfl (hb hby d18_17) rfl (feq (by decide : ¬ ((1 : Int32) = (3 : Int32)))).1 tk) ?_
  refine Gs (fun _ tk => XS.aloadN X2.here hx rfl (hb hby d18_20) rfl rfl tk) ?_
  refine Gs (fun _ tk => XS.iloadN X2.here hx rfl (hb hby d18_21) rfl tk) ?_
  show Goes _ _ _ _ _ (T2.setTop (mkF m 22 #[.val (.ref x), .val (.int (0 : Int32)), .val (.int (3 : Int32)), .val (.ref b1), .val (.int (1 : Int32)), .unset] [(.int (0 : Int32)), (.ref x)]))
  refine Gs (fun _ tk => XS.iloadN X2.here hx rfl (hb hby d18_22) rfl tk) ?_
  have ltc3_x : x < T2.heap.size := V_x.lt
  have ltc3_b1 : b1 < T2.heap.size := V_b1.lt
  have szs3 : h0.size ≤ T2.heap.size := KP.1
  obtain ⟨_, _, ⟨T3, L3, k3, n3⟩, -, X3, ⟨Lc3, hQ3, l3, y3, z3⟩, st3⟩ := Jvm.LawKit.callS X2 hx (y := mN16) hown (mvT hZ (gw hw 69 rfl)) (mvT hZ (gw hw 70 rfl)) (mvT hZ (gw hw 47 rfl)) (mvT hZ (gw hw 71 rfl)) (by decide) (backOf (W := 0) (rs_tb_3 l Z a0 hw [] x kx c0 c1 c2 T2.heap n0 Z0 V_x S__assertionsDisabled S_HI_BYTE_SHIFT S_LO_BYTE_SHIFT) hZ (gw hw 71 rfl) (gw hw 47 rfl) (by decide) (by decide)) (g := (mkF m 23 #[.val (.ref x), .val (.int (0 : Int32)), .val (.int (3 : Int32)), .val (.ref b1), .val (.int (1 : Int32)), .unset] [(.int (3 : Int32)), (.int (0 : Int32)), (.ref x)])) rfl (by rw [hml]; rfl) (argsL := [(.ref x), (.int (0 : Int32)), (.int (3 : Int32))]) (rest := []) (lenOf own_pd12 rfl) rfl (w0 (Nat.le_of_eq rfl)) (hb hby d18_23) (fun _ _ => ⟨rfl, rfl, (by decide : 1 + 1 ≤ _), (by decide : 3 + 6 ≤ _)⟩)
  dsimp only [Pt.U, Pt.locs, Pt.cells, Pt.slots] at X3 l3 y3 z3 st3 hQ3
  subst l3 y3 z3
  obtain ⟨y3, ky3, rfl, N3q, K3, V_y3_3', g_y3_3', sz_y3_3'⟩ := hQ3
  have N3 := Fr.app N2 N3q
  replace S__assertionsDisabled := own_staK S__assertionsDisabled K3 all0
  replace S_HI_BYTE_SHIFT := own_staK S_HI_BYTE_SHIFT K3 all0
  replace S_LO_BYTE_SHIFT := own_staK S_LO_BYTE_SHIFT K3 all0
  replace KP := KP.trans K3 all0
  replace Z0 := Nat.le_trans Z0 K3.1
  have V_y3 := V_y3_3'
  have g_y3 := g_y3_3'
  have szc_y3 := sz_y3_3'
  have ne_x_y3 : x ≠ y3 := Nat.ne_of_lt (Nat.lt_of_lt_of_le ltc3_x szc_y3)
  have ne_b1_y3 : b1 ≠ y3 := Nat.ne_of_lt (Nat.lt_of_lt_of_le ltc3_b1 szc_y3)
  have sz_y3 : h0.size ≤ y3 := Nat.le_trans szs3 szc_y3
  refine Gs st3 ?_
  show Goes _ _ _ _ _ (T3.setTop (mkF m 26 #[.val (.ref x), .val (.int (0 : Int32)), .val (.int (3 : Int32)), .val (.ref b1), .val (.int (1 : Int32)), .unset] [(.ref y3)]))
  refine Gs (fun _ tk => XS.astore X3.here hx rfl (hb hby d18_26) rfl rfl (l' := #[.val (.ref x), .val (.int (0 : Int32)), .val (.int (3 : Int32)), .val (.ref b1), .val (.int (1 : Int32)), .val (.ref y3)]) rfl tk) ?_
  refine Gs (fun _ tk => XS.aload X3.here hx rfl (hb hby d18_28) rfl rfl tk) ?_
  refine Gs (fun _ tk => XS.iload X3.here hx rfl (hb hby d18_30) rfl tk) ?_
  obtain ⟨_, _, ⟨T4, L4, k4, n4⟩, -, X4, ⟨Lc4, hQ4, l4, y4, z4⟩, st4⟩ := Jvm.LawKit.callS X3 hx (y := mN8) hown (mvT hZ (gw hw 85 rfl)) (mvT hZ (gw hw 86 rfl)) (mvT hZ (gw hw 47 rfl)) (mvT hZ (gw hw 87 rfl)) (by decide) (backOf (W := 0) (rs_gch l Z a0 hw [] y3 ky3 [c0, c1, c2] (1 : Int32) c1 T3.heap n0 Z0 V_y3 (by first | assumption | decide) (own_il 1 _ (by decide) (by simp) (Nat.le_of_ble_eq_true rfl)) rfl (Nat.le_of_ble_eq_true rfl) hC_c1 S__assertionsDisabled S_HI_BYTE_SHIFT S_LO_BYTE_SHIFT) hZ (gw hw 87 rfl) (gw hw 47 rfl) (by decide) (by decide)) (g := (mkF m 32 #[.val (.ref x), .val (.int (0 : Int32)), .val (.int (3 : Int32)), .val (.ref b1), .val (.int (1 : Int32)), .val (.ref y3)] [(.int (1 : Int32)), (.ref y3)])) rfl (by rw [hml]; rfl) (argsL := [(.ref y3), (.int (1 : Int32))]) (rest := []) (lenOf own_pd5 rfl) rfl (w0 (Nat.le_of_eq rfl)) (hb hby d18_32) (fun _ _ => ⟨rfl, rfl, (by decide : 2 + 0 ≤ _), (by decide : 9 + 0 ≤ _)⟩)
  dsimp only [Pt.U, Pt.locs, Pt.cells, Pt.slots] at X4 l4 y4 z4 st4 hQ4
  subst l4 y4 z4
  obtain ⟨rfl, N4q, e4⟩ := hQ4
  have N4 := Fr.app N3 N4q
  refine Gs st4 ?_
  show Goes _ _ _ _ _ (T4.setTop (mkF m 35 #[.val (.ref x), .val (.int (0 : Int32)), .val (.int (3 : Int32)), .val (.ref b1), .val (.int (1 : Int32)), .val (.ref y3)] [(.int c1)]))
  refine Gs (fun _ tk => XS.sipush X4.here hx rfl (hb hby d18_35) tk) ?_
  refine Gs (fun _ tk => XS.icmpYes X4.here hx rfl (pc0 := 38) (pc' := 54) rfl (hb hby d18_38) rfl (tlt hn_c1).2.2.1 (by decide) (by decide) tk) ?_
  refine Gs (fun _ tk => XS.aload X4.here hx rfl (hb hby d18_54) rfl rfl tk) ?_
  refine Goes.ret X4 (some (.ref y3)) (fun h => by rw [hret] at h; cases h) hlk (by decide) (by decide) ?_ (fun fs hr => ?_)
  · rw [e4]; exact ⟨y3, ky3, rfl, N4, KP, V_y3, g_y3, sz_y3⟩
  · exact own_retA X4 hx hret rfl rfl (hb hby d18_56) hr
theorem own_ef_rs_c5_3_2 (m : MethodId) (x0 : Addr) (x2 : Addr) : entryFrame m #[(.ref x0), (.int (0 : Int32)), (.ref x2), (.int (0 : Int32)), (.int (3 : Int32))] 7 = mkF m 0 #[.val (.ref x0), .val (.int (0 : Int32)), .val (.ref x2), .val (.int (0 : Int32)), .val (.int (3 : Int32)), .unset, .unset] [] := by first | (simp [entryFrame, mkF, argsToLocals, Value.category]; done) | rfl
def Q_rs_c5_3_2 (Z : State) (x : Addr) (kx : ClassId) (y : Addr) (ky : ClassId) (c0 : Int32) (c1 : Int32) (c2 : Int32) (h0 : Heap) (n0 : Nat) (v : Option Value) (h : Heap) (L : List Loc) : Prop := v = some (.int (2 : Int32)) ∧ Fr n0 L ∧ Keep h0 h [y] ∧ Arv Z h y ky .byte (3 : Int32) [(.int (lo8 c0)), (.int (lo8 c1)), (.int (0 : Int32))] (.int (0 : Int32))
set_option maxRecDepth 65536 in
set_option maxHeartbeats 40000000 in
theorem rs_c5_3_2 (l : Launch) (Z : State) (a0 : Array Value) (hw : ∀ d ∈ tables_1, d.before a0 Z = true) (ws : List Jvm.Cond) (x : Addr) (kx : ClassId) (y : Addr) (ky : ClassId) (c0 : Int32) (c1 : Int32) (c2 : Int32) (h0 : Heap) (n0 : Nat) (Z0 : n0 ≤ h0.size) (V_x : Arv Z h0 x kx .char (3 : Int32) [(.int c0), (.int c1), (.int c2)] (.int (0 : Int32))) (V_y : Arv Z h0 y ky .byte (3 : Int32) [(.int (0 : Int32)), (.int (0 : Int32)), (.int (0 : Int32))] (.int (0 : Int32))) (g_y : n0 ≤ y) (ne_x_y : x ≠ y) (hn_c0 : ¬ ((255 : Int32) < c0)) (hn_c1 : ¬ ((255 : Int32) < c1)) (hn_c2 : (255 : Int32) < c2) :
    Met l Z mN17 jdk_52_method_21_code 7 (some .int) ({ frames := 0, cells := 0, slots := 0, locals := 0 } : Room) ws #[(.ref x), (.int (0 : Int32)), (.ref y), (.int (0 : Int32)), (.int (3 : Int32))] h0 (Q_rs_c5_3_2 Z x kx y ky c0 c1 c2 h0 n0) := by
  refine own_met (plainFor_of_name own_pn3) ?_
  intro p e s m below meth c s₁ hret hx hby hlk hml hown hnm X0 e0 hZ hh
  have N0 := Fr.nil n0
  refine Gs (fun _ tk => castTop (own_ef_rs_c5_3_2 m x y) tk) ?_
  have KP : Keep h0 h0 [y] := Keep.refl _ _
  show Goes _ _ _ _ _ (s₁.setTop (mkF m 0 #[.val (.ref x), .val (.int (0 : Int32)), .val (.ref y), .val (.int (0 : Int32)), .val (.int (3 : Int32)), .unset, .unset] []))
  refine Gs (fun _ tk => XS.iconst X0.here hx rfl (hb hby d17_0) tk) ?_
  refine Gs (fun _ tk => XS.istore X0.here hx rfl (hb hby d17_1) rfl (l' := #[.val (.ref x), .val (.int (0 : Int32)), .val (.ref y), .val (.int (0 : Int32)), .val (.int (3 : Int32)), .val (.int (0 : Int32)), .unset]) rfl tk) ?_
  refine Gs (fun _ tk => XS.iload X0.here hx rfl (hb hby d17_3) rfl tk) ?_
  refine Gs (fun _ tk => XS.iload X0.here hx rfl (hb hby d17_5) rfl tk) ?_
  refine Gs (fun _ tk => XS.icmpNo X0.here hx rfl (hb hby d17_7) rfl (tlt (by decide : ((0 : Int32) < (3 : Int32)))).2.1 tk) ?_
  refine Gs (fun _ tk => XS.aloadN X0.here hx rfl (hb hby d17_10) rfl rfl tk) ?_
  show Goes _ _ _ _ _ (s₁.setTop (mkF m 11 #[.val (.ref x), .val (.int (0 : Int32)), .val (.ref y), .val (.int (0 : Int32)), .val (.int (3 : Int32)), .val (.int (0 : Int32)), .unset] [(.ref x)]))
  refine Gs (fun _ tk => XS.iloadN X0.here hx rfl (hb hby d17_11) rfl tk) ?_
  obtain ⟨cl1, Ar1, -, S1, N1z, H1, -⟩ := id V_x
  have hin1 : ¬ ((0 : Int32) < 0 ∨ cl1.slots.size ≤ ((0 : Int32)).toNatClampNeg) := inb_of S1 ⟨by decide, by decide⟩
  have hat1 : cl1.slots[((0 : Int32)).toNatClampNeg]? = some (.int c0) := Has.at H1 hin1 rfl
  refine Gs (fun _ tk => X0.caload hx (j := (0 : Int32)) (v := (.int c0)) (by rw [e0]; exact Ar1.1) (State.isArrayOf_alike hZ.alike Ar1.2.1) Ar1.2.2 hin1 hat1 (g := (mkF m 12 #[.val (.ref x), .val (.int (0 : Int32)), .val (.ref y), .val (.int (0 : Int32)), .val (.int (3 : Int32)), .val (.int (0 : Int32)), .unset] [(.int (0 : Int32)), (.ref x)])) rfl rfl (hb hby d17_12) _ tk) ?_
  show Goes _ _ _ _ _ (s₁.setTop (mkF m 13 #[.val (.ref x), .val (.int (0 : Int32)), .val (.ref y), .val (.int (0 : Int32)), .val (.int (3 : Int32)), .val (.int (0 : Int32)), .unset] [(.int c0)]))
  refine Gs (fun _ tk => XS.istore X0.here hx rfl (hb hby d17_13) rfl (l' := #[.val (.ref x), .val (.int (0 : Int32)), .val (.ref y), .val (.int (0 : Int32)), .val (.int (3 : Int32)), .val (.int (0 : Int32)), .val (.int c0)]) rfl tk) ?_
  refine Gs (fun _ tk => XS.iload X0.here hx rfl (hb hby d17_15) rfl tk) ?_
  refine Gs (fun _ tk => XS.sipush X0.here hx rfl (hb hby d17_17) tk) ?_
  refine Gs (fun _ tk => XS.icmpYes X0.here hx rfl (pc0 := 20) (pc' := 26) rfl (hb hby d17_20) rfl (flt hn_c0).2.2.2 (by decide) (by decide) tk) ?_
  refine Gs (fun _ tk => XS.aloadN X0.here hx rfl (hb hby d17_26) rfl rfl tk) ?_
  refine Gs (fun _ tk => XS.iloadN X0.here hx rfl (hb hby d17_27) rfl tk) ?_
  show Goes _ _ _ _ _ (s₁.setTop (mkF m 28 #[.val (.ref x), .val (.int (0 : Int32)), .val (.ref y), .val (.int (0 : Int32)), .val (.int (3 : Int32)), .val (.int (0 : Int32)), .val (.int c0)] [(.int (0 : Int32)), (.ref y)]))
  refine Gs (fun _ tk => XS.iload X0.here hx rfl (hb hby d17_28) rfl tk) ?_
  show Goes _ _ _ _ _ (s₁.setTop (mkF m 30 #[.val (.ref x), .val (.int (0 : Int32)), .val (.ref y), .val (.int (0 : Int32)), .val (.int (3 : Int32)), .val (.int (0 : Int32)), .val (.int c0)] [(.int c0), (.int (0 : Int32)), (.ref y)]))
  refine Gs (fun _ tk => XS.i2b X0.here hx rfl (hb hby d17_30) rfl tk) ?_
  show Goes _ _ _ _ _ (s₁.setTop (mkF m 31 #[.val (.ref x), .val (.int (0 : Int32)), .val (.ref y), .val (.int (0 : Int32)), .val (.int (3 : Int32)), .val (.int (0 : Int32)), .val (.int c0)] [(.int (c0.toInt8.toInt32)), (.int (0 : Int32)), (.ref y)]))
  obtain ⟨cl2, Ar2, q2, S2, N2z, H2, G2⟩ := V_y
  have hin2 : ¬ ((0 : Int32) < 0 ∨ cl2.slots.size ≤ ((0 : Int32)).toNatClampNeg) := inb_of S2 ⟨by decide, by decide⟩
  obtain ⟨T2, h2, X2, e2, W2, st2⟩ := stB X0 hx hZ e0 Ar2 (j := (0 : Int32)) hin2 (g := (mkF m 31 #[.val (.ref x), .val (.int (0 : Int32)), .val (.ref y), .val (.int (0 : Int32)), .val (.int (3 : Int32)), .val (.int (0 : Int32)), .val (.int c0)] [(.int (c0.toInt8.toInt32)), (.int (0 : Int32)), (.ref y)])) rfl rfl (hb hby d17_31)
  have Vn2 := Arv.set Ar2 q2 S2 N2z H2 G2 (fits_nar_byte _) W2 0 rfl (Nat.le_of_ble_eq_true rfl)
  have N2 := Fr.snoc X2 N0 g_y
  replace V_x := V_x.other W2 ne_x_y
  replace KP := KP.wr W2 (Or.inl (List.mem_of_getElem? (i := 0) rfl))
  have V_y : Arv Z h2 y ky .byte (3 : Int32) [(.int (lo8 c0)), (.int (0 : Int32)), (.int (0 : Int32))] (.int (0 : Int32)) := by have q := Vn2; rw [own_nb2] at q; exact q
  replace Z0 : n0 ≤ h2.size := by rw [W2.size]; exact Z0
  refine Gs st2 ?_
  show Goes _ _ _ _ _ (T2.setTop (mkF m 32 #[.val (.ref x), .val (.int (0 : Int32)), .val (.ref y), .val (.int (0 : Int32)), .val (.int (3 : Int32)), .val (.int (0 : Int32)), .val (.int c0)] []))
  refine Gs (fun _ tk => XS.iinc X2.here hx rfl (hb hby d17_32) rfl (l' := #[.val (.ref x), .val (.int ((0 : Int32) + (1 : Int32))), .val (.ref y), .val (.int (0 : Int32)), .val (.int (3 : Int32)), .val (.int (0 : Int32)), .val (.int c0)]) rfl tk) ?_
  rw [show ((0 : Int32) + (1 : Int32)) = (1 : Int32) from by decide]
  show Goes _ _ _ _ _ (T2.setTop (mkF m 35 #[.val (.ref x), .val (.int (1 : Int32)), .val (.ref y), .val (.int (0 : Int32)), .val (.int (3 : Int32)), .val (.int (0 : Int32)), .val (.int c0)] []))
  refine Gs (fun _ tk => XS.iinc X2.here hx rfl (hb hby d17_35) rfl (l' := #[.val (.ref x), .val (.int (1 : Int32)), .val (.ref y), .val (.int ((0 : Int32) + (1 : Int32))), .val (.int (3 : Int32)), .val (.int (0 : Int32)), .val (.int c0)]) rfl tk) ?_
  rw [show ((0 : Int32) + (1 : Int32)) = (1 : Int32) from by decide]
  show Goes _ _ _ _ _ (T2.setTop (mkF m 38 #[.val (.ref x), .val (.int (1 : Int32)), .val (.ref y), .val (.int (1 : Int32)), .val (.int (3 : Int32)), .val (.int (0 : Int32)), .val (.int c0)] []))
  refine Gs (fun _ tk => XS.iinc X2.here hx rfl (hb hby d17_38) rfl (l' := #[.val (.ref x), .val (.int (1 : Int32)), .val (.ref y), .val (.int (1 : Int32)), .val (.int (3 : Int32)), .val (.int ((0 : Int32) + (1 : Int32))), .val (.int c0)]) rfl tk) ?_
  rw [show ((0 : Int32) + (1 : Int32)) = (1 : Int32) from by decide]
  show Goes _ _ _ _ _ (T2.setTop (mkF m 41 #[.val (.ref x), .val (.int (1 : Int32)), .val (.ref y), .val (.int (1 : Int32)), .val (.int (3 : Int32)), .val (.int (1 : Int32)), .val (.int c0)] []))
  refine Gs (fun _ tk => XS.goto X2.here hx rfl (pc0 := 41) (pc' := 3) rfl (hb hby d17_41) (by decide) (by decide) tk) ?_
  refine Gs (fun _ tk => XS.iload X2.here hx rfl (hb hby d17_3) rfl tk) ?_
  refine Gs (fun _ tk => XS.iload X2.here hx rfl (hb hby d17_5) rfl tk) ?_
  refine Gs (fun _ tk => XS.icmpNo X2.here hx rfl (hb hby d17_7) rfl (tlt (by decide : ((1 : Int32) < (3 : Int32)))).2.1 tk) ?_
  refine Gs (fun _ tk => XS.aloadN X2.here hx rfl (hb hby d17_10) rfl rfl tk) ?_
  refine Gs (fun _ tk => XS.iloadN X2.here hx rfl (hb hby d17_11) rfl tk) ?_
  show Goes _ _ _ _ _ (T2.setTop (mkF m 12 #[.val (.ref x), .val (.int (1 : Int32)), .val (.ref y), .val (.int (1 : Int32)), .val (.int (3 : Int32)), .val (.int (1 : Int32)), .val (.int c0)] [(.int (1 : Int32)), (.ref x)]))
  obtain ⟨cl3, Ar3, -, S3, N3z, H3, -⟩ := id V_x
  have hin3 : ¬ ((1 : Int32) < 0 ∨ cl3.slots.size ≤ ((1 : Int32)).toNatClampNeg) := inb_of S3 ⟨by decide, by decide⟩
  have hat3 : cl3.slots[((1 : Int32)).toNatClampNeg]? = some (.int c1) := Has.at H3 hin3 rfl
  refine Gs (fun _ tk => X2.caload hx (j := (1 : Int32)) (v := (.int c1)) (by rw [e2]; exact Ar3.1) (State.isArrayOf_alike hZ.alike Ar3.2.1) Ar3.2.2 hin3 hat3 (g := (mkF m 12 #[.val (.ref x), .val (.int (1 : Int32)), .val (.ref y), .val (.int (1 : Int32)), .val (.int (3 : Int32)), .val (.int (1 : Int32)), .val (.int c0)] [(.int (1 : Int32)), (.ref x)])) rfl rfl (hb hby d17_12) _ tk) ?_
  show Goes _ _ _ _ _ (T2.setTop (mkF m 13 #[.val (.ref x), .val (.int (1 : Int32)), .val (.ref y), .val (.int (1 : Int32)), .val (.int (3 : Int32)), .val (.int (1 : Int32)), .val (.int c0)] [(.int c1)]))
  refine Gs (fun _ tk => XS.istore X2.here hx rfl (hb hby d17_13) rfl (l' := #[.val (.ref x), .val (.int (1 : Int32)), .val (.ref y), .val (.int (1 : Int32)), .val (.int (3 : Int32)), .val (.int (1 : Int32)), .val (.int c1)]) rfl tk) ?_
  refine Gs (fun _ tk => XS.iload X2.here hx rfl (hb hby d17_15) rfl tk) ?_
  refine Gs (fun _ tk => XS.sipush X2.here hx rfl (hb hby d17_17) tk) ?_
  refine Gs (fun _ tk => XS.icmpYes X2.here hx rfl (pc0 := 20) (pc' := 26) rfl (hb hby d17_20) rfl (flt hn_c1).2.2.2 (by decide) (by decide) tk) ?_
  refine Gs (fun _ tk => XS.aloadN X2.here hx rfl (hb hby d17_26) rfl rfl tk) ?_
  refine Gs (fun _ tk => XS.iloadN X2.here hx rfl (hb hby d17_27) rfl tk) ?_
  show Goes _ _ _ _ _ (T2.setTop (mkF m 28 #[.val (.ref x), .val (.int (1 : Int32)), .val (.ref y), .val (.int (1 : Int32)), .val (.int (3 : Int32)), .val (.int (1 : Int32)), .val (.int c1)] [(.int (1 : Int32)), (.ref y)]))
  refine Gs (fun _ tk => XS.iload X2.here hx rfl (hb hby d17_28) rfl tk) ?_
  show Goes _ _ _ _ _ (T2.setTop (mkF m 30 #[.val (.ref x), .val (.int (1 : Int32)), .val (.ref y), .val (.int (1 : Int32)), .val (.int (3 : Int32)), .val (.int (1 : Int32)), .val (.int c1)] [(.int c1), (.int (1 : Int32)), (.ref y)]))
  refine Gs (fun _ tk => XS.i2b X2.here hx rfl (hb hby d17_30) rfl tk) ?_
  show Goes _ _ _ _ _ (T2.setTop (mkF m 31 #[.val (.ref x), .val (.int (1 : Int32)), .val (.ref y), .val (.int (1 : Int32)), .val (.int (3 : Int32)), .val (.int (1 : Int32)), .val (.int c1)] [(.int (c1.toInt8.toInt32)), (.int (1 : Int32)), (.ref y)]))
  obtain ⟨cl4, Ar4, q4, S4, N4z, H4, G4⟩ := V_y
  have hin4 : ¬ ((1 : Int32) < 0 ∨ cl4.slots.size ≤ ((1 : Int32)).toNatClampNeg) := inb_of S4 ⟨by decide, by decide⟩
  obtain ⟨T4, h4, X4, e4, W4, st4⟩ := stB X2 hx hZ e2 Ar4 (j := (1 : Int32)) hin4 (g := (mkF m 31 #[.val (.ref x), .val (.int (1 : Int32)), .val (.ref y), .val (.int (1 : Int32)), .val (.int (3 : Int32)), .val (.int (1 : Int32)), .val (.int c1)] [(.int (c1.toInt8.toInt32)), (.int (1 : Int32)), (.ref y)])) rfl rfl (hb hby d17_31)
  have Vn4 := Arv.set Ar4 q4 S4 N4z H4 G4 (fits_nar_byte _) W4 1 rfl (Nat.le_of_ble_eq_true rfl)
  have N4 := Fr.snoc X4 N2 g_y
  replace V_x := V_x.other W4 ne_x_y
  replace KP := KP.wr W4 (Or.inl (List.mem_of_getElem? (i := 0) rfl))
  have V_y : Arv Z h4 y ky .byte (3 : Int32) [(.int (lo8 c0)), (.int (lo8 c1)), (.int (0 : Int32))] (.int (0 : Int32)) := by have q := Vn4; rw [own_nb2] at q; exact q
  replace Z0 : n0 ≤ h4.size := by rw [W4.size]; exact Z0
  refine Gs st4 ?_
  show Goes _ _ _ _ _ (T4.setTop (mkF m 32 #[.val (.ref x), .val (.int (1 : Int32)), .val (.ref y), .val (.int (1 : Int32)), .val (.int (3 : Int32)), .val (.int (1 : Int32)), .val (.int c1)] []))
  refine Gs (fun _ tk => XS.iinc X4.here hx rfl (hb hby d17_32) rfl (l' := #[.val (.ref x), .val (.int ((1 : Int32) + (1 : Int32))), .val (.ref y), .val (.int (1 : Int32)), .val (.int (3 : Int32)), .val (.int (1 : Int32)), .val (.int c1)]) rfl tk) ?_
  rw [show ((1 : Int32) + (1 : Int32)) = (2 : Int32) from by decide]
  show Goes _ _ _ _ _ (T4.setTop (mkF m 35 #[.val (.ref x), .val (.int (2 : Int32)), .val (.ref y), .val (.int (1 : Int32)), .val (.int (3 : Int32)), .val (.int (1 : Int32)), .val (.int c1)] []))
  refine Gs (fun _ tk => XS.iinc X4.here hx rfl (hb hby d17_35) rfl (l' := #[.val (.ref x), .val (.int (2 : Int32)), .val (.ref y), .val (.int ((1 : Int32) + (1 : Int32))), .val (.int (3 : Int32)), .val (.int (1 : Int32)), .val (.int c1)]) rfl tk) ?_
  rw [show ((1 : Int32) + (1 : Int32)) = (2 : Int32) from by decide]
  show Goes _ _ _ _ _ (T4.setTop (mkF m 38 #[.val (.ref x), .val (.int (2 : Int32)), .val (.ref y), .val (.int (2 : Int32)), .val (.int (3 : Int32)), .val (.int (1 : Int32)), .val (.int c1)] []))
  refine Gs (fun _ tk => XS.iinc X4.here hx rfl (hb hby d17_38) rfl (l' := #[.val (.ref x), .val (.int (2 : Int32)), .val (.ref y), .val (.int (2 : Int32)), .val (.int (3 : Int32)), .val (.int ((1 : Int32) + (1 : Int32))), .val (.int c1)]) rfl tk) ?_
  rw [show ((1 : Int32) + (1 : Int32)) = (2 : Int32) from by decide]
  show Goes _ _ _ _ _ (T4.setTop (mkF m 41 #[.val (.ref x), .val (.int (2 : Int32)), .val (.ref y), .val (.int (2 : Int32)), .val (.int (3 : Int32)), .val (.int (2 : Int32)), .val (.int c1)] []))
  refine Gs (fun _ tk => XS.goto X4.here hx rfl (pc0 := 41) (pc' := 3) rfl (hb hby d17_41) (by decide) (by decide) tk) ?_
  refine Gs (fun _ tk => XS.iload X4.here hx rfl (hb hby d17_3) rfl tk) ?_
  refine Gs (fun _ tk => XS.iload X4.here hx rfl (hb hby d17_5) rfl tk) ?_
  refine Gs (fun _ tk => XS.icmpNo X4.here hx rfl (hb hby d17_7) rfl (tlt (by decide : ((2 : Int32) < (3 : Int32)))).2.1 tk) ?_
  refine Gs (fun _ tk => XS.aloadN X4.here hx rfl (hb hby d17_10) rfl rfl tk) ?_
  refine Gs (fun _ tk => XS.iloadN X4.here hx rfl (hb hby d17_11) rfl tk) ?_
  show Goes _ _ _ _ _ (T4.setTop (mkF m 12 #[.val (.ref x), .val (.int (2 : Int32)), .val (.ref y), .val (.int (2 : Int32)), .val (.int (3 : Int32)), .val (.int (2 : Int32)), .val (.int c1)] [(.int (2 : Int32)), (.ref x)]))
  obtain ⟨cl5, Ar5, -, S5, N5z, H5, -⟩ := id V_x
  have hin5 : ¬ ((2 : Int32) < 0 ∨ cl5.slots.size ≤ ((2 : Int32)).toNatClampNeg) := inb_of S5 ⟨by decide, by decide⟩
  have hat5 : cl5.slots[((2 : Int32)).toNatClampNeg]? = some (.int c2) := Has.at H5 hin5 rfl
  refine Gs (fun _ tk => X4.caload hx (j := (2 : Int32)) (v := (.int c2)) (by rw [e4]; exact Ar5.1) (State.isArrayOf_alike hZ.alike Ar5.2.1) Ar5.2.2 hin5 hat5 (g := (mkF m 12 #[.val (.ref x), .val (.int (2 : Int32)), .val (.ref y), .val (.int (2 : Int32)), .val (.int (3 : Int32)), .val (.int (2 : Int32)), .val (.int c1)] [(.int (2 : Int32)), (.ref x)])) rfl rfl (hb hby d17_12) _ tk) ?_
  show Goes _ _ _ _ _ (T4.setTop (mkF m 13 #[.val (.ref x), .val (.int (2 : Int32)), .val (.ref y), .val (.int (2 : Int32)), .val (.int (3 : Int32)), .val (.int (2 : Int32)), .val (.int c1)] [(.int c2)]))
  refine Gs (fun _ tk => XS.istore X4.here hx rfl (hb hby d17_13) rfl (l' := #[.val (.ref x), .val (.int (2 : Int32)), .val (.ref y), .val (.int (2 : Int32)), .val (.int (3 : Int32)), .val (.int (2 : Int32)), .val (.int c2)]) rfl tk) ?_
  refine Gs (fun _ tk => XS.iload X4.here hx rfl (hb hby d17_15) rfl tk) ?_
  refine Gs (fun _ tk => XS.sipush X4.here hx rfl (hb hby d17_17) tk) ?_
  refine Gs (fun _ tk => XS.icmpNo X4.here hx rfl (hb hby d17_20) rfl (tlt hn_c2).2.2.2 tk) ?_
  refine Gs (fun _ tk => XS.iload X4.here hx rfl (hb hby d17_23) rfl tk) ?_
  refine Goes.ret X4 (some (.int (2 : Int32))) (fun h => by rw [hret] at h; cases h) hlk (by decide) (by decide) ?_ (fun fs hr => ?_)
  · rw [e4]; exact ⟨rfl, N4, KP, V_y⟩
  · exact retI X4 hx hret (hb hby d17_25) hr
theorem own_ef_rs_c3_3_2 (m : MethodId) (x0 : Addr) : entryFrame m #[(.ref x0), (.int (0 : Int32)), (.int (3 : Int32))] 6 = mkF m 0 #[.val (.ref x0), .val (.int (0 : Int32)), .val (.int (3 : Int32)), .unset, .unset, .unset] [] := by first | (simp [entryFrame, mkF, argsToLocals, Value.category]; done) | rfl
def Q_rs_c3_3_2 (Z : State) (x : Addr) (kx : ClassId) (c0 : Int32) (c1 : Int32) (c2 : Int32) (h0 : Heap) (n0 : Nat) (v : Option Value) (h : Heap) (L : List Loc) : Prop := ∃ y : Addr, ∃ ky : ClassId, v = some (.ref y) ∧ Fr n0 L ∧ Keep h0 h [] ∧ Arv Z h y ky .byte (6 : Int32) [(.int (lo8 c0)), (.int (hi8 c0)), (.int (lo8 c1)), (.int (hi8 c1)), (.int (lo8 c2)), (.int (hi8 c2))] (.int (0 : Int32)) ∧ n0 ≤ y ∧ h0.size ≤ y
set_option maxRecDepth 65536 in
set_option maxHeartbeats 40000000 in
theorem rs_c3_3_2 (l : Launch) (Z : State) (a0 : Array Value) (hw : ∀ d ∈ tables_1, d.before a0 Z = true) (ws : List Jvm.Cond) (x : Addr) (kx : ClassId) (c0 : Int32) (c1 : Int32) (c2 : Int32) (h0 : Heap) (n0 : Nat) (Z0 : n0 ≤ h0.size) (V_x : Arv Z h0 x kx .char (3 : Int32) [(.int c0), (.int c1), (.int c2)] (.int (0 : Int32))) (hn_c0 : ¬ ((255 : Int32) < c0)) (hn_c1 : ¬ ((255 : Int32) < c1)) (hn_c2 : (255 : Int32) < c2) (hC_c0 : Chr c0) (hC_c1 : Chr c1) (hC_c2 : Chr c2) (S__assertionsDisabled : Sta Z h0 "java/lang/StringUTF16" "$assertionsDisabled" "Z" (.int (1 : Int32))) (S_HI_BYTE_SHIFT : Sta Z h0 "java/lang/StringUTF16" "HI_BYTE_SHIFT" "I" (.int (0 : Int32))) (S_LO_BYTE_SHIFT : Sta Z h0 "java/lang/StringUTF16" "LO_BYTE_SHIFT" "I" (.int (8 : Int32))) :
    Met l Z mN18 jdk_52_method_16_code 6 (some (.array .byte)) ({ frames := 3, cells := 2, slots := 9, locals := 40 } : Room) ws #[(.ref x), (.int (0 : Int32)), (.int (3 : Int32))] h0 (Q_rs_c3_3_2 Z x kx c0 c1 c2 h0 n0) := by
  refine own_met (plainFor_of_name own_pn3) ?_
  intro p e s m below meth c s₁ hret hx hby hlk hml hown hnm X0 e0 hZ hh
  have N0 := Fr.nil n0
  refine Gs (fun _ tk => castTop (own_ef_rs_c3_3_2 m x) tk) ?_
  have KP : Keep h0 h0 [] := Keep.refl _ _
  show Goes _ _ _ _ _ (s₁.setTop (mkF m 0 #[.val (.ref x), .val (.int (0 : Int32)), .val (.int (3 : Int32)), .unset, .unset, .unset] []))
  refine Gs (fun _ tk => XS.iloadN X0.here hx rfl (hb hby d18_0) rfl tk) ?_
  obtain ⟨T1, h1, k1, X1, e1, E1, A1, st1⟩ := newP X0 hx hZ (gw hw 20 rfl) e0 (g := (mkF m 1 #[.val (.ref x), .val (.int (0 : Int32)), .val (.int (3 : Int32)), .unset, .unset, .unset] [(.int (3 : Int32))])) rfl (hb hby d18_1) rfl (by decide) (cap := 3) (by decide) (by decide) (by decide) (by decide)
  obtain ⟨b1, gq1⟩ : ∃ z, z = h0.size := ⟨_, rfl⟩
  rw [← gq1] at A1 st1
  have g_b1 : n0 ≤ b1 := by rw [gq1]; exact Z0
  have sz_b1 : h0.size ≤ b1 := by rw [gq1]; exact KP.1
  have ne_x_b1 : x ≠ b1 := by rw [gq1]; exact Nat.ne_of_lt V_x.lt
  replace V_x := V_x.ext E1
  replace S__assertionsDisabled := S__assertionsDisabled.ext E1
  replace S_HI_BYTE_SHIFT := S_HI_BYTE_SHIFT.ext E1
  replace S_LO_BYTE_SHIFT := S_LO_BYTE_SHIFT.ext E1
  replace KP := KP.ext E1
  replace Z0 : n0 ≤ h1.size := Nat.le_trans Z0 E1.1
  have V_b1 : Arv Z h1 b1 k1 .byte (3 : Int32) [(.int (0 : Int32)), (.int (0 : Int32)), (.int (0 : Int32))] (.int (0 : Int32)) := (Arv.new A1 (by decide)).pad (pad_rep [] (.int (0 : Int32)) 3)
  refine Gs st1 ?_
  show Goes _ _ _ _ _ (T1.setTop (mkF m 3 #[.val (.ref x), .val (.int (0 : Int32)), .val (.int (3 : Int32)), .unset, .unset, .unset] [(.ref b1)]))
  refine Gs (fun _ tk => XS.astoreN X1.here hx rfl (hb hby d18_3) rfl rfl (l' := #[.val (.ref x), .val (.int (0 : Int32)), .val (.int (3 : Int32)), .val (.ref b1), .unset, .unset]) rfl tk) ?_
  refine Gs (fun _ tk => XS.aloadN X1.here hx rfl (hb hby d18_4) rfl rfl tk) ?_
  refine Gs (fun _ tk => XS.iloadN X1.here hx rfl (hb hby d18_5) rfl tk) ?_
  refine Gs (fun _ tk => XS.aloadN X1.here hx rfl (hb hby d18_6) rfl rfl tk) ?_
  refine Gs (fun _ tk => XS.iconst X1.here hx rfl (hb hby d18_7) tk) ?_
  refine Gs (fun _ tk => XS.iloadN X1.here hx rfl (hb hby d18_8) rfl tk) ?_
  show Goes _ _ _ _ _ (T1.setTop (mkF m 9 #[.val (.ref x), .val (.int (0 : Int32)), .val (.int (3 : Int32)), .val (.ref b1), .unset, .unset] [(.int (3 : Int32)), (.int (0 : Int32)), (.ref b1), (.int (0 : Int32)), (.ref x)]))
  obtain ⟨_, _, ⟨T2, L2, k2, n2⟩, -, X2, ⟨Lc2, hQ2, l2, y2, z2⟩, st2⟩ := Jvm.LawKit.callS X1 hx (y := mN17) hown (mvT hZ (gw hw 49 rfl)) (mvT hZ (gw hw 50 rfl)) (mvT hZ (gw hw 47 rfl)) (mvT hZ (gw hw 51 rfl)) (by decide) (backOf (W := 0) (rs_c5_3_2 l Z a0 hw [] x kx b1 k1 c0 c1 c2 h1 n0 Z0 V_x V_b1 g_b1 ne_x_b1 (by first | assumption | decide) (by first | assumption | decide) (by first | assumption | decide)) hZ (gw hw 51 rfl) (gw hw 47 rfl) (by decide) (by decide)) (g := (mkF m 9 #[.val (.ref x), .val (.int (0 : Int32)), .val (.int (3 : Int32)), .val (.ref b1), .unset, .unset] [(.int (3 : Int32)), (.int (0 : Int32)), (.ref b1), (.int (0 : Int32)), (.ref x)])) rfl (by rw [hml]; rfl) (argsL := [(.ref x), (.int (0 : Int32)), (.ref b1), (.int (0 : Int32)), (.int (3 : Int32))]) (rest := []) (lenOf own_pd11 rfl) rfl (w0 (Nat.le_of_eq rfl)) (hb hby d18_9) (fun _ _ => ⟨rfl, e1, (by decide : 1 + 0 ≤ _), (by decide : 3 + 0 ≤ _)⟩)
  dsimp only [Pt.U, Pt.locs, Pt.cells, Pt.slots] at X2 l2 y2 z2 st2 hQ2
  subst l2 y2 z2
  obtain ⟨rfl, N2q, K2, V_b1_2'⟩ := hQ2
  have N2 := Fr.app N0 N2q
  replace S__assertionsDisabled := own_staK S__assertionsDisabled K2 (allS (own_obA V_b1) all0)
  replace S_HI_BYTE_SHIFT := own_staK S_HI_BYTE_SHIFT K2 (allS (own_obA V_b1) all0)
  replace S_LO_BYTE_SHIFT := own_staK S_LO_BYTE_SHIFT K2 (allS (own_obA V_b1) all0)
  replace V_x := V_x.keep K2 (ninS ne_x_b1 nin0)
  replace KP := KP.trans K2 (allS (Or.inr sz_b1) all0)
  replace Z0 := Nat.le_trans Z0 K2.1
  have V_b1 := V_b1_2'
  refine Gs st2 ?_
  show Goes _ _ _ _ _ (T2.setTop (mkF m 12 #[.val (.ref x), .val (.int (0 : Int32)), .val (.int (3 : Int32)), .val (.ref b1), .unset, .unset] [(.int (2 : Int32))]))
  refine Gs (fun _ tk => XS.istore X2.here hx rfl (hb hby d18_12) rfl (l' := #[.val (.ref x), .val (.int (0 : Int32)), .val (.int (3 : Int32)), .val (.ref b1), .val (.int (2 : Int32)), .unset]) rfl tk) ?_
  refine Gs (fun _ tk => XS.iload X2.here hx rfl (hb hby d18_14) rfl tk) ?_
  refine Gs (fun _ tk => XS.iloadN X2.here hx rfl (hb hby d18_16) rfl tk) ?_
  refine Gs (fun _ tk => XS.icmpNo X2.here hx rfl (hb hby d18_17) rfl (feq (by decide : ¬ ((2 : Int32) = (3 : Int32)))).1 tk) ?_
  refine Gs (fun _ tk => XS.aloadN X2.here hx rfl (hb hby d18_20) rfl rfl tk) ?_
  refine Gs (fun _ tk => XS.iloadN X2.here hx rfl (hb hby d18_21) rfl tk) ?_
  show Goes _ _ _ _ _ (T2.setTop (mkF m 22 #[.val (.ref x), .val (.int (0 : Int32)), .val (.int (3 : Int32)), .val (.ref b1), .val (.int (2 : Int32)), .unset] [(.int (0 : Int32)), (.ref x)]))
  refine Gs (fun _ tk => XS.iloadN X2.here hx rfl (hb hby d18_22) rfl tk) ?_
  have ltc3_x : x < T2.heap.size := V_x.lt
  have ltc3_b1 : b1 < T2.heap.size := V_b1.lt
  have szs3 : h0.size ≤ T2.heap.size := KP.1
  obtain ⟨_, _, ⟨T3, L3, k3, n3⟩, -, X3, ⟨Lc3, hQ3, l3, y3, z3⟩, st3⟩ := Jvm.LawKit.callS X2 hx (y := mN16) hown (mvT hZ (gw hw 69 rfl)) (mvT hZ (gw hw 70 rfl)) (mvT hZ (gw hw 47 rfl)) (mvT hZ (gw hw 71 rfl)) (by decide) (backOf (W := 0) (rs_tb_3 l Z a0 hw [] x kx c0 c1 c2 T2.heap n0 Z0 V_x S__assertionsDisabled S_HI_BYTE_SHIFT S_LO_BYTE_SHIFT) hZ (gw hw 71 rfl) (gw hw 47 rfl) (by decide) (by decide)) (g := (mkF m 23 #[.val (.ref x), .val (.int (0 : Int32)), .val (.int (3 : Int32)), .val (.ref b1), .val (.int (2 : Int32)), .unset] [(.int (3 : Int32)), (.int (0 : Int32)), (.ref x)])) rfl (by rw [hml]; rfl) (argsL := [(.ref x), (.int (0 : Int32)), (.int (3 : Int32))]) (rest := []) (lenOf own_pd12 rfl) rfl (w0 (Nat.le_of_eq rfl)) (hb hby d18_23) (fun _ _ => ⟨rfl, rfl, (by decide : 1 + 1 ≤ _), (by decide : 3 + 6 ≤ _)⟩)
  dsimp only [Pt.U, Pt.locs, Pt.cells, Pt.slots] at X3 l3 y3 z3 st3 hQ3
  subst l3 y3 z3
  obtain ⟨y3, ky3, rfl, N3q, K3, V_y3_3', g_y3_3', sz_y3_3'⟩ := hQ3
  have N3 := Fr.app N2 N3q
  replace S__assertionsDisabled := own_staK S__assertionsDisabled K3 all0
  replace S_HI_BYTE_SHIFT := own_staK S_HI_BYTE_SHIFT K3 all0
  replace S_LO_BYTE_SHIFT := own_staK S_LO_BYTE_SHIFT K3 all0
  replace KP := KP.trans K3 all0
  replace Z0 := Nat.le_trans Z0 K3.1
  have V_y3 := V_y3_3'
  have g_y3 := g_y3_3'
  have szc_y3 := sz_y3_3'
  have ne_x_y3 : x ≠ y3 := Nat.ne_of_lt (Nat.lt_of_lt_of_le ltc3_x szc_y3)
  have ne_b1_y3 : b1 ≠ y3 := Nat.ne_of_lt (Nat.lt_of_lt_of_le ltc3_b1 szc_y3)
  have sz_y3 : h0.size ≤ y3 := Nat.le_trans szs3 szc_y3
  refine Gs st3 ?_
  show Goes _ _ _ _ _ (T3.setTop (mkF m 26 #[.val (.ref x), .val (.int (0 : Int32)), .val (.int (3 : Int32)), .val (.ref b1), .val (.int (2 : Int32)), .unset] [(.ref y3)]))
  refine Gs (fun _ tk => XS.astore X3.here hx rfl (hb hby d18_26) rfl rfl (l' := #[.val (.ref x), .val (.int (0 : Int32)), .val (.int (3 : Int32)), .val (.ref b1), .val (.int (2 : Int32)), .val (.ref y3)]) rfl tk) ?_
  refine Gs (fun _ tk => XS.aload X3.here hx rfl (hb hby d18_28) rfl rfl tk) ?_
  refine Gs (fun _ tk => XS.iload X3.here hx rfl (hb hby d18_30) rfl tk) ?_
  obtain ⟨_, _, ⟨T4, L4, k4, n4⟩, -, X4, ⟨Lc4, hQ4, l4, y4, z4⟩, st4⟩ := Jvm.LawKit.callS X3 hx (y := mN8) hown (mvT hZ (gw hw 85 rfl)) (mvT hZ (gw hw 86 rfl)) (mvT hZ (gw hw 47 rfl)) (mvT hZ (gw hw 87 rfl)) (by decide) (backOf (W := 0) (rs_gch l Z a0 hw [] y3 ky3 [c0, c1, c2] (2 : Int32) c2 T3.heap n0 Z0 V_y3 (by first | assumption | decide) (own_il 2 _ (by decide) (by simp) (Nat.le_of_ble_eq_true rfl)) rfl (Nat.le_of_ble_eq_true rfl) hC_c2 S__assertionsDisabled S_HI_BYTE_SHIFT S_LO_BYTE_SHIFT) hZ (gw hw 87 rfl) (gw hw 47 rfl) (by decide) (by decide)) (g := (mkF m 32 #[.val (.ref x), .val (.int (0 : Int32)), .val (.int (3 : Int32)), .val (.ref b1), .val (.int (2 : Int32)), .val (.ref y3)] [(.int (2 : Int32)), (.ref y3)])) rfl (by rw [hml]; rfl) (argsL := [(.ref y3), (.int (2 : Int32))]) (rest := []) (lenOf own_pd5 rfl) rfl (w0 (Nat.le_of_eq rfl)) (hb hby d18_32) (fun _ _ => ⟨rfl, rfl, (by decide : 2 + 0 ≤ _), (by decide : 9 + 0 ≤ _)⟩)
  dsimp only [Pt.U, Pt.locs, Pt.cells, Pt.slots] at X4 l4 y4 z4 st4 hQ4
  subst l4 y4 z4
  obtain ⟨rfl, N4q, e4⟩ := hQ4
  have N4 := Fr.app N3 N4q
  refine Gs st4 ?_
  show Goes _ _ _ _ _ (T4.setTop (mkF m 35 #[.val (.ref x), .val (.int (0 : Int32)), .val (.int (3 : Int32)), .val (.ref b1), .val (.int (2 : Int32)), .val (.ref y3)] [(.int c2)]))
  refine Gs (fun _ tk => XS.sipush X4.here hx rfl (hb hby d18_35) tk) ?_
  refine Gs (fun _ tk => XS.icmpYes X4.here hx rfl (pc0 := 38) (pc' := 54) rfl (hb hby d18_38) rfl (tlt hn_c2).2.2.1 (by decide) (by decide) tk) ?_
  refine Gs (fun _ tk => XS.aload X4.here hx rfl (hb hby d18_54) rfl rfl tk) ?_
  refine Goes.ret X4 (some (.ref y3)) (fun h => by rw [hret] at h; cases h) hlk (by decide) (by decide) ?_ (fun fs hr => ?_)
  · rw [e4]; exact ⟨y3, ky3, rfl, N4, KP, V_y3, g_y3, sz_y3⟩
  · exact own_retA X4 hx hret rfl rfl (hb hby d18_56) hr
theorem own_ef_rs_c5_3_3 (m : MethodId) (x0 : Addr) (x2 : Addr) : entryFrame m #[(.ref x0), (.int (0 : Int32)), (.ref x2), (.int (0 : Int32)), (.int (3 : Int32))] 7 = mkF m 0 #[.val (.ref x0), .val (.int (0 : Int32)), .val (.ref x2), .val (.int (0 : Int32)), .val (.int (3 : Int32)), .unset, .unset] [] := by first | (simp [entryFrame, mkF, argsToLocals, Value.category]; done) | rfl
def Q_rs_c5_3_3 (Z : State) (x : Addr) (kx : ClassId) (y : Addr) (ky : ClassId) (c0 : Int32) (c1 : Int32) (c2 : Int32) (h0 : Heap) (n0 : Nat) (v : Option Value) (h : Heap) (L : List Loc) : Prop := v = some (.int (3 : Int32)) ∧ Fr n0 L ∧ Keep h0 h [y] ∧ Arv Z h y ky .byte (3 : Int32) [(.int (lo8 c0)), (.int (lo8 c1)), (.int (lo8 c2))] (.int (0 : Int32))
set_option maxRecDepth 65536 in
set_option maxHeartbeats 40000000 in
theorem rs_c5_3_3 (l : Launch) (Z : State) (a0 : Array Value) (hw : ∀ d ∈ tables_1, d.before a0 Z = true) (ws : List Jvm.Cond) (x : Addr) (kx : ClassId) (y : Addr) (ky : ClassId) (c0 : Int32) (c1 : Int32) (c2 : Int32) (h0 : Heap) (n0 : Nat) (Z0 : n0 ≤ h0.size) (V_x : Arv Z h0 x kx .char (3 : Int32) [(.int c0), (.int c1), (.int c2)] (.int (0 : Int32))) (V_y : Arv Z h0 y ky .byte (3 : Int32) [(.int (0 : Int32)), (.int (0 : Int32)), (.int (0 : Int32))] (.int (0 : Int32))) (g_y : n0 ≤ y) (ne_x_y : x ≠ y) (hn_c0 : ¬ ((255 : Int32) < c0)) (hn_c1 : ¬ ((255 : Int32) < c1)) (hn_c2 : ¬ ((255 : Int32) < c2)) :
    Met l Z mN17 jdk_52_method_21_code 7 (some .int) ({ frames := 0, cells := 0, slots := 0, locals := 0 } : Room) ws #[(.ref x), (.int (0 : Int32)), (.ref y), (.int (0 : Int32)), (.int (3 : Int32))] h0 (Q_rs_c5_3_3 Z x kx y ky c0 c1 c2 h0 n0) := by
  refine own_met (plainFor_of_name own_pn3) ?_
  intro p e s m below meth c s₁ hret hx hby hlk hml hown hnm X0 e0 hZ hh
  have N0 := Fr.nil n0
  refine Gs (fun _ tk => castTop (own_ef_rs_c5_3_3 m x y) tk) ?_
  have KP : Keep h0 h0 [y] := Keep.refl _ _
  show Goes _ _ _ _ _ (s₁.setTop (mkF m 0 #[.val (.ref x), .val (.int (0 : Int32)), .val (.ref y), .val (.int (0 : Int32)), .val (.int (3 : Int32)), .unset, .unset] []))
  refine Gs (fun _ tk => XS.iconst X0.here hx rfl (hb hby d17_0) tk) ?_
  refine Gs (fun _ tk => XS.istore X0.here hx rfl (hb hby d17_1) rfl (l' := #[.val (.ref x), .val (.int (0 : Int32)), .val (.ref y), .val (.int (0 : Int32)), .val (.int (3 : Int32)), .val (.int (0 : Int32)), .unset]) rfl tk) ?_
  refine Gs (fun _ tk => XS.iload X0.here hx rfl (hb hby d17_3) rfl tk) ?_
  refine Gs (fun _ tk => XS.iload X0.here hx rfl (hb hby d17_5) rfl tk) ?_
  refine Gs (fun _ tk => XS.icmpNo X0.here hx rfl (hb hby d17_7) rfl (tlt (by decide : ((0 : Int32) < (3 : Int32)))).2.1 tk) ?_
  refine Gs (fun _ tk => XS.aloadN X0.here hx rfl (hb hby d17_10) rfl rfl tk) ?_
  show Goes _ _ _ _ _ (s₁.setTop (mkF m 11 #[.val (.ref x), .val (.int (0 : Int32)), .val (.ref y), .val (.int (0 : Int32)), .val (.int (3 : Int32)), .val (.int (0 : Int32)), .unset] [(.ref x)]))
  refine Gs (fun _ tk => XS.iloadN X0.here hx rfl (hb hby d17_11) rfl tk) ?_
  obtain ⟨cl1, Ar1, -, S1, N1z, H1, -⟩ := id V_x
  have hin1 : ¬ ((0 : Int32) < 0 ∨ cl1.slots.size ≤ ((0 : Int32)).toNatClampNeg) := inb_of S1 ⟨by decide, by decide⟩
  have hat1 : cl1.slots[((0 : Int32)).toNatClampNeg]? = some (.int c0) := Has.at H1 hin1 rfl
  refine Gs (fun _ tk => X0.caload hx (j := (0 : Int32)) (v := (.int c0)) (by rw [e0]; exact Ar1.1) (State.isArrayOf_alike hZ.alike Ar1.2.1) Ar1.2.2 hin1 hat1 (g := (mkF m 12 #[.val (.ref x), .val (.int (0 : Int32)), .val (.ref y), .val (.int (0 : Int32)), .val (.int (3 : Int32)), .val (.int (0 : Int32)), .unset] [(.int (0 : Int32)), (.ref x)])) rfl rfl (hb hby d17_12) _ tk) ?_
  show Goes _ _ _ _ _ (s₁.setTop (mkF m 13 #[.val (.ref x), .val (.int (0 : Int32)), .val (.ref y), .val (.int (0 : Int32)), .val (.int (3 : Int32)), .val (.int (0 : Int32)), .unset] [(.int c0)]))
  refine Gs (fun _ tk => XS.istore X0.here hx rfl (hb hby d17_13) rfl (l' := #[.val (.ref x), .val (.int (0 : Int32)), .val (.ref y), .val (.int (0 : Int32)), .val (.int (3 : Int32)), .val (.int (0 : Int32)), .val (.int c0)]) rfl tk) ?_
  refine Gs (fun _ tk => XS.iload X0.here hx rfl (hb hby d17_15) rfl tk) ?_
  refine Gs (fun _ tk => XS.sipush X0.here hx rfl (hb hby d17_17) tk) ?_
  refine Gs (fun _ tk => XS.icmpYes X0.here hx rfl (pc0 := 20) (pc' := 26) rfl (hb hby d17_20) rfl (flt hn_c0).2.2.2 (by decide) (by decide) tk) ?_
  refine Gs (fun _ tk => XS.aloadN X0.here hx rfl (hb hby d17_26) rfl rfl tk) ?_
  refine Gs (fun _ tk => XS.iloadN X0.here hx rfl (hb hby d17_27) rfl tk) ?_
  show Goes _ _ _ _ _ (s₁.setTop (mkF m 28 #[.val (.ref x), .val (.int (0 : Int32)), .val (.ref y), .val (.int (0 : Int32)), .val (.int (3 : Int32)), .val (.int (0 : Int32)), .val (.int c0)] [(.int (0 : Int32)), (.ref y)]))
  refine Gs (fun _ tk => XS.iload X0.here hx rfl (hb hby d17_28) rfl tk) ?_
  show Goes _ _ _ _ _ (s₁.setTop (mkF m 30 #[.val (.ref x), .val (.int (0 : Int32)), .val (.ref y), .val (.int (0 : Int32)), .val (.int (3 : Int32)), .val (.int (0 : Int32)), .val (.int c0)] [(.int c0), (.int (0 : Int32)), (.ref y)]))
  refine Gs (fun _ tk => XS.i2b X0.here hx rfl (hb hby d17_30) rfl tk) ?_
  show Goes _ _ _ _ _ (s₁.setTop (mkF m 31 #[.val (.ref x), .val (.int (0 : Int32)), .val (.ref y), .val (.int (0 : Int32)), .val (.int (3 : Int32)), .val (.int (0 : Int32)), .val (.int c0)] [(.int (c0.toInt8.toInt32)), (.int (0 : Int32)), (.ref y)]))
  obtain ⟨cl2, Ar2, q2, S2, N2z, H2, G2⟩ := V_y
  have hin2 : ¬ ((0 : Int32) < 0 ∨ cl2.slots.size ≤ ((0 : Int32)).toNatClampNeg) := inb_of S2 ⟨by decide, by decide⟩
  obtain ⟨T2, h2, X2, e2, W2, st2⟩ := stB X0 hx hZ e0 Ar2 (j := (0 : Int32)) hin2 (g := (mkF m 31 #[.val (.ref x), .val (.int (0 : Int32)), .val (.ref y), .val (.int (0 : Int32)), .val (.int (3 : Int32)), .val (.int (0 : Int32)), .val (.int c0)] [(.int (c0.toInt8.toInt32)), (.int (0 : Int32)), (.ref y)])) rfl rfl (hb hby d17_31)
  have Vn2 := Arv.set Ar2 q2 S2 N2z H2 G2 (fits_nar_byte _) W2 0 rfl (Nat.le_of_ble_eq_true rfl)
  have N2 := Fr.snoc X2 N0 g_y
  replace V_x := V_x.other W2 ne_x_y
  replace KP := KP.wr W2 (Or.inl (List.mem_of_getElem? (i := 0) rfl))
  have V_y : Arv Z h2 y ky .byte (3 : Int32) [(.int (lo8 c0)), (.int (0 : Int32)), (.int (0 : Int32))] (.int (0 : Int32)) := by have q := Vn2; rw [own_nb2] at q; exact q
  replace Z0 : n0 ≤ h2.size := by rw [W2.size]; exact Z0
  refine Gs st2 ?_
  show Goes _ _ _ _ _ (T2.setTop (mkF m 32 #[.val (.ref x), .val (.int (0 : Int32)), .val (.ref y), .val (.int (0 : Int32)), .val (.int (3 : Int32)), .val (.int (0 : Int32)), .val (.int c0)] []))
  refine Gs (fun _ tk => XS.iinc X2.here hx rfl (hb hby d17_32) rfl (l' := #[.val (.ref x), .val (.int ((0 : Int32) + (1 : Int32))), .val (.ref y), .val (.int (0 : Int32)), .val (.int (3 : Int32)), .val (.int (0 : Int32)), .val (.int c0)]) rfl tk) ?_
  rw [show ((0 : Int32) + (1 : Int32)) = (1 : Int32) from by decide]
  show Goes _ _ _ _ _ (T2.setTop (mkF m 35 #[.val (.ref x), .val (.int (1 : Int32)), .val (.ref y), .val (.int (0 : Int32)), .val (.int (3 : Int32)), .val (.int (0 : Int32)), .val (.int c0)] []))
  refine Gs (fun _ tk => XS.iinc X2.here hx rfl (hb hby d17_35) rfl (l' := #[.val (.ref x), .val (.int (1 : Int32)), .val (.ref y), .val (.int ((0 : Int32) + (1 : Int32))), .val (.int (3 : Int32)), .val (.int (0 : Int32)), .val (.int c0)]) rfl tk) ?_
  rw [show ((0 : Int32) + (1 : Int32)) = (1 : Int32) from by decide]
  show Goes _ _ _ _ _ (T2.setTop (mkF m 38 #[.val (.ref x), .val (.int (1 : Int32)), .val (.ref y), .val (.int (1 : Int32)), .val (.int (3 : Int32)), .val (.int (0 : Int32)), .val (.int c0)] []))
  refine Gs (fun _ tk => XS.iinc X2.here hx rfl (hb hby d17_38) rfl (l' := #[.val (.ref x), .val (.int (1 : Int32)), .val (.ref y), .val (.int (1 : Int32)), .val (.int (3 : Int32)), .val (.int ((0 : Int32) + (1 : Int32))), .val (.int c0)]) rfl tk) ?_
  rw [show ((0 : Int32) + (1 : Int32)) = (1 : Int32) from by decide]
  show Goes _ _ _ _ _ (T2.setTop (mkF m 41 #[.val (.ref x), .val (.int (1 : Int32)), .val (.ref y), .val (.int (1 : Int32)), .val (.int (3 : Int32)), .val (.int (1 : Int32)), .val (.int c0)] []))
  refine Gs (fun _ tk => XS.goto X2.here hx rfl (pc0 := 41) (pc' := 3) rfl (hb hby d17_41) (by decide) (by decide) tk) ?_
  refine Gs (fun _ tk => XS.iload X2.here hx rfl (hb hby d17_3) rfl tk) ?_
  refine Gs (fun _ tk => XS.iload X2.here hx rfl (hb hby d17_5) rfl tk) ?_
  refine Gs (fun _ tk => XS.icmpNo X2.here hx rfl (hb hby d17_7) rfl (tlt (by decide : ((1 : Int32) < (3 : Int32)))).2.1 tk) ?_
  refine Gs (fun _ tk => XS.aloadN X2.here hx rfl (hb hby d17_10) rfl rfl tk) ?_
  refine Gs (fun _ tk => XS.iloadN X2.here hx rfl (hb hby d17_11) rfl tk) ?_
  show Goes _ _ _ _ _ (T2.setTop (mkF m 12 #[.val (.ref x), .val (.int (1 : Int32)), .val (.ref y), .val (.int (1 : Int32)), .val (.int (3 : Int32)), .val (.int (1 : Int32)), .val (.int c0)] [(.int (1 : Int32)), (.ref x)]))
  obtain ⟨cl3, Ar3, -, S3, N3z, H3, -⟩ := id V_x
  have hin3 : ¬ ((1 : Int32) < 0 ∨ cl3.slots.size ≤ ((1 : Int32)).toNatClampNeg) := inb_of S3 ⟨by decide, by decide⟩
  have hat3 : cl3.slots[((1 : Int32)).toNatClampNeg]? = some (.int c1) := Has.at H3 hin3 rfl
  refine Gs (fun _ tk => X2.caload hx (j := (1 : Int32)) (v := (.int c1)) (by rw [e2]; exact Ar3.1) (State.isArrayOf_alike hZ.alike Ar3.2.1) Ar3.2.2 hin3 hat3 (g := (mkF m 12 #[.val (.ref x), .val (.int (1 : Int32)), .val (.ref y), .val (.int (1 : Int32)), .val (.int (3 : Int32)), .val (.int (1 : Int32)), .val (.int c0)] [(.int (1 : Int32)), (.ref x)])) rfl rfl (hb hby d17_12) _ tk) ?_
  show Goes _ _ _ _ _ (T2.setTop (mkF m 13 #[.val (.ref x), .val (.int (1 : Int32)), .val (.ref y), .val (.int (1 : Int32)), .val (.int (3 : Int32)), .val (.int (1 : Int32)), .val (.int c0)] [(.int c1)]))
  refine Gs (fun _ tk => XS.istore X2.here hx rfl (hb hby d17_13) rfl (l' := #[.val (.ref x), .val (.int (1 : Int32)), .val (.ref y), .val (.int (1 : Int32)), .val (.int (3 : Int32)), .val (.int (1 : Int32)), .val (.int c1)]) rfl tk) ?_
  refine Gs (fun _ tk => XS.iload X2.here hx rfl (hb hby d17_15) rfl tk) ?_
  refine Gs (fun _ tk => XS.sipush X2.here hx rfl (hb hby d17_17) tk) ?_
  refine Gs (fun _ tk => XS.icmpYes X2.here hx rfl (pc0 := 20) (pc' := 26) rfl (hb hby d17_20) rfl (flt hn_c1).2.2.2 (by decide) (by decide) tk) ?_
  refine Gs (fun _ tk => XS.aloadN X2.here hx rfl (hb hby d17_26) rfl rfl tk) ?_
  refine Gs (fun _ tk => XS.iloadN X2.here hx rfl (hb hby d17_27) rfl tk) ?_
  show Goes _ _ _ _ _ (T2.setTop (mkF m 28 #[.val (.ref x), .val (.int (1 : Int32)), .val (.ref y), .val (.int (1 : Int32)), .val (.int (3 : Int32)), .val (.int (1 : Int32)), .val (.int c1)] [(.int (1 : Int32)), (.ref y)]))
  refine Gs (fun _ tk => XS.iload X2.here hx rfl (hb hby d17_28) rfl tk) ?_
  show Goes _ _ _ _ _ (T2.setTop (mkF m 30 #[.val (.ref x), .val (.int (1 : Int32)), .val (.ref y), .val (.int (1 : Int32)), .val (.int (3 : Int32)), .val (.int (1 : Int32)), .val (.int c1)] [(.int c1), (.int (1 : Int32)), (.ref y)]))
  refine Gs (fun _ tk => XS.i2b X2.here hx rfl (hb hby d17_30) rfl tk) ?_
  show Goes _ _ _ _ _ (T2.setTop (mkF m 31 #[.val (.ref x), .val (.int (1 : Int32)), .val (.ref y), .val (.int (1 : Int32)), .val (.int (3 : Int32)), .val (.int (1 : Int32)), .val (.int c1)] [(.int (c1.toInt8.toInt32)), (.int (1 : Int32)), (.ref y)]))
  obtain ⟨cl4, Ar4, q4, S4, N4z, H4, G4⟩ := V_y
  have hin4 : ¬ ((1 : Int32) < 0 ∨ cl4.slots.size ≤ ((1 : Int32)).toNatClampNeg) := inb_of S4 ⟨by decide, by decide⟩
  obtain ⟨T4, h4, X4, e4, W4, st4⟩ := stB X2 hx hZ e2 Ar4 (j := (1 : Int32)) hin4 (g := (mkF m 31 #[.val (.ref x), .val (.int (1 : Int32)), .val (.ref y), .val (.int (1 : Int32)), .val (.int (3 : Int32)), .val (.int (1 : Int32)), .val (.int c1)] [(.int (c1.toInt8.toInt32)), (.int (1 : Int32)), (.ref y)])) rfl rfl (hb hby d17_31)
  have Vn4 := Arv.set Ar4 q4 S4 N4z H4 G4 (fits_nar_byte _) W4 1 rfl (Nat.le_of_ble_eq_true rfl)
  have N4 := Fr.snoc X4 N2 g_y
  replace V_x := V_x.other W4 ne_x_y
  replace KP := KP.wr W4 (Or.inl (List.mem_of_getElem? (i := 0) rfl))
  have V_y : Arv Z h4 y ky .byte (3 : Int32) [(.int (lo8 c0)), (.int (lo8 c1)), (.int (0 : Int32))] (.int (0 : Int32)) := by have q := Vn4; rw [own_nb2] at q; exact q
  replace Z0 : n0 ≤ h4.size := by rw [W4.size]; exact Z0
  refine Gs st4 ?_
  show Goes _ _ _ _ _ (T4.setTop (mkF m 32 #[.val (.ref x), .val (.int (1 : Int32)), .val (.ref y), .val (.int (1 : Int32)), .val (.int (3 : Int32)), .val (.int (1 : Int32)), .val (.int c1)] []))
  refine Gs (fun _ tk => XS.iinc X4.here hx rfl (hb hby d17_32) rfl (l' := #[.val (.ref x), .val (.int ((1 : Int32) + (1 : Int32))), .val (.ref y), .val (.int (1 : Int32)), .val (.int (3 : Int32)), .val (.int (1 : Int32)), .val (.int c1)]) rfl tk) ?_
  rw [show ((1 : Int32) + (1 : Int32)) = (2 : Int32) from by decide]
  show Goes _ _ _ _ _ (T4.setTop (mkF m 35 #[.val (.ref x), .val (.int (2 : Int32)), .val (.ref y), .val (.int (1 : Int32)), .val (.int (3 : Int32)), .val (.int (1 : Int32)), .val (.int c1)] []))
  refine Gs (fun _ tk => XS.iinc X4.here hx rfl (hb hby d17_35) rfl (l' := #[.val (.ref x), .val (.int (2 : Int32)), .val (.ref y), .val (.int ((1 : Int32) + (1 : Int32))), .val (.int (3 : Int32)), .val (.int (1 : Int32)), .val (.int c1)]) rfl tk) ?_
  rw [show ((1 : Int32) + (1 : Int32)) = (2 : Int32) from by decide]
  show Goes _ _ _ _ _ (T4.setTop (mkF m 38 #[.val (.ref x), .val (.int (2 : Int32)), .val (.ref y), .val (.int (2 : Int32)), .val (.int (3 : Int32)), .val (.int (1 : Int32)), .val (.int c1)] []))
  refine Gs (fun _ tk => XS.iinc X4.here hx rfl (hb hby d17_38) rfl (l' := #[.val (.ref x), .val (.int (2 : Int32)), .val (.ref y), .val (.int (2 : Int32)), .val (.int (3 : Int32)), .val (.int ((1 : Int32) + (1 : Int32))), .val (.int c1)]) rfl tk) ?_
  rw [show ((1 : Int32) + (1 : Int32)) = (2 : Int32) from by decide]
  show Goes _ _ _ _ _ (T4.setTop (mkF m 41 #[.val (.ref x), .val (.int (2 : Int32)), .val (.ref y), .val (.int (2 : Int32)), .val (.int (3 : Int32)), .val (.int (2 : Int32)), .val (.int c1)] []))
  refine Gs (fun _ tk => XS.goto X4.here hx rfl (pc0 := 41) (pc' := 3) rfl (hb hby d17_41) (by decide) (by decide) tk) ?_
  refine Gs (fun _ tk => XS.iload X4.here hx rfl (hb hby d17_3) rfl tk) ?_
  refine Gs (fun _ tk => XS.iload X4.here hx rfl (hb hby d17_5) rfl tk) ?_
  refine Gs (fun _ tk => XS.icmpNo X4.here hx rfl (hb hby d17_7) rfl (tlt (by decide : ((2 : Int32) < (3 : Int32)))).2.1 tk) ?_
  refine Gs (fun _ tk => XS.aloadN X4.here hx rfl (hb hby d17_10) rfl rfl tk) ?_
  refine Gs (fun _ tk => XS.iloadN X4.here hx rfl (hb hby d17_11) rfl tk) ?_
  show Goes _ _ _ _ _ (T4.setTop (mkF m 12 #[.val (.ref x), .val (.int (2 : Int32)), .val (.ref y), .val (.int (2 : Int32)), .val (.int (3 : Int32)), .val (.int (2 : Int32)), .val (.int c1)] [(.int (2 : Int32)), (.ref x)]))
  obtain ⟨cl5, Ar5, -, S5, N5z, H5, -⟩ := id V_x
  have hin5 : ¬ ((2 : Int32) < 0 ∨ cl5.slots.size ≤ ((2 : Int32)).toNatClampNeg) := inb_of S5 ⟨by decide, by decide⟩
  have hat5 : cl5.slots[((2 : Int32)).toNatClampNeg]? = some (.int c2) := Has.at H5 hin5 rfl
  refine Gs (fun _ tk => X4.caload hx (j := (2 : Int32)) (v := (.int c2)) (by rw [e4]; exact Ar5.1) (State.isArrayOf_alike hZ.alike Ar5.2.1) Ar5.2.2 hin5 hat5 (g := (mkF m 12 #[.val (.ref x), .val (.int (2 : Int32)), .val (.ref y), .val (.int (2 : Int32)), .val (.int (3 : Int32)), .val (.int (2 : Int32)), .val (.int c1)] [(.int (2 : Int32)), (.ref x)])) rfl rfl (hb hby d17_12) _ tk) ?_
  show Goes _ _ _ _ _ (T4.setTop (mkF m 13 #[.val (.ref x), .val (.int (2 : Int32)), .val (.ref y), .val (.int (2 : Int32)), .val (.int (3 : Int32)), .val (.int (2 : Int32)), .val (.int c1)] [(.int c2)]))
  refine Gs (fun _ tk => XS.istore X4.here hx rfl (hb hby d17_13) rfl (l' := #[.val (.ref x), .val (.int (2 : Int32)), .val (.ref y), .val (.int (2 : Int32)), .val (.int (3 : Int32)), .val (.int (2 : Int32)), .val (.int c2)]) rfl tk) ?_
  refine Gs (fun _ tk => XS.iload X4.here hx rfl (hb hby d17_15) rfl tk) ?_
  refine Gs (fun _ tk => XS.sipush X4.here hx rfl (hb hby d17_17) tk) ?_
  refine Gs (fun _ tk => XS.icmpYes X4.here hx rfl (pc0 := 20) (pc' := 26) rfl (hb hby d17_20) rfl (flt hn_c2).2.2.2 (by decide) (by decide) tk) ?_
  refine Gs (fun _ tk => XS.aloadN X4.here hx rfl (hb hby d17_26) rfl rfl tk) ?_
  refine Gs (fun _ tk => XS.iloadN X4.here hx rfl (hb hby d17_27) rfl tk) ?_
  show Goes _ _ _ _ _ (T4.setTop (mkF m 28 #[.val (.ref x), .val (.int (2 : Int32)), .val (.ref y), .val (.int (2 : Int32)), .val (.int (3 : Int32)), .val (.int (2 : Int32)), .val (.int c2)] [(.int (2 : Int32)), (.ref y)]))
  refine Gs (fun _ tk => XS.iload X4.here hx rfl (hb hby d17_28) rfl tk) ?_
  show Goes _ _ _ _ _ (T4.setTop (mkF m 30 #[.val (.ref x), .val (.int (2 : Int32)), .val (.ref y), .val (.int (2 : Int32)), .val (.int (3 : Int32)), .val (.int (2 : Int32)), .val (.int c2)] [(.int c2), (.int (2 : Int32)), (.ref y)]))
  refine Gs (fun _ tk => XS.i2b X4.here hx rfl (hb hby d17_30) rfl tk) ?_
  show Goes _ _ _ _ _ (T4.setTop (mkF m 31 #[.val (.ref x), .val (.int (2 : Int32)), .val (.ref y), .val (.int (2 : Int32)), .val (.int (3 : Int32)), .val (.int (2 : Int32)), .val (.int c2)] [(.int (c2.toInt8.toInt32)), (.int (2 : Int32)), (.ref y)]))
  obtain ⟨cl6, Ar6, q6, S6, N6z, H6, G6⟩ := V_y
  have hin6 : ¬ ((2 : Int32) < 0 ∨ cl6.slots.size ≤ ((2 : Int32)).toNatClampNeg) := inb_of S6 ⟨by decide, by decide⟩
  obtain ⟨T6, h6, X6, e6, W6, st6⟩ := stB X4 hx hZ e4 Ar6 (j := (2 : Int32)) hin6 (g := (mkF m 31 #[.val (.ref x), .val (.int (2 : Int32)), .val (.ref y), .val (.int (2 : Int32)), .val (.int (3 : Int32)), .val (.int (2 : Int32)), .val (.int c2)] [(.int (c2.toInt8.toInt32)), (.int (2 : Int32)), (.ref y)])) rfl rfl (hb hby d17_31)
  have Vn6 := Arv.set Ar6 q6 S6 N6z H6 G6 (fits_nar_byte _) W6 2 rfl (Nat.le_of_ble_eq_true rfl)
  have N6 := Fr.snoc X6 N4 g_y
  replace KP := KP.wr W6 (Or.inl (List.mem_of_getElem? (i := 0) rfl))
  have V_y : Arv Z h6 y ky .byte (3 : Int32) [(.int (lo8 c0)), (.int (lo8 c1)), (.int (lo8 c2))] (.int (0 : Int32)) := by have q := Vn6; rw [own_nb2] at q; exact q
  replace Z0 : n0 ≤ h6.size := by rw [W6.size]; exact Z0
  refine Gs st6 ?_
  show Goes _ _ _ _ _ (T6.setTop (mkF m 32 #[.val (.ref x), .val (.int (2 : Int32)), .val (.ref y), .val (.int (2 : Int32)), .val (.int (3 : Int32)), .val (.int (2 : Int32)), .val (.int c2)] []))
  refine Gs (fun _ tk => XS.iinc X6.here hx rfl (hb hby d17_32) rfl (l' := #[.val (.ref x), .val (.int ((2 : Int32) + (1 : Int32))), .val (.ref y), .val (.int (2 : Int32)), .val (.int (3 : Int32)), .val (.int (2 : Int32)), .val (.int c2)]) rfl tk) ?_
  rw [show ((2 : Int32) + (1 : Int32)) = (3 : Int32) from by decide]
  show Goes _ _ _ _ _ (T6.setTop (mkF m 35 #[.val (.ref x), .val (.int (3 : Int32)), .val (.ref y), .val (.int (2 : Int32)), .val (.int (3 : Int32)), .val (.int (2 : Int32)), .val (.int c2)] []))
  refine Gs (fun _ tk => XS.iinc X6.here hx rfl (hb hby d17_35) rfl (l' := #[.val (.ref x), .val (.int (3 : Int32)), .val (.ref y), .val (.int ((2 : Int32) + (1 : Int32))), .val (.int (3 : Int32)), .val (.int (2 : Int32)), .val (.int c2)]) rfl tk) ?_
  rw [show ((2 : Int32) + (1 : Int32)) = (3 : Int32) from by decide]
  show Goes _ _ _ _ _ (T6.setTop (mkF m 38 #[.val (.ref x), .val (.int (3 : Int32)), .val (.ref y), .val (.int (3 : Int32)), .val (.int (3 : Int32)), .val (.int (2 : Int32)), .val (.int c2)] []))
  refine Gs (fun _ tk => XS.iinc X6.here hx rfl (hb hby d17_38) rfl (l' := #[.val (.ref x), .val (.int (3 : Int32)), .val (.ref y), .val (.int (3 : Int32)), .val (.int (3 : Int32)), .val (.int ((2 : Int32) + (1 : Int32))), .val (.int c2)]) rfl tk) ?_
  rw [show ((2 : Int32) + (1 : Int32)) = (3 : Int32) from by decide]
  show Goes _ _ _ _ _ (T6.setTop (mkF m 41 #[.val (.ref x), .val (.int (3 : Int32)), .val (.ref y), .val (.int (3 : Int32)), .val (.int (3 : Int32)), .val (.int (3 : Int32)), .val (.int c2)] []))
  refine Gs (fun _ tk => XS.goto X6.here hx rfl (pc0 := 41) (pc' := 3) rfl (hb hby d17_41) (by decide) (by decide) tk) ?_
  refine Gs (fun _ tk => XS.iload X6.here hx rfl (hb hby d17_3) rfl tk) ?_
  refine Gs (fun _ tk => XS.iload X6.here hx rfl (hb hby d17_5) rfl tk) ?_
  refine Gs (fun _ tk => XS.icmpYes X6.here hx rfl (pc0 := 7) (pc' := 44) rfl (hb hby d17_7) rfl (flt (by decide : ¬ ((3 : Int32) < (3 : Int32)))).2.1 (by decide) (by decide) tk) ?_
  refine Gs (fun _ tk => XS.iload X6.here hx rfl (hb hby d17_44) rfl tk) ?_
  refine Goes.ret X6 (some (.int (3 : Int32))) (fun h => by rw [hret] at h; cases h) hlk (by decide) (by decide) ?_ (fun fs hr => ?_)
  · rw [e6]; exact ⟨rfl, N6, KP, V_y⟩
  · exact retI X6 hx hret (hb hby d17_46) hr
theorem own_ef_rs_c3_3_3 (m : MethodId) (x0 : Addr) : entryFrame m #[(.ref x0), (.int (0 : Int32)), (.int (3 : Int32))] 6 = mkF m 0 #[.val (.ref x0), .val (.int (0 : Int32)), .val (.int (3 : Int32)), .unset, .unset, .unset] [] := by first | (simp [entryFrame, mkF, argsToLocals, Value.category]; done) | rfl
def Q_rs_c3_3_3 (Z : State) (x : Addr) (kx : ClassId) (c0 : Int32) (c1 : Int32) (c2 : Int32) (h0 : Heap) (n0 : Nat) (v : Option Value) (h : Heap) (L : List Loc) : Prop := ∃ y : Addr, ∃ ky : ClassId, v = some (.ref y) ∧ Fr n0 L ∧ Keep h0 h [] ∧ Arv Z h y ky .byte (3 : Int32) [(.int (lo8 c0)), (.int (lo8 c1)), (.int (lo8 c2))] (.int (0 : Int32)) ∧ n0 ≤ y ∧ h0.size ≤ y
set_option maxRecDepth 65536 in
set_option maxHeartbeats 40000000 in
theorem rs_c3_3_3 (l : Launch) (Z : State) (a0 : Array Value) (hw : ∀ d ∈ tables_1, d.before a0 Z = true) (ws : List Jvm.Cond) (x : Addr) (kx : ClassId) (c0 : Int32) (c1 : Int32) (c2 : Int32) (h0 : Heap) (n0 : Nat) (Z0 : n0 ≤ h0.size) (V_x : Arv Z h0 x kx .char (3 : Int32) [(.int c0), (.int c1), (.int c2)] (.int (0 : Int32))) (hn_c0 : ¬ ((255 : Int32) < c0)) (hn_c1 : ¬ ((255 : Int32) < c1)) (hn_c2 : ¬ ((255 : Int32) < c2)) :
    Met l Z mN18 jdk_52_method_16_code 6 (some (.array .byte)) ({ frames := 1, cells := 1, slots := 3, locals := 18 } : Room) ws #[(.ref x), (.int (0 : Int32)), (.int (3 : Int32))] h0 (Q_rs_c3_3_3 Z x kx c0 c1 c2 h0 n0) := by
  refine own_met (plainFor_of_name own_pn3) ?_
  intro p e s m below meth c s₁ hret hx hby hlk hml hown hnm X0 e0 hZ hh
  have N0 := Fr.nil n0
  refine Gs (fun _ tk => castTop (own_ef_rs_c3_3_3 m x) tk) ?_
  have KP : Keep h0 h0 [] := Keep.refl _ _
  show Goes _ _ _ _ _ (s₁.setTop (mkF m 0 #[.val (.ref x), .val (.int (0 : Int32)), .val (.int (3 : Int32)), .unset, .unset, .unset] []))
  refine Gs (fun _ tk => XS.iloadN X0.here hx rfl (hb hby d18_0) rfl tk) ?_
  obtain ⟨T1, h1, k1, X1, e1, E1, A1, st1⟩ := newP X0 hx hZ (gw hw 20 rfl) e0 (g := (mkF m 1 #[.val (.ref x), .val (.int (0 : Int32)), .val (.int (3 : Int32)), .unset, .unset, .unset] [(.int (3 : Int32))])) rfl (hb hby d18_1) rfl (by decide) (cap := 3) (by decide) (by decide) (by decide) (by decide)
  obtain ⟨b1, gq1⟩ : ∃ z, z = h0.size := ⟨_, rfl⟩
  rw [← gq1] at A1 st1
  have g_b1 : n0 ≤ b1 := by rw [gq1]; exact Z0
  have sz_b1 : h0.size ≤ b1 := by rw [gq1]; exact KP.1
  have ne_x_b1 : x ≠ b1 := by rw [gq1]; exact Nat.ne_of_lt V_x.lt
  replace V_x := V_x.ext E1
  replace KP := KP.ext E1
  replace Z0 : n0 ≤ h1.size := Nat.le_trans Z0 E1.1
  have V_b1 : Arv Z h1 b1 k1 .byte (3 : Int32) [(.int (0 : Int32)), (.int (0 : Int32)), (.int (0 : Int32))] (.int (0 : Int32)) := (Arv.new A1 (by decide)).pad (pad_rep [] (.int (0 : Int32)) 3)
  refine Gs st1 ?_
  show Goes _ _ _ _ _ (T1.setTop (mkF m 3 #[.val (.ref x), .val (.int (0 : Int32)), .val (.int (3 : Int32)), .unset, .unset, .unset] [(.ref b1)]))
  refine Gs (fun _ tk => XS.astoreN X1.here hx rfl (hb hby d18_3) rfl rfl (l' := #[.val (.ref x), .val (.int (0 : Int32)), .val (.int (3 : Int32)), .val (.ref b1), .unset, .unset]) rfl tk) ?_
  refine Gs (fun _ tk => XS.aloadN X1.here hx rfl (hb hby d18_4) rfl rfl tk) ?_
  refine Gs (fun _ tk => XS.iloadN X1.here hx rfl (hb hby d18_5) rfl tk) ?_
  refine Gs (fun _ tk => XS.aloadN X1.here hx rfl (hb hby d18_6) rfl rfl tk) ?_
  refine Gs (fun _ tk => XS.iconst X1.here hx rfl (hb hby d18_7) tk) ?_
  refine Gs (fun _ tk => XS.iloadN X1.here hx rfl (hb hby d18_8) rfl tk) ?_
  show Goes _ _ _ _ _ (T1.setTop (mkF m 9 #[.val (.ref x), .val (.int (0 : Int32)), .val (.int (3 : Int32)), .val (.ref b1), .unset, .unset] [(.int (3 : Int32)), (.int (0 : Int32)), (.ref b1), (.int (0 : Int32)), (.ref x)]))
  obtain ⟨_, _, ⟨T2, L2, k2, n2⟩, -, X2, ⟨Lc2, hQ2, l2, y2, z2⟩, st2⟩ := Jvm.LawKit.callS X1 hx (y := mN17) hown (mvT hZ (gw hw 49 rfl)) (mvT hZ (gw hw 50 rfl)) (mvT hZ (gw hw 47 rfl)) (mvT hZ (gw hw 51 rfl)) (by decide) (backOf (W := 0) (rs_c5_3_3 l Z a0 hw [] x kx b1 k1 c0 c1 c2 h1 n0 Z0 V_x V_b1 g_b1 ne_x_b1 (by first | assumption | decide) (by first | assumption | decide) (by first | assumption | decide)) hZ (gw hw 51 rfl) (gw hw 47 rfl) (by decide) (by decide)) (g := (mkF m 9 #[.val (.ref x), .val (.int (0 : Int32)), .val (.int (3 : Int32)), .val (.ref b1), .unset, .unset] [(.int (3 : Int32)), (.int (0 : Int32)), (.ref b1), (.int (0 : Int32)), (.ref x)])) rfl (by rw [hml]; rfl) (argsL := [(.ref x), (.int (0 : Int32)), (.ref b1), (.int (0 : Int32)), (.int (3 : Int32))]) (rest := []) (lenOf own_pd11 rfl) rfl (w0 (Nat.le_of_eq rfl)) (hb hby d18_9) (fun _ _ => ⟨rfl, e1, (by decide : 1 + 0 ≤ _), (by decide : 3 + 0 ≤ _)⟩)
  dsimp only [Pt.U, Pt.locs, Pt.cells, Pt.slots] at X2 l2 y2 z2 st2 hQ2
  subst l2 y2 z2
  obtain ⟨rfl, N2q, K2, V_b1_2'⟩ := hQ2
  have N2 := Fr.app N0 N2q
  replace KP := KP.trans K2 (allS (Or.inr sz_b1) all0)
  replace Z0 := Nat.le_trans Z0 K2.1
  have V_b1 := V_b1_2'
  refine Gs st2 ?_
  show Goes _ _ _ _ _ (T2.setTop (mkF m 12 #[.val (.ref x), .val (.int (0 : Int32)), .val (.int (3 : Int32)), .val (.ref b1), .unset, .unset] [(.int (3 : Int32))]))
  refine Gs (fun _ tk => XS.istore X2.here hx rfl (hb hby d18_12) rfl (l' := #[.val (.ref x), .val (.int (0 : Int32)), .val (.int (3 : Int32)), .val (.ref b1), .val (.int (3 : Int32)), .unset]) rfl tk) ?_
  refine Gs (fun _ tk => XS.iload X2.here hx rfl (hb hby d18_14) rfl tk) ?_
  refine Gs (fun _ tk => XS.iloadN X2.here hx rfl (hb hby d18_16) rfl tk) ?_
  refine Gs (fun _ tk => XS.icmpYes X2.here hx rfl (pc0 := 17) (pc' := 57) rfl (hb hby d18_17) rfl (teq (by decide : ((3 : Int32) = (3 : Int32)))).1 (by decide) (by decide) tk) ?_
  refine Gs (fun _ tk => XS.aloadN X2.here hx rfl (hb hby d18_57) rfl rfl tk) ?_
  refine Goes.ret X2 (some (.ref b1)) (fun h => by rw [hret] at h; cases h) hlk (by decide) (by decide) ?_ (fun fs hr => ?_)
  · exact ⟨b1, k1, rfl, N2, KP, V_b1, g_b1, sz_b1⟩
  · exact own_retA X2 hx hret rfl rfl (hb hby d18_58) hr
theorem own_ef_rs_cf_3_3 (m : MethodId) (x0 : Addr) : entryFrame m #[(.ref x0), (.int (3 : Int32))] 2 = mkF m 0 #[.val (.ref x0), .val (.int (3 : Int32))] [] := by first | (simp [entryFrame, mkF, argsToLocals, Value.category]; done) | rfl
def Q_rs_cf_3_3 (Z : State) (y : Addr) (ky : ClassId) (vs : List Value) (h0 : Heap) (n0 : Nat) (v : Option Value) (h : Heap) (L : List Loc) : Prop := v = some (.int (0 : Int32)) ∧ Fr n0 L ∧ h = h0
set_option maxRecDepth 65536 in
set_option maxHeartbeats 40000000 in
theorem rs_cf_3_3 (l : Launch) (Z : State) (a0 : Array Value) (hw : ∀ d ∈ tables_1, d.before a0 Z = true) (ws : List Jvm.Cond) (y : Addr) (ky : ClassId) (vs : List Value) (h0 : Heap) (n0 : Nat) (Z0 : n0 ≤ h0.size) (V_y : Arv Z h0 y ky .byte (3 : Int32) vs (.int (0 : Int32))) :
    Met l Z mN19 jdk_52_method_15_code 2 (some .byte) ({ frames := 0, cells := 0, slots := 0, locals := 0 } : Room) ws #[(.ref y), (.int (3 : Int32))] h0 (Q_rs_cf_3_3 Z y ky vs h0 n0) := by
  refine own_met (plainFor_of_name own_pn3) ?_
  intro p e s m below meth c s₁ hret hx hby hlk hml hown hnm X0 e0 hZ hh
  have N0 := Fr.nil n0
  refine Gs (fun _ tk => castTop (own_ef_rs_cf_3_3 m y) tk) ?_
  show Goes _ _ _ _ _ (s₁.setTop (mkF m 0 #[.val (.ref y), .val (.int (3 : Int32))] []))
  refine Gs (fun _ tk => XS.iloadN X0.here hx rfl (hb hby d19_0) rfl tk) ?_
  refine Gs (fun _ tk => XS.aloadN X0.here hx rfl (hb hby d19_1) rfl rfl tk) ?_
  obtain ⟨cl1, Ar1, -, S1, N1z, -, -⟩ := id V_y
  refine Gs (fun _ tk => X0.arraylength hx (by rw [e0]; exact Ar1.1) (State.isArrayOf_alike hZ.alike Ar1.2.1) (g := (mkF m 2 #[.val (.ref y), .val (.int (3 : Int32))] [(.ref y), (.int (3 : Int32))])) rfl rfl (hb hby d19_2) _ tk) ?_
  rw [len_of S1 N1z]
  show Goes _ _ _ _ _ (s₁.setTop (mkF m 3 #[.val (.ref y), .val (.int (3 : Int32))] [(.int (3 : Int32)), (.int (3 : Int32))]))
  refine Gs (fun _ tk => XS.isub X0.here hx rfl (hb hby d19_3) rfl tk) ?_
  rw [show ((3 : Int32) - (3 : Int32)) = (0 : Int32) from by decide]
  show Goes _ _ _ _ _ (s₁.setTop (mkF m 4 #[.val (.ref y), .val (.int (3 : Int32))] [(.int (0 : Int32))]))
  refine Gs (fun _ tk => XS.bipush X0.here hx rfl (hb hby d19_4) tk) ?_
  show Goes _ _ _ _ _ (s₁.setTop (mkF m 6 #[.val (.ref y), .val (.int (3 : Int32))] [(.int (31 : Int32)), (.int (0 : Int32))]))
  refine Gs (fun _ tk => XS.iushr X0.here hx rfl (hb hby d19_6) rfl tk) ?_
  rw [show (((0 : Int32).toUInt32 >>> ((31 : Int32) &&& 31).toUInt32).toInt32) = (0 : Int32) from by decide]
  show Goes _ _ _ _ _ (s₁.setTop (mkF m 7 #[.val (.ref y), .val (.int (3 : Int32))] [(.int (0 : Int32))]))
  refine Gs (fun _ tk => XS.i2b X0.here hx rfl (hb hby d19_7) rfl tk) ?_
  rw [show ((0 : Int32).toInt8.toInt32) = (0 : Int32) from by decide]
  show Goes _ _ _ _ _ (s₁.setTop (mkF m 8 #[.val (.ref y), .val (.int (3 : Int32))] [(.int (0 : Int32))]))
  refine Goes.ret X0 (some (.int (0 : Int32))) (fun h => by rw [hret] at h; cases h) hlk (by decide) (by decide) ?_ (fun fs hr => ?_)
  · exact ⟨rfl, N0, e0⟩
  · exact own_retN X0 hx (t := .byte) hret (by simp) rfl (hb hby d19_8) hr
theorem own_ef_rs_cf_3_6 (m : MethodId) (x0 : Addr) : entryFrame m #[(.ref x0), (.int (3 : Int32))] 2 = mkF m 0 #[.val (.ref x0), .val (.int (3 : Int32))] [] := by first | (simp [entryFrame, mkF, argsToLocals, Value.category]; done) | rfl
def Q_rs_cf_3_6 (Z : State) (y : Addr) (ky : ClassId) (vs : List Value) (h0 : Heap) (n0 : Nat) (v : Option Value) (h : Heap) (L : List Loc) : Prop := v = some (.int (1 : Int32)) ∧ Fr n0 L ∧ h = h0
set_option maxRecDepth 65536 in
set_option maxHeartbeats 40000000 in
theorem rs_cf_3_6 (l : Launch) (Z : State) (a0 : Array Value) (hw : ∀ d ∈ tables_1, d.before a0 Z = true) (ws : List Jvm.Cond) (y : Addr) (ky : ClassId) (vs : List Value) (h0 : Heap) (n0 : Nat) (Z0 : n0 ≤ h0.size) (V_y : Arv Z h0 y ky .byte (6 : Int32) vs (.int (0 : Int32))) :
    Met l Z mN19 jdk_52_method_15_code 2 (some .byte) ({ frames := 0, cells := 0, slots := 0, locals := 0 } : Room) ws #[(.ref y), (.int (3 : Int32))] h0 (Q_rs_cf_3_6 Z y ky vs h0 n0) := by
  refine own_met (plainFor_of_name own_pn3) ?_
  intro p e s m below meth c s₁ hret hx hby hlk hml hown hnm X0 e0 hZ hh
  have N0 := Fr.nil n0
  refine Gs (fun _ tk => castTop (own_ef_rs_cf_3_6 m y) tk) ?_
  show Goes _ _ _ _ _ (s₁.setTop (mkF m 0 #[.val (.ref y), .val (.int (3 : Int32))] []))
  refine Gs (fun _ tk => XS.iloadN X0.here hx rfl (hb hby d19_0) rfl tk) ?_
  refine Gs (fun _ tk => XS.aloadN X0.here hx rfl (hb hby d19_1) rfl rfl tk) ?_
  obtain ⟨cl1, Ar1, -, S1, N1z, -, -⟩ := id V_y
  refine Gs (fun _ tk => X0.arraylength hx (by rw [e0]; exact Ar1.1) (State.isArrayOf_alike hZ.alike Ar1.2.1) (g := (mkF m 2 #[.val (.ref y), .val (.int (3 : Int32))] [(.ref y), (.int (3 : Int32))])) rfl rfl (hb hby d19_2) _ tk) ?_
  rw [len_of S1 N1z]
  show Goes _ _ _ _ _ (s₁.setTop (mkF m 3 #[.val (.ref y), .val (.int (3 : Int32))] [(.int (6 : Int32)), (.int (3 : Int32))]))
  refine Gs (fun _ tk => XS.isub X0.here hx rfl (hb hby d19_3) rfl tk) ?_
  rw [show ((3 : Int32) - (6 : Int32)) = (-3 : Int32) from by decide]
  show Goes _ _ _ _ _ (s₁.setTop (mkF m 4 #[.val (.ref y), .val (.int (3 : Int32))] [(.int (-3 : Int32))]))
  refine Gs (fun _ tk => XS.bipush X0.here hx rfl (hb hby d19_4) tk) ?_
  show Goes _ _ _ _ _ (s₁.setTop (mkF m 6 #[.val (.ref y), .val (.int (3 : Int32))] [(.int (31 : Int32)), (.int (-3 : Int32))]))
  refine Gs (fun _ tk => XS.iushr X0.here hx rfl (hb hby d19_6) rfl tk) ?_
  rw [show (((-3 : Int32).toUInt32 >>> ((31 : Int32) &&& 31).toUInt32).toInt32) = (1 : Int32) from by decide]
  show Goes _ _ _ _ _ (s₁.setTop (mkF m 7 #[.val (.ref y), .val (.int (3 : Int32))] [(.int (1 : Int32))]))
  refine Gs (fun _ tk => XS.i2b X0.here hx rfl (hb hby d19_7) rfl tk) ?_
  rw [show ((1 : Int32).toInt8.toInt32) = (1 : Int32) from by decide]
  show Goes _ _ _ _ _ (s₁.setTop (mkF m 8 #[.val (.ref y), .val (.int (3 : Int32))] [(.int (1 : Int32))]))
  refine Goes.ret X0 (some (.int (1 : Int32))) (fun h => by rw [hret] at h; cases h) hlk (by decide) (by decide) ?_ (fun fs hr => ?_)
  · exact ⟨rfl, N0, e0⟩
  · exact own_retN X0 hx (t := .byte) hret (by simp) rfl (hb hby d19_8) hr
theorem own_ef_rs_i4_3 (m : MethodId) (x0 : Addr) (x1 : Addr) : entryFrame m #[(.ref x0), (.ref x1), (.int (0 : Int32)), (.int (3 : Int32)), .null] 6 = mkF m 0 #[.val (.ref x0), .val (.ref x1), .val (.int (0 : Int32)), .val (.int (3 : Int32)), .val .null, .unset] [] := by first | (simp [entryFrame, mkF, argsToLocals, Value.category]; done) | rfl
def Q_rs_i4_3 (Z : State) (a : Addr) (x : Addr) (kx : ClassId) (c0 : Int32) (c1 : Int32) (c2 : Int32) (cz : Int32) (h0 : Heap) (n0 : Nat) (v : Option Value) (h : Heap) (L : List Loc) : Prop := v = none ∧ Fr n0 L ∧ Keep h0 h [a] ∧ StrOf Z h a [c0, c1, c2]
set_option maxRecDepth 65536 in
set_option maxHeartbeats 40000000 in
theorem rs_i4_3 (l : Launch) (Z : State) (a0 : Array Value) (hw : ∀ d ∈ tables_1, d.before a0 Z = true) (ws : List Jvm.Cond) (a : Addr) (x : Addr) (kx : ClassId) (c0 : Int32) (c1 : Int32) (c2 : Int32) (cz : Int32) (h0 : Heap) (n0 : Nat) (Z0 : n0 ≤ h0.size) (A_a : Exa Z h0 a "java/lang/String") (F_value_a : Fld Z h0 a "java/lang/String" "value" "[B" .null) (F_coder_a : Fld Z h0 a "java/lang/String" "coder" "B" (.int (0 : Int32))) (V_x : Arv Z h0 x kx .char (3 : Int32) [(.int c0), (.int c1), (.int c2)] (.int (0 : Int32))) (g_a : n0 ≤ a) (ne_x_a : x ≠ a) (S_COMPACT_STRINGS : Sta Z h0 "java/lang/String" "COMPACT_STRINGS" "Z" (.int cz)) (hcz : ¬ (cz = (0 : Int32))) (hC_c0 : Chr c0) (hC_c1 : Chr c1) (hC_c2 : Chr c2) (S__assertionsDisabled : Sta Z h0 "java/lang/StringUTF16" "$assertionsDisabled" "Z" (.int (1 : Int32))) (S_HI_BYTE_SHIFT : Sta Z h0 "java/lang/StringUTF16" "HI_BYTE_SHIFT" "I" (.int (0 : Int32))) (S_LO_BYTE_SHIFT : Sta Z h0 "java/lang/StringUTF16" "LO_BYTE_SHIFT" "I" (.int (8 : Int32))) :
    Met l Z mN11 jdk_42_method_149_code 6 none ({ frames := 4, cells := 2, slots := 9, locals := 57 } : Room) ws #[(.ref a), (.ref x), (.int (0 : Int32)), (.int (3 : Int32)), .null] h0 (Q_rs_i4_3 Z a x kx c0 c1 c2 cz h0 n0) := by
  refine own_met (plainFor_of_name own_pn0) ?_
  intro p e s m below meth c s₁ hret hx hby hlk hml hown hnm X0 e0 hZ hh
  have N0 := Fr.nil n0
  refine Gs (fun _ tk => castTop (own_ef_rs_i4_3 m a x) tk) ?_
  have KP : Keep h0 h0 [a] := Keep.refl _ _
  show Goes _ _ _ _ _ (s₁.setTop (mkF m 0 #[.val (.ref a), .val (.ref x), .val (.int (0 : Int32)), .val (.int (3 : Int32)), .val .null, .unset] []))
  by_cases hn_c0 : (255 : Int32) < c0
  · show Goes _ _ _ _ _ (s₁.setTop (mkF m 0 #[.val (.ref a), .val (.ref x), .val (.int (0 : Int32)), .val (.int (3 : Int32)), .val .null, .unset] []))
    refine Gs (fun _ tk => XS.aloadN X0.here hx rfl (hb hby d11_0) rfl rfl tk) ?_
    obtain ⟨T1, X1, e1, st1⟩ := initO X0 hx hZ hown (gw hw 16 rfl) (gw hw 17 rfl) (gw hw 18 rfl) e0 (g := (mkF m 1 #[.val (.ref a), .val (.ref x), .val (.int (0 : Int32)), .val (.int (3 : Int32)), .val .null, .unset] [(.ref a)])) rfl (by rw [hml]; rfl) rfl (hb hby d11_1) (by decide) (W := 0) (w0 (Nat.le_of_eq rfl)) (by decide)
    refine Gs st1 ?_
    show Goes _ _ _ _ _ (T1.setTop (mkF m 4 #[.val (.ref a), .val (.ref x), .val (.int (0 : Int32)), .val (.int (3 : Int32)), .val .null, .unset] []))
    refine Gs (fun _ tk => XS.iloadN X1.here hx rfl (hb hby d11_4) rfl tk) ?_
    refine Gs (fun _ tk => XS.ifYes X1.here hx rfl (pc0 := 5) (pc' := 27) rfl (hb hby d11_5) rfl ((if0 _ _).trans (feq (by decide : ¬ ((3 : Int32) = (0 : Int32)))).2) (by decide) (by decide) tk) ?_
    obtain ⟨T2, X2, e2, st2⟩ := getS2 X1 hx hZ hown (host := "") (Or.inl (gw hw 41 rfl)) Via.refl e1 S_COMPACT_STRINGS (g := (mkF m 27 #[.val (.ref a), .val (.ref x), .val (.int (0 : Int32)), .val (.int (3 : Int32)), .val .null, .unset] [])) rfl (hb hby d11_27)
    refine Gs st2 ?_
    show Goes _ _ _ _ _ (T2.setTop (mkF m 30 #[.val (.ref a), .val (.ref x), .val (.int (0 : Int32)), .val (.int (3 : Int32)), .val .null, .unset] [(.int cz)]))
    refine Gs (fun _ tk => XS.ifNo X2.here hx rfl (hb hby d11_30) rfl ((if0 _ _).trans (feq hcz).1) tk) ?_
    refine Gs (fun _ tk => XS.aloadN X2.here hx rfl (hb hby d11_33) rfl rfl tk) ?_
    refine Gs (fun _ tk => XS.iloadN X2.here hx rfl (hb hby d11_34) rfl tk) ?_
    refine Gs (fun _ tk => XS.iloadN X2.here hx rfl (hb hby d11_35) rfl tk) ?_
    have ltc3_a : a < h0.size := A_a.lt
    have ltc3_x : x < h0.size := V_x.lt
    obtain ⟨_, _, ⟨T3, L3, k3, n3⟩, -, X3, ⟨Lc3, hQ3, l3, y3, z3⟩, st3⟩ := Jvm.LawKit.callS X2 hx (y := mN18) hown (mvT hZ (gw hw 45 rfl)) (mvT hZ (gw hw 46 rfl)) (mvT hZ (gw hw 47 rfl)) (mvT hZ (gw hw 48 rfl)) (by decide) (backOf (W := 0) (rs_c3_3_0 l Z a0 hw [] x kx c0 c1 c2 h0 n0 Z0 V_x (by first | assumption | decide) (by first | assumption | decide) (by first | assumption | decide) (by first | assumption | decide) S__assertionsDisabled S_HI_BYTE_SHIFT S_LO_BYTE_SHIFT) hZ (gw hw 48 rfl) (gw hw 47 rfl) (by decide) (by decide)) (g := (mkF m 36 #[.val (.ref a), .val (.ref x), .val (.int (0 : Int32)), .val (.int (3 : Int32)), .val .null, .unset] [(.int (3 : Int32)), (.int (0 : Int32)), (.ref x)])) rfl (by rw [hml]; rfl) (argsL := [(.ref x), (.int (0 : Int32)), (.int (3 : Int32))]) (rest := []) (lenOf own_pd12 rfl) rfl (w0 (Nat.le_of_eq rfl)) (hb hby d11_36) (fun _ _ => ⟨rfl, e2, (by decide : 0 + 2 ≤ _), (by decide : 0 + 9 ≤ _)⟩)
    dsimp only [Pt.U, Pt.locs, Pt.cells, Pt.slots] at X3 l3 y3 z3 st3 hQ3
    subst l3 y3 z3
    obtain ⟨y3, ky3, rfl, N3q, K3, V_y3_3', g_y3_3', sz_y3_3'⟩ := hQ3
    have N3 := Fr.app N0 N3q
    replace S_COMPACT_STRINGS := own_staK S_COMPACT_STRINGS K3 all0
    replace S__assertionsDisabled := own_staK S__assertionsDisabled K3 all0
    replace S_HI_BYTE_SHIFT := own_staK S_HI_BYTE_SHIFT K3 all0
    replace S_LO_BYTE_SHIFT := own_staK S_LO_BYTE_SHIFT K3 all0
    replace A_a := A_a.keep K3
    replace F_value_a := F_value_a.keep K3 nin0
    replace F_coder_a := F_coder_a.keep K3 nin0
    replace V_x := V_x.keep K3 nin0
    replace KP := KP.trans K3 all0
    replace Z0 := Nat.le_trans Z0 K3.1
    have V_y3 := V_y3_3'
    have g_y3 := g_y3_3'
    have szc_y3 := sz_y3_3'
    have ne_a_y3 : a ≠ y3 := Nat.ne_of_lt (Nat.lt_of_lt_of_le ltc3_a szc_y3)
    have ne_x_y3 : x ≠ y3 := Nat.ne_of_lt (Nat.lt_of_lt_of_le ltc3_x szc_y3)
    refine Gs st3 ?_
    show Goes _ _ _ _ _ (T3.setTop (mkF m 39 #[.val (.ref a), .val (.ref x), .val (.int (0 : Int32)), .val (.int (3 : Int32)), .val .null, .unset] [(.ref y3)]))
    refine Gs (fun _ tk => XS.astore X3.here hx rfl (hb hby d11_39) rfl rfl (l' := #[.val (.ref a), .val (.ref x), .val (.int (0 : Int32)), .val (.int (3 : Int32)), .val .null, .val (.ref y3)]) rfl tk) ?_
    refine Gs (fun _ tk => XS.aloadN X3.here hx rfl (hb hby d11_41) rfl rfl tk) ?_
    refine Gs (fun _ tk => XS.aload X3.here hx rfl (hb hby d11_42) rfl rfl tk) ?_
    refine Gs (fun _ tk => XS.iloadN X3.here hx rfl (hb hby d11_44) rfl tk) ?_
    obtain ⟨_, _, ⟨T4, L4, k4, n4⟩, -, X4, ⟨Lc4, hQ4, l4, y4, z4⟩, st4⟩ := Jvm.LawKit.callS X3 hx (y := mN19) hown (mvT hZ (gw hw 52 rfl)) (mvT hZ (gw hw 53 rfl)) (mvT hZ (gw hw 47 rfl)) (mvT hZ (gw hw 54 rfl)) (by decide) (backOf (W := 1) (rs_cf_3_6 l Z a0 hw [] y3 ky3 [(.int (lo8 c0)), (.int (hi8 c0)), (.int (lo8 c1)), (.int (hi8 c1)), (.int (lo8 c2)), (.int (hi8 c2))] T3.heap n0 Z0 V_y3) hZ (gw hw 54 rfl) (gw hw 47 rfl) (by decide) (by decide)) (g := (mkF m 45 #[.val (.ref a), .val (.ref x), .val (.int (0 : Int32)), .val (.int (3 : Int32)), .val .null, .val (.ref y3)] [(.int (3 : Int32)), (.ref y3), (.ref a)])) rfl (by rw [hml]; rfl) (argsL := [(.ref y3), (.int (3 : Int32))]) (rest := [(.ref a)]) (lenOf own_pd13 rfl) rfl (w0 (Nat.le_of_eq rfl)) (hb hby d11_45) (fun _ _ => ⟨rfl, rfl, (by decide : 2 + 0 ≤ _), (by decide : 9 + 0 ≤ _)⟩)
    dsimp only [Pt.U, Pt.locs, Pt.cells, Pt.slots] at X4 l4 y4 z4 st4 hQ4
    subst l4 y4 z4
    obtain ⟨rfl, N4q, e4⟩ := hQ4
    have N4 := Fr.app N3 N4q
    refine Gs st4 ?_
    show Goes _ _ _ _ _ (T4.setTop (mkF m 48 #[.val (.ref a), .val (.ref x), .val (.int (0 : Int32)), .val (.int (3 : Int32)), .val .null, .val (.ref y3)] [(.int (1 : Int32)), (.ref a)]))
    obtain ⟨T5, h5, X5, e5, W5, st5⟩ := putFN X4 hx hZ hown (gw hw 26 rfl) Via.refl e4 F_coder_a A_a (Or.inr ⟨(gw hw 22 rfl), rfl, hnm⟩) (gw hw 6 rfl) (ty := .byte) (v' := .int (1 : Int32)) (by decide) rfl rfl (g := (mkF m 48 #[.val (.ref a), .val (.ref x), .val (.int (0 : Int32)), .val (.int (3 : Int32)), .val .null, .val (.ref y3)] [(.int (1 : Int32)), (.ref a)])) rfl rfl (hb hby d11_48)
    have N5 := Fr.snoc X5 N4 g_a
    replace A_a := A_a.wr W5
    replace F_value_a := F_value_a.other W5 (Or.inr (slot_ne (Or.inr (gw hw 21 rfl)) (Or.inr (gw hw 22 rfl)) (by decide) (t := (.array .byte)) (t' := .byte) (by decide) (by decide)))
    replace V_x := V_x.other W5 ne_x_a
    replace S_COMPACT_STRINGS := S_COMPACT_STRINGS.wr W5
    replace S__assertionsDisabled := S__assertionsDisabled.wr W5
    replace S_HI_BYTE_SHIFT := S_HI_BYTE_SHIFT.wr W5
    replace S_LO_BYTE_SHIFT := S_LO_BYTE_SHIFT.wr W5
    replace V_y3 := V_y3.other W5 (Ne.symm ne_a_y3)
    replace KP := KP.wr W5 (Or.inl (List.mem_of_getElem? (i := 0) rfl))
    replace F_coder_a := F_coder_a.same W5
    replace Z0 : n0 ≤ h5.size := by rw [W5.size]; exact Z0
    refine Gs st5 ?_
    show Goes _ _ _ _ _ (T5.setTop (mkF m 51 #[.val (.ref a), .val (.ref x), .val (.int (0 : Int32)), .val (.int (3 : Int32)), .val .null, .val (.ref y3)] []))
    refine Gs (fun _ tk => XS.aloadN X5.here hx rfl (hb hby d11_51) rfl rfl tk) ?_
    refine Gs (fun _ tk => XS.aload X5.here hx rfl (hb hby d11_52) rfl rfl tk) ?_
    obtain ⟨T6, h6, X6, e6, W6, st6⟩ := putF X5 hx hZ hown (host := "") (Or.inl (gw hw 25 rfl)) Via.refl e5 F_value_a A_a (Or.inr ⟨(gw hw 21 rfl), rfl, hnm⟩) (gw hw 6 rfl) (ty := (.array .byte)) (by decide) rfl rfl (g := (mkF m 54 #[.val (.ref a), .val (.ref x), .val (.int (0 : Int32)), .val (.int (3 : Int32)), .val .null, .val (.ref y3)] [(.ref y3), (.ref a)])) rfl rfl (hb hby d11_54)
    have N6 := Fr.snoc X6 N5 g_a
    replace A_a := A_a.wr W6
    replace F_coder_a := F_coder_a.other W6 (Or.inr (slot_ne (Or.inr (gw hw 22 rfl)) (Or.inr (gw hw 21 rfl)) (by decide) (t := .byte) (t' := (.array .byte)) (by decide) (by decide)))
    replace V_x := V_x.other W6 ne_x_a
    replace S_COMPACT_STRINGS := S_COMPACT_STRINGS.wr W6
    replace S__assertionsDisabled := S__assertionsDisabled.wr W6
    replace S_HI_BYTE_SHIFT := S_HI_BYTE_SHIFT.wr W6
    replace S_LO_BYTE_SHIFT := S_LO_BYTE_SHIFT.wr W6
    replace V_y3 := V_y3.other W6 (Ne.symm ne_a_y3)
    replace KP := KP.wr W6 (Or.inl (List.mem_of_getElem? (i := 0) rfl))
    replace F_value_a := F_value_a.same W6
    replace Z0 : n0 ≤ h6.size := by rw [W6.size]; exact Z0
    refine Gs st6 ?_
    show Goes _ _ _ _ _ (T6.setTop (mkF m 57 #[.val (.ref a), .val (.ref x), .val (.int (0 : Int32)), .val (.int (3 : Int32)), .val .null, .val (.ref y3)] []))
    have T_a : StrOf Z h6 a [c0, c1, c2] := StrOf.utf A_a F_value_a F_coder_a V_y3 (by intro c hc; simp only [List.mem_cons, List.not_mem_nil, or_false] at hc; rcases hc with rfl | rfl | rfl <;> first | assumption | (exact own_toLat (by assumption) (by assumption))) rfl rfl (Nat.le_of_ble_eq_true rfl)
    refine Goes.ret X6 none (fun _ => rfl) hlk (by decide) (by decide) ?_ (fun fs hr => ?_)
    · rw [e6]; exact ⟨rfl, N6, KP, T_a⟩
    · exact X6.returnOut hx hret (hb hby d11_57) hr
  · show Goes _ _ _ _ _ (s₁.setTop (mkF m 0 #[.val (.ref a), .val (.ref x), .val (.int (0 : Int32)), .val (.int (3 : Int32)), .val .null, .unset] []))
    by_cases hn_c1 : (255 : Int32) < c1
    · show Goes _ _ _ _ _ (s₁.setTop (mkF m 0 #[.val (.ref a), .val (.ref x), .val (.int (0 : Int32)), .val (.int (3 : Int32)), .val .null, .unset] []))
      refine Gs (fun _ tk => XS.aloadN X0.here hx rfl (hb hby d11_0) rfl rfl tk) ?_
      obtain ⟨T7, X7, e7, st7⟩ := initO X0 hx hZ hown (gw hw 16 rfl) (gw hw 17 rfl) (gw hw 18 rfl) e0 (g := (mkF m 1 #[.val (.ref a), .val (.ref x), .val (.int (0 : Int32)), .val (.int (3 : Int32)), .val .null, .unset] [(.ref a)])) rfl (by rw [hml]; rfl) rfl (hb hby d11_1) (by decide) (W := 0) (w0 (Nat.le_of_eq rfl)) (by decide)
      refine Gs st7 ?_
      show Goes _ _ _ _ _ (T7.setTop (mkF m 4 #[.val (.ref a), .val (.ref x), .val (.int (0 : Int32)), .val (.int (3 : Int32)), .val .null, .unset] []))
      refine Gs (fun _ tk => XS.iloadN X7.here hx rfl (hb hby d11_4) rfl tk) ?_
      refine Gs (fun _ tk => XS.ifYes X7.here hx rfl (pc0 := 5) (pc' := 27) rfl (hb hby d11_5) rfl ((if0 _ _).trans (feq (by decide : ¬ ((3 : Int32) = (0 : Int32)))).2) (by decide) (by decide) tk) ?_
      obtain ⟨T8, X8, e8, st8⟩ := getS2 X7 hx hZ hown (host := "") (Or.inl (gw hw 41 rfl)) Via.refl e7 S_COMPACT_STRINGS (g := (mkF m 27 #[.val (.ref a), .val (.ref x), .val (.int (0 : Int32)), .val (.int (3 : Int32)), .val .null, .unset] [])) rfl (hb hby d11_27)
      refine Gs st8 ?_
      show Goes _ _ _ _ _ (T8.setTop (mkF m 30 #[.val (.ref a), .val (.ref x), .val (.int (0 : Int32)), .val (.int (3 : Int32)), .val .null, .unset] [(.int cz)]))
      refine Gs (fun _ tk => XS.ifNo X8.here hx rfl (hb hby d11_30) rfl ((if0 _ _).trans (feq hcz).1) tk) ?_
      refine Gs (fun _ tk => XS.aloadN X8.here hx rfl (hb hby d11_33) rfl rfl tk) ?_
      refine Gs (fun _ tk => XS.iloadN X8.here hx rfl (hb hby d11_34) rfl tk) ?_
      refine Gs (fun _ tk => XS.iloadN X8.here hx rfl (hb hby d11_35) rfl tk) ?_
      have ltc9_a : a < h0.size := A_a.lt
      have ltc9_x : x < h0.size := V_x.lt
      obtain ⟨_, _, ⟨T9, L9, k9, n9⟩, -, X9, ⟨Lc9, hQ9, l9, y9, z9⟩, st9⟩ := Jvm.LawKit.callS X8 hx (y := mN18) hown (mvT hZ (gw hw 45 rfl)) (mvT hZ (gw hw 46 rfl)) (mvT hZ (gw hw 47 rfl)) (mvT hZ (gw hw 48 rfl)) (by decide) (backOf (W := 0) (rs_c3_3_1 l Z a0 hw [] x kx c0 c1 c2 h0 n0 Z0 V_x (by first | assumption | decide) (by first | assumption | decide) (by first | assumption | decide) (by first | assumption | decide) (by first | assumption | decide) S__assertionsDisabled S_HI_BYTE_SHIFT S_LO_BYTE_SHIFT) hZ (gw hw 48 rfl) (gw hw 47 rfl) (by decide) (by decide)) (g := (mkF m 36 #[.val (.ref a), .val (.ref x), .val (.int (0 : Int32)), .val (.int (3 : Int32)), .val .null, .unset] [(.int (3 : Int32)), (.int (0 : Int32)), (.ref x)])) rfl (by rw [hml]; rfl) (argsL := [(.ref x), (.int (0 : Int32)), (.int (3 : Int32))]) (rest := []) (lenOf own_pd12 rfl) rfl (w0 (Nat.le_of_eq rfl)) (hb hby d11_36) (fun _ _ => ⟨rfl, e8, (by decide : 0 + 2 ≤ _), (by decide : 0 + 9 ≤ _)⟩)
      dsimp only [Pt.U, Pt.locs, Pt.cells, Pt.slots] at X9 l9 y9 z9 st9 hQ9
      subst l9 y9 z9
      obtain ⟨y9, ky9, rfl, N9q, K9, V_y9_9', g_y9_9', sz_y9_9'⟩ := hQ9
      have N9 := Fr.app N0 N9q
      replace S_COMPACT_STRINGS := own_staK S_COMPACT_STRINGS K9 all0
      replace S__assertionsDisabled := own_staK S__assertionsDisabled K9 all0
      replace S_HI_BYTE_SHIFT := own_staK S_HI_BYTE_SHIFT K9 all0
      replace S_LO_BYTE_SHIFT := own_staK S_LO_BYTE_SHIFT K9 all0
      replace A_a := A_a.keep K9
      replace F_value_a := F_value_a.keep K9 nin0
      replace F_coder_a := F_coder_a.keep K9 nin0
      replace V_x := V_x.keep K9 nin0
      replace KP := KP.trans K9 all0
      replace Z0 := Nat.le_trans Z0 K9.1
      have V_y9 := V_y9_9'
      have g_y9 := g_y9_9'
      have szc_y9 := sz_y9_9'
      have ne_a_y9 : a ≠ y9 := Nat.ne_of_lt (Nat.lt_of_lt_of_le ltc9_a szc_y9)
      have ne_x_y9 : x ≠ y9 := Nat.ne_of_lt (Nat.lt_of_lt_of_le ltc9_x szc_y9)
      refine Gs st9 ?_
      show Goes _ _ _ _ _ (T9.setTop (mkF m 39 #[.val (.ref a), .val (.ref x), .val (.int (0 : Int32)), .val (.int (3 : Int32)), .val .null, .unset] [(.ref y9)]))
      refine Gs (fun _ tk => XS.astore X9.here hx rfl (hb hby d11_39) rfl rfl (l' := #[.val (.ref a), .val (.ref x), .val (.int (0 : Int32)), .val (.int (3 : Int32)), .val .null, .val (.ref y9)]) rfl tk) ?_
      refine Gs (fun _ tk => XS.aloadN X9.here hx rfl (hb hby d11_41) rfl rfl tk) ?_
      refine Gs (fun _ tk => XS.aload X9.here hx rfl (hb hby d11_42) rfl rfl tk) ?_
      refine Gs (fun _ tk => XS.iloadN X9.here hx rfl (hb hby d11_44) rfl tk) ?_
      obtain ⟨_, _, ⟨T10, L10, k10, n10⟩, -, X10, ⟨Lc10, hQ10, l10, y10, z10⟩, st10⟩ := Jvm.LawKit.callS X9 hx (y := mN19) hown (mvT hZ (gw hw 52 rfl)) (mvT hZ (gw hw 53 rfl)) (mvT hZ (gw hw 47 rfl)) (mvT hZ (gw hw 54 rfl)) (by decide) (backOf (W := 1) (rs_cf_3_6 l Z a0 hw [] y9 ky9 [(.int (lo8 c0)), (.int (hi8 c0)), (.int (lo8 c1)), (.int (hi8 c1)), (.int (lo8 c2)), (.int (hi8 c2))] T9.heap n0 Z0 V_y9) hZ (gw hw 54 rfl) (gw hw 47 rfl) (by decide) (by decide)) (g := (mkF m 45 #[.val (.ref a), .val (.ref x), .val (.int (0 : Int32)), .val (.int (3 : Int32)), .val .null, .val (.ref y9)] [(.int (3 : Int32)), (.ref y9), (.ref a)])) rfl (by rw [hml]; rfl) (argsL := [(.ref y9), (.int (3 : Int32))]) (rest := [(.ref a)]) (lenOf own_pd13 rfl) rfl (w0 (Nat.le_of_eq rfl)) (hb hby d11_45) (fun _ _ => ⟨rfl, rfl, (by decide : 2 + 0 ≤ _), (by decide : 9 + 0 ≤ _)⟩)
      dsimp only [Pt.U, Pt.locs, Pt.cells, Pt.slots] at X10 l10 y10 z10 st10 hQ10
      subst l10 y10 z10
      obtain ⟨rfl, N10q, e10⟩ := hQ10
      have N10 := Fr.app N9 N10q
      refine Gs st10 ?_
      show Goes _ _ _ _ _ (T10.setTop (mkF m 48 #[.val (.ref a), .val (.ref x), .val (.int (0 : Int32)), .val (.int (3 : Int32)), .val .null, .val (.ref y9)] [(.int (1 : Int32)), (.ref a)]))
      obtain ⟨T11, h11, X11, e11, W11, st11⟩ := putFN X10 hx hZ hown (gw hw 26 rfl) Via.refl e10 F_coder_a A_a (Or.inr ⟨(gw hw 22 rfl), rfl, hnm⟩) (gw hw 6 rfl) (ty := .byte) (v' := .int (1 : Int32)) (by decide) rfl rfl (g := (mkF m 48 #[.val (.ref a), .val (.ref x), .val (.int (0 : Int32)), .val (.int (3 : Int32)), .val .null, .val (.ref y9)] [(.int (1 : Int32)), (.ref a)])) rfl rfl (hb hby d11_48)
      have N11 := Fr.snoc X11 N10 g_a
      replace A_a := A_a.wr W11
      replace F_value_a := F_value_a.other W11 (Or.inr (slot_ne (Or.inr (gw hw 21 rfl)) (Or.inr (gw hw 22 rfl)) (by decide) (t := (.array .byte)) (t' := .byte) (by decide) (by decide)))
      replace V_x := V_x.other W11 ne_x_a
      replace S_COMPACT_STRINGS := S_COMPACT_STRINGS.wr W11
      replace S__assertionsDisabled := S__assertionsDisabled.wr W11
      replace S_HI_BYTE_SHIFT := S_HI_BYTE_SHIFT.wr W11
      replace S_LO_BYTE_SHIFT := S_LO_BYTE_SHIFT.wr W11
      replace V_y9 := V_y9.other W11 (Ne.symm ne_a_y9)
      replace KP := KP.wr W11 (Or.inl (List.mem_of_getElem? (i := 0) rfl))
      replace F_coder_a := F_coder_a.same W11
      replace Z0 : n0 ≤ h11.size := by rw [W11.size]; exact Z0
      refine Gs st11 ?_
      show Goes _ _ _ _ _ (T11.setTop (mkF m 51 #[.val (.ref a), .val (.ref x), .val (.int (0 : Int32)), .val (.int (3 : Int32)), .val .null, .val (.ref y9)] []))
      refine Gs (fun _ tk => XS.aloadN X11.here hx rfl (hb hby d11_51) rfl rfl tk) ?_
      refine Gs (fun _ tk => XS.aload X11.here hx rfl (hb hby d11_52) rfl rfl tk) ?_
      obtain ⟨T12, h12, X12, e12, W12, st12⟩ := putF X11 hx hZ hown (host := "") (Or.inl (gw hw 25 rfl)) Via.refl e11 F_value_a A_a (Or.inr ⟨(gw hw 21 rfl), rfl, hnm⟩) (gw hw 6 rfl) (ty := (.array .byte)) (by decide) rfl rfl (g := (mkF m 54 #[.val (.ref a), .val (.ref x), .val (.int (0 : Int32)), .val (.int (3 : Int32)), .val .null, .val (.ref y9)] [(.ref y9), (.ref a)])) rfl rfl (hb hby d11_54)
      have N12 := Fr.snoc X12 N11 g_a
      replace A_a := A_a.wr W12
      replace F_coder_a := F_coder_a.other W12 (Or.inr (slot_ne (Or.inr (gw hw 22 rfl)) (Or.inr (gw hw 21 rfl)) (by decide) (t := .byte) (t' := (.array .byte)) (by decide) (by decide)))
      replace V_x := V_x.other W12 ne_x_a
      replace S_COMPACT_STRINGS := S_COMPACT_STRINGS.wr W12
      replace S__assertionsDisabled := S__assertionsDisabled.wr W12
      replace S_HI_BYTE_SHIFT := S_HI_BYTE_SHIFT.wr W12
      replace S_LO_BYTE_SHIFT := S_LO_BYTE_SHIFT.wr W12
      replace V_y9 := V_y9.other W12 (Ne.symm ne_a_y9)
      replace KP := KP.wr W12 (Or.inl (List.mem_of_getElem? (i := 0) rfl))
      replace F_value_a := F_value_a.same W12
      replace Z0 : n0 ≤ h12.size := by rw [W12.size]; exact Z0
      refine Gs st12 ?_
      show Goes _ _ _ _ _ (T12.setTop (mkF m 57 #[.val (.ref a), .val (.ref x), .val (.int (0 : Int32)), .val (.int (3 : Int32)), .val .null, .val (.ref y9)] []))
      have T_a : StrOf Z h12 a [c0, c1, c2] := StrOf.utf A_a F_value_a F_coder_a V_y9 (by intro c hc; simp only [List.mem_cons, List.not_mem_nil, or_false] at hc; rcases hc with rfl | rfl | rfl <;> first | assumption | (exact own_toLat (by assumption) (by assumption))) rfl rfl (Nat.le_of_ble_eq_true rfl)
      refine Goes.ret X12 none (fun _ => rfl) hlk (by decide) (by decide) ?_ (fun fs hr => ?_)
      · rw [e12]; exact ⟨rfl, N12, KP, T_a⟩
      · exact X12.returnOut hx hret (hb hby d11_57) hr
    · show Goes _ _ _ _ _ (s₁.setTop (mkF m 0 #[.val (.ref a), .val (.ref x), .val (.int (0 : Int32)), .val (.int (3 : Int32)), .val .null, .unset] []))
      by_cases hn_c2 : (255 : Int32) < c2
      · show Goes _ _ _ _ _ (s₁.setTop (mkF m 0 #[.val (.ref a), .val (.ref x), .val (.int (0 : Int32)), .val (.int (3 : Int32)), .val .null, .unset] []))
        refine Gs (fun _ tk => XS.aloadN X0.here hx rfl (hb hby d11_0) rfl rfl tk) ?_
        obtain ⟨T13, X13, e13, st13⟩ := initO X0 hx hZ hown (gw hw 16 rfl) (gw hw 17 rfl) (gw hw 18 rfl) e0 (g := (mkF m 1 #[.val (.ref a), .val (.ref x), .val (.int (0 : Int32)), .val (.int (3 : Int32)), .val .null, .unset] [(.ref a)])) rfl (by rw [hml]; rfl) rfl (hb hby d11_1) (by decide) (W := 0) (w0 (Nat.le_of_eq rfl)) (by decide)
        refine Gs st13 ?_
        show Goes _ _ _ _ _ (T13.setTop (mkF m 4 #[.val (.ref a), .val (.ref x), .val (.int (0 : Int32)), .val (.int (3 : Int32)), .val .null, .unset] []))
        refine Gs (fun _ tk => XS.iloadN X13.here hx rfl (hb hby d11_4) rfl tk) ?_
        refine Gs (fun _ tk => XS.ifYes X13.here hx rfl (pc0 := 5) (pc' := 27) rfl (hb hby d11_5) rfl ((if0 _ _).trans (feq (by decide : ¬ ((3 : Int32) = (0 : Int32)))).2) (by decide) (by decide) tk) ?_
        obtain ⟨T14, X14, e14, st14⟩ := getS2 X13 hx hZ hown (host := "") (Or.inl (gw hw 41 rfl)) Via.refl e13 S_COMPACT_STRINGS (g := (mkF m 27 #[.val (.ref a), .val (.ref x), .val (.int (0 : Int32)), .val (.int (3 : Int32)), .val .null, .unset] [])) rfl (hb hby d11_27)
        refine Gs st14 ?_
        show Goes _ _ _ _ _ (T14.setTop (mkF m 30 #[.val (.ref a), .val (.ref x), .val (.int (0 : Int32)), .val (.int (3 : Int32)), .val .null, .unset] [(.int cz)]))
        refine Gs (fun _ tk => XS.ifNo X14.here hx rfl (hb hby d11_30) rfl ((if0 _ _).trans (feq hcz).1) tk) ?_
        refine Gs (fun _ tk => XS.aloadN X14.here hx rfl (hb hby d11_33) rfl rfl tk) ?_
        refine Gs (fun _ tk => XS.iloadN X14.here hx rfl (hb hby d11_34) rfl tk) ?_
        refine Gs (fun _ tk => XS.iloadN X14.here hx rfl (hb hby d11_35) rfl tk) ?_
        have ltc15_a : a < h0.size := A_a.lt
        have ltc15_x : x < h0.size := V_x.lt
        obtain ⟨_, _, ⟨T15, L15, k15, n15⟩, -, X15, ⟨Lc15, hQ15, l15, y15, z15⟩, st15⟩ := Jvm.LawKit.callS X14 hx (y := mN18) hown (mvT hZ (gw hw 45 rfl)) (mvT hZ (gw hw 46 rfl)) (mvT hZ (gw hw 47 rfl)) (mvT hZ (gw hw 48 rfl)) (by decide) (backOf (W := 0) (rs_c3_3_2 l Z a0 hw [] x kx c0 c1 c2 h0 n0 Z0 V_x (by first | assumption | decide) (by first | assumption | decide) (by first | assumption | decide) (by first | assumption | decide) (by first | assumption | decide) (by first | assumption | decide) S__assertionsDisabled S_HI_BYTE_SHIFT S_LO_BYTE_SHIFT) hZ (gw hw 48 rfl) (gw hw 47 rfl) (by decide) (by decide)) (g := (mkF m 36 #[.val (.ref a), .val (.ref x), .val (.int (0 : Int32)), .val (.int (3 : Int32)), .val .null, .unset] [(.int (3 : Int32)), (.int (0 : Int32)), (.ref x)])) rfl (by rw [hml]; rfl) (argsL := [(.ref x), (.int (0 : Int32)), (.int (3 : Int32))]) (rest := []) (lenOf own_pd12 rfl) rfl (w0 (Nat.le_of_eq rfl)) (hb hby d11_36) (fun _ _ => ⟨rfl, e14, (by decide : 0 + 2 ≤ _), (by decide : 0 + 9 ≤ _)⟩)
        dsimp only [Pt.U, Pt.locs, Pt.cells, Pt.slots] at X15 l15 y15 z15 st15 hQ15
        subst l15 y15 z15
        obtain ⟨y15, ky15, rfl, N15q, K15, V_y15_15', g_y15_15', sz_y15_15'⟩ := hQ15
        have N15 := Fr.app N0 N15q
        replace S_COMPACT_STRINGS := own_staK S_COMPACT_STRINGS K15 all0
        replace A_a := A_a.keep K15
        replace F_value_a := F_value_a.keep K15 nin0
        replace F_coder_a := F_coder_a.keep K15 nin0
        replace V_x := V_x.keep K15 nin0
        replace KP := KP.trans K15 all0
        replace Z0 := Nat.le_trans Z0 K15.1
        have V_y15 := V_y15_15'
        have g_y15 := g_y15_15'
        have szc_y15 := sz_y15_15'
        have ne_a_y15 : a ≠ y15 := Nat.ne_of_lt (Nat.lt_of_lt_of_le ltc15_a szc_y15)
        have ne_x_y15 : x ≠ y15 := Nat.ne_of_lt (Nat.lt_of_lt_of_le ltc15_x szc_y15)
        refine Gs st15 ?_
        show Goes _ _ _ _ _ (T15.setTop (mkF m 39 #[.val (.ref a), .val (.ref x), .val (.int (0 : Int32)), .val (.int (3 : Int32)), .val .null, .unset] [(.ref y15)]))
        refine Gs (fun _ tk => XS.astore X15.here hx rfl (hb hby d11_39) rfl rfl (l' := #[.val (.ref a), .val (.ref x), .val (.int (0 : Int32)), .val (.int (3 : Int32)), .val .null, .val (.ref y15)]) rfl tk) ?_
        refine Gs (fun _ tk => XS.aloadN X15.here hx rfl (hb hby d11_41) rfl rfl tk) ?_
        refine Gs (fun _ tk => XS.aload X15.here hx rfl (hb hby d11_42) rfl rfl tk) ?_
        refine Gs (fun _ tk => XS.iloadN X15.here hx rfl (hb hby d11_44) rfl tk) ?_
        obtain ⟨_, _, ⟨T16, L16, k16, n16⟩, -, X16, ⟨Lc16, hQ16, l16, y16, z16⟩, st16⟩ := Jvm.LawKit.callS X15 hx (y := mN19) hown (mvT hZ (gw hw 52 rfl)) (mvT hZ (gw hw 53 rfl)) (mvT hZ (gw hw 47 rfl)) (mvT hZ (gw hw 54 rfl)) (by decide) (backOf (W := 1) (rs_cf_3_6 l Z a0 hw [] y15 ky15 [(.int (lo8 c0)), (.int (hi8 c0)), (.int (lo8 c1)), (.int (hi8 c1)), (.int (lo8 c2)), (.int (hi8 c2))] T15.heap n0 Z0 V_y15) hZ (gw hw 54 rfl) (gw hw 47 rfl) (by decide) (by decide)) (g := (mkF m 45 #[.val (.ref a), .val (.ref x), .val (.int (0 : Int32)), .val (.int (3 : Int32)), .val .null, .val (.ref y15)] [(.int (3 : Int32)), (.ref y15), (.ref a)])) rfl (by rw [hml]; rfl) (argsL := [(.ref y15), (.int (3 : Int32))]) (rest := [(.ref a)]) (lenOf own_pd13 rfl) rfl (w0 (Nat.le_of_eq rfl)) (hb hby d11_45) (fun _ _ => ⟨rfl, rfl, (by decide : 2 + 0 ≤ _), (by decide : 9 + 0 ≤ _)⟩)
        dsimp only [Pt.U, Pt.locs, Pt.cells, Pt.slots] at X16 l16 y16 z16 st16 hQ16
        subst l16 y16 z16
        obtain ⟨rfl, N16q, e16⟩ := hQ16
        have N16 := Fr.app N15 N16q
        refine Gs st16 ?_
        show Goes _ _ _ _ _ (T16.setTop (mkF m 48 #[.val (.ref a), .val (.ref x), .val (.int (0 : Int32)), .val (.int (3 : Int32)), .val .null, .val (.ref y15)] [(.int (1 : Int32)), (.ref a)]))
        obtain ⟨T17, h17, X17, e17, W17, st17⟩ := putFN X16 hx hZ hown (gw hw 26 rfl) Via.refl e16 F_coder_a A_a (Or.inr ⟨(gw hw 22 rfl), rfl, hnm⟩) (gw hw 6 rfl) (ty := .byte) (v' := .int (1 : Int32)) (by decide) rfl rfl (g := (mkF m 48 #[.val (.ref a), .val (.ref x), .val (.int (0 : Int32)), .val (.int (3 : Int32)), .val .null, .val (.ref y15)] [(.int (1 : Int32)), (.ref a)])) rfl rfl (hb hby d11_48)
        have N17 := Fr.snoc X17 N16 g_a
        replace A_a := A_a.wr W17
        replace F_value_a := F_value_a.other W17 (Or.inr (slot_ne (Or.inr (gw hw 21 rfl)) (Or.inr (gw hw 22 rfl)) (by decide) (t := (.array .byte)) (t' := .byte) (by decide) (by decide)))
        replace V_x := V_x.other W17 ne_x_a
        replace S_COMPACT_STRINGS := S_COMPACT_STRINGS.wr W17
        replace V_y15 := V_y15.other W17 (Ne.symm ne_a_y15)
        replace KP := KP.wr W17 (Or.inl (List.mem_of_getElem? (i := 0) rfl))
        replace F_coder_a := F_coder_a.same W17
        replace Z0 : n0 ≤ h17.size := by rw [W17.size]; exact Z0
        refine Gs st17 ?_
        show Goes _ _ _ _ _ (T17.setTop (mkF m 51 #[.val (.ref a), .val (.ref x), .val (.int (0 : Int32)), .val (.int (3 : Int32)), .val .null, .val (.ref y15)] []))
        refine Gs (fun _ tk => XS.aloadN X17.here hx rfl (hb hby d11_51) rfl rfl tk) ?_
        refine Gs (fun _ tk => XS.aload X17.here hx rfl (hb hby d11_52) rfl rfl tk) ?_
        obtain ⟨T18, h18, X18, e18, W18, st18⟩ := putF X17 hx hZ hown (host := "") (Or.inl (gw hw 25 rfl)) Via.refl e17 F_value_a A_a (Or.inr ⟨(gw hw 21 rfl), rfl, hnm⟩) (gw hw 6 rfl) (ty := (.array .byte)) (by decide) rfl rfl (g := (mkF m 54 #[.val (.ref a), .val (.ref x), .val (.int (0 : Int32)), .val (.int (3 : Int32)), .val .null, .val (.ref y15)] [(.ref y15), (.ref a)])) rfl rfl (hb hby d11_54)
        have N18 := Fr.snoc X18 N17 g_a
        replace A_a := A_a.wr W18
        replace F_coder_a := F_coder_a.other W18 (Or.inr (slot_ne (Or.inr (gw hw 22 rfl)) (Or.inr (gw hw 21 rfl)) (by decide) (t := .byte) (t' := (.array .byte)) (by decide) (by decide)))
        replace V_x := V_x.other W18 ne_x_a
        replace S_COMPACT_STRINGS := S_COMPACT_STRINGS.wr W18
        replace V_y15 := V_y15.other W18 (Ne.symm ne_a_y15)
        replace KP := KP.wr W18 (Or.inl (List.mem_of_getElem? (i := 0) rfl))
        replace F_value_a := F_value_a.same W18
        replace Z0 : n0 ≤ h18.size := by rw [W18.size]; exact Z0
        refine Gs st18 ?_
        show Goes _ _ _ _ _ (T18.setTop (mkF m 57 #[.val (.ref a), .val (.ref x), .val (.int (0 : Int32)), .val (.int (3 : Int32)), .val .null, .val (.ref y15)] []))
        have T_a : StrOf Z h18 a [c0, c1, c2] := StrOf.utf A_a F_value_a F_coder_a V_y15 (by intro c hc; simp only [List.mem_cons, List.not_mem_nil, or_false] at hc; rcases hc with rfl | rfl | rfl <;> first | assumption | (exact own_toLat (by assumption) (by assumption))) rfl rfl (Nat.le_of_ble_eq_true rfl)
        refine Goes.ret X18 none (fun _ => rfl) hlk (by decide) (by decide) ?_ (fun fs hr => ?_)
        · rw [e18]; exact ⟨rfl, N18, KP, T_a⟩
        · exact X18.returnOut hx hret (hb hby d11_57) hr
      · show Goes _ _ _ _ _ (s₁.setTop (mkF m 0 #[.val (.ref a), .val (.ref x), .val (.int (0 : Int32)), .val (.int (3 : Int32)), .val .null, .unset] []))
        show Goes _ _ _ _ _ (s₁.setTop (mkF m 0 #[.val (.ref a), .val (.ref x), .val (.int (0 : Int32)), .val (.int (3 : Int32)), .val .null, .unset] []))
        refine Gs (fun _ tk => XS.aloadN X0.here hx rfl (hb hby d11_0) rfl rfl tk) ?_
        obtain ⟨T19, X19, e19, st19⟩ := initO X0 hx hZ hown (gw hw 16 rfl) (gw hw 17 rfl) (gw hw 18 rfl) e0 (g := (mkF m 1 #[.val (.ref a), .val (.ref x), .val (.int (0 : Int32)), .val (.int (3 : Int32)), .val .null, .unset] [(.ref a)])) rfl (by rw [hml]; rfl) rfl (hb hby d11_1) (by decide) (W := 0) (w0 (Nat.le_of_eq rfl)) (by decide)
        refine Gs st19 ?_
        show Goes _ _ _ _ _ (T19.setTop (mkF m 4 #[.val (.ref a), .val (.ref x), .val (.int (0 : Int32)), .val (.int (3 : Int32)), .val .null, .unset] []))
        refine Gs (fun _ tk => XS.iloadN X19.here hx rfl (hb hby d11_4) rfl tk) ?_
        refine Gs (fun _ tk => XS.ifYes X19.here hx rfl (pc0 := 5) (pc' := 27) rfl (hb hby d11_5) rfl ((if0 _ _).trans (feq (by decide : ¬ ((3 : Int32) = (0 : Int32)))).2) (by decide) (by decide) tk) ?_
        obtain ⟨T20, X20, e20, st20⟩ := getS2 X19 hx hZ hown (host := "") (Or.inl (gw hw 41 rfl)) Via.refl e19 S_COMPACT_STRINGS (g := (mkF m 27 #[.val (.ref a), .val (.ref x), .val (.int (0 : Int32)), .val (.int (3 : Int32)), .val .null, .unset] [])) rfl (hb hby d11_27)
        refine Gs st20 ?_
        show Goes _ _ _ _ _ (T20.setTop (mkF m 30 #[.val (.ref a), .val (.ref x), .val (.int (0 : Int32)), .val (.int (3 : Int32)), .val .null, .unset] [(.int cz)]))
        refine Gs (fun _ tk => XS.ifNo X20.here hx rfl (hb hby d11_30) rfl ((if0 _ _).trans (feq hcz).1) tk) ?_
        refine Gs (fun _ tk => XS.aloadN X20.here hx rfl (hb hby d11_33) rfl rfl tk) ?_
        refine Gs (fun _ tk => XS.iloadN X20.here hx rfl (hb hby d11_34) rfl tk) ?_
        refine Gs (fun _ tk => XS.iloadN X20.here hx rfl (hb hby d11_35) rfl tk) ?_
        have ltc21_a : a < h0.size := A_a.lt
        have ltc21_x : x < h0.size := V_x.lt
        obtain ⟨_, _, ⟨T21, L21, k21, n21⟩, -, X21, ⟨Lc21, hQ21, l21, y21, z21⟩, st21⟩ := Jvm.LawKit.callS X20 hx (y := mN18) hown (mvT hZ (gw hw 45 rfl)) (mvT hZ (gw hw 46 rfl)) (mvT hZ (gw hw 47 rfl)) (mvT hZ (gw hw 48 rfl)) (by decide) (backOf (W := 0) (rs_c3_3_3 l Z a0 hw [] x kx c0 c1 c2 h0 n0 Z0 V_x (by first | assumption | decide) (by first | assumption | decide) (by first | assumption | decide)) hZ (gw hw 48 rfl) (gw hw 47 rfl) (by decide) (by decide)) (g := (mkF m 36 #[.val (.ref a), .val (.ref x), .val (.int (0 : Int32)), .val (.int (3 : Int32)), .val .null, .unset] [(.int (3 : Int32)), (.int (0 : Int32)), (.ref x)])) rfl (by rw [hml]; rfl) (argsL := [(.ref x), (.int (0 : Int32)), (.int (3 : Int32))]) (rest := []) (lenOf own_pd12 rfl) rfl (w0 (Nat.le_of_eq rfl)) (hb hby d11_36) (fun _ _ => ⟨rfl, e20, (by decide : 0 + 1 ≤ _), (by decide : 0 + 3 ≤ _)⟩)
        dsimp only [Pt.U, Pt.locs, Pt.cells, Pt.slots] at X21 l21 y21 z21 st21 hQ21
        subst l21 y21 z21
        obtain ⟨y21, ky21, rfl, N21q, K21, V_y21_21', g_y21_21', sz_y21_21'⟩ := hQ21
        have N21 := Fr.app N0 N21q
        replace A_a := A_a.keep K21
        replace F_value_a := F_value_a.keep K21 nin0
        replace F_coder_a := F_coder_a.keep K21 nin0
        replace KP := KP.trans K21 all0
        replace Z0 := Nat.le_trans Z0 K21.1
        have V_y21 := V_y21_21'
        have g_y21 := g_y21_21'
        have szc_y21 := sz_y21_21'
        have ne_a_y21 : a ≠ y21 := Nat.ne_of_lt (Nat.lt_of_lt_of_le ltc21_a szc_y21)
        have ne_x_y21 : x ≠ y21 := Nat.ne_of_lt (Nat.lt_of_lt_of_le ltc21_x szc_y21)
        refine Gs st21 ?_
        show Goes _ _ _ _ _ (T21.setTop (mkF m 39 #[.val (.ref a), .val (.ref x), .val (.int (0 : Int32)), .val (.int (3 : Int32)), .val .null, .unset] [(.ref y21)]))
        refine Gs (fun _ tk => XS.astore X21.here hx rfl (hb hby d11_39) rfl rfl (l' := #[.val (.ref a), .val (.ref x), .val (.int (0 : Int32)), .val (.int (3 : Int32)), .val .null, .val (.ref y21)]) rfl tk) ?_
        refine Gs (fun _ tk => XS.aloadN X21.here hx rfl (hb hby d11_41) rfl rfl tk) ?_
        refine Gs (fun _ tk => XS.aload X21.here hx rfl (hb hby d11_42) rfl rfl tk) ?_
        refine Gs (fun _ tk => XS.iloadN X21.here hx rfl (hb hby d11_44) rfl tk) ?_
        obtain ⟨_, _, ⟨T22, L22, k22, n22⟩, -, X22, ⟨Lc22, hQ22, l22, y22, z22⟩, st22⟩ := Jvm.LawKit.callS X21 hx (y := mN19) hown (mvT hZ (gw hw 52 rfl)) (mvT hZ (gw hw 53 rfl)) (mvT hZ (gw hw 47 rfl)) (mvT hZ (gw hw 54 rfl)) (by decide) (backOf (W := 1) (rs_cf_3_3 l Z a0 hw [] y21 ky21 [(.int (lo8 c0)), (.int (lo8 c1)), (.int (lo8 c2))] T21.heap n0 Z0 V_y21) hZ (gw hw 54 rfl) (gw hw 47 rfl) (by decide) (by decide)) (g := (mkF m 45 #[.val (.ref a), .val (.ref x), .val (.int (0 : Int32)), .val (.int (3 : Int32)), .val .null, .val (.ref y21)] [(.int (3 : Int32)), (.ref y21), (.ref a)])) rfl (by rw [hml]; rfl) (argsL := [(.ref y21), (.int (3 : Int32))]) (rest := [(.ref a)]) (lenOf own_pd13 rfl) rfl (w0 (Nat.le_of_eq rfl)) (hb hby d11_45) (fun _ _ => ⟨rfl, rfl, (by decide : 1 + 0 ≤ _), (by decide : 3 + 0 ≤ _)⟩)
        dsimp only [Pt.U, Pt.locs, Pt.cells, Pt.slots] at X22 l22 y22 z22 st22 hQ22
        subst l22 y22 z22
        obtain ⟨rfl, N22q, e22⟩ := hQ22
        have N22 := Fr.app N21 N22q
        refine Gs st22 ?_
        show Goes _ _ _ _ _ (T22.setTop (mkF m 48 #[.val (.ref a), .val (.ref x), .val (.int (0 : Int32)), .val (.int (3 : Int32)), .val .null, .val (.ref y21)] [(.int (0 : Int32)), (.ref a)]))
        obtain ⟨T23, h23, X23, e23, W23, st23⟩ := putFN X22 hx hZ hown (gw hw 26 rfl) Via.refl e22 F_coder_a A_a (Or.inr ⟨(gw hw 22 rfl), rfl, hnm⟩) (gw hw 6 rfl) (ty := .byte) (v' := .int (0 : Int32)) (by decide) rfl rfl (g := (mkF m 48 #[.val (.ref a), .val (.ref x), .val (.int (0 : Int32)), .val (.int (3 : Int32)), .val .null, .val (.ref y21)] [(.int (0 : Int32)), (.ref a)])) rfl rfl (hb hby d11_48)
        have N23 := Fr.snoc X23 N22 g_a
        replace A_a := A_a.wr W23
        replace F_value_a := F_value_a.other W23 (Or.inr (slot_ne (Or.inr (gw hw 21 rfl)) (Or.inr (gw hw 22 rfl)) (by decide) (t := (.array .byte)) (t' := .byte) (by decide) (by decide)))
        replace V_y21 := V_y21.other W23 (Ne.symm ne_a_y21)
        replace KP := KP.wr W23 (Or.inl (List.mem_of_getElem? (i := 0) rfl))
        replace F_coder_a := F_coder_a.same W23
        replace Z0 : n0 ≤ h23.size := by rw [W23.size]; exact Z0
        refine Gs st23 ?_
        show Goes _ _ _ _ _ (T23.setTop (mkF m 51 #[.val (.ref a), .val (.ref x), .val (.int (0 : Int32)), .val (.int (3 : Int32)), .val .null, .val (.ref y21)] []))
        refine Gs (fun _ tk => XS.aloadN X23.here hx rfl (hb hby d11_51) rfl rfl tk) ?_
        refine Gs (fun _ tk => XS.aload X23.here hx rfl (hb hby d11_52) rfl rfl tk) ?_
        obtain ⟨T24, h24, X24, e24, W24, st24⟩ := putF X23 hx hZ hown (host := "") (Or.inl (gw hw 25 rfl)) Via.refl e23 F_value_a A_a (Or.inr ⟨(gw hw 21 rfl), rfl, hnm⟩) (gw hw 6 rfl) (ty := (.array .byte)) (by decide) rfl rfl (g := (mkF m 54 #[.val (.ref a), .val (.ref x), .val (.int (0 : Int32)), .val (.int (3 : Int32)), .val .null, .val (.ref y21)] [(.ref y21), (.ref a)])) rfl rfl (hb hby d11_54)
        have N24 := Fr.snoc X24 N23 g_a
        replace A_a := A_a.wr W24
        replace F_coder_a := F_coder_a.other W24 (Or.inr (slot_ne (Or.inr (gw hw 22 rfl)) (Or.inr (gw hw 21 rfl)) (by decide) (t := .byte) (t' := (.array .byte)) (by decide) (by decide)))
        replace V_y21 := V_y21.other W24 (Ne.symm ne_a_y21)
        replace KP := KP.wr W24 (Or.inl (List.mem_of_getElem? (i := 0) rfl))
        replace F_value_a := F_value_a.same W24
        replace Z0 : n0 ≤ h24.size := by rw [W24.size]; exact Z0
        refine Gs st24 ?_
        show Goes _ _ _ _ _ (T24.setTop (mkF m 57 #[.val (.ref a), .val (.ref x), .val (.int (0 : Int32)), .val (.int (3 : Int32)), .val .null, .val (.ref y21)] []))
        have T_a : StrOf Z h24 a [c0, c1, c2] := StrOf.latin A_a F_value_a F_coder_a V_y21 (by intro c hc; simp only [List.mem_cons, List.not_mem_nil, or_false] at hc; rcases hc with rfl | rfl | rfl <;> first | assumption | (exact own_toLat (by assumption) (by assumption))) rfl rfl (Nat.le_of_ble_eq_true rfl)
        refine Goes.ret X24 none (fun _ => rfl) hlk (by decide) (by decide) ?_ (fun fs hr => ?_)
        · rw [e24]; exact ⟨rfl, N24, KP, T_a⟩
        · exact X24.returnOut hx hret (hb hby d11_57) hr
theorem own_ef_rs_i1_3 (m : MethodId) (x0 : Addr) (x1 : Addr) : entryFrame m #[(.ref x0), (.ref x1)] 2 = mkF m 0 #[.val (.ref x0), .val (.ref x1)] [] := by first | (simp [entryFrame, mkF, argsToLocals, Value.category]; done) | rfl
def Q_rs_i1_3 (Z : State) (a : Addr) (x : Addr) (kx : ClassId) (c0 : Int32) (c1 : Int32) (c2 : Int32) (cz : Int32) (h0 : Heap) (n0 : Nat) (v : Option Value) (h : Heap) (L : List Loc) : Prop := v = none ∧ Fr n0 L ∧ Keep h0 h [a] ∧ StrOf Z h a [c0, c1, c2]
set_option maxRecDepth 65536 in
set_option maxHeartbeats 40000000 in
theorem rs_i1_3 (l : Launch) (Z : State) (a0 : Array Value) (hw : ∀ d ∈ tables_1, d.before a0 Z = true) (ws : List Jvm.Cond) (a : Addr) (x : Addr) (kx : ClassId) (c0 : Int32) (c1 : Int32) (c2 : Int32) (cz : Int32) (h0 : Heap) (n0 : Nat) (Z0 : n0 ≤ h0.size) (A_a : Exa Z h0 a "java/lang/String") (F_value_a : Fld Z h0 a "java/lang/String" "value" "[B" .null) (F_coder_a : Fld Z h0 a "java/lang/String" "coder" "B" (.int (0 : Int32))) (V_x : Arv Z h0 x kx .char (3 : Int32) [(.int c0), (.int c1), (.int c2)] (.int (0 : Int32))) (g_a : n0 ≤ a) (ne_x_a : x ≠ a) (S_COMPACT_STRINGS : Sta Z h0 "java/lang/String" "COMPACT_STRINGS" "Z" (.int cz)) (hcz : ¬ (cz = (0 : Int32))) (hC_c0 : Chr c0) (hC_c1 : Chr c1) (hC_c2 : Chr c2) (S__assertionsDisabled : Sta Z h0 "java/lang/StringUTF16" "$assertionsDisabled" "Z" (.int (1 : Int32))) (S_HI_BYTE_SHIFT : Sta Z h0 "java/lang/StringUTF16" "HI_BYTE_SHIFT" "I" (.int (0 : Int32))) (S_LO_BYTE_SHIFT : Sta Z h0 "java/lang/StringUTF16" "LO_BYTE_SHIFT" "I" (.int (8 : Int32))) :
    Met l Z mN12 jdk_42_method_3_code 2 none ({ frames := 5, cells := 2, slots := 9, locals := 74 } : Room) ws #[(.ref a), (.ref x)] h0 (Q_rs_i1_3 Z a x kx c0 c1 c2 cz h0 n0) := by
  refine own_met (plainFor_of_name own_pn0) ?_
  intro p e s m below meth c s₁ hret hx hby hlk hml hown hnm X0 e0 hZ hh
  have N0 := Fr.nil n0
  refine Gs (fun _ tk => castTop (own_ef_rs_i1_3 m a x) tk) ?_
  have KP : Keep h0 h0 [a] := Keep.refl _ _
  show Goes _ _ _ _ _ (s₁.setTop (mkF m 0 #[.val (.ref a), .val (.ref x)] []))
  refine Gs (fun _ tk => XS.aloadN X0.here hx rfl (hb hby d12_0) rfl rfl tk) ?_
  refine Gs (fun _ tk => XS.aloadN X0.here hx rfl (hb hby d12_1) rfl rfl tk) ?_
  refine Gs (fun _ tk => XS.iconst X0.here hx rfl (hb hby d12_2) tk) ?_
  refine Gs (fun _ tk => XS.aloadN X0.here hx rfl (hb hby d12_3) rfl rfl tk) ?_
  obtain ⟨cl1, Ar1, -, S1, N1z, -, -⟩ := id V_x
  refine Gs (fun _ tk => X0.arraylength hx (by rw [e0]; exact Ar1.1) (State.isArrayOf_alike hZ.alike Ar1.2.1) (g := (mkF m 4 #[.val (.ref a), .val (.ref x)] [(.ref x), (.int (0 : Int32)), (.ref x), (.ref a)])) rfl rfl (hb hby d12_4) _ tk) ?_
  rw [len_of S1 N1z]
  show Goes _ _ _ _ _ (s₁.setTop (mkF m 5 #[.val (.ref a), .val (.ref x)] [(.int (3 : Int32)), (.int (0 : Int32)), (.ref x), (.ref a)]))
  refine Gs (fun _ tk => XS.aconstNull X0.here hx rfl (hb hby d12_5) tk) ?_
  obtain ⟨_, _, ⟨T2, L2, k2, n2⟩, -, X2, ⟨Lc2, hQ2, l2, y2, z2⟩, st2⟩ := X0.specialBack hx (y := mN11) rfl hown (mvT hZ (gw hw 12 rfl)) (mvT hZ (gw hw 13 rfl)) (mvT hZ (gw hw 15 rfl)) (by decide) (backOf (W := 0) (rs_i4_3 l Z a0 hw [] a x kx c0 c1 c2 cz h0 n0 Z0 A_a F_value_a F_coder_a V_x g_a ne_x_a S_COMPACT_STRINGS (by first | assumption | decide) (by first | assumption | decide) (by first | assumption | decide) (by first | assumption | decide) S__assertionsDisabled S_HI_BYTE_SHIFT S_LO_BYTE_SHIFT) hZ (gw hw 15 rfl) (gw hw 7 rfl) (by decide) (by decide)) (g := (mkF m 6 #[.val (.ref a), .val (.ref x)] [.null, (.int (3 : Int32)), (.int (0 : Int32)), (.ref x), (.ref a)])) rfl (by rw [hml]; rfl) (Steps.refl _) (a := a) (argsL := [(.ref x), (.int (0 : Int32)), (.int (3 : Int32)), .null]) (rest := []) (lenOf own_pd7 rfl) rfl (w0 (Nat.le_of_eq rfl)) (hb hby d12_6) (fun _ _ => ⟨rfl, e0, (by decide : 0 + 2 ≤ _), (by decide : 0 + 9 ≤ _)⟩)
  dsimp only [Pt.U, Pt.locs, Pt.cells, Pt.slots] at X2 l2 y2 z2 st2 hQ2
  subst l2 y2 z2
  obtain ⟨rfl, N2q, K2, T_a_2'⟩ := hQ2
  have N2 := Fr.app N0 N2q
  replace KP := KP.trans K2 (allS (Or.inl (List.mem_of_getElem? (i := 0) rfl)) all0)
  replace Z0 := Nat.le_trans Z0 K2.1
  have T_a := T_a_2'
  refine Gs (fun _ tk => st2.trans tk) ?_
  show Goes _ _ _ _ _ (T2.setTop (mkF m 9 #[.val (.ref a), .val (.ref x)] []))
  refine Goes.ret X2 none (fun _ => rfl) hlk (by decide) (by decide) ?_ (fun fs hr => ?_)
  · exact ⟨rfl, N2, KP, T_a⟩
  · exact X2.returnOut hx hret (hb hby d12_9) hr
theorem d20_0 : decode jdk_43_method_3_code 0 = .ok (.iload_n 0, 1) := by decide +kernel
theorem d20_1 : decode jdk_43_method_3_code 1 = .ok (.sipush 255, 3) := by decide +kernel
theorem d20_4 : decode jdk_43_method_3_code 4 = .ok (.if_icmp .gt 7, 3) := by decide +kernel
theorem d20_11 : decode jdk_43_method_3_code 11 = .ok (.iconst 0, 1) := by decide +kernel
theorem d20_12 : decode jdk_43_method_3_code 12 = .ok (.ireturn, 1) := by decide +kernel
theorem own_ef_rs_enc1 (m : MethodId) (x0 : Int32) : entryFrame m #[(.int x0)] 1 = mkF m 0 #[.val (.int x0)] [] := by first | (simp [entryFrame, mkF, argsToLocals, Value.category]; done) | rfl
def Q_rs_enc1 (Z : State) (c0 : Int32) (h0 : Heap) (n0 : Nat) (v : Option Value) (h : Heap) (L : List Loc) : Prop := v = some (.int (0 : Int32)) ∧ Fr n0 L ∧ h = h0
set_option maxRecDepth 65536 in
set_option maxHeartbeats 40000000 in
theorem rs_enc1 (l : Launch) (Z : State) (a0 : Array Value) (hw : ∀ d ∈ tables_1, d.before a0 Z = true) (ws : List Jvm.Cond) (c0 : Int32) (h0 : Heap) (n0 : Nat) (Z0 : n0 ≤ h0.size) (hn_c0 : (255 : Int32) < c0) :
    Met l Z mN20 jdk_43_method_3_code 1 (some .boolean) ({ frames := 0, cells := 0, slots := 0, locals := 0 } : Room) ws #[(.int c0)] h0 (Q_rs_enc1 Z c0 h0 n0) := by
  refine own_met (plainFor_of_name own_pn2) ?_
  intro p e s m below meth c s₁ hret hx hby hlk hml hown hnm X0 e0 hZ hh
  have N0 := Fr.nil n0
  refine Gs (fun _ tk => castTop (own_ef_rs_enc1 m c0) tk) ?_
  show Goes _ _ _ _ _ (s₁.setTop (mkF m 0 #[.val (.int c0)] []))
  refine Gs (fun _ tk => XS.iloadN X0.here hx rfl (hb hby d20_0) rfl tk) ?_
  refine Gs (fun _ tk => XS.sipush X0.here hx rfl (hb hby d20_1) tk) ?_
  refine Gs (fun _ tk => XS.icmpYes X0.here hx rfl (pc0 := 4) (pc' := 11) rfl (hb hby d20_4) rfl (tlt hn_c0).2.2.1 (by decide) (by decide) tk) ?_
  refine Gs (fun _ tk => XS.iconst X0.here hx rfl (hb hby d20_11) tk) ?_
  refine Goes.ret X0 (some (.int (0 : Int32))) (fun h => by rw [hret] at h; cases h) hlk (by decide) (by decide) ?_ (fun fs hr => ?_)
  · exact ⟨rfl, N0, e0⟩
  · exact own_retN X0 hx (t := .boolean) hret (by simp) rfl (hb hby d20_12) hr
theorem d20_7 : decode jdk_43_method_3_code 7 = .ok (.iconst 1, 1) := by decide +kernel
theorem d20_8 : decode jdk_43_method_3_code 8 = .ok (.goto 4, 3) := by decide +kernel
theorem own_ef_rs_enc0 (m : MethodId) (x0 : Int32) : entryFrame m #[(.int x0)] 1 = mkF m 0 #[.val (.int x0)] [] := by first | (simp [entryFrame, mkF, argsToLocals, Value.category]; done) | rfl
def Q_rs_enc0 (Z : State) (c0 : Int32) (h0 : Heap) (n0 : Nat) (v : Option Value) (h : Heap) (L : List Loc) : Prop := v = some (.int (1 : Int32)) ∧ Fr n0 L ∧ h = h0
set_option maxRecDepth 65536 in
set_option maxHeartbeats 40000000 in
theorem rs_enc0 (l : Launch) (Z : State) (a0 : Array Value) (hw : ∀ d ∈ tables_1, d.before a0 Z = true) (ws : List Jvm.Cond) (c0 : Int32) (h0 : Heap) (n0 : Nat) (Z0 : n0 ≤ h0.size) (hn_c0 : ¬ ((255 : Int32) < c0)) :
    Met l Z mN20 jdk_43_method_3_code 1 (some .boolean) ({ frames := 0, cells := 0, slots := 0, locals := 0 } : Room) ws #[(.int c0)] h0 (Q_rs_enc0 Z c0 h0 n0) := by
  refine own_met (plainFor_of_name own_pn2) ?_
  intro p e s m below meth c s₁ hret hx hby hlk hml hown hnm X0 e0 hZ hh
  have N0 := Fr.nil n0
  refine Gs (fun _ tk => castTop (own_ef_rs_enc0 m c0) tk) ?_
  show Goes _ _ _ _ _ (s₁.setTop (mkF m 0 #[.val (.int c0)] []))
  refine Gs (fun _ tk => XS.iloadN X0.here hx rfl (hb hby d20_0) rfl tk) ?_
  refine Gs (fun _ tk => XS.sipush X0.here hx rfl (hb hby d20_1) tk) ?_
  refine Gs (fun _ tk => XS.icmpNo X0.here hx rfl (hb hby d20_4) rfl (flt hn_c0).2.2.1 tk) ?_
  refine Gs (fun _ tk => XS.iconst X0.here hx rfl (hb hby d20_7) tk) ?_
  refine Gs (fun _ tk => XS.goto X0.here hx rfl (pc0 := 8) (pc' := 12) rfl (hb hby d20_8) (by decide) (by decide) tk) ?_
  refine Goes.ret X0 (some (.int (1 : Int32))) (fun h => by rw [hret] at h; cases h) hlk (by decide) (by decide) ?_ (fun fs hr => ?_)
  · exact ⟨rfl, N0, e0⟩
  · exact own_retN X0 hx (t := .boolean) hret (by simp) rfl (hb hby d20_12) hr
theorem d21_0 : decode jdk_43_method_46_code 0 = .ok (.iconst 1, 1) := by decide +kernel
theorem d21_1 : decode jdk_43_method_46_code 1 = .ok (.newarray .byte, 2) := by decide +kernel
theorem d21_3 : decode jdk_43_method_46_code 3 = .ok (.dup, 1) := by decide +kernel
theorem d21_4 : decode jdk_43_method_46_code 4 = .ok (.iconst 0, 1) := by decide +kernel
theorem d21_5 : decode jdk_43_method_46_code 5 = .ok (.iload_n 0, 1) := by decide +kernel
theorem d21_6 : decode jdk_43_method_46_code 6 = .ok (.i2b, 1) := by decide +kernel
theorem d21_7 : decode jdk_43_method_46_code 7 = .ok (.bastore, 1) := by decide +kernel
theorem d21_8 : decode jdk_43_method_46_code 8 = .ok (.areturn, 1) := by decide +kernel
theorem own_ef_rs_ltb (m : MethodId) (x0 : Int32) : entryFrame m #[(.int x0)] 1 = mkF m 0 #[.val (.int x0)] [] := by first | (simp [entryFrame, mkF, argsToLocals, Value.category]; done) | rfl
def Q_rs_ltb (Z : State) (c0 : Int32) (h0 : Heap) (n0 : Nat) (v : Option Value) (h : Heap) (L : List Loc) : Prop := ∃ y : Addr, ∃ ky : ClassId, v = some (.ref y) ∧ Fr n0 L ∧ Keep h0 h [] ∧ Arv Z h y ky .byte (1 : Int32) [(.int (lo8 c0))] (.int (0 : Int32)) ∧ n0 ≤ y ∧ h0.size ≤ y
set_option maxRecDepth 65536 in
set_option maxHeartbeats 40000000 in
theorem rs_ltb (l : Launch) (Z : State) (a0 : Array Value) (hw : ∀ d ∈ tables_1, d.before a0 Z = true) (ws : List Jvm.Cond) (c0 : Int32) (h0 : Heap) (n0 : Nat) (Z0 : n0 ≤ h0.size) :
    Met l Z mN21 jdk_43_method_46_code 1 (some (.array .byte)) ({ frames := 0, cells := 1, slots := 1, locals := 0 } : Room) ws #[(.int c0)] h0 (Q_rs_ltb Z c0 h0 n0) := by
  refine own_met (plainFor_of_name own_pn2) ?_
  intro p e s m below meth c s₁ hret hx hby hlk hml hown hnm X0 e0 hZ hh
  have N0 := Fr.nil n0
  refine Gs (fun _ tk => castTop (own_ef_rs_ltb m c0) tk) ?_
  have KP : Keep h0 h0 [] := Keep.refl _ _
  show Goes _ _ _ _ _ (s₁.setTop (mkF m 0 #[.val (.int c0)] []))
  refine Gs (fun _ tk => XS.iconst X0.here hx rfl (hb hby d21_0) tk) ?_
  obtain ⟨T1, h1, k1, X1, e1, E1, A1, st1⟩ := newP X0 hx hZ (gw hw 20 rfl) e0 (g := (mkF m 1 #[.val (.int c0)] [(.int (1 : Int32))])) rfl (hb hby d21_1) rfl (by decide) (cap := 1) (by decide) (by decide) (by decide) (by decide)
  obtain ⟨b1, gq1⟩ : ∃ z, z = h0.size := ⟨_, rfl⟩
  rw [← gq1] at A1 st1
  have g_b1 : n0 ≤ b1 := by rw [gq1]; exact Z0
  have sz_b1 : h0.size ≤ b1 := by rw [gq1]; exact KP.1
  replace KP := KP.ext E1
  replace Z0 : n0 ≤ h1.size := Nat.le_trans Z0 E1.1
  have V_b1 : Arv Z h1 b1 k1 .byte (1 : Int32) [(.int (0 : Int32))] (.int (0 : Int32)) := (Arv.new A1 (by decide)).pad (pad_rep [] (.int (0 : Int32)) 1)
  refine Gs st1 ?_
  show Goes _ _ _ _ _ (T1.setTop (mkF m 3 #[.val (.int c0)] [(.ref b1)]))
  refine Gs (fun _ tk => XS.dup X1.here hx rfl (hb hby d21_3) rfl rfl tk) ?_
  refine Gs (fun _ tk => XS.iconst X1.here hx rfl (hb hby d21_4) tk) ?_
  refine Gs (fun _ tk => XS.iloadN X1.here hx rfl (hb hby d21_5) rfl tk) ?_
  show Goes _ _ _ _ _ (T1.setTop (mkF m 6 #[.val (.int c0)] [(.int c0), (.int (0 : Int32)), (.ref b1), (.ref b1)]))
  refine Gs (fun _ tk => XS.i2b X1.here hx rfl (hb hby d21_6) rfl tk) ?_
  show Goes _ _ _ _ _ (T1.setTop (mkF m 7 #[.val (.int c0)] [(.int (c0.toInt8.toInt32)), (.int (0 : Int32)), (.ref b1), (.ref b1)]))
  obtain ⟨cl2, Ar2, q2, S2, N2z, H2, G2⟩ := V_b1
  have hin2 : ¬ ((0 : Int32) < 0 ∨ cl2.slots.size ≤ ((0 : Int32)).toNatClampNeg) := inb_of S2 ⟨by decide, by decide⟩
  obtain ⟨T2, h2, X2, e2, W2, st2⟩ := stB X1 hx hZ e1 Ar2 (j := (0 : Int32)) hin2 (g := (mkF m 7 #[.val (.int c0)] [(.int (c0.toInt8.toInt32)), (.int (0 : Int32)), (.ref b1), (.ref b1)])) rfl rfl (hb hby d21_7)
  have Vn2 := Arv.set Ar2 q2 S2 N2z H2 G2 (fits_nar_byte _) W2 0 rfl (Nat.le_of_ble_eq_true rfl)
  have N2 := Fr.snoc X2 N0 g_b1
  replace KP := KP.wr W2 (Or.inr sz_b1)
  have V_b1 : Arv Z h2 b1 k1 .byte (1 : Int32) [(.int (lo8 c0))] (.int (0 : Int32)) := by have q := Vn2; rw [own_nb2] at q; exact q
  replace Z0 : n0 ≤ h2.size := by rw [W2.size]; exact Z0
  refine Gs st2 ?_
  show Goes _ _ _ _ _ (T2.setTop (mkF m 8 #[.val (.int c0)] [(.ref b1)]))
  refine Goes.ret X2 (some (.ref b1)) (fun h => by rw [hret] at h; cases h) hlk (by decide) (by decide) ?_ (fun fs hr => ?_)
  · rw [e2]; exact ⟨b1, k1, rfl, N2, KP, V_b1, g_b1, sz_b1⟩
  · exact own_retA X2 hx hret rfl rfl (hb hby d21_8) hr
theorem d22_0 : decode jdk_52_method_24_code 0 = .ok (.iconst 2, 1) := by decide +kernel
theorem d22_1 : decode jdk_52_method_24_code 1 = .ok (.newarray .byte, 2) := by decide +kernel
theorem d22_3 : decode jdk_52_method_24_code 3 = .ok (.astore_n 1, 1) := by decide +kernel
theorem d22_4 : decode jdk_52_method_24_code 4 = .ok (.aload_n 1, 1) := by decide +kernel
theorem d22_5 : decode jdk_52_method_24_code 5 = .ok (.iconst 0, 1) := by decide +kernel
theorem d22_6 : decode jdk_52_method_24_code 6 = .ok (.iload_n 0, 1) := by decide +kernel
theorem d22_7 : decode jdk_52_method_24_code 7 = .ok (.invokestatic 111, 3) := by decide +kernel
theorem d22_10 : decode jdk_52_method_24_code 10 = .ok (.aload_n 1, 1) := by decide +kernel
theorem d22_11 : decode jdk_52_method_24_code 11 = .ok (.areturn, 1) := by decide +kernel
theorem own_ef_rs_utb (m : MethodId) (x0 : Int32) : entryFrame m #[(.int x0)] 2 = mkF m 0 #[.val (.int x0), .unset] [] := by first | (simp [entryFrame, mkF, argsToLocals, Value.category]; done) | rfl
def Q_rs_utb (Z : State) (c0 : Int32) (h0 : Heap) (n0 : Nat) (v : Option Value) (h : Heap) (L : List Loc) : Prop := ∃ y : Addr, ∃ ky : ClassId, v = some (.ref y) ∧ Fr n0 L ∧ Keep h0 h [] ∧ Arv Z h y ky .byte (2 : Int32) [(.int (lo8 c0)), (.int (hi8 c0))] (.int (0 : Int32)) ∧ n0 ≤ y ∧ h0.size ≤ y
set_option maxRecDepth 65536 in
set_option maxHeartbeats 40000000 in
theorem rs_utb (l : Launch) (Z : State) (a0 : Array Value) (hw : ∀ d ∈ tables_1, d.before a0 Z = true) (ws : List Jvm.Cond) (c0 : Int32) (h0 : Heap) (n0 : Nat) (Z0 : n0 ≤ h0.size) (S__assertionsDisabled : Sta Z h0 "java/lang/StringUTF16" "$assertionsDisabled" "Z" (.int (1 : Int32))) (S_HI_BYTE_SHIFT : Sta Z h0 "java/lang/StringUTF16" "HI_BYTE_SHIFT" "I" (.int (0 : Int32))) (S_LO_BYTE_SHIFT : Sta Z h0 "java/lang/StringUTF16" "LO_BYTE_SHIFT" "I" (.int (8 : Int32))) :
    Met l Z mN22 jdk_52_method_24_code 2 (some (.array .byte)) ({ frames := 1, cells := 1, slots := 2, locals := 14 } : Room) ws #[(.int c0)] h0 (Q_rs_utb Z c0 h0 n0) := by
  refine own_met (plainFor_of_name own_pn3) ?_
  intro p e s m below meth c s₁ hret hx hby hlk hml hown hnm X0 e0 hZ hh
  have N0 := Fr.nil n0
  refine Gs (fun _ tk => castTop (own_ef_rs_utb m c0) tk) ?_
  have KP : Keep h0 h0 [] := Keep.refl _ _
  show Goes _ _ _ _ _ (s₁.setTop (mkF m 0 #[.val (.int c0), .unset] []))
  refine Gs (fun _ tk => XS.iconst X0.here hx rfl (hb hby d22_0) tk) ?_
  obtain ⟨T1, h1, k1, X1, e1, E1, A1, st1⟩ := newP X0 hx hZ (gw hw 20 rfl) e0 (g := (mkF m 1 #[.val (.int c0), .unset] [(.int (2 : Int32))])) rfl (hb hby d22_1) rfl (by decide) (cap := 2) (by decide) (by decide) (by decide) (by decide)
  obtain ⟨b1, gq1⟩ : ∃ z, z = h0.size := ⟨_, rfl⟩
  rw [← gq1] at A1 st1
  have g_b1 : n0 ≤ b1 := by rw [gq1]; exact Z0
  have sz_b1 : h0.size ≤ b1 := by rw [gq1]; exact KP.1
  replace S__assertionsDisabled := S__assertionsDisabled.ext E1
  replace S_HI_BYTE_SHIFT := S_HI_BYTE_SHIFT.ext E1
  replace S_LO_BYTE_SHIFT := S_LO_BYTE_SHIFT.ext E1
  replace KP := KP.ext E1
  replace Z0 : n0 ≤ h1.size := Nat.le_trans Z0 E1.1
  have V_b1 : Arv Z h1 b1 k1 .byte (2 : Int32) [(.int (0 : Int32)), (.int (0 : Int32))] (.int (0 : Int32)) := (Arv.new A1 (by decide)).pad (pad_rep [] (.int (0 : Int32)) 2)
  refine Gs st1 ?_
  show Goes _ _ _ _ _ (T1.setTop (mkF m 3 #[.val (.int c0), .unset] [(.ref b1)]))
  refine Gs (fun _ tk => XS.astoreN X1.here hx rfl (hb hby d22_3) rfl rfl (l' := #[.val (.int c0), .val (.ref b1)]) rfl tk) ?_
  refine Gs (fun _ tk => XS.aloadN X1.here hx rfl (hb hby d22_4) rfl rfl tk) ?_
  refine Gs (fun _ tk => XS.iconst X1.here hx rfl (hb hby d22_5) tk) ?_
  refine Gs (fun _ tk => XS.iloadN X1.here hx rfl (hb hby d22_6) rfl tk) ?_
  obtain ⟨_, _, ⟨T2, L2, k2, n2⟩, -, X2, ⟨Lc2, hQ2, l2, y2, z2⟩, st2⟩ := Jvm.LawKit.callS X1 hx (y := mN13) hown (mvT hZ (gw hw 79 rfl)) (mvT hZ (gw hw 80 rfl)) (mvT hZ (gw hw 47 rfl)) (mvT hZ (gw hw 81 rfl)) (by decide) (backOf (W := 0) (rs_pc_1_0 l Z a0 hw [] b1 k1 c0 h1 n0 Z0 V_b1 g_b1 S__assertionsDisabled S_HI_BYTE_SHIFT S_LO_BYTE_SHIFT) hZ (gw hw 81 rfl) (gw hw 47 rfl) (by decide) (by decide)) (g := (mkF m 7 #[.val (.int c0), .val (.ref b1)] [(.int c0), (.int (0 : Int32)), (.ref b1)])) rfl (by rw [hml]; rfl) (argsL := [(.ref b1), (.int (0 : Int32)), (.int c0)]) (rest := []) (lenOf own_pd10 rfl) rfl (w0 (Nat.le_of_eq rfl)) (hb hby d22_7) (fun _ _ => ⟨rfl, e1, (by decide : 1 + 0 ≤ _), (by decide : 2 + 0 ≤ _)⟩)
  dsimp only [Pt.U, Pt.locs, Pt.cells, Pt.slots] at X2 l2 y2 z2 st2 hQ2
  subst l2 y2 z2
  obtain ⟨rfl, N2q, K2, V_b1_2'⟩ := hQ2
  have N2 := Fr.app N0 N2q
  replace KP := KP.trans K2 (allS (Or.inr sz_b1) all0)
  replace Z0 := Nat.le_trans Z0 K2.1
  have V_b1 := V_b1_2'
  refine Gs st2 ?_
  show Goes _ _ _ _ _ (T2.setTop (mkF m 10 #[.val (.int c0), .val (.ref b1)] []))
  refine Gs (fun _ tk => XS.aloadN X2.here hx rfl (hb hby d22_10) rfl rfl tk) ?_
  refine Goes.ret X2 (some (.ref b1)) (fun h => by rw [hret] at h; cases h) hlk (by decide) (by decide) ?_ (fun fs hr => ?_)
  · exact ⟨b1, k1, rfl, N2, KP, V_b1, g_b1, sz_b1⟩
  · exact own_retA X2 hx hret rfl rfl (hb hby d22_11) hr
theorem d23_0 : decode jdk_42_method_151_code 0 = .ok (.aload_n 0, 1) := by decide +kernel
theorem d23_1 : decode jdk_42_method_151_code 1 = .ok (.invokespecial 1, 3) := by decide +kernel
theorem d23_4 : decode jdk_42_method_151_code 4 = .ok (.aload_n 0, 1) := by decide +kernel
theorem d23_5 : decode jdk_42_method_151_code 5 = .ok (.aload_n 1, 1) := by decide +kernel
theorem d23_6 : decode jdk_42_method_151_code 6 = .ok (.putfield 9, 3) := by decide +kernel
theorem d23_9 : decode jdk_42_method_151_code 9 = .ok (.aload_n 0, 1) := by decide +kernel
theorem d23_10 : decode jdk_42_method_151_code 10 = .ok (.iload_n 2, 1) := by decide +kernel
theorem d23_11 : decode jdk_42_method_151_code 11 = .ok (.putfield 15, 3) := by decide +kernel
theorem d23_14 : decode jdk_42_method_151_code 14 = .ok (.return_, 1) := by decide +kernel
theorem own_ef_rs_ibb0 (m : MethodId) (x0 : Addr) (x1 : Addr) : entryFrame m #[(.ref x0), (.ref x1), (.int (0 : Int32))] 3 = mkF m 0 #[.val (.ref x0), .val (.ref x1), .val (.int (0 : Int32))] [] := by first | (simp [entryFrame, mkF, argsToLocals, Value.category]; done) | rfl
def Q_rs_ibb0 (Z : State) (a : Addr) (y : Addr) (h0 : Heap) (n0 : Nat) (v : Option Value) (h : Heap) (L : List Loc) : Prop := v = none ∧ Fr n0 L ∧ Keep h0 h [a] ∧ Fld Z h a "java/lang/String" "value" "[B" (.ref y) ∧ Fld Z h a "java/lang/String" "coder" "B" (.int (0 : Int32))
set_option maxRecDepth 65536 in
set_option maxHeartbeats 40000000 in
theorem rs_ibb0 (l : Launch) (Z : State) (a0 : Array Value) (hw : ∀ d ∈ tables_1, d.before a0 Z = true) (ws : List Jvm.Cond) (a : Addr) (y : Addr) (h0 : Heap) (n0 : Nat) (Z0 : n0 ≤ h0.size) (A_a : Exa Z h0 a "java/lang/String") (F_value_a : Fld Z h0 a "java/lang/String" "value" "[B" .null) (F_coder_a : Fld Z h0 a "java/lang/String" "coder" "B" (.int (0 : Int32))) (g_a : n0 ≤ a) :
    Met l Z mN23 jdk_42_method_151_code 3 none ({ frames := 1, cells := 0, slots := 0, locals := 12 } : Room) ws #[(.ref a), (.ref y), (.int (0 : Int32))] h0 (Q_rs_ibb0 Z a y h0 n0) := by
  refine own_met (plainFor_of_name own_pn0) ?_
  intro p e s m below meth c s₁ hret hx hby hlk hml hown hnm X0 e0 hZ hh
  have N0 := Fr.nil n0
  refine Gs (fun _ tk => castTop (own_ef_rs_ibb0 m a y) tk) ?_
  have KP : Keep h0 h0 [a] := Keep.refl _ _
  show Goes _ _ _ _ _ (s₁.setTop (mkF m 0 #[.val (.ref a), .val (.ref y), .val (.int (0 : Int32))] []))
  refine Gs (fun _ tk => XS.aloadN X0.here hx rfl (hb hby d23_0) rfl rfl tk) ?_
  obtain ⟨T1, X1, e1, st1⟩ := initO X0 hx hZ hown (gw hw 16 rfl) (gw hw 17 rfl) (gw hw 18 rfl) e0 (g := (mkF m 1 #[.val (.ref a), .val (.ref y), .val (.int (0 : Int32))] [(.ref a)])) rfl (by rw [hml]; rfl) rfl (hb hby d23_1) (by decide) (W := 0) (w0 (Nat.le_of_eq rfl)) (by decide)
  refine Gs st1 ?_
  show Goes _ _ _ _ _ (T1.setTop (mkF m 4 #[.val (.ref a), .val (.ref y), .val (.int (0 : Int32))] []))
  refine Gs (fun _ tk => XS.aloadN X1.here hx rfl (hb hby d23_4) rfl rfl tk) ?_
  refine Gs (fun _ tk => XS.aloadN X1.here hx rfl (hb hby d23_5) rfl rfl tk) ?_
  obtain ⟨T2, h2, X2, e2, W2, st2⟩ := putF X1 hx hZ hown (host := "") (Or.inl (gw hw 25 rfl)) Via.refl e1 F_value_a A_a (Or.inr ⟨(gw hw 21 rfl), rfl, hnm⟩) (gw hw 6 rfl) (ty := (.array .byte)) (by decide) rfl rfl (g := (mkF m 6 #[.val (.ref a), .val (.ref y), .val (.int (0 : Int32))] [(.ref y), (.ref a)])) rfl rfl (hb hby d23_6)
  have N2 := Fr.snoc X2 N0 g_a
  replace A_a := A_a.wr W2
  replace F_coder_a := F_coder_a.other W2 (Or.inr (slot_ne (Or.inr (gw hw 22 rfl)) (Or.inr (gw hw 21 rfl)) (by decide) (t := .byte) (t' := (.array .byte)) (by decide) (by decide)))
  replace KP := KP.wr W2 (Or.inl (List.mem_of_getElem? (i := 0) rfl))
  replace F_value_a := F_value_a.same W2
  replace Z0 : n0 ≤ h2.size := by rw [W2.size]; exact Z0
  refine Gs st2 ?_
  show Goes _ _ _ _ _ (T2.setTop (mkF m 9 #[.val (.ref a), .val (.ref y), .val (.int (0 : Int32))] []))
  refine Gs (fun _ tk => XS.aloadN X2.here hx rfl (hb hby d23_9) rfl rfl tk) ?_
  refine Gs (fun _ tk => XS.iloadN X2.here hx rfl (hb hby d23_10) rfl tk) ?_
  obtain ⟨T3, h3, X3, e3, W3, st3⟩ := putFN X2 hx hZ hown (gw hw 26 rfl) Via.refl e2 F_coder_a A_a (Or.inr ⟨(gw hw 22 rfl), rfl, hnm⟩) (gw hw 6 rfl) (ty := .byte) (v' := .int (0 : Int32)) (by decide) rfl rfl (g := (mkF m 11 #[.val (.ref a), .val (.ref y), .val (.int (0 : Int32))] [(.int (0 : Int32)), (.ref a)])) rfl rfl (hb hby d23_11)
  have N3 := Fr.snoc X3 N2 g_a
  replace F_value_a := F_value_a.other W3 (Or.inr (slot_ne (Or.inr (gw hw 21 rfl)) (Or.inr (gw hw 22 rfl)) (by decide) (t := (.array .byte)) (t' := .byte) (by decide) (by decide)))
  replace KP := KP.wr W3 (Or.inl (List.mem_of_getElem? (i := 0) rfl))
  replace F_coder_a := F_coder_a.same W3
  replace Z0 : n0 ≤ h3.size := by rw [W3.size]; exact Z0
  refine Gs st3 ?_
  show Goes _ _ _ _ _ (T3.setTop (mkF m 14 #[.val (.ref a), .val (.ref y), .val (.int (0 : Int32))] []))
  refine Goes.ret X3 none (fun _ => rfl) hlk (by decide) (by decide) ?_ (fun fs hr => ?_)
  · rw [e3]; exact ⟨rfl, N3, KP, F_value_a, F_coder_a⟩
  · exact X3.returnOut hx hret (hb hby d23_14) hr
theorem own_ef_rs_ibb1 (m : MethodId) (x0 : Addr) (x1 : Addr) : entryFrame m #[(.ref x0), (.ref x1), (.int (1 : Int32))] 3 = mkF m 0 #[.val (.ref x0), .val (.ref x1), .val (.int (1 : Int32))] [] := by first | (simp [entryFrame, mkF, argsToLocals, Value.category]; done) | rfl
def Q_rs_ibb1 (Z : State) (a : Addr) (y : Addr) (h0 : Heap) (n0 : Nat) (v : Option Value) (h : Heap) (L : List Loc) : Prop := v = none ∧ Fr n0 L ∧ Keep h0 h [a] ∧ Fld Z h a "java/lang/String" "value" "[B" (.ref y) ∧ Fld Z h a "java/lang/String" "coder" "B" (.int (1 : Int32))
set_option maxRecDepth 65536 in
set_option maxHeartbeats 40000000 in
theorem rs_ibb1 (l : Launch) (Z : State) (a0 : Array Value) (hw : ∀ d ∈ tables_1, d.before a0 Z = true) (ws : List Jvm.Cond) (a : Addr) (y : Addr) (h0 : Heap) (n0 : Nat) (Z0 : n0 ≤ h0.size) (A_a : Exa Z h0 a "java/lang/String") (F_value_a : Fld Z h0 a "java/lang/String" "value" "[B" .null) (F_coder_a : Fld Z h0 a "java/lang/String" "coder" "B" (.int (0 : Int32))) (g_a : n0 ≤ a) :
    Met l Z mN23 jdk_42_method_151_code 3 none ({ frames := 1, cells := 0, slots := 0, locals := 12 } : Room) ws #[(.ref a), (.ref y), (.int (1 : Int32))] h0 (Q_rs_ibb1 Z a y h0 n0) := by
  refine own_met (plainFor_of_name own_pn0) ?_
  intro p e s m below meth c s₁ hret hx hby hlk hml hown hnm X0 e0 hZ hh
  have N0 := Fr.nil n0
  refine Gs (fun _ tk => castTop (own_ef_rs_ibb1 m a y) tk) ?_
  have KP : Keep h0 h0 [a] := Keep.refl _ _
  show Goes _ _ _ _ _ (s₁.setTop (mkF m 0 #[.val (.ref a), .val (.ref y), .val (.int (1 : Int32))] []))
  refine Gs (fun _ tk => XS.aloadN X0.here hx rfl (hb hby d23_0) rfl rfl tk) ?_
  obtain ⟨T1, X1, e1, st1⟩ := initO X0 hx hZ hown (gw hw 16 rfl) (gw hw 17 rfl) (gw hw 18 rfl) e0 (g := (mkF m 1 #[.val (.ref a), .val (.ref y), .val (.int (1 : Int32))] [(.ref a)])) rfl (by rw [hml]; rfl) rfl (hb hby d23_1) (by decide) (W := 0) (w0 (Nat.le_of_eq rfl)) (by decide)
  refine Gs st1 ?_
  show Goes _ _ _ _ _ (T1.setTop (mkF m 4 #[.val (.ref a), .val (.ref y), .val (.int (1 : Int32))] []))
  refine Gs (fun _ tk => XS.aloadN X1.here hx rfl (hb hby d23_4) rfl rfl tk) ?_
  refine Gs (fun _ tk => XS.aloadN X1.here hx rfl (hb hby d23_5) rfl rfl tk) ?_
  obtain ⟨T2, h2, X2, e2, W2, st2⟩ := putF X1 hx hZ hown (host := "") (Or.inl (gw hw 25 rfl)) Via.refl e1 F_value_a A_a (Or.inr ⟨(gw hw 21 rfl), rfl, hnm⟩) (gw hw 6 rfl) (ty := (.array .byte)) (by decide) rfl rfl (g := (mkF m 6 #[.val (.ref a), .val (.ref y), .val (.int (1 : Int32))] [(.ref y), (.ref a)])) rfl rfl (hb hby d23_6)
  have N2 := Fr.snoc X2 N0 g_a
  replace A_a := A_a.wr W2
  replace F_coder_a := F_coder_a.other W2 (Or.inr (slot_ne (Or.inr (gw hw 22 rfl)) (Or.inr (gw hw 21 rfl)) (by decide) (t := .byte) (t' := (.array .byte)) (by decide) (by decide)))
  replace KP := KP.wr W2 (Or.inl (List.mem_of_getElem? (i := 0) rfl))
  replace F_value_a := F_value_a.same W2
  replace Z0 : n0 ≤ h2.size := by rw [W2.size]; exact Z0
  refine Gs st2 ?_
  show Goes _ _ _ _ _ (T2.setTop (mkF m 9 #[.val (.ref a), .val (.ref y), .val (.int (1 : Int32))] []))
  refine Gs (fun _ tk => XS.aloadN X2.here hx rfl (hb hby d23_9) rfl rfl tk) ?_
  refine Gs (fun _ tk => XS.iloadN X2.here hx rfl (hb hby d23_10) rfl tk) ?_
  obtain ⟨T3, h3, X3, e3, W3, st3⟩ := putFN X2 hx hZ hown (gw hw 26 rfl) Via.refl e2 F_coder_a A_a (Or.inr ⟨(gw hw 22 rfl), rfl, hnm⟩) (gw hw 6 rfl) (ty := .byte) (v' := .int (1 : Int32)) (by decide) rfl rfl (g := (mkF m 11 #[.val (.ref a), .val (.ref y), .val (.int (1 : Int32))] [(.int (1 : Int32)), (.ref a)])) rfl rfl (hb hby d23_11)
  have N3 := Fr.snoc X3 N2 g_a
  replace F_value_a := F_value_a.other W3 (Or.inr (slot_ne (Or.inr (gw hw 21 rfl)) (Or.inr (gw hw 22 rfl)) (by decide) (t := (.array .byte)) (t' := .byte) (by decide) (by decide)))
  replace KP := KP.wr W3 (Or.inl (List.mem_of_getElem? (i := 0) rfl))
  replace F_coder_a := F_coder_a.same W3
  replace Z0 : n0 ≤ h3.size := by rw [W3.size]; exact Z0
  refine Gs st3 ?_
  show Goes _ _ _ _ _ (T3.setTop (mkF m 14 #[.val (.ref a), .val (.ref y), .val (.int (1 : Int32))] []))
  refine Goes.ret X3 none (fun _ => rfl) hlk (by decide) (by decide) ?_ (fun fs hr => ?_)
  · rw [e3]; exact ⟨rfl, N3, KP, F_value_a, F_coder_a⟩
  · exact X3.returnOut hx hret (hb hby d23_14) hr
theorem d24_0 : decode jdk_42_method_139_code 0 = .ok (.getstatic 38, 3) := by decide +kernel
theorem d24_3 : decode jdk_42_method_139_code 3 = .ok (.ifCond .eq 23, 3) := by decide +kernel
theorem d24_6 : decode jdk_42_method_139_code 6 = .ok (.iload_n 0, 1) := by decide +kernel
theorem d24_7 : decode jdk_42_method_139_code 7 = .ok (.invokestatic 1015, 3) := by decide +kernel
theorem own_pd14 : parseMethodDescriptor "(C)Z" = some ⟨[.char], some .boolean⟩ := by decide +kernel
theorem d24_10 : decode jdk_42_method_139_code 10 = .ok (.ifCond .eq 16, 3) := by decide +kernel
theorem d24_26 : decode jdk_42_method_139_code 26 = .ok (.new 10, 3) := by decide +kernel
theorem d24_29 : decode jdk_42_method_139_code 29 = .ok (.dup, 1) := by decide +kernel
theorem d24_30 : decode jdk_42_method_139_code 30 = .ok (.iload_n 0, 1) := by decide +kernel
theorem d24_31 : decode jdk_42_method_139_code 31 = .ok (.invokestatic 1021, 3) := by decide +kernel
theorem own_pd15 : parseMethodDescriptor "(C)[B" = some ⟨[.char], some (.array .byte)⟩ := by decide +kernel
theorem d24_34 : decode jdk_42_method_139_code 34 = .ok (.iconst 1, 1) := by decide +kernel
theorem d24_35 : decode jdk_42_method_139_code 35 = .ok (.invokespecial 209, 3) := by decide +kernel
theorem own_pd16 : parseMethodDescriptor "([BB)V" = some ⟨[(.array .byte), .byte], none⟩ := by decide +kernel
theorem d24_38 : decode jdk_42_method_139_code 38 = .ok (.areturn, 1) := by decide +kernel
theorem d24_13 : decode jdk_42_method_139_code 13 = .ok (.new 10, 3) := by decide +kernel
theorem d24_16 : decode jdk_42_method_139_code 16 = .ok (.dup, 1) := by decide +kernel
theorem d24_17 : decode jdk_42_method_139_code 17 = .ok (.iload_n 0, 1) := by decide +kernel
theorem d24_18 : decode jdk_42_method_139_code 18 = .ok (.invokestatic 1018, 3) := by decide +kernel
theorem d24_21 : decode jdk_42_method_139_code 21 = .ok (.iconst 0, 1) := by decide +kernel
theorem d24_22 : decode jdk_42_method_139_code 22 = .ok (.invokespecial 209, 3) := by decide +kernel
theorem d24_25 : decode jdk_42_method_139_code 25 = .ok (.areturn, 1) := by decide +kernel
theorem own_ef_rs_vo (m : MethodId) (x0 : Int32) : entryFrame m #[(.int x0)] 1 = mkF m 0 #[.val (.int x0)] [] := by first | (simp [entryFrame, mkF, argsToLocals, Value.category]; done) | rfl
def Q_rs_vo (Z : State) (c0 : Int32) (cz : Int32) (h0 : Heap) (n0 : Nat) (v : Option Value) (h : Heap) (L : List Loc) : Prop := ∃ u : Addr, v = some (.ref u) ∧ Fr n0 L ∧ Keep h0 h [] ∧ StrOf Z h u [c0]
set_option maxRecDepth 65536 in
set_option maxHeartbeats 40000000 in
theorem rs_vo (l : Launch) (Z : State) (a0 : Array Value) (hw : ∀ d ∈ tables_1, d.before a0 Z = true) (ws : List Jvm.Cond) (c0 : Int32) (cz : Int32) (h0 : Heap) (n0 : Nat) (Z0 : n0 ≤ h0.size) (hC_c0 : Chr c0) (S_COMPACT_STRINGS : Sta Z h0 "java/lang/String" "COMPACT_STRINGS" "Z" (.int cz)) (hcz : ¬ (cz = (0 : Int32))) (S__assertionsDisabled : Sta Z h0 "java/lang/StringUTF16" "$assertionsDisabled" "Z" (.int (1 : Int32))) (S_HI_BYTE_SHIFT : Sta Z h0 "java/lang/StringUTF16" "HI_BYTE_SHIFT" "I" (.int (0 : Int32))) (S_LO_BYTE_SHIFT : Sta Z h0 "java/lang/StringUTF16" "LO_BYTE_SHIFT" "I" (.int (8 : Int32))) :
    Met l Z mN24 jdk_42_method_139_code 1 (some (.object "java/lang/String")) ({ frames := 2, cells := 2, slots := 6, locals := 29 } : Room) ws #[(.int c0)] h0 (Q_rs_vo Z c0 cz h0 n0) := by
  refine own_met (plainFor_of_name own_pn0) ?_
  intro p e s m below meth c s₁ hret hx hby hlk hml hown hnm X0 e0 hZ hh
  have N0 := Fr.nil n0
  refine Gs (fun _ tk => castTop (own_ef_rs_vo m c0) tk) ?_
  have KP : Keep h0 h0 [] := Keep.refl _ _
  show Goes _ _ _ _ _ (s₁.setTop (mkF m 0 #[.val (.int c0)] []))
  by_cases hn_c0 : (255 : Int32) < c0
  · show Goes _ _ _ _ _ (s₁.setTop (mkF m 0 #[.val (.int c0)] []))
    obtain ⟨T1, X1, e1, st1⟩ := getS2 X0 hx hZ hown (host := "") (Or.inl (gw hw 41 rfl)) Via.refl e0 S_COMPACT_STRINGS (g := (mkF m 0 #[.val (.int c0)] [])) rfl (hb hby d24_0)
    refine Gs st1 ?_
    show Goes _ _ _ _ _ (T1.setTop (mkF m 3 #[.val (.int c0)] [(.int cz)]))
    refine Gs (fun _ tk => XS.ifNo X1.here hx rfl (hb hby d24_3) rfl ((if0 _ _).trans (feq hcz).1) tk) ?_
    refine Gs (fun _ tk => XS.iloadN X1.here hx rfl (hb hby d24_6) rfl tk) ?_
    obtain ⟨_, _, ⟨T2, L2, k2, n2⟩, -, X2, ⟨Lc2, hQ2, l2, y2, z2⟩, st2⟩ := Jvm.LawKit.callS X1 hx (y := mN20) hown (mvT hZ (gw hw 58 rfl)) (mvT hZ (gw hw 59 rfl)) (mvT hZ (gw hw 60 rfl)) (mvT hZ (gw hw 61 rfl)) (by decide) (backOf (W := 0) (rs_enc1 l Z a0 hw [] c0 h0 n0 Z0 (by first | assumption | decide)) hZ (gw hw 61 rfl) (gw hw 60 rfl) (by decide) (by decide)) (g := (mkF m 7 #[.val (.int c0)] [(.int c0)])) rfl (by rw [hml]; rfl) (argsL := [(.int c0)]) (rest := []) (lenOf own_pd14 rfl) rfl (w0 (Nat.le_of_eq rfl)) (hb hby d24_7) (fun _ _ => ⟨rfl, e1, (by decide : 0 + 0 ≤ _), (by decide : 0 + 0 ≤ _)⟩)
    dsimp only [Pt.U, Pt.locs, Pt.cells, Pt.slots] at X2 l2 y2 z2 st2 hQ2
    subst l2 y2 z2
    obtain ⟨rfl, N2q, e2⟩ := hQ2
    have N2 := Fr.app N0 N2q
    refine Gs st2 ?_
    show Goes _ _ _ _ _ (T2.setTop (mkF m 10 #[.val (.int c0)] [(.int (0 : Int32))]))
    refine Gs (fun _ tk => XS.ifYes X2.here hx rfl (pc0 := 10) (pc' := 26) rfl (hb hby d24_10) rfl ((if0 _ _).trans (teq (by decide : ((0 : Int32) = (0 : Int32)))).1) (by decide) (by decide) tk) ?_
    obtain ⟨T3, h3, X3, e3, E3, A3, D3, -, st3⟩ := newO X2 hx hZ hown (gw hw 62 rfl) (gw hw 6 rfl) (gw hw 7 rfl) e2 (g := (mkF m 26 #[.val (.int c0)] [])) rfl (hb hby d24_26) (by decide) (by decide)
    obtain ⟨b3, gq3⟩ : ∃ z, z = h0.size := ⟨_, rfl⟩
    rw [← gq3] at A3 st3 D3
    have g_b3 : n0 ≤ b3 := by rw [gq3]; exact Z0
    have sz_b3 : h0.size ≤ b3 := by rw [gq3]; exact KP.1
    replace S_COMPACT_STRINGS := S_COMPACT_STRINGS.ext E3
    replace S__assertionsDisabled := S__assertionsDisabled.ext E3
    replace S_HI_BYTE_SHIFT := S_HI_BYTE_SHIFT.ext E3
    replace S_LO_BYTE_SHIFT := S_LO_BYTE_SHIFT.ext E3
    replace KP := KP.ext E3
    replace Z0 : n0 ≤ h3.size := Nat.le_trans Z0 E3.1
    have A_b3 : Exa Z h3 b3 "java/lang/String" := A3
    have F_value_b3 : Fld Z h3 b3 "java/lang/String" "value" "[B" .null := D3 (Or.inr (gw hw 21 rfl)) (ty := (.array .byte)) (by decide)
    have F_coder_b3 : Fld Z h3 b3 "java/lang/String" "coder" "B" (.int (0 : Int32)) := D3 (Or.inr (gw hw 22 rfl)) (ty := .byte) (by decide)
    refine Gs st3 ?_
    show Goes _ _ _ _ _ (T3.setTop (mkF m 29 #[.val (.int c0)] [(.ref b3)]))
    refine Gs (fun _ tk => XS.dup X3.here hx rfl (hb hby d24_29) rfl rfl tk) ?_
    refine Gs (fun _ tk => XS.iloadN X3.here hx rfl (hb hby d24_30) rfl tk) ?_
    have ltc4_b3 : b3 < h3.size := A_b3.lt
    obtain ⟨_, _, ⟨T4, L4, k4, n4⟩, -, X4, ⟨Lc4, hQ4, l4, y4, z4⟩, st4⟩ := Jvm.LawKit.callS X3 hx (y := mN22) hown (mvT hZ (gw hw 88 rfl)) (mvT hZ (gw hw 89 rfl)) (mvT hZ (gw hw 47 rfl)) (mvT hZ (gw hw 90 rfl)) (by decide) (backOf (W := 2) (rs_utb l Z a0 hw [] c0 h3 n0 Z0 S__assertionsDisabled S_HI_BYTE_SHIFT S_LO_BYTE_SHIFT) hZ (gw hw 90 rfl) (gw hw 47 rfl) (by decide) (by decide)) (g := (mkF m 31 #[.val (.int c0)] [(.int c0), (.ref b3), (.ref b3)])) rfl (by rw [hml]; rfl) (argsL := [(.int c0)]) (rest := [(.ref b3), (.ref b3)]) (lenOf own_pd15 rfl) rfl (w0 (Nat.le_of_eq rfl)) (hb hby d24_31) (fun _ _ => ⟨rfl, e3, (by decide : 1 + 1 ≤ _), (by decide : 4 + 2 ≤ _)⟩)
    dsimp only [Pt.U, Pt.locs, Pt.cells, Pt.slots] at X4 l4 y4 z4 st4 hQ4
    subst l4 y4 z4
    obtain ⟨y4, ky4, rfl, N4q, K4, V_y4_4', g_y4_4', sz_y4_4'⟩ := hQ4
    have N4 := Fr.app N2 N4q
    replace S_COMPACT_STRINGS := own_staK S_COMPACT_STRINGS K4 all0
    replace A_b3 := A_b3.keep K4
    replace F_value_b3 := F_value_b3.keep K4 nin0
    replace F_coder_b3 := F_coder_b3.keep K4 nin0
    replace KP := KP.trans K4 all0
    replace Z0 := Nat.le_trans Z0 K4.1
    have V_y4 := V_y4_4'
    have g_y4 := g_y4_4'
    have szc_y4 := sz_y4_4'
    have ne_b3_y4 : b3 ≠ y4 := Nat.ne_of_lt (Nat.lt_of_lt_of_le ltc4_b3 szc_y4)
    refine Gs st4 ?_
    show Goes _ _ _ _ _ (T4.setTop (mkF m 34 #[.val (.int c0)] [(.ref y4), (.ref b3), (.ref b3)]))
    refine Gs (fun _ tk => XS.iconst X4.here hx rfl (hb hby d24_34) tk) ?_
    obtain ⟨_, _, ⟨T5, L5, k5, n5⟩, -, X5, ⟨Lc5, hQ5, l5, y5, z5⟩, st5⟩ := X4.specialBack hx (y := mN23) rfl hown (mvT hZ (gw hw 66 rfl)) (mvT hZ (gw hw 67 rfl)) (mvT hZ (gw hw 68 rfl)) (by decide) (backOf (W := 1) (rs_ibb1 l Z a0 hw [] b3 y4 T4.heap n0 Z0 A_b3 F_value_b3 F_coder_b3 g_b3) hZ (gw hw 68 rfl) (gw hw 7 rfl) (by decide) (by decide)) (g := (mkF m 35 #[.val (.int c0)] [(.int (1 : Int32)), (.ref y4), (.ref b3), (.ref b3)])) rfl (by rw [hml]; rfl) (Steps.refl _) (a := b3) (argsL := [(.ref y4), (.int (1 : Int32))]) (rest := [(.ref b3)]) (lenOf own_pd16 rfl) rfl (w0 (Nat.le_of_eq rfl)) (hb hby d24_35) (fun _ _ => ⟨rfl, rfl, (by decide : 2 + 0 ≤ _), (by decide : 6 + 0 ≤ _)⟩)
    dsimp only [Pt.U, Pt.locs, Pt.cells, Pt.slots] at X5 l5 y5 z5 st5 hQ5
    subst l5 y5 z5
    obtain ⟨rfl, N5q, K5, F_value_b3_5', F_coder_b3_5'⟩ := hQ5
    have N5 := Fr.app N4 N5q
    replace S_COMPACT_STRINGS := own_staK S_COMPACT_STRINGS K5 (allS (own_obE A_b3) all0)
    replace A_b3 := A_b3.keep K5
    replace V_y4 := V_y4.keep K5 (ninS (Ne.symm ne_b3_y4) nin0)
    replace KP := KP.trans K5 (allS (Or.inr sz_b3) all0)
    replace Z0 := Nat.le_trans Z0 K5.1
    have F_value_b3 := F_value_b3_5'
    have F_coder_b3 := F_coder_b3_5'
    refine Gs (fun _ tk => st5.trans tk) ?_
    show Goes _ _ _ _ _ (T5.setTop (mkF m 38 #[.val (.int c0)] [(.ref b3)]))
    have T_b3 : StrOf Z T5.heap b3 [c0] := StrOf.utf A_b3 F_value_b3 F_coder_b3 V_y4 (by intro c hc; rw [List.mem_singleton.mp hc]; exact hC_c0) rfl rfl (Nat.le_of_ble_eq_true rfl)
    refine Goes.ret X5 (some (.ref b3)) (fun h => by rw [hret] at h; cases h) hlk (by decide) (by decide) ?_ (fun fs hr => ?_)
    · exact ⟨b3, rfl, N5, KP, T_b3⟩
    · exact own_retA X5 hx hret rfl rfl (hb hby d24_38) hr
  · show Goes _ _ _ _ _ (s₁.setTop (mkF m 0 #[.val (.int c0)] []))
    obtain ⟨T6, X6, e6, st6⟩ := getS2 X0 hx hZ hown (host := "") (Or.inl (gw hw 41 rfl)) Via.refl e0 S_COMPACT_STRINGS (g := (mkF m 0 #[.val (.int c0)] [])) rfl (hb hby d24_0)
    refine Gs st6 ?_
    show Goes _ _ _ _ _ (T6.setTop (mkF m 3 #[.val (.int c0)] [(.int cz)]))
    refine Gs (fun _ tk => XS.ifNo X6.here hx rfl (hb hby d24_3) rfl ((if0 _ _).trans (feq hcz).1) tk) ?_
    refine Gs (fun _ tk => XS.iloadN X6.here hx rfl (hb hby d24_6) rfl tk) ?_
    obtain ⟨_, _, ⟨T7, L7, k7, n7⟩, -, X7, ⟨Lc7, hQ7, l7, y7, z7⟩, st7⟩ := Jvm.LawKit.callS X6 hx (y := mN20) hown (mvT hZ (gw hw 58 rfl)) (mvT hZ (gw hw 59 rfl)) (mvT hZ (gw hw 60 rfl)) (mvT hZ (gw hw 61 rfl)) (by decide) (backOf (W := 0) (rs_enc0 l Z a0 hw [] c0 h0 n0 Z0 (by first | assumption | decide)) hZ (gw hw 61 rfl) (gw hw 60 rfl) (by decide) (by decide)) (g := (mkF m 7 #[.val (.int c0)] [(.int c0)])) rfl (by rw [hml]; rfl) (argsL := [(.int c0)]) (rest := []) (lenOf own_pd14 rfl) rfl (w0 (Nat.le_of_eq rfl)) (hb hby d24_7) (fun _ _ => ⟨rfl, e6, (by decide : 0 + 0 ≤ _), (by decide : 0 + 0 ≤ _)⟩)
    dsimp only [Pt.U, Pt.locs, Pt.cells, Pt.slots] at X7 l7 y7 z7 st7 hQ7
    subst l7 y7 z7
    obtain ⟨rfl, N7q, e7⟩ := hQ7
    have N7 := Fr.app N0 N7q
    refine Gs st7 ?_
    show Goes _ _ _ _ _ (T7.setTop (mkF m 10 #[.val (.int c0)] [(.int (1 : Int32))]))
    refine Gs (fun _ tk => XS.ifNo X7.here hx rfl (hb hby d24_10) rfl ((if0 _ _).trans (feq (by decide : ¬ ((1 : Int32) = (0 : Int32)))).1) tk) ?_
    obtain ⟨T8, h8, X8, e8, E8, A8, D8, -, st8⟩ := newO X7 hx hZ hown (gw hw 62 rfl) (gw hw 6 rfl) (gw hw 7 rfl) e7 (g := (mkF m 13 #[.val (.int c0)] [])) rfl (hb hby d24_13) (by decide) (by decide)
    obtain ⟨b8, gq8⟩ : ∃ z, z = h0.size := ⟨_, rfl⟩
    rw [← gq8] at A8 st8 D8
    have g_b8 : n0 ≤ b8 := by rw [gq8]; exact Z0
    have sz_b8 : h0.size ≤ b8 := by rw [gq8]; exact KP.1
    replace KP := KP.ext E8
    replace Z0 : n0 ≤ h8.size := Nat.le_trans Z0 E8.1
    have A_b8 : Exa Z h8 b8 "java/lang/String" := A8
    have F_value_b8 : Fld Z h8 b8 "java/lang/String" "value" "[B" .null := D8 (Or.inr (gw hw 21 rfl)) (ty := (.array .byte)) (by decide)
    have F_coder_b8 : Fld Z h8 b8 "java/lang/String" "coder" "B" (.int (0 : Int32)) := D8 (Or.inr (gw hw 22 rfl)) (ty := .byte) (by decide)
    refine Gs st8 ?_
    show Goes _ _ _ _ _ (T8.setTop (mkF m 16 #[.val (.int c0)] [(.ref b8)]))
    refine Gs (fun _ tk => XS.dup X8.here hx rfl (hb hby d24_16) rfl rfl tk) ?_
    refine Gs (fun _ tk => XS.iloadN X8.here hx rfl (hb hby d24_17) rfl tk) ?_
    have ltc9_b8 : b8 < h8.size := A_b8.lt
    obtain ⟨_, _, ⟨T9, L9, k9, n9⟩, -, X9, ⟨Lc9, hQ9, l9, y9, z9⟩, st9⟩ := Jvm.LawKit.callS X8 hx (y := mN21) hown (mvT hZ (gw hw 63 rfl)) (mvT hZ (gw hw 64 rfl)) (mvT hZ (gw hw 60 rfl)) (mvT hZ (gw hw 65 rfl)) (by decide) (backOf (W := 2) (rs_ltb l Z a0 hw [] c0 h8 n0 Z0) hZ (gw hw 65 rfl) (gw hw 60 rfl) (by decide) (by decide)) (g := (mkF m 18 #[.val (.int c0)] [(.int c0), (.ref b8), (.ref b8)])) rfl (by rw [hml]; rfl) (argsL := [(.int c0)]) (rest := [(.ref b8), (.ref b8)]) (lenOf own_pd15 rfl) rfl (w0 (Nat.le_of_eq rfl)) (hb hby d24_18) (fun _ _ => ⟨rfl, e8, (by decide : 1 + 1 ≤ _), (by decide : 4 + 1 ≤ _)⟩)
    dsimp only [Pt.U, Pt.locs, Pt.cells, Pt.slots] at X9 l9 y9 z9 st9 hQ9
    subst l9 y9 z9
    obtain ⟨y9, ky9, rfl, N9q, K9, V_y9_9', g_y9_9', sz_y9_9'⟩ := hQ9
    have N9 := Fr.app N7 N9q
    replace A_b8 := A_b8.keep K9
    replace F_value_b8 := F_value_b8.keep K9 nin0
    replace F_coder_b8 := F_coder_b8.keep K9 nin0
    replace KP := KP.trans K9 all0
    replace Z0 := Nat.le_trans Z0 K9.1
    have V_y9 := V_y9_9'
    have g_y9 := g_y9_9'
    have szc_y9 := sz_y9_9'
    have ne_b8_y9 : b8 ≠ y9 := Nat.ne_of_lt (Nat.lt_of_lt_of_le ltc9_b8 szc_y9)
    refine Gs st9 ?_
    show Goes _ _ _ _ _ (T9.setTop (mkF m 21 #[.val (.int c0)] [(.ref y9), (.ref b8), (.ref b8)]))
    refine Gs (fun _ tk => XS.iconst X9.here hx rfl (hb hby d24_21) tk) ?_
    obtain ⟨_, _, ⟨T10, L10, k10, n10⟩, -, X10, ⟨Lc10, hQ10, l10, y10, z10⟩, st10⟩ := X9.specialBack hx (y := mN23) rfl hown (mvT hZ (gw hw 66 rfl)) (mvT hZ (gw hw 67 rfl)) (mvT hZ (gw hw 68 rfl)) (by decide) (backOf (W := 1) (rs_ibb0 l Z a0 hw [] b8 y9 T9.heap n0 Z0 A_b8 F_value_b8 F_coder_b8 g_b8) hZ (gw hw 68 rfl) (gw hw 7 rfl) (by decide) (by decide)) (g := (mkF m 22 #[.val (.int c0)] [(.int (0 : Int32)), (.ref y9), (.ref b8), (.ref b8)])) rfl (by rw [hml]; rfl) (Steps.refl _) (a := b8) (argsL := [(.ref y9), (.int (0 : Int32))]) (rest := [(.ref b8)]) (lenOf own_pd16 rfl) rfl (w0 (Nat.le_of_eq rfl)) (hb hby d24_22) (fun _ _ => ⟨rfl, rfl, (by decide : 2 + 0 ≤ _), (by decide : 5 + 0 ≤ _)⟩)
    dsimp only [Pt.U, Pt.locs, Pt.cells, Pt.slots] at X10 l10 y10 z10 st10 hQ10
    subst l10 y10 z10
    obtain ⟨rfl, N10q, K10, F_value_b8_10', F_coder_b8_10'⟩ := hQ10
    have N10 := Fr.app N9 N10q
    replace A_b8 := A_b8.keep K10
    replace V_y9 := V_y9.keep K10 (ninS (Ne.symm ne_b8_y9) nin0)
    replace KP := KP.trans K10 (allS (Or.inr sz_b8) all0)
    replace Z0 := Nat.le_trans Z0 K10.1
    have F_value_b8 := F_value_b8_10'
    have F_coder_b8 := F_coder_b8_10'
    refine Gs (fun _ tk => st10.trans tk) ?_
    show Goes _ _ _ _ _ (T10.setTop (mkF m 25 #[.val (.int c0)] [(.ref b8)]))
    have T_b8 : StrOf Z T10.heap b8 [c0] := StrOf.latin A_b8 F_value_b8 F_coder_b8 V_y9 (by intro c hc; rw [List.mem_singleton.mp hc]; exact own_toLat hC_c0 hn_c0) rfl rfl (Nat.le_of_ble_eq_true rfl)
    refine Goes.ret X10 (some (.ref b8)) (fun h => by rw [hret] at h; cases h) hlk (by decide) (by decide) ?_ (fun fs hr => ?_)
    · exact ⟨b8, rfl, N10, KP, T_b8⟩
    · exact own_retA X10 hx hret rfl rfl (hb hby d24_25) hr
theorem d25_0 : decode method_3_code 0 = .ok (.iload_n 1, 1) := by decide +kernel
theorem d25_1 : decode method_3_code 1 = .ok (.bipush 48, 2) := by decide +kernel
theorem d25_3 : decode method_3_code 3 = .ok (.if_icmp .ne 21, 3) := by decide +kernel
theorem d25_6 : decode method_3_code 6 = .ok (.iload_n 0, 1) := by decide +kernel
theorem d25_7 : decode method_3_code 7 = .ok (.bipush 48, 2) := by decide +kernel
theorem d25_9 : decode method_3_code 9 = .ok (.if_icmp .lt 13, 3) := by decide +kernel
theorem d25_22 : decode method_3_code 22 = .ok (.iconst 0, 1) := by decide +kernel
theorem d25_23 : decode method_3_code 23 = .ok (.ireturn, 1) := by decide +kernel
theorem d25_12 : decode method_3_code 12 = .ok (.iload_n 0, 1) := by decide +kernel
theorem d25_13 : decode method_3_code 13 = .ok (.bipush 57, 2) := by decide +kernel
theorem d25_15 : decode method_3_code 15 = .ok (.if_icmp .gt 7, 3) := by decide +kernel
theorem d25_18 : decode method_3_code 18 = .ok (.iconst 1, 1) := by decide +kernel
theorem d25_19 : decode method_3_code 19 = .ok (.goto 4, 3) := by decide +kernel
theorem d25_24 : decode method_3_code 24 = .ok (.iload_n 0, 1) := by decide +kernel
theorem d25_25 : decode method_3_code 25 = .ok (.iload_n 1, 1) := by decide +kernel
theorem d25_26 : decode method_3_code 26 = .ok (.if_icmp .ne 7, 3) := by decide +kernel
theorem d25_29 : decode method_3_code 29 = .ok (.iconst 1, 1) := by decide +kernel
theorem d25_30 : decode method_3_code 30 = .ok (.goto 4, 3) := by decide +kernel
theorem d25_34 : decode method_3_code 34 = .ok (.ireturn, 1) := by decide +kernel
theorem d25_33 : decode method_3_code 33 = .ok (.iconst 0, 1) := by decide +kernel
theorem own_pn4 : plainName "com/example/token_into_keys/tokenintokeys/text/TextShapeMatchesPinLaw" = true := by first | (simp [plainName, overriddenIn]; done) | decide +kernel
theorem own_ef_rm_fits (m : MethodId) (x0 : Int32) (x1 : Int32) : entryFrame m #[(.int x0), (.int x1)] 2 = mkF m 0 #[.val (.int x0), .val (.int x1)] [] := by first | (simp [entryFrame, mkF, argsToLocals, Value.category]; done) | rfl
def Q_rm_fits (Z : State) (cc : Int32) (q : Int32) (h0 : Heap) (n0 : Nat) (v : Option Value) (h : Heap) (L : List Loc) : Prop := v = some (.int (own_fit2 q cc)) ∧ Fr n0 L ∧ h = h0
set_option maxRecDepth 65536 in
set_option maxHeartbeats 40000000 in
theorem rm_fits (l : Launch) (Z : State) (a0 : Array Value) (hw : ∀ d ∈ tables_1, d.before a0 Z = true) (ws : List Jvm.Cond) (cc : Int32) (q : Int32) (h0 : Heap) (n0 : Nat) (Z0 : n0 ≤ h0.size) :
    Met l Z mN25 method_3_code 2 (some .boolean) ({ frames := 0, cells := 0, slots := 0, locals := 0 } : Room) ws #[(.int cc), (.int q)] h0 (Q_rm_fits Z cc q h0 n0) := by
  refine own_met (plainFor_of_name own_pn4) ?_
  intro p e s m below meth c s₁ hret hx hby hlk hml hown hnm X0 e0 hZ hh
  have N0 := Fr.nil n0
  refine Gs (fun _ tk => castTop (own_ef_rm_fits m cc q) tk) ?_
  show Goes _ _ _ _ _ (s₁.setTop (mkF m 0 #[.val (.int cc), .val (.int q)] []))
  refine Gs (fun _ tk => XS.iloadN X0.here hx rfl (hb hby d25_0) rfl tk) ?_
  refine Gs (fun _ tk => XS.bipush X0.here hx rfl (hb hby d25_1) tk) ?_
  by_cases hc3_1 : q = (48 : Int32)
  · refine Gs (fun _ tk => XS.icmpNo X0.here hx rfl (hb hby d25_3) rfl (teq hc3_1).2 tk) ?_
    refine Gs (fun _ tk => XS.iloadN X0.here hx rfl (hb hby d25_6) rfl tk) ?_
    refine Gs (fun _ tk => XS.bipush X0.here hx rfl (hb hby d25_7) tk) ?_
    by_cases hc9_2 : cc < (48 : Int32)
    · refine Gs (fun _ tk => XS.icmpYes X0.here hx rfl (pc0 := 9) (pc' := 22) rfl (hb hby d25_9) rfl (tlt hc9_2).1 (by decide) (by decide) tk) ?_
      show Goes _ _ _ _ _ (s₁.setTop (mkF m 22 #[.val (.int cc), .val (.int q)] []))
      refine Gs (fun _ tk => XS.iconst X0.here hx rfl (hb hby d25_22) tk) ?_
      refine Goes.ret X0 (some (.int (0 : Int32))) (fun h => by rw [hret] at h; cases h) hlk (by decide) (by decide) ?_ (fun fs hr => ?_)
      · exact ⟨(by rw [own_fit2, if_pos hc3_1, if_pos hc9_2]), N0, e0⟩
      · exact own_retN X0 hx (t := .boolean) hret (by simp) rfl (hb hby d25_23) hr
    · refine Gs (fun _ tk => XS.icmpNo X0.here hx rfl (hb hby d25_9) rfl (flt hc9_2).1 tk) ?_
      show Goes _ _ _ _ _ (s₁.setTop (mkF m 12 #[.val (.int cc), .val (.int q)] []))
      refine Gs (fun _ tk => XS.iloadN X0.here hx rfl (hb hby d25_12) rfl tk) ?_
      refine Gs (fun _ tk => XS.bipush X0.here hx rfl (hb hby d25_13) tk) ?_
      by_cases hc15_3 : (57 : Int32) < cc
      · refine Gs (fun _ tk => XS.icmpYes X0.here hx rfl (pc0 := 15) (pc' := 22) rfl (hb hby d25_15) rfl (tlt hc15_3).2.2.1 (by decide) (by decide) tk) ?_
        refine Gs (fun _ tk => XS.iconst X0.here hx rfl (hb hby d25_22) tk) ?_
        refine Goes.ret X0 (some (.int (0 : Int32))) (fun h => by rw [hret] at h; cases h) hlk (by decide) (by decide) ?_ (fun fs hr => ?_)
        · exact ⟨(by rw [own_fit2, if_pos hc3_1, if_neg hc9_2, if_pos hc15_3]), N0, e0⟩
        · exact own_retN X0 hx (t := .boolean) hret (by simp) rfl (hb hby d25_23) hr
      · refine Gs (fun _ tk => XS.icmpNo X0.here hx rfl (hb hby d25_15) rfl (flt hc15_3).2.2.1 tk) ?_
        refine Gs (fun _ tk => XS.iconst X0.here hx rfl (hb hby d25_18) tk) ?_
        refine Gs (fun _ tk => XS.goto X0.here hx rfl (pc0 := 19) (pc' := 23) rfl (hb hby d25_19) (by decide) (by decide) tk) ?_
        refine Goes.ret X0 (some (.int (1 : Int32))) (fun h => by rw [hret] at h; cases h) hlk (by decide) (by decide) ?_ (fun fs hr => ?_)
        · exact ⟨(by rw [own_fit2, if_pos hc3_1, if_neg hc9_2, if_neg hc15_3]), N0, e0⟩
        · exact own_retN X0 hx (t := .boolean) hret (by simp) rfl (hb hby d25_23) hr
  · refine Gs (fun _ tk => XS.icmpYes X0.here hx rfl (pc0 := 3) (pc' := 24) rfl (hb hby d25_3) rfl (feq hc3_1).2 (by decide) (by decide) tk) ?_
    refine Gs (fun _ tk => XS.iloadN X0.here hx rfl (hb hby d25_24) rfl tk) ?_
    refine Gs (fun _ tk => XS.iloadN X0.here hx rfl (hb hby d25_25) rfl tk) ?_
    by_cases hc26_4 : cc = q
    · refine Gs (fun _ tk => XS.icmpNo X0.here hx rfl (hb hby d25_26) rfl (teq hc26_4).2 tk) ?_
      show Goes _ _ _ _ _ (s₁.setTop (mkF m 29 #[.val (.int cc), .val (.int q)] []))
      refine Gs (fun _ tk => XS.iconst X0.here hx rfl (hb hby d25_29) tk) ?_
      refine Gs (fun _ tk => XS.goto X0.here hx rfl (pc0 := 30) (pc' := 34) rfl (hb hby d25_30) (by decide) (by decide) tk) ?_
      refine Goes.ret X0 (some (.int (1 : Int32))) (fun h => by rw [hret] at h; cases h) hlk (by decide) (by decide) ?_ (fun fs hr => ?_)
      · exact ⟨(by rw [own_fit2, if_neg hc3_1, if_pos hc26_4]), N0, e0⟩
      · exact own_retN X0 hx (t := .boolean) hret (by simp) rfl (hb hby d25_34) hr
    · refine Gs (fun _ tk => XS.icmpYes X0.here hx rfl (pc0 := 26) (pc' := 33) rfl (hb hby d25_26) rfl (feq hc26_4).2 (by decide) (by decide) tk) ?_
      show Goes _ _ _ _ _ (s₁.setTop (mkF m 33 #[.val (.int cc), .val (.int q)] []))
      refine Gs (fun _ tk => XS.iconst X0.here hx rfl (hb hby d25_33) tk) ?_
      refine Goes.ret X0 (some (.int (0 : Int32))) (fun h => by rw [hret] at h; cases h) hlk (by decide) (by decide) ?_ (fun fs hr => ?_)
      · exact ⟨(by rw [own_fit2, if_neg hc3_1, if_neg hc26_4]), N0, e0⟩
      · exact own_retN X0 hx (t := .boolean) hret (by simp) rfl (hb hby d25_34) hr
theorem d26_0 : decode method_2_code 0 = .ok (.iload_n 0, 1) := by decide +kernel
theorem d26_1 : decode method_2_code 1 = .ok (.ifCond .ne 14, 3) := by decide +kernel
theorem d26_4 : decode method_2_code 4 = .ok (.new 7, 3) := by decide +kernel
theorem d26_7 : decode method_2_code 7 = .ok (.dup, 1) := by decide +kernel
theorem d26_8 : decode method_2_code 8 = .ok (.iconst 0, 1) := by decide +kernel
theorem d26_9 : decode method_2_code 9 = .ok (.newarray .char, 2) := by decide +kernel
theorem d26_11 : decode method_2_code 11 = .ok (.invokespecial 9, 3) := by decide +kernel
theorem own_pd17 : parseMethodDescriptor "([C)V" = some ⟨[(.array .char)], none⟩ := by decide +kernel
theorem d26_14 : decode method_2_code 14 = .ok (.areturn, 1) := by decide +kernel
theorem d26_15 : decode method_2_code 15 = .ok (.iload_n 0, 1) := by decide +kernel
theorem d26_16 : decode method_2_code 16 = .ok (.iconst 1, 1) := by decide +kernel
theorem d26_17 : decode method_2_code 17 = .ok (.if_icmp .ne 8, 3) := by decide +kernel
theorem d26_20 : decode method_2_code 20 = .ok (.iload_n 1, 1) := by decide +kernel
theorem d26_21 : decode method_2_code 21 = .ok (.invokestatic 12, 3) := by decide +kernel
theorem own_pd18 : parseMethodDescriptor "(C)Ljava/lang/String;" = some ⟨[.char], some (.object "java/lang/String")⟩ := by decide +kernel
theorem d26_24 : decode method_2_code 24 = .ok (.areturn, 1) := by decide +kernel
theorem d26_25 : decode method_2_code 25 = .ok (.iload_n 0, 1) := by decide +kernel
theorem d26_26 : decode method_2_code 26 = .ok (.iconst 2, 1) := by decide +kernel
theorem d26_27 : decode method_2_code 27 = .ok (.if_icmp .ne 22, 3) := by decide +kernel
theorem d26_30 : decode method_2_code 30 = .ok (.new 7, 3) := by decide +kernel
theorem d26_33 : decode method_2_code 33 = .ok (.dup, 1) := by decide +kernel
theorem d26_34 : decode method_2_code 34 = .ok (.iconst 2, 1) := by decide +kernel
theorem d26_35 : decode method_2_code 35 = .ok (.newarray .char, 2) := by decide +kernel
theorem d26_37 : decode method_2_code 37 = .ok (.dup, 1) := by decide +kernel
theorem d26_38 : decode method_2_code 38 = .ok (.iconst 0, 1) := by decide +kernel
theorem d26_39 : decode method_2_code 39 = .ok (.iload_n 1, 1) := by decide +kernel
theorem d26_40 : decode method_2_code 40 = .ok (.castore, 1) := by decide +kernel
theorem d26_41 : decode method_2_code 41 = .ok (.dup, 1) := by decide +kernel
theorem d26_42 : decode method_2_code 42 = .ok (.iconst 1, 1) := by decide +kernel
theorem d26_43 : decode method_2_code 43 = .ok (.iload_n 2, 1) := by decide +kernel
theorem d26_44 : decode method_2_code 44 = .ok (.castore, 1) := by decide +kernel
theorem d26_45 : decode method_2_code 45 = .ok (.invokespecial 9, 3) := by decide +kernel
theorem d26_48 : decode method_2_code 48 = .ok (.areturn, 1) := by decide +kernel
theorem d26_49 : decode method_2_code 49 = .ok (.new 7, 3) := by decide +kernel
theorem d26_52 : decode method_2_code 52 = .ok (.dup, 1) := by decide +kernel
theorem d26_53 : decode method_2_code 53 = .ok (.iconst 3, 1) := by decide +kernel
theorem d26_54 : decode method_2_code 54 = .ok (.newarray .char, 2) := by decide +kernel
theorem d26_56 : decode method_2_code 56 = .ok (.dup, 1) := by decide +kernel
theorem d26_57 : decode method_2_code 57 = .ok (.iconst 0, 1) := by decide +kernel
theorem d26_58 : decode method_2_code 58 = .ok (.iload_n 1, 1) := by decide +kernel
theorem d26_59 : decode method_2_code 59 = .ok (.castore, 1) := by decide +kernel
theorem d26_60 : decode method_2_code 60 = .ok (.dup, 1) := by decide +kernel
theorem d26_61 : decode method_2_code 61 = .ok (.iconst 1, 1) := by decide +kernel
theorem d26_62 : decode method_2_code 62 = .ok (.iload_n 2, 1) := by decide +kernel
theorem d26_63 : decode method_2_code 63 = .ok (.castore, 1) := by decide +kernel
theorem d26_64 : decode method_2_code 64 = .ok (.dup, 1) := by decide +kernel
theorem d26_65 : decode method_2_code 65 = .ok (.iconst 2, 1) := by decide +kernel
theorem d26_66 : decode method_2_code 66 = .ok (.iload_n 3, 1) := by decide +kernel
theorem d26_67 : decode method_2_code 67 = .ok (.castore, 1) := by decide +kernel
theorem d26_68 : decode method_2_code 68 = .ok (.invokespecial 9, 3) := by decide +kernel
theorem d26_71 : decode method_2_code 71 = .ok (.areturn, 1) := by decide +kernel
theorem own_ef_rm_str (m : MethodId) (x0 : Int32) (x1 : Int32) (x2 : Int32) (x3 : Int32) : entryFrame m #[(.int x0), (.int x1), (.int x2), (.int x3)] 4 = mkF m 0 #[.val (.int x0), .val (.int x1), .val (.int x2), .val (.int x3)] [] := by first | (simp [entryFrame, mkF, argsToLocals, Value.category]; done) | rfl
def Q_rm_str (Z : State) (n : Int32) (a : Int32) (b : Int32) (cc : Int32) (cz : Int32) (h0 : Heap) (n0 : Nat) (v : Option Value) (h : Heap) (L : List Loc) : Prop := ∃ u : Addr, v = some (.ref u) ∧ Fr n0 L ∧ Keep h0 h [] ∧ StrOf Z h u (own_str n a b cc)
set_option maxRecDepth 65536 in
set_option maxHeartbeats 40000000 in
theorem rm_str (l : Launch) (Z : State) (a0 : Array Value) (hw : ∀ d ∈ tables_1, d.before a0 Z = true) (ws : List Jvm.Cond) (n : Int32) (a : Int32) (b : Int32) (cc : Int32) (cz : Int32) (h0 : Heap) (n0 : Nat) (Z0 : n0 ≤ h0.size) (hC_a : Chr a) (hC_b : Chr b) (hC_cc : Chr cc) (S_COMPACT_STRINGS : Sta Z h0 "java/lang/String" "COMPACT_STRINGS" "Z" (.int cz)) (hcz : ¬ (cz = (0 : Int32))) (S__assertionsDisabled : Sta Z h0 "java/lang/StringUTF16" "$assertionsDisabled" "Z" (.int (1 : Int32))) (S_HI_BYTE_SHIFT : Sta Z h0 "java/lang/StringUTF16" "HI_BYTE_SHIFT" "I" (.int (0 : Int32))) (S_LO_BYTE_SHIFT : Sta Z h0 "java/lang/StringUTF16" "LO_BYTE_SHIFT" "I" (.int (8 : Int32))) :
    MetH l Z mN26 method_2_code 4 (some (.object "java/lang/String")) ({ frames := 6, cells := 6, slots := 16, locals := 88 } : Room) ws #[(.int n), (.int a), (.int b), (.int cc)] h0 (Q_rm_str Z n a b cc cz h0 n0) := by
  refine own_metH (plainFor_of_name own_pn4) ?_
  intro p e s m below meth c s₁ hret hx hby hlk hml hown hnm X0 e0 hZ hh hC0
  have N0 := Fr.nil n0
  have hS : s.Since s.vm h0.size := (State.WarmedH.refl s).since _
  have hk : h0.size ≤ h0.size := Nat.le_refl _
  replace hZ : Z.Warmed39 (s.setVm s.vm).vm := hZ
  have hR : CHr Z consts_1 s.vm h0 s.vm h0 := CHr.refl hC0
  refine Gs (fun _ tk => castTop (own_ef_rm_str m n a b cc) tk) ?_
  have KP : Keep h0 h0 [] := Keep.refl _ _
  show Goes _ _ _ _ _ (s₁.setTop (mkF m 0 #[.val (.int n), .val (.int a), .val (.int b), .val (.int cc)] []))
  refine Gs (fun _ tk => XS.iloadN X0.here hx rfl (hb hby d26_0) rfl tk) ?_
  by_cases hc1_1 : n = (0 : Int32)
  · refine Gs (fun _ tk => XS.ifNo X0.here hx rfl (hb hby d26_1) rfl ((if0 _ _).trans (teq hc1_1).2) tk) ?_
    obtain ⟨T2, h2, X2, e2, E2, A2, D2, -, st2⟩ := newO X0 hx hZ hown (gw hw 5 rfl) (gw hw 6 rfl) (gw hw 7 rfl) e0 (g := (mkF m 4 #[.val (.int n), .val (.int a), .val (.int b), .val (.int cc)] [])) rfl (hb hby d26_4) (by decide) (by decide)
    obtain ⟨b2, gq2⟩ : ∃ z, z = h0.size := ⟨_, rfl⟩
    rw [← gq2] at A2 st2 D2
    have g_b2 : n0 ≤ b2 := by rw [gq2]; exact Z0
    have sz_b2 : h0.size ≤ b2 := by rw [gq2]; exact KP.1
    replace hR := hR.trans (CHr.ext E2 hR.1)
    replace S_COMPACT_STRINGS := S_COMPACT_STRINGS.ext E2
    replace S__assertionsDisabled := S__assertionsDisabled.ext E2
    replace S_HI_BYTE_SHIFT := S_HI_BYTE_SHIFT.ext E2
    replace S_LO_BYTE_SHIFT := S_LO_BYTE_SHIFT.ext E2
    replace KP := KP.ext E2
    replace Z0 : n0 ≤ h2.size := Nat.le_trans Z0 E2.1
    replace hk := Nat.le_trans hk E2.1
    have A_b2 : Exa Z h2 b2 "java/lang/String" := A2
    have F_value_b2 : Fld Z h2 b2 "java/lang/String" "value" "[B" .null := D2 (Or.inr (gw hw 21 rfl)) (ty := (.array .byte)) (by decide)
    have F_coder_b2 : Fld Z h2 b2 "java/lang/String" "coder" "B" (.int (0 : Int32)) := D2 (Or.inr (gw hw 22 rfl)) (ty := .byte) (by decide)
    refine Gs st2 ?_
    show Goes _ _ _ _ _ (T2.setTop (mkF m 7 #[.val (.int n), .val (.int a), .val (.int b), .val (.int cc)] [(.ref b2)]))
    refine Gs (fun _ tk => XS.dup X2.here hx rfl (hb hby d26_7) rfl rfl tk) ?_
    refine Gs (fun _ tk => XS.iconst X2.here hx rfl (hb hby d26_8) tk) ?_
    obtain ⟨T3, h3, k3, X3, e3, E3, A3, st3⟩ := newP X2 hx hZ (gw hw 8 rfl) e2 (g := (mkF m 9 #[.val (.int n), .val (.int a), .val (.int b), .val (.int cc)] [(.int (0 : Int32)), (.ref b2), (.ref b2)])) rfl (hb hby d26_9) rfl (by decide) (cap := 0) (by decide) (by decide) (by decide) (by decide)
    obtain ⟨b3, gq3⟩ : ∃ z, z = h2.size := ⟨_, rfl⟩
    rw [← gq3] at A3 st3
    have g_b3 : n0 ≤ b3 := by rw [gq3]; exact Z0
    have ne_b2_b3 : b2 ≠ b3 := by rw [gq3]; exact Nat.ne_of_lt A_b2.lt
    replace hR := hR.trans (CHr.ext E3 hR.1)
    replace S_COMPACT_STRINGS := S_COMPACT_STRINGS.ext E3
    replace S__assertionsDisabled := S__assertionsDisabled.ext E3
    replace S_HI_BYTE_SHIFT := S_HI_BYTE_SHIFT.ext E3
    replace S_LO_BYTE_SHIFT := S_LO_BYTE_SHIFT.ext E3
    replace A_b2 := A_b2.ext E3
    replace F_value_b2 := F_value_b2.ext E3
    replace F_coder_b2 := F_coder_b2.ext E3
    replace KP := KP.ext E3
    replace Z0 : n0 ≤ h3.size := Nat.le_trans Z0 E3.1
    replace hk := Nat.le_trans hk E3.1
    have V_b3 : Arv Z h3 b3 k3 .char (0 : Int32) [] (.int (0 : Int32)) := Arv.new A3 (by decide)
    refine Gs st3 ?_
    show Goes _ _ _ _ _ (T3.setTop (mkF m 11 #[.val (.int n), .val (.int a), .val (.int b), .val (.int cc)] [(.ref b3), (.ref b2), (.ref b2)]))
    obtain ⟨_, _, ⟨T4, L4, k4, n4⟩, -, X4, hS4, gr4, ⟨Lc4, hQ4, l4, y4, z4, hC4⟩, st4⟩ := X3.specialBackS hx (y := mN12) rfl hown (mvT hZ (gw hw 9 rfl)) (mvT hZ (gw hw 10 rfl)) (mvT hZ (gw hw 11 rfl)) (by decide) (backOfSH (W := 1) (rs_i1_0 l Z a0 hw [] b2 b3 k3 h3 n0 Z0 A_b2 F_value_b2 F_coder_b2 V_b3 g_b2 (Ne.symm ne_b2_b3)) hZ (gw hw 11 rfl) (gw hw 7 rfl) (by decide) (by decide) (own_EW hw) hR.1) (g := (mkF m 11 #[.val (.int n), .val (.int a), .val (.int b), .val (.int cc)] [(.ref b3), (.ref b2), (.ref b2)])) rfl (by rw [hml]; rfl) (Steps.refl _) (a := b2) (argsL := [(.ref b3)]) (rest := [(.ref b2)]) (lenOf own_pd17 rfl) rfl (w0 (Nat.le_of_eq rfl)) (hb hby d26_11) (fun _ _ => ⟨rfl, e3, (by decide : 2 + 4 ≤ _), (by decide : 4 + 8 ≤ _)⟩)
    dsimp only [Pt.U, Pt.locs, Pt.cells, Pt.slots] at X4 l4 y4 z4 st4 hQ4 hS4 gr4 hC4
    subst l4 y4 z4
    obtain ⟨X4, hS, hZ, hown⟩ := rebS hS hk X4 hS4 (by have q := gr4; rw [e3] at q; exact q) hZ hown
    replace hk : T4.heap.size ≤ T4.heap.size := Nat.le_refl _
    obtain ⟨rfl, N4q, K4, T_b2_4'⟩ := hQ4
    have N4 := Fr.app N0 N4q
    replace hR := hR.trans hC4
    replace S_COMPACT_STRINGS := own_staK S_COMPACT_STRINGS K4 (allS (own_obE A_b2) all0)
    replace S__assertionsDisabled := own_staK S__assertionsDisabled K4 (allS (own_obE A_b2) all0)
    replace S_HI_BYTE_SHIFT := own_staK S_HI_BYTE_SHIFT K4 (allS (own_obE A_b2) all0)
    replace S_LO_BYTE_SHIFT := own_staK S_LO_BYTE_SHIFT K4 (allS (own_obE A_b2) all0)
    replace KP := KP.trans K4 (allS (Or.inr sz_b2) all0)
    replace Z0 := Nat.le_trans Z0 K4.1
    have T_b2 := T_b2_4'
    refine Gs (fun _ tk => st4.trans tk) ?_
    show Goes _ _ _ _ _ (T4.setTop (mkF m 14 #[.val (.int n), .val (.int a), .val (.int b), .val (.int cc)] [(.ref b2)]))
    have Tn : StrOf Z T4.heap b2 (own_str n a b cc) := by rw [show (own_str n a b cc) = [] from by rw [own_str, if_pos hc1_1]]; exact T_b2
    refine Goes.retH X4 hS rfl hk hZ (own_EW hw) hh hR (some (.ref b2)) (fun h => by rw [hret] at h; cases h) hlk (by decide) (by decide) ?_ (fun fs hr => ?_)
    · exact ⟨b2, rfl, N4, KP, Tn⟩
    · exact own_retA X4 hx hret rfl rfl (hb hby d26_14) hr
  · refine Gs (fun _ tk => XS.ifYes X0.here hx rfl (pc0 := 1) (pc' := 15) rfl (hb hby d26_1) rfl ((if0 _ _).trans (feq hc1_1).2) (by decide) (by decide) tk) ?_
    refine Gs (fun _ tk => XS.iloadN X0.here hx rfl (hb hby d26_15) rfl tk) ?_
    refine Gs (fun _ tk => XS.iconst X0.here hx rfl (hb hby d26_16) tk) ?_
    by_cases hc17_5 : n = (1 : Int32)
    · refine Gs (fun _ tk => XS.icmpNo X0.here hx rfl (hb hby d26_17) rfl (teq hc17_5).2 tk) ?_
      refine Gs (fun _ tk => XS.iloadN X0.here hx rfl (hb hby d26_20) rfl tk) ?_
      show Goes _ _ _ _ _ (s₁.setTop (mkF m 21 #[.val (.int n), .val (.int a), .val (.int b), .val (.int cc)] [(.int a)]))
      obtain ⟨_, _, ⟨T6, L6, k6, n6⟩, -, X6, ⟨Lc6, hQ6, l6, y6, z6⟩, st6⟩ := Jvm.LawKit.callS X0 hx (y := mN24) hown (mvT hZ (gw hw 55 rfl)) (mvT hZ (gw hw 56 rfl)) (mvT hZ (gw hw 7 rfl)) (mvT hZ (gw hw 57 rfl)) (by decide) (backOf (W := 0) (rs_vo l Z a0 hw [] a cz h0 n0 Z0 hC_a S_COMPACT_STRINGS (by first | assumption | decide) S__assertionsDisabled S_HI_BYTE_SHIFT S_LO_BYTE_SHIFT) hZ (gw hw 57 rfl) (gw hw 7 rfl) (by decide) (by decide)) (g := (mkF m 21 #[.val (.int n), .val (.int a), .val (.int b), .val (.int cc)] [(.int a)])) rfl (by rw [hml]; rfl) (argsL := [(.int a)]) (rest := []) (lenOf own_pd18 rfl) rfl (w0 (Nat.le_of_eq rfl)) (hb hby d26_21) (fun _ _ => ⟨rfl, e0, (by decide : 0 + 2 ≤ _), (by decide : 0 + 6 ≤ _)⟩)
      dsimp only [Pt.U, Pt.locs, Pt.cells, Pt.slots] at X6 l6 y6 z6 st6 hQ6
      subst l6 y6 z6
      obtain ⟨u6, rfl, N6q, K6, T_u6_6'⟩ := hQ6
      have N6 := Fr.app N0 N6q
      replace S_COMPACT_STRINGS := own_staK S_COMPACT_STRINGS K6 all0
      replace S__assertionsDisabled := own_staK S__assertionsDisabled K6 all0
      replace S_HI_BYTE_SHIFT := own_staK S_HI_BYTE_SHIFT K6 all0
      replace S_LO_BYTE_SHIFT := own_staK S_LO_BYTE_SHIFT K6 all0
      replace hR := hR.trans (CHr.keep K6 all0 hR.1)
      replace KP := KP.trans K6 all0
      replace Z0 := Nat.le_trans Z0 K6.1
      replace hk := Nat.le_trans hk K6.1
      have T_u6 := T_u6_6'
      refine Gs st6 ?_
      show Goes _ _ _ _ _ (T6.setTop (mkF m 24 #[.val (.int n), .val (.int a), .val (.int b), .val (.int cc)] [(.ref u6)]))
      have Tn : StrOf Z T6.heap u6 (own_str n a b cc) := by rw [show (own_str n a b cc) = [a] from by rw [own_str, if_neg hc1_1, if_pos hc17_5]]; exact T_u6
      refine Goes.retH X6 hS rfl hk hZ (own_EW hw) hh hR (some (.ref u6)) (fun h => by rw [hret] at h; cases h) hlk (by decide) (by decide) ?_ (fun fs hr => ?_)
      · exact ⟨u6, rfl, N6, KP, Tn⟩
      · exact own_retA X6 hx hret rfl rfl (hb hby d26_24) hr
    · refine Gs (fun _ tk => XS.icmpYes X0.here hx rfl (pc0 := 17) (pc' := 25) rfl (hb hby d26_17) rfl (feq hc17_5).2 (by decide) (by decide) tk) ?_
      refine Gs (fun _ tk => XS.iloadN X0.here hx rfl (hb hby d26_25) rfl tk) ?_
      show Goes _ _ _ _ _ (s₁.setTop (mkF m 26 #[.val (.int n), .val (.int a), .val (.int b), .val (.int cc)] [(.int n)]))
      refine Gs (fun _ tk => XS.iconst X0.here hx rfl (hb hby d26_26) tk) ?_
      by_cases hc27_7 : n = (2 : Int32)
      · refine Gs (fun _ tk => XS.icmpNo X0.here hx rfl (hb hby d26_27) rfl (teq hc27_7).2 tk) ?_
        obtain ⟨T8, h8, X8, e8, E8, A8, D8, -, st8⟩ := newO X0 hx hZ hown (gw hw 5 rfl) (gw hw 6 rfl) (gw hw 7 rfl) e0 (g := (mkF m 30 #[.val (.int n), .val (.int a), .val (.int b), .val (.int cc)] [])) rfl (hb hby d26_30) (by decide) (by decide)
        obtain ⟨b8, gq8⟩ : ∃ z, z = h0.size := ⟨_, rfl⟩
        rw [← gq8] at A8 st8 D8
        have g_b8 : n0 ≤ b8 := by rw [gq8]; exact Z0
        have sz_b8 : h0.size ≤ b8 := by rw [gq8]; exact KP.1
        have Sf_b8 : Safe Z consts_1 s.vm h0 b8 := Safe.new (Nat.le_of_eq gq8.symm)
        replace Sf_b8 := Safe.ext E8 hR.1 Sf_b8
        replace hR := hR.trans (CHr.ext E8 hR.1)
        replace S_COMPACT_STRINGS := S_COMPACT_STRINGS.ext E8
        replace S__assertionsDisabled := S__assertionsDisabled.ext E8
        replace S_HI_BYTE_SHIFT := S_HI_BYTE_SHIFT.ext E8
        replace S_LO_BYTE_SHIFT := S_LO_BYTE_SHIFT.ext E8
        replace KP := KP.ext E8
        replace Z0 : n0 ≤ h8.size := Nat.le_trans Z0 E8.1
        replace hk := Nat.le_trans hk E8.1
        have A_b8 : Exa Z h8 b8 "java/lang/String" := A8
        have F_value_b8 : Fld Z h8 b8 "java/lang/String" "value" "[B" .null := D8 (Or.inr (gw hw 21 rfl)) (ty := (.array .byte)) (by decide)
        have F_coder_b8 : Fld Z h8 b8 "java/lang/String" "coder" "B" (.int (0 : Int32)) := D8 (Or.inr (gw hw 22 rfl)) (ty := .byte) (by decide)
        refine Gs st8 ?_
        show Goes _ _ _ _ _ (T8.setTop (mkF m 33 #[.val (.int n), .val (.int a), .val (.int b), .val (.int cc)] [(.ref b8)]))
        refine Gs (fun _ tk => XS.dup X8.here hx rfl (hb hby d26_33) rfl rfl tk) ?_
        refine Gs (fun _ tk => XS.iconst X8.here hx rfl (hb hby d26_34) tk) ?_
        obtain ⟨T9, h9, k9, X9, e9, E9, A9, st9⟩ := newP X8 hx hZ (gw hw 8 rfl) e8 (g := (mkF m 35 #[.val (.int n), .val (.int a), .val (.int b), .val (.int cc)] [(.int (2 : Int32)), (.ref b8), (.ref b8)])) rfl (hb hby d26_35) rfl (by decide) (cap := 2) (by decide) (by decide) (by decide) (by decide)
        obtain ⟨b9, gq9⟩ : ∃ z, z = h8.size := ⟨_, rfl⟩
        rw [← gq9] at A9 st9
        have g_b9 : n0 ≤ b9 := by rw [gq9]; exact Z0
        have sz_b9 : h0.size ≤ b9 := by rw [gq9]; exact KP.1
        have ne_b8_b9 : b8 ≠ b9 := by rw [gq9]; exact Nat.ne_of_lt A_b8.lt
        have Sf_b9 : Safe Z consts_1 s.vm h8 b9 := Safe.new (Nat.le_of_eq gq9.symm)
        replace Sf_b8 := Safe.ext E9 hR.1 Sf_b8
        replace Sf_b9 := Safe.ext E9 hR.1 Sf_b9
        replace hR := hR.trans (CHr.ext E9 hR.1)
        replace S_COMPACT_STRINGS := S_COMPACT_STRINGS.ext E9
        replace S__assertionsDisabled := S__assertionsDisabled.ext E9
        replace S_HI_BYTE_SHIFT := S_HI_BYTE_SHIFT.ext E9
        replace S_LO_BYTE_SHIFT := S_LO_BYTE_SHIFT.ext E9
        replace A_b8 := A_b8.ext E9
        replace F_value_b8 := F_value_b8.ext E9
        replace F_coder_b8 := F_coder_b8.ext E9
        replace KP := KP.ext E9
        replace Z0 : n0 ≤ h9.size := Nat.le_trans Z0 E9.1
        replace hk := Nat.le_trans hk E9.1
        have V_b9 : Arv Z h9 b9 k9 .char (2 : Int32) [(.int (0 : Int32)), (.int (0 : Int32))] (.int (0 : Int32)) := (Arv.new A9 (by decide)).pad (pad_rep [] (.int (0 : Int32)) 2)
        refine Gs st9 ?_
        show Goes _ _ _ _ _ (T9.setTop (mkF m 37 #[.val (.int n), .val (.int a), .val (.int b), .val (.int cc)] [(.ref b9), (.ref b8), (.ref b8)]))
        refine Gs (fun _ tk => XS.dup X9.here hx rfl (hb hby d26_37) rfl rfl tk) ?_
        refine Gs (fun _ tk => XS.iconst X9.here hx rfl (hb hby d26_38) tk) ?_
        refine Gs (fun _ tk => XS.iloadN X9.here hx rfl (hb hby d26_39) rfl tk) ?_
        obtain ⟨cl10, Ar10, q10, S10, N10z, H10, G10⟩ := V_b9
        have hin10 : ¬ ((0 : Int32) < 0 ∨ cl10.slots.size ≤ ((0 : Int32)).toNatClampNeg) := inb_of S10 ⟨by decide, by decide⟩
        obtain ⟨T10, h10, X10, e10, W10, st10⟩ := stC X9 hx hZ e9 Ar10 (j := (0 : Int32)) hin10 (g := (mkF m 40 #[.val (.int n), .val (.int a), .val (.int b), .val (.int cc)] [(.int a), (.int (0 : Int32)), (.ref b9), (.ref b9), (.ref b8), (.ref b8)])) rfl rfl (hb hby d26_40)
        have Vn10 := Arv.set Ar10 q10 S10 N10z H10 G10 (fits_nar_char _) W10 0 rfl (Nat.le_of_ble_eq_true rfl)
        have N10 := Fr.snoc X10 N0 g_b9
        have Sf_b8' := Safe.wr W10 Sf_b9 hR.1 Sf_b8
        have Sf_b9' := Safe.wr W10 Sf_b9 hR.1 Sf_b9
        replace hR := hR.trans (CHr.wr W10 Sf_b9 hR.1)
        replace Sf_b8 := Sf_b8'
        replace Sf_b9 := Sf_b9'
        replace S_COMPACT_STRINGS := S_COMPACT_STRINGS.wr W10
        replace S__assertionsDisabled := S__assertionsDisabled.wr W10
        replace S_HI_BYTE_SHIFT := S_HI_BYTE_SHIFT.wr W10
        replace S_LO_BYTE_SHIFT := S_LO_BYTE_SHIFT.wr W10
        replace A_b8 := A_b8.wr W10
        replace F_value_b8 := F_value_b8.other W10 (Or.inl ne_b8_b9)
        replace F_coder_b8 := F_coder_b8.other W10 (Or.inl ne_b8_b9)
        replace KP := KP.wr W10 (Or.inr sz_b9)
        have V_b9 : Arv Z h10 b9 k9 .char (2 : Int32) [(.int a), (.int (0 : Int32))] (.int (0 : Int32)) := by have q := Vn10; rw [own_nc hC_a] at q; exact q
        replace Z0 : n0 ≤ h10.size := by rw [W10.size]; exact Z0
        replace hk := Nat.le_trans hk (Nat.le_of_eq W10.size.symm)
        refine Gs st10 ?_
        show Goes _ _ _ _ _ (T10.setTop (mkF m 41 #[.val (.int n), .val (.int a), .val (.int b), .val (.int cc)] [(.ref b9), (.ref b8), (.ref b8)]))
        refine Gs (fun _ tk => XS.dup X10.here hx rfl (hb hby d26_41) rfl rfl tk) ?_
        refine Gs (fun _ tk => XS.iconst X10.here hx rfl (hb hby d26_42) tk) ?_
        refine Gs (fun _ tk => XS.iloadN X10.here hx rfl (hb hby d26_43) rfl tk) ?_
        obtain ⟨cl11, Ar11, q11, S11, N11z, H11, G11⟩ := V_b9
        have hin11 : ¬ ((1 : Int32) < 0 ∨ cl11.slots.size ≤ ((1 : Int32)).toNatClampNeg) := inb_of S11 ⟨by decide, by decide⟩
        obtain ⟨T11, h11, X11, e11, W11, st11⟩ := stC X10 hx hZ e10 Ar11 (j := (1 : Int32)) hin11 (g := (mkF m 44 #[.val (.int n), .val (.int a), .val (.int b), .val (.int cc)] [(.int b), (.int (1 : Int32)), (.ref b9), (.ref b9), (.ref b8), (.ref b8)])) rfl rfl (hb hby d26_44)
        have Vn11 := Arv.set Ar11 q11 S11 N11z H11 G11 (fits_nar_char _) W11 1 rfl (Nat.le_of_ble_eq_true rfl)
        have N11 := Fr.snoc X11 N10 g_b9
        have Sf_b8' := Safe.wr W11 Sf_b9 hR.1 Sf_b8
        replace hR := hR.trans (CHr.wr W11 Sf_b9 hR.1)
        replace Sf_b8 := Sf_b8'
        replace S_COMPACT_STRINGS := S_COMPACT_STRINGS.wr W11
        replace S__assertionsDisabled := S__assertionsDisabled.wr W11
        replace S_HI_BYTE_SHIFT := S_HI_BYTE_SHIFT.wr W11
        replace S_LO_BYTE_SHIFT := S_LO_BYTE_SHIFT.wr W11
        replace A_b8 := A_b8.wr W11
        replace F_value_b8 := F_value_b8.other W11 (Or.inl ne_b8_b9)
        replace F_coder_b8 := F_coder_b8.other W11 (Or.inl ne_b8_b9)
        replace KP := KP.wr W11 (Or.inr sz_b9)
        have V_b9 : Arv Z h11 b9 k9 .char (2 : Int32) [(.int a), (.int b)] (.int (0 : Int32)) := by have q := Vn11; rw [own_nc hC_b] at q; exact q
        replace Z0 : n0 ≤ h11.size := by rw [W11.size]; exact Z0
        replace hk := Nat.le_trans hk (Nat.le_of_eq W11.size.symm)
        refine Gs st11 ?_
        show Goes _ _ _ _ _ (T11.setTop (mkF m 45 #[.val (.int n), .val (.int a), .val (.int b), .val (.int cc)] [(.ref b9), (.ref b8), (.ref b8)]))
        obtain ⟨_, _, ⟨T12, L12, k12, n12⟩, -, X12, ⟨Lc12, hQ12, l12, y12, z12⟩, st12⟩ := X11.specialBack hx (y := mN12) rfl hown (mvT hZ (gw hw 9 rfl)) (mvT hZ (gw hw 10 rfl)) (mvT hZ (gw hw 11 rfl)) (by decide) (backOf (W := 1) (rs_i1_2 l Z a0 hw [] b8 b9 k9 a b cz h11 n0 Z0 A_b8 F_value_b8 F_coder_b8 V_b9 g_b8 (Ne.symm ne_b8_b9) S_COMPACT_STRINGS (by first | assumption | decide) hC_a hC_b S__assertionsDisabled S_HI_BYTE_SHIFT S_LO_BYTE_SHIFT) hZ (gw hw 11 rfl) (gw hw 7 rfl) (by decide) (by decide)) (g := (mkF m 45 #[.val (.int n), .val (.int a), .val (.int b), .val (.int cc)] [(.ref b9), (.ref b8), (.ref b8)])) rfl (by rw [hml]; rfl) (Steps.refl _) (a := b8) (argsL := [(.ref b9)]) (rest := [(.ref b8)]) (lenOf own_pd17 rfl) rfl (w0 (Nat.le_of_eq rfl)) (hb hby d26_45) (fun _ _ => ⟨rfl, e11, (by decide : 2 + 2 ≤ _), (by decide : 6 + 6 ≤ _)⟩)
        dsimp only [Pt.U, Pt.locs, Pt.cells, Pt.slots] at X12 l12 y12 z12 st12 hQ12
        subst l12 y12 z12
        obtain ⟨rfl, N12q, K12, T_b8_12'⟩ := hQ12
        have N12 := Fr.app N11 N12q
        replace S_COMPACT_STRINGS := own_staK S_COMPACT_STRINGS K12 (allS (own_obE A_b8) all0)
        replace S__assertionsDisabled := own_staK S__assertionsDisabled K12 (allS (own_obE A_b8) all0)
        replace S_HI_BYTE_SHIFT := own_staK S_HI_BYTE_SHIFT K12 (allS (own_obE A_b8) all0)
        replace S_LO_BYTE_SHIFT := own_staK S_LO_BYTE_SHIFT K12 (allS (own_obE A_b8) all0)
        replace hR := hR.trans (CHr.keep K12 (allS Sf_b8 all0) hR.1)
        replace KP := KP.trans K12 (allS (Or.inr sz_b8) all0)
        replace Z0 := Nat.le_trans Z0 K12.1
        replace hk := Nat.le_trans hk K12.1
        have T_b8 := T_b8_12'
        refine Gs (fun _ tk => st12.trans tk) ?_
        show Goes _ _ _ _ _ (T12.setTop (mkF m 48 #[.val (.int n), .val (.int a), .val (.int b), .val (.int cc)] [(.ref b8)]))
        have Tn : StrOf Z T12.heap b8 (own_str n a b cc) := by rw [show (own_str n a b cc) = [a, b] from by rw [own_str, if_neg hc1_1, if_neg hc17_5, if_pos hc27_7]]; exact T_b8
        refine Goes.retH X12 hS rfl hk hZ (own_EW hw) hh hR (some (.ref b8)) (fun h => by rw [hret] at h; cases h) hlk (by decide) (by decide) ?_ (fun fs hr => ?_)
        · exact ⟨b8, rfl, N12, KP, Tn⟩
        · exact own_retA X12 hx hret rfl rfl (hb hby d26_48) hr
      · refine Gs (fun _ tk => XS.icmpYes X0.here hx rfl (pc0 := 27) (pc' := 49) rfl (hb hby d26_27) rfl (feq hc27_7).2 (by decide) (by decide) tk) ?_
        obtain ⟨T13, h13, X13, e13, E13, A13, D13, -, st13⟩ := newO X0 hx hZ hown (gw hw 5 rfl) (gw hw 6 rfl) (gw hw 7 rfl) e0 (g := (mkF m 49 #[.val (.int n), .val (.int a), .val (.int b), .val (.int cc)] [])) rfl (hb hby d26_49) (by decide) (by decide)
        obtain ⟨b13, gq13⟩ : ∃ z, z = h0.size := ⟨_, rfl⟩
        rw [← gq13] at A13 st13 D13
        have g_b13 : n0 ≤ b13 := by rw [gq13]; exact Z0
        have sz_b13 : h0.size ≤ b13 := by rw [gq13]; exact KP.1
        have Sf_b13 : Safe Z consts_1 s.vm h0 b13 := Safe.new (Nat.le_of_eq gq13.symm)
        replace Sf_b13 := Safe.ext E13 hR.1 Sf_b13
        replace hR := hR.trans (CHr.ext E13 hR.1)
        replace S_COMPACT_STRINGS := S_COMPACT_STRINGS.ext E13
        replace S__assertionsDisabled := S__assertionsDisabled.ext E13
        replace S_HI_BYTE_SHIFT := S_HI_BYTE_SHIFT.ext E13
        replace S_LO_BYTE_SHIFT := S_LO_BYTE_SHIFT.ext E13
        replace KP := KP.ext E13
        replace Z0 : n0 ≤ h13.size := Nat.le_trans Z0 E13.1
        replace hk := Nat.le_trans hk E13.1
        have A_b13 : Exa Z h13 b13 "java/lang/String" := A13
        have F_value_b13 : Fld Z h13 b13 "java/lang/String" "value" "[B" .null := D13 (Or.inr (gw hw 21 rfl)) (ty := (.array .byte)) (by decide)
        have F_coder_b13 : Fld Z h13 b13 "java/lang/String" "coder" "B" (.int (0 : Int32)) := D13 (Or.inr (gw hw 22 rfl)) (ty := .byte) (by decide)
        refine Gs st13 ?_
        show Goes _ _ _ _ _ (T13.setTop (mkF m 52 #[.val (.int n), .val (.int a), .val (.int b), .val (.int cc)] [(.ref b13)]))
        refine Gs (fun _ tk => XS.dup X13.here hx rfl (hb hby d26_52) rfl rfl tk) ?_
        refine Gs (fun _ tk => XS.iconst X13.here hx rfl (hb hby d26_53) tk) ?_
        obtain ⟨T14, h14, k14, X14, e14, E14, A14, st14⟩ := newP X13 hx hZ (gw hw 8 rfl) e13 (g := (mkF m 54 #[.val (.int n), .val (.int a), .val (.int b), .val (.int cc)] [(.int (3 : Int32)), (.ref b13), (.ref b13)])) rfl (hb hby d26_54) rfl (by decide) (cap := 3) (by decide) (by decide) (by decide) (by decide)
        obtain ⟨b14, gq14⟩ : ∃ z, z = h13.size := ⟨_, rfl⟩
        rw [← gq14] at A14 st14
        have g_b14 : n0 ≤ b14 := by rw [gq14]; exact Z0
        have sz_b14 : h0.size ≤ b14 := by rw [gq14]; exact KP.1
        have ne_b13_b14 : b13 ≠ b14 := by rw [gq14]; exact Nat.ne_of_lt A_b13.lt
        have Sf_b14 : Safe Z consts_1 s.vm h13 b14 := Safe.new (Nat.le_of_eq gq14.symm)
        replace Sf_b13 := Safe.ext E14 hR.1 Sf_b13
        replace Sf_b14 := Safe.ext E14 hR.1 Sf_b14
        replace hR := hR.trans (CHr.ext E14 hR.1)
        replace S_COMPACT_STRINGS := S_COMPACT_STRINGS.ext E14
        replace S__assertionsDisabled := S__assertionsDisabled.ext E14
        replace S_HI_BYTE_SHIFT := S_HI_BYTE_SHIFT.ext E14
        replace S_LO_BYTE_SHIFT := S_LO_BYTE_SHIFT.ext E14
        replace A_b13 := A_b13.ext E14
        replace F_value_b13 := F_value_b13.ext E14
        replace F_coder_b13 := F_coder_b13.ext E14
        replace KP := KP.ext E14
        replace Z0 : n0 ≤ h14.size := Nat.le_trans Z0 E14.1
        replace hk := Nat.le_trans hk E14.1
        have V_b14 : Arv Z h14 b14 k14 .char (3 : Int32) [(.int (0 : Int32)), (.int (0 : Int32)), (.int (0 : Int32))] (.int (0 : Int32)) := (Arv.new A14 (by decide)).pad (pad_rep [] (.int (0 : Int32)) 3)
        refine Gs st14 ?_
        show Goes _ _ _ _ _ (T14.setTop (mkF m 56 #[.val (.int n), .val (.int a), .val (.int b), .val (.int cc)] [(.ref b14), (.ref b13), (.ref b13)]))
        refine Gs (fun _ tk => XS.dup X14.here hx rfl (hb hby d26_56) rfl rfl tk) ?_
        refine Gs (fun _ tk => XS.iconst X14.here hx rfl (hb hby d26_57) tk) ?_
        refine Gs (fun _ tk => XS.iloadN X14.here hx rfl (hb hby d26_58) rfl tk) ?_
        obtain ⟨cl15, Ar15, q15, S15, N15z, H15, G15⟩ := V_b14
        have hin15 : ¬ ((0 : Int32) < 0 ∨ cl15.slots.size ≤ ((0 : Int32)).toNatClampNeg) := inb_of S15 ⟨by decide, by decide⟩
        obtain ⟨T15, h15, X15, e15, W15, st15⟩ := stC X14 hx hZ e14 Ar15 (j := (0 : Int32)) hin15 (g := (mkF m 59 #[.val (.int n), .val (.int a), .val (.int b), .val (.int cc)] [(.int a), (.int (0 : Int32)), (.ref b14), (.ref b14), (.ref b13), (.ref b13)])) rfl rfl (hb hby d26_59)
        have Vn15 := Arv.set Ar15 q15 S15 N15z H15 G15 (fits_nar_char _) W15 0 rfl (Nat.le_of_ble_eq_true rfl)
        have N15 := Fr.snoc X15 N0 g_b14
        have Sf_b13' := Safe.wr W15 Sf_b14 hR.1 Sf_b13
        have Sf_b14' := Safe.wr W15 Sf_b14 hR.1 Sf_b14
        replace hR := hR.trans (CHr.wr W15 Sf_b14 hR.1)
        replace Sf_b13 := Sf_b13'
        replace Sf_b14 := Sf_b14'
        replace S_COMPACT_STRINGS := S_COMPACT_STRINGS.wr W15
        replace S__assertionsDisabled := S__assertionsDisabled.wr W15
        replace S_HI_BYTE_SHIFT := S_HI_BYTE_SHIFT.wr W15
        replace S_LO_BYTE_SHIFT := S_LO_BYTE_SHIFT.wr W15
        replace A_b13 := A_b13.wr W15
        replace F_value_b13 := F_value_b13.other W15 (Or.inl ne_b13_b14)
        replace F_coder_b13 := F_coder_b13.other W15 (Or.inl ne_b13_b14)
        replace KP := KP.wr W15 (Or.inr sz_b14)
        have V_b14 : Arv Z h15 b14 k14 .char (3 : Int32) [(.int a), (.int (0 : Int32)), (.int (0 : Int32))] (.int (0 : Int32)) := by have q := Vn15; rw [own_nc hC_a] at q; exact q
        replace Z0 : n0 ≤ h15.size := by rw [W15.size]; exact Z0
        replace hk := Nat.le_trans hk (Nat.le_of_eq W15.size.symm)
        refine Gs st15 ?_
        show Goes _ _ _ _ _ (T15.setTop (mkF m 60 #[.val (.int n), .val (.int a), .val (.int b), .val (.int cc)] [(.ref b14), (.ref b13), (.ref b13)]))
        refine Gs (fun _ tk => XS.dup X15.here hx rfl (hb hby d26_60) rfl rfl tk) ?_
        refine Gs (fun _ tk => XS.iconst X15.here hx rfl (hb hby d26_61) tk) ?_
        refine Gs (fun _ tk => XS.iloadN X15.here hx rfl (hb hby d26_62) rfl tk) ?_
        obtain ⟨cl16, Ar16, q16, S16, N16z, H16, G16⟩ := V_b14
        have hin16 : ¬ ((1 : Int32) < 0 ∨ cl16.slots.size ≤ ((1 : Int32)).toNatClampNeg) := inb_of S16 ⟨by decide, by decide⟩
        obtain ⟨T16, h16, X16, e16, W16, st16⟩ := stC X15 hx hZ e15 Ar16 (j := (1 : Int32)) hin16 (g := (mkF m 63 #[.val (.int n), .val (.int a), .val (.int b), .val (.int cc)] [(.int b), (.int (1 : Int32)), (.ref b14), (.ref b14), (.ref b13), (.ref b13)])) rfl rfl (hb hby d26_63)
        have Vn16 := Arv.set Ar16 q16 S16 N16z H16 G16 (fits_nar_char _) W16 1 rfl (Nat.le_of_ble_eq_true rfl)
        have N16 := Fr.snoc X16 N15 g_b14
        have Sf_b13' := Safe.wr W16 Sf_b14 hR.1 Sf_b13
        have Sf_b14' := Safe.wr W16 Sf_b14 hR.1 Sf_b14
        replace hR := hR.trans (CHr.wr W16 Sf_b14 hR.1)
        replace Sf_b13 := Sf_b13'
        replace Sf_b14 := Sf_b14'
        replace S_COMPACT_STRINGS := S_COMPACT_STRINGS.wr W16
        replace S__assertionsDisabled := S__assertionsDisabled.wr W16
        replace S_HI_BYTE_SHIFT := S_HI_BYTE_SHIFT.wr W16
        replace S_LO_BYTE_SHIFT := S_LO_BYTE_SHIFT.wr W16
        replace A_b13 := A_b13.wr W16
        replace F_value_b13 := F_value_b13.other W16 (Or.inl ne_b13_b14)
        replace F_coder_b13 := F_coder_b13.other W16 (Or.inl ne_b13_b14)
        replace KP := KP.wr W16 (Or.inr sz_b14)
        have V_b14 : Arv Z h16 b14 k14 .char (3 : Int32) [(.int a), (.int b), (.int (0 : Int32))] (.int (0 : Int32)) := by have q := Vn16; rw [own_nc hC_b] at q; exact q
        replace Z0 : n0 ≤ h16.size := by rw [W16.size]; exact Z0
        replace hk := Nat.le_trans hk (Nat.le_of_eq W16.size.symm)
        refine Gs st16 ?_
        show Goes _ _ _ _ _ (T16.setTop (mkF m 64 #[.val (.int n), .val (.int a), .val (.int b), .val (.int cc)] [(.ref b14), (.ref b13), (.ref b13)]))
        refine Gs (fun _ tk => XS.dup X16.here hx rfl (hb hby d26_64) rfl rfl tk) ?_
        refine Gs (fun _ tk => XS.iconst X16.here hx rfl (hb hby d26_65) tk) ?_
        refine Gs (fun _ tk => XS.iloadN X16.here hx rfl (hb hby d26_66) rfl tk) ?_
        obtain ⟨cl17, Ar17, q17, S17, N17z, H17, G17⟩ := V_b14
        have hin17 : ¬ ((2 : Int32) < 0 ∨ cl17.slots.size ≤ ((2 : Int32)).toNatClampNeg) := inb_of S17 ⟨by decide, by decide⟩
        obtain ⟨T17, h17, X17, e17, W17, st17⟩ := stC X16 hx hZ e16 Ar17 (j := (2 : Int32)) hin17 (g := (mkF m 67 #[.val (.int n), .val (.int a), .val (.int b), .val (.int cc)] [(.int cc), (.int (2 : Int32)), (.ref b14), (.ref b14), (.ref b13), (.ref b13)])) rfl rfl (hb hby d26_67)
        have Vn17 := Arv.set Ar17 q17 S17 N17z H17 G17 (fits_nar_char _) W17 2 rfl (Nat.le_of_ble_eq_true rfl)
        have N17 := Fr.snoc X17 N16 g_b14
        have Sf_b13' := Safe.wr W17 Sf_b14 hR.1 Sf_b13
        replace hR := hR.trans (CHr.wr W17 Sf_b14 hR.1)
        replace Sf_b13 := Sf_b13'
        replace S_COMPACT_STRINGS := S_COMPACT_STRINGS.wr W17
        replace S__assertionsDisabled := S__assertionsDisabled.wr W17
        replace S_HI_BYTE_SHIFT := S_HI_BYTE_SHIFT.wr W17
        replace S_LO_BYTE_SHIFT := S_LO_BYTE_SHIFT.wr W17
        replace A_b13 := A_b13.wr W17
        replace F_value_b13 := F_value_b13.other W17 (Or.inl ne_b13_b14)
        replace F_coder_b13 := F_coder_b13.other W17 (Or.inl ne_b13_b14)
        replace KP := KP.wr W17 (Or.inr sz_b14)
        have V_b14 : Arv Z h17 b14 k14 .char (3 : Int32) [(.int a), (.int b), (.int cc)] (.int (0 : Int32)) := by have q := Vn17; rw [own_nc hC_cc] at q; exact q
        replace Z0 : n0 ≤ h17.size := by rw [W17.size]; exact Z0
        replace hk := Nat.le_trans hk (Nat.le_of_eq W17.size.symm)
        refine Gs st17 ?_
        show Goes _ _ _ _ _ (T17.setTop (mkF m 68 #[.val (.int n), .val (.int a), .val (.int b), .val (.int cc)] [(.ref b14), (.ref b13), (.ref b13)]))
        obtain ⟨_, _, ⟨T18, L18, k18, n18⟩, -, X18, ⟨Lc18, hQ18, l18, y18, z18⟩, st18⟩ := X17.specialBack hx (y := mN12) rfl hown (mvT hZ (gw hw 9 rfl)) (mvT hZ (gw hw 10 rfl)) (mvT hZ (gw hw 11 rfl)) (by decide) (backOf (W := 1) (rs_i1_3 l Z a0 hw [] b13 b14 k14 a b cc cz h17 n0 Z0 A_b13 F_value_b13 F_coder_b13 V_b14 g_b13 (Ne.symm ne_b13_b14) S_COMPACT_STRINGS (by first | assumption | decide) hC_a hC_b hC_cc S__assertionsDisabled S_HI_BYTE_SHIFT S_LO_BYTE_SHIFT) hZ (gw hw 11 rfl) (gw hw 7 rfl) (by decide) (by decide)) (g := (mkF m 68 #[.val (.int n), .val (.int a), .val (.int b), .val (.int cc)] [(.ref b14), (.ref b13), (.ref b13)])) rfl (by rw [hml]; rfl) (Steps.refl _) (a := b13) (argsL := [(.ref b14)]) (rest := [(.ref b13)]) (lenOf own_pd17 rfl) rfl (w0 (Nat.le_of_eq rfl)) (hb hby d26_68) (fun _ _ => ⟨rfl, e17, (by decide : 2 + 2 ≤ _), (by decide : 7 + 9 ≤ _)⟩)
        dsimp only [Pt.U, Pt.locs, Pt.cells, Pt.slots] at X18 l18 y18 z18 st18 hQ18
        subst l18 y18 z18
        obtain ⟨rfl, N18q, K18, T_b13_18'⟩ := hQ18
        have N18 := Fr.app N17 N18q
        replace hR := hR.trans (CHr.keep K18 (allS Sf_b13 all0) hR.1)
        replace KP := KP.trans K18 (allS (Or.inr sz_b13) all0)
        replace Z0 := Nat.le_trans Z0 K18.1
        replace hk := Nat.le_trans hk K18.1
        have T_b13 := T_b13_18'
        refine Gs (fun _ tk => st18.trans tk) ?_
        show Goes _ _ _ _ _ (T18.setTop (mkF m 71 #[.val (.int n), .val (.int a), .val (.int b), .val (.int cc)] [(.ref b13)]))
        have Tn : StrOf Z T18.heap b13 (own_str n a b cc) := by rw [show (own_str n a b cc) = [a, b, cc] from by rw [own_str, if_neg hc1_1, if_neg hc17_5, if_neg hc27_7]]; exact T_b13
        refine Goes.retH X18 hS rfl hk hZ (own_EW hw) hh hR (some (.ref b13)) (fun h => by rw [hret] at h; cases h) hlk (by decide) (by decide) ?_ (fun fs hr => ?_)
        · exact ⟨b13, rfl, N18, KP, Tn⟩
        · exact own_retA X18 hx hret rfl rfl (hb hby d26_71) hr
theorem d27_0 : decode prog_18_method_3_code 0 = .ok (.aload_n 0, 1) := by decide +kernel
theorem d27_1 : decode prog_18_method_3_code 1 = .ok (.invokevirtual 7, 3) := by decide +kernel
theorem own_pd19 : parseMethodDescriptor "()I" = some ⟨[], some .int⟩ := by decide +kernel
theorem d27_4 : decode prog_18_method_3_code 4 = .ok (.aload_n 1, 1) := by decide +kernel
theorem d27_5 : decode prog_18_method_3_code 5 = .ok (.invokevirtual 7, 3) := by decide +kernel
theorem d27_8 : decode prog_18_method_3_code 8 = .ok (.if_icmp .ge 5, 3) := by decide +kernel
theorem d27_11 : decode prog_18_method_3_code 11 = .ok (.iconst 0, 1) := by decide +kernel
theorem d27_12 : decode prog_18_method_3_code 12 = .ok (.ireturn, 1) := by decide +kernel
theorem d27_13 : decode prog_18_method_3_code 13 = .ok (.iconst 0, 1) := by decide +kernel
theorem d27_14 : decode prog_18_method_3_code 14 = .ok (.istore_n 2, 1) := by decide +kernel
theorem d27_15 : decode prog_18_method_3_code 15 = .ok (.iload_n 2, 1) := by decide +kernel
theorem d27_16 : decode prog_18_method_3_code 16 = .ok (.aload_n 1, 1) := by decide +kernel
theorem d27_17 : decode prog_18_method_3_code 17 = .ok (.invokevirtual 7, 3) := by decide +kernel
theorem d27_20 : decode prog_18_method_3_code 20 = .ok (.if_icmp .ge 70, 3) := by decide +kernel
theorem d27_90 : decode prog_18_method_3_code 90 = .ok (.iconst 1, 1) := by decide +kernel
theorem d27_91 : decode prog_18_method_3_code 91 = .ok (.ireturn, 1) := by decide +kernel
theorem d27_23 : decode prog_18_method_3_code 23 = .ok (.aload_n 1, 1) := by decide +kernel
theorem d27_24 : decode prog_18_method_3_code 24 = .ok (.iload_n 2, 1) := by decide +kernel
theorem d27_25 : decode prog_18_method_3_code 25 = .ok (.invokevirtual 19, 3) := by decide +kernel
theorem own_pd20 : parseMethodDescriptor "(I)C" = some ⟨[.int], some .char⟩ := by decide +kernel
theorem d27_28 : decode prog_18_method_3_code 28 = .ok (.istore_n 3, 1) := by decide +kernel
theorem d27_29 : decode prog_18_method_3_code 29 = .ok (.aload_n 0, 1) := by decide +kernel
theorem d27_30 : decode prog_18_method_3_code 30 = .ok (.iload_n 2, 1) := by decide +kernel
theorem d27_31 : decode prog_18_method_3_code 31 = .ok (.invokevirtual 19, 3) := by decide +kernel
theorem d27_34 : decode prog_18_method_3_code 34 = .ok (.istore 4, 2) := by decide +kernel
theorem d27_36 : decode prog_18_method_3_code 36 = .ok (.iload_n 3, 1) := by decide +kernel
theorem d27_37 : decode prog_18_method_3_code 37 = .ok (.bipush 48, 2) := by decide +kernel
theorem d27_39 : decode prog_18_method_3_code 39 = .ok (.if_icmp .ne 25, 3) := by decide +kernel
theorem d27_75 : decode prog_18_method_3_code 75 = .ok (.istore 5, 2) := by decide +kernel
theorem d27_77 : decode prog_18_method_3_code 77 = .ok (.iload 5, 2) := by decide +kernel
theorem d27_79 : decode prog_18_method_3_code 79 = .ok (.ifCond .ne 5, 3) := by decide +kernel
theorem d27_82 : decode prog_18_method_3_code 82 = .ok (.iconst 0, 1) := by decide +kernel
theorem d27_83 : decode prog_18_method_3_code 83 = .ok (.ireturn, 1) := by decide +kernel
theorem d27_84 : decode prog_18_method_3_code 84 = .ok (.iinc 2 1, 3) := by decide +kernel
theorem d27_87 : decode prog_18_method_3_code 87 = .ok (.goto (-72), 3) := by decide +kernel
theorem d27_42 : decode prog_18_method_3_code 42 = .ok (.iload 4, 2) := by decide +kernel
theorem d27_44 : decode prog_18_method_3_code 44 = .ok (.bipush 48, 2) := by decide +kernel
theorem d27_46 : decode prog_18_method_3_code 46 = .ok (.if_icmp .lt 14, 3) := by decide +kernel
theorem d27_60 : decode prog_18_method_3_code 60 = .ok (.iconst 0, 1) := by decide +kernel
theorem d27_61 : decode prog_18_method_3_code 61 = .ok (.goto 14, 3) := by decide +kernel
theorem d27_49 : decode prog_18_method_3_code 49 = .ok (.iload 4, 2) := by decide +kernel
theorem d27_51 : decode prog_18_method_3_code 51 = .ok (.bipush 57, 2) := by decide +kernel
theorem d27_53 : decode prog_18_method_3_code 53 = .ok (.if_icmp .gt 7, 3) := by decide +kernel
theorem d27_56 : decode prog_18_method_3_code 56 = .ok (.iconst 1, 1) := by decide +kernel
theorem d27_57 : decode prog_18_method_3_code 57 = .ok (.goto 18, 3) := by decide +kernel
theorem d27_64 : decode prog_18_method_3_code 64 = .ok (.iload 4, 2) := by decide +kernel
theorem d27_66 : decode prog_18_method_3_code 66 = .ok (.iload_n 3, 1) := by decide +kernel
theorem d27_67 : decode prog_18_method_3_code 67 = .ok (.if_icmp .ne 7, 3) := by decide +kernel
theorem d27_70 : decode prog_18_method_3_code 70 = .ok (.iconst 1, 1) := by decide +kernel
theorem d27_71 : decode prog_18_method_3_code 71 = .ok (.goto 4, 3) := by decide +kernel
theorem d27_74 : decode prog_18_method_3_code 74 = .ok (.iconst 0, 1) := by decide +kernel
theorem own_pn5 : plainName "com/example/token_into_keys/tokenintokeys/text/TextShape" = true := by first | (simp [plainName, overriddenIn]; done) | decide +kernel
theorem own_ef_rm_sw (m : MethodId) (x0 : Addr) (x1 : Addr) : entryFrame m #[(.ref x0), (.ref x1)] 6 = mkF m 0 #[.val (.ref x0), .val (.ref x1), .unset, .unset, .unset, .unset] [] := by first | (simp [entryFrame, mkF, argsToLocals, Value.category]; done) | rfl
def Q_rm_sw (Z : State) (a : Addr) (b : Addr) (xs : List Int32) (ps : List Int32) (cz : Int32) (fo : Value) (h0 : Heap) (n0 : Nat) (v : Option Value) (h : Heap) (L : List Loc) : Prop := v = some (.int (own_sw ps xs)) ∧ Fr n0 L ∧ h = h0
set_option maxRecDepth 65536 in
set_option maxHeartbeats 40000000 in
theorem rm_sw (l : Launch) (Z : State) (a0 : Array Value) (hw : ∀ d ∈ tables_1, d.before a0 Z = true) (ws : List Jvm.Cond) (a : Addr) (b : Addr) (xs : List Int32) (ps : List Int32) (cz : Int32) (fo : Value) (h0 : Heap) (n0 : Nat) (Z0 : n0 ≤ h0.size) (T_a : StrOf Z h0 a xs) (T_b : StrOf Z h0 b ps) (hps : ps.length ≤ 3) (S_COMPACT_STRINGS : Sta Z h0 "java/lang/String" "COMPACT_STRINGS" "Z" (.int cz)) (hcz : ¬ (cz = (0 : Int32))) (S_SIOOBE_FORMATTER : Sta Z h0 "jdk/internal/util/Preconditions" "SIOOBE_FORMATTER" "Ljava/util/function/BiFunction;" fo) (r_fo : fo.isRef = true) (S__assertionsDisabled : Sta Z h0 "java/lang/StringUTF16" "$assertionsDisabled" "Z" (.int (1 : Int32))) (S_HI_BYTE_SHIFT : Sta Z h0 "java/lang/StringUTF16" "HI_BYTE_SHIFT" "I" (.int (0 : Int32))) (S_LO_BYTE_SHIFT : Sta Z h0 "java/lang/StringUTF16" "LO_BYTE_SHIFT" "I" (.int (8 : Int32))) :
    Met l Z mN27 prog_18_method_3_code 6 (some .boolean) ({ frames := 5, cells := 0, slots := 0, locals := 66 } : Room) ws #[(.ref a), (.ref b)] h0 (Q_rm_sw Z a b xs ps cz fo h0 n0) := by
  refine own_met (plainFor_of_name own_pn5) ?_
  intro p e s m below meth c s₁ hret hx hby hlk hml hown hnm X0 e0 hZ hh
  have N0 := Fr.nil n0
  refine Gs (fun _ tk => castTop (own_ef_rm_sw m a b) tk) ?_
  show Goes _ _ _ _ _ (s₁.setTop (mkF m 0 #[.val (.ref a), .val (.ref b), .unset, .unset, .unset, .unset] []))
  rcases ps with _ | ⟨p0, _ | ⟨p1, _ | ⟨p2, _ | ⟨p3, ps⟩⟩⟩⟩
  · show Goes _ _ _ _ _ (s₁.setTop (mkF m 0 #[.val (.ref a), .val (.ref b), .unset, .unset, .unset, .unset] []))
    refine Gs (fun _ tk => XS.aloadN X0.here hx rfl (hb hby d27_0) rfl rfl tk) ?_
    obtain ⟨cq1, kq1, q1a, q1b, q1c⟩ := isOf hZ e0 T_a.exa
    obtain ⟨_, _, ⟨T1, L1, k1, n1⟩, -, X1, ⟨Lc1, hQ1, l1, y1, z1⟩, st1⟩ := X0.virtualBack hx (y := mN2) (z := mN2) hown (mvT hZ (gw hw 31 rfl)) (mvT hZ (gw hw 32 rfl)) (notFace_of_selects (args := #[]) (mvT hZ (gw hw 34 rfl))) (mvT hZ (gw hw 34 rfl)) (mvT hZ (gw hw 33 rfl)) (by decide) (backOf (W := 0) (rs_len l Z a0 hw [] a xs cz h0 n0 Z0 T_a S_COMPACT_STRINGS (by first | assumption | decide)) hZ (gw hw 35 rfl) (gw hw 7 rfl) (by decide) (by decide)) q1a q1c (g := (mkF m 1 #[.val (.ref a), .val (.ref b), .unset, .unset, .unset, .unset] [(.ref a)])) rfl (by rw [hml]; rfl) (Steps.refl _) (argsL := []) (rest := []) (lenOf own_pd19 rfl) rfl (w0 (Nat.le_of_eq rfl)) (hb hby d27_1) (fun _ _ => ⟨rfl, e0, (by decide : 0 + 0 ≤ _), (by decide : 0 + 0 ≤ _)⟩)
    dsimp only [Pt.U, Pt.locs, Pt.cells, Pt.slots] at X1 l1 y1 z1 st1 hQ1
    subst l1 y1 z1
    obtain ⟨rfl, N1q, e1⟩ := hQ1
    have N1 := Fr.app N0 N1q
    refine Gs (fun _ tk => st1.trans tk) ?_
    show Goes _ _ _ _ _ (T1.setTop (mkF m 4 #[.val (.ref a), .val (.ref b), .unset, .unset, .unset, .unset] [(.int (Int32.ofNat xs.length))]))
    refine Gs (fun _ tk => XS.aloadN X1.here hx rfl (hb hby d27_4) rfl rfl tk) ?_
    obtain ⟨cq2, kq2, q2a, q2b, q2c⟩ := isOf hZ e1 T_b.exa
    obtain ⟨_, _, ⟨T2, L2, k2, n2⟩, -, X2, ⟨Lc2, hQ2, l2, y2, z2⟩, st2⟩ := X1.virtualBack hx (y := mN2) (z := mN2) hown (mvT hZ (gw hw 31 rfl)) (mvT hZ (gw hw 32 rfl)) (notFace_of_selects (args := #[]) (mvT hZ (gw hw 34 rfl))) (mvT hZ (gw hw 34 rfl)) (mvT hZ (gw hw 33 rfl)) (by decide) (backOf (W := 1) (rs_len l Z a0 hw [] b [] cz h0 n0 Z0 T_b S_COMPACT_STRINGS (by first | assumption | decide)) hZ (gw hw 35 rfl) (gw hw 7 rfl) (by decide) (by decide)) q2a q2c (g := (mkF m 5 #[.val (.ref a), .val (.ref b), .unset, .unset, .unset, .unset] [(.ref b), (.int (Int32.ofNat xs.length))])) rfl (by rw [hml]; rfl) (Steps.refl _) (argsL := []) (rest := [(.int (Int32.ofNat xs.length))]) (lenOf own_pd19 rfl) rfl (w0 (Nat.le_of_eq rfl)) (hb hby d27_5) (fun _ _ => ⟨rfl, e1, (by decide : 0 + 0 ≤ _), (by decide : 0 + 0 ≤ _)⟩)
    dsimp only [Pt.U, Pt.locs, Pt.cells, Pt.slots] at X2 l2 y2 z2 st2 hQ2
    subst l2 y2 z2
    obtain ⟨rfl, N2q, e2⟩ := hQ2
    have N2 := Fr.app N1 N2q
    refine Gs (fun _ tk => st2.trans tk) ?_
    show Goes _ _ _ _ _ (T2.setTop (mkF m 8 #[.val (.ref a), .val (.ref b), .unset, .unset, .unset, .unset] [(.int (Int32.ofNat [].length)), (.int (Int32.ofNat xs.length))]))
    rw [show (Int32.ofNat [].length) = (0 : Int32) from rfl]
    show Goes _ _ _ _ _ (T2.setTop (mkF m 8 #[.val (.ref a), .val (.ref b), .unset, .unset, .unset, .unset] [(.int (0 : Int32)), (.int (Int32.ofNat xs.length))]))
    by_cases hcmp : (Int32.ofNat xs.length) < (0 : Int32)
    · refine Gs (fun _ tk => XS.icmpNo X2.here hx rfl (hb hby d27_8) rfl (tlt hcmp).2.1 tk) ?_
      have hshort := (own_len_lt (n := 0) (by decide) T_a.len).mp hcmp
      refine Gs (fun _ tk => XS.iconst X2.here hx rfl (hb hby d27_11) tk) ?_
      refine Goes.ret X2 (some (.int (0 : Int32))) (fun h => by rw [hret] at h; cases h) hlk (by decide) (by decide) ?_ (fun fs hr => ?_)
      · exact ⟨(by rw [own_swShort _ _ hshort]), N2, e2⟩
      · exact own_retN X2 hx (t := .boolean) hret (by simp) rfl (hb hby d27_12) hr
    · refine Gs (fun _ tk => XS.icmpYes X2.here hx rfl (pc0 := 8) (pc' := 13) rfl (hb hby d27_8) rfl (flt hcmp).2.1 (by decide) (by decide) tk) ?_
      have hlong := fun q => hcmp ((own_len_lt (n := 0) (by decide) T_a.len).mpr q)
      show Goes _ _ _ _ _ (T2.setTop (mkF m 13 #[.val (.ref a), .val (.ref b), .unset, .unset, .unset, .unset] []))
      refine Gs (fun _ tk => XS.iconst X2.here hx rfl (hb hby d27_13) tk) ?_
      refine Gs (fun _ tk => XS.istoreN X2.here hx rfl (hb hby d27_14) rfl (l' := #[.val (.ref a), .val (.ref b), .val (.int (0 : Int32)), .unset, .unset, .unset]) rfl tk) ?_
      refine Gs (fun _ tk => XS.iloadN X2.here hx rfl (hb hby d27_15) rfl tk) ?_
      refine Gs (fun _ tk => XS.aloadN X2.here hx rfl (hb hby d27_16) rfl rfl tk) ?_
      obtain ⟨cq3, kq3, q3a, q3b, q3c⟩ := isOf hZ e2 T_b.exa
      obtain ⟨_, _, ⟨T3, L3, k3, n3⟩, -, X3, ⟨Lc3, hQ3, l3, y3, z3⟩, st3⟩ := X2.virtualBack hx (y := mN2) (z := mN2) hown (mvT hZ (gw hw 31 rfl)) (mvT hZ (gw hw 32 rfl)) (notFace_of_selects (args := #[]) (mvT hZ (gw hw 34 rfl))) (mvT hZ (gw hw 34 rfl)) (mvT hZ (gw hw 33 rfl)) (by decide) (backOf (W := 1) (rs_len l Z a0 hw [] b [] cz h0 n0 Z0 T_b S_COMPACT_STRINGS (by first | assumption | decide)) hZ (gw hw 35 rfl) (gw hw 7 rfl) (by decide) (by decide)) q3a q3c (g := (mkF m 17 #[.val (.ref a), .val (.ref b), .val (.int (0 : Int32)), .unset, .unset, .unset] [(.ref b), (.int (0 : Int32))])) rfl (by rw [hml]; rfl) (Steps.refl _) (argsL := []) (rest := [(.int (0 : Int32))]) (lenOf own_pd19 rfl) rfl (w0 (Nat.le_of_eq rfl)) (hb hby d27_17) (fun _ _ => ⟨rfl, e2, (by decide : 0 + 0 ≤ _), (by decide : 0 + 0 ≤ _)⟩)
      dsimp only [Pt.U, Pt.locs, Pt.cells, Pt.slots] at X3 l3 y3 z3 st3 hQ3
      subst l3 y3 z3
      obtain ⟨rfl, N3q, e3⟩ := hQ3
      have N3 := Fr.app N2 N3q
      refine Gs (fun _ tk => st3.trans tk) ?_
      show Goes _ _ _ _ _ (T3.setTop (mkF m 20 #[.val (.ref a), .val (.ref b), .val (.int (0 : Int32)), .unset, .unset, .unset] [(.int (Int32.ofNat [].length)), (.int (0 : Int32))]))
      rw [show (Int32.ofNat [].length) = (0 : Int32) from rfl]
      show Goes _ _ _ _ _ (T3.setTop (mkF m 20 #[.val (.ref a), .val (.ref b), .val (.int (0 : Int32)), .unset, .unset, .unset] [(.int (0 : Int32)), (.int (0 : Int32))]))
      refine Gs (fun _ tk => XS.icmpYes X3.here hx rfl (pc0 := 20) (pc' := 90) rfl (hb hby d27_20) rfl (flt (by decide : ¬ ((0 : Int32) < (0 : Int32)))).2.1 (by decide) (by decide) tk) ?_
      refine Gs (fun _ tk => XS.iconst X3.here hx rfl (hb hby d27_90) tk) ?_
      refine Goes.ret X3 (some (.int (1 : Int32))) (fun h => by rw [hret] at h; cases h) hlk (by decide) (by decide) ?_ (fun fs hr => ?_)
      · exact ⟨(by rw [own_sw]), N3, e3⟩
      · exact own_retN X3 hx (t := .boolean) hret (by simp) rfl (hb hby d27_91) hr
  · show Goes _ _ _ _ _ (s₁.setTop (mkF m 0 #[.val (.ref a), .val (.ref b), .unset, .unset, .unset, .unset] []))
    refine Gs (fun _ tk => XS.aloadN X0.here hx rfl (hb hby d27_0) rfl rfl tk) ?_
    obtain ⟨cq4, kq4, q4a, q4b, q4c⟩ := isOf hZ e0 T_a.exa
    obtain ⟨_, _, ⟨T4, L4, k4, n4⟩, -, X4, ⟨Lc4, hQ4, l4, y4, z4⟩, st4⟩ := X0.virtualBack hx (y := mN2) (z := mN2) hown (mvT hZ (gw hw 31 rfl)) (mvT hZ (gw hw 32 rfl)) (notFace_of_selects (args := #[]) (mvT hZ (gw hw 34 rfl))) (mvT hZ (gw hw 34 rfl)) (mvT hZ (gw hw 33 rfl)) (by decide) (backOf (W := 0) (rs_len l Z a0 hw [] a xs cz h0 n0 Z0 T_a S_COMPACT_STRINGS (by first | assumption | decide)) hZ (gw hw 35 rfl) (gw hw 7 rfl) (by decide) (by decide)) q4a q4c (g := (mkF m 1 #[.val (.ref a), .val (.ref b), .unset, .unset, .unset, .unset] [(.ref a)])) rfl (by rw [hml]; rfl) (Steps.refl _) (argsL := []) (rest := []) (lenOf own_pd19 rfl) rfl (w0 (Nat.le_of_eq rfl)) (hb hby d27_1) (fun _ _ => ⟨rfl, e0, (by decide : 0 + 0 ≤ _), (by decide : 0 + 0 ≤ _)⟩)
    dsimp only [Pt.U, Pt.locs, Pt.cells, Pt.slots] at X4 l4 y4 z4 st4 hQ4
    subst l4 y4 z4
    obtain ⟨rfl, N4q, e4⟩ := hQ4
    have N4 := Fr.app N0 N4q
    refine Gs (fun _ tk => st4.trans tk) ?_
    show Goes _ _ _ _ _ (T4.setTop (mkF m 4 #[.val (.ref a), .val (.ref b), .unset, .unset, .unset, .unset] [(.int (Int32.ofNat xs.length))]))
    refine Gs (fun _ tk => XS.aloadN X4.here hx rfl (hb hby d27_4) rfl rfl tk) ?_
    obtain ⟨cq5, kq5, q5a, q5b, q5c⟩ := isOf hZ e4 T_b.exa
    obtain ⟨_, _, ⟨T5, L5, k5, n5⟩, -, X5, ⟨Lc5, hQ5, l5, y5, z5⟩, st5⟩ := X4.virtualBack hx (y := mN2) (z := mN2) hown (mvT hZ (gw hw 31 rfl)) (mvT hZ (gw hw 32 rfl)) (notFace_of_selects (args := #[]) (mvT hZ (gw hw 34 rfl))) (mvT hZ (gw hw 34 rfl)) (mvT hZ (gw hw 33 rfl)) (by decide) (backOf (W := 1) (rs_len l Z a0 hw [] b [p0] cz h0 n0 Z0 T_b S_COMPACT_STRINGS (by first | assumption | decide)) hZ (gw hw 35 rfl) (gw hw 7 rfl) (by decide) (by decide)) q5a q5c (g := (mkF m 5 #[.val (.ref a), .val (.ref b), .unset, .unset, .unset, .unset] [(.ref b), (.int (Int32.ofNat xs.length))])) rfl (by rw [hml]; rfl) (Steps.refl _) (argsL := []) (rest := [(.int (Int32.ofNat xs.length))]) (lenOf own_pd19 rfl) rfl (w0 (Nat.le_of_eq rfl)) (hb hby d27_5) (fun _ _ => ⟨rfl, e4, (by decide : 0 + 0 ≤ _), (by decide : 0 + 0 ≤ _)⟩)
    dsimp only [Pt.U, Pt.locs, Pt.cells, Pt.slots] at X5 l5 y5 z5 st5 hQ5
    subst l5 y5 z5
    obtain ⟨rfl, N5q, e5⟩ := hQ5
    have N5 := Fr.app N4 N5q
    refine Gs (fun _ tk => st5.trans tk) ?_
    show Goes _ _ _ _ _ (T5.setTop (mkF m 8 #[.val (.ref a), .val (.ref b), .unset, .unset, .unset, .unset] [(.int (Int32.ofNat [p0].length)), (.int (Int32.ofNat xs.length))]))
    rw [show (Int32.ofNat [p0].length) = (1 : Int32) from rfl]
    show Goes _ _ _ _ _ (T5.setTop (mkF m 8 #[.val (.ref a), .val (.ref b), .unset, .unset, .unset, .unset] [(.int (1 : Int32)), (.int (Int32.ofNat xs.length))]))
    by_cases hcmp : (Int32.ofNat xs.length) < (1 : Int32)
    · refine Gs (fun _ tk => XS.icmpNo X5.here hx rfl (hb hby d27_8) rfl (tlt hcmp).2.1 tk) ?_
      have hshort := (own_len_lt (n := 1) (by decide) T_a.len).mp hcmp
      refine Gs (fun _ tk => XS.iconst X5.here hx rfl (hb hby d27_11) tk) ?_
      refine Goes.ret X5 (some (.int (0 : Int32))) (fun h => by rw [hret] at h; cases h) hlk (by decide) (by decide) ?_ (fun fs hr => ?_)
      · exact ⟨(by rw [own_swShort _ _ hshort]), N5, e5⟩
      · exact own_retN X5 hx (t := .boolean) hret (by simp) rfl (hb hby d27_12) hr
    · refine Gs (fun _ tk => XS.icmpYes X5.here hx rfl (pc0 := 8) (pc' := 13) rfl (hb hby d27_8) rfl (flt hcmp).2.1 (by decide) (by decide) tk) ?_
      have hlong := fun q => hcmp ((own_len_lt (n := 1) (by decide) T_a.len).mpr q)
      obtain ⟨t0, ts, rfl⟩ : ∃ t0 ts, xs = t0 :: ts := by
        match xs, hlong with
        | [], h => exact absurd (by simp) h
        | t0 :: ts, _ => exact ⟨t0, ts, rfl⟩
      show Goes _ _ _ _ _ (T5.setTop (mkF m 13 #[.val (.ref a), .val (.ref b), .unset, .unset, .unset, .unset] []))
      refine Gs (fun _ tk => XS.iconst X5.here hx rfl (hb hby d27_13) tk) ?_
      refine Gs (fun _ tk => XS.istoreN X5.here hx rfl (hb hby d27_14) rfl (l' := #[.val (.ref a), .val (.ref b), .val (.int (0 : Int32)), .unset, .unset, .unset]) rfl tk) ?_
      refine Gs (fun _ tk => XS.iloadN X5.here hx rfl (hb hby d27_15) rfl tk) ?_
      refine Gs (fun _ tk => XS.aloadN X5.here hx rfl (hb hby d27_16) rfl rfl tk) ?_
      obtain ⟨cq6, kq6, q6a, q6b, q6c⟩ := isOf hZ e5 T_b.exa
      obtain ⟨_, _, ⟨T6, L6, k6, n6⟩, -, X6, ⟨Lc6, hQ6, l6, y6, z6⟩, st6⟩ := X5.virtualBack hx (y := mN2) (z := mN2) hown (mvT hZ (gw hw 31 rfl)) (mvT hZ (gw hw 32 rfl)) (notFace_of_selects (args := #[]) (mvT hZ (gw hw 34 rfl))) (mvT hZ (gw hw 34 rfl)) (mvT hZ (gw hw 33 rfl)) (by decide) (backOf (W := 1) (rs_len l Z a0 hw [] b [p0] cz h0 n0 Z0 T_b S_COMPACT_STRINGS (by first | assumption | decide)) hZ (gw hw 35 rfl) (gw hw 7 rfl) (by decide) (by decide)) q6a q6c (g := (mkF m 17 #[.val (.ref a), .val (.ref b), .val (.int (0 : Int32)), .unset, .unset, .unset] [(.ref b), (.int (0 : Int32))])) rfl (by rw [hml]; rfl) (Steps.refl _) (argsL := []) (rest := [(.int (0 : Int32))]) (lenOf own_pd19 rfl) rfl (w0 (Nat.le_of_eq rfl)) (hb hby d27_17) (fun _ _ => ⟨rfl, e5, (by decide : 0 + 0 ≤ _), (by decide : 0 + 0 ≤ _)⟩)
      dsimp only [Pt.U, Pt.locs, Pt.cells, Pt.slots] at X6 l6 y6 z6 st6 hQ6
      subst l6 y6 z6
      obtain ⟨rfl, N6q, e6⟩ := hQ6
      have N6 := Fr.app N5 N6q
      refine Gs (fun _ tk => st6.trans tk) ?_
      show Goes _ _ _ _ _ (T6.setTop (mkF m 20 #[.val (.ref a), .val (.ref b), .val (.int (0 : Int32)), .unset, .unset, .unset] [(.int (Int32.ofNat [p0].length)), (.int (0 : Int32))]))
      rw [show (Int32.ofNat [p0].length) = (1 : Int32) from rfl]
      show Goes _ _ _ _ _ (T6.setTop (mkF m 20 #[.val (.ref a), .val (.ref b), .val (.int (0 : Int32)), .unset, .unset, .unset] [(.int (1 : Int32)), (.int (0 : Int32))]))
      refine Gs (fun _ tk => XS.icmpNo X6.here hx rfl (hb hby d27_20) rfl (tlt (by decide : ((0 : Int32) < (1 : Int32)))).2.1 tk) ?_
      refine Gs (fun _ tk => XS.aloadN X6.here hx rfl (hb hby d27_23) rfl rfl tk) ?_
      refine Gs (fun _ tk => XS.iloadN X6.here hx rfl (hb hby d27_24) rfl tk) ?_
      obtain ⟨cq7, kq7, q7a, q7b, q7c⟩ := isOf hZ e6 T_b.exa
      obtain ⟨_, _, ⟨T7, L7, k7, n7⟩, -, X7, ⟨Lc7, hQ7, l7, y7, z7⟩, st7⟩ := X6.virtualBack hx (y := mN10) (z := mN10) hown (mvT hZ (gw hw 94 rfl)) (mvT hZ (gw hw 95 rfl)) (notFace_of_selects (args := #[]) (mvT hZ (gw hw 97 rfl))) (mvT hZ (gw hw 97 rfl)) (mvT hZ (gw hw 96 rfl)) (by decide) (backOf (W := 0) (rs_chr l Z a0 hw [] b [p0] (0 : Int32) p0 cz fo h0 n0 Z0 T_b S_COMPACT_STRINGS (by first | assumption | decide) (by first | assumption | decide) (own_il 0 _ (by decide) (by simp) T_b.len) rfl S_SIOOBE_FORMATTER (by first | assumption | decide) S__assertionsDisabled S_HI_BYTE_SHIFT S_LO_BYTE_SHIFT) hZ (gw hw 98 rfl) (gw hw 7 rfl) (by decide) (by decide)) q7a q7c (g := (mkF m 25 #[.val (.ref a), .val (.ref b), .val (.int (0 : Int32)), .unset, .unset, .unset] [(.int (0 : Int32)), (.ref b)])) rfl (by rw [hml]; rfl) (Steps.refl _) (argsL := [(.int (0 : Int32))]) (rest := []) (lenOf own_pd20 rfl) rfl (w0 (Nat.le_of_eq rfl)) (hb hby d27_25) (fun _ _ => ⟨rfl, e6, (by decide : 0 + 0 ≤ _), (by decide : 0 + 0 ≤ _)⟩)
      dsimp only [Pt.U, Pt.locs, Pt.cells, Pt.slots] at X7 l7 y7 z7 st7 hQ7
      subst l7 y7 z7
      obtain ⟨rfl, N7q, e7⟩ := hQ7
      have N7 := Fr.app N6 N7q
      refine Gs (fun _ tk => st7.trans tk) ?_
      show Goes _ _ _ _ _ (T7.setTop (mkF m 28 #[.val (.ref a), .val (.ref b), .val (.int (0 : Int32)), .unset, .unset, .unset] [(.int p0)]))
      refine Gs (fun _ tk => XS.istoreN X7.here hx rfl (hb hby d27_28) rfl (l' := #[.val (.ref a), .val (.ref b), .val (.int (0 : Int32)), .val (.int p0), .unset, .unset]) rfl tk) ?_
      refine Gs (fun _ tk => XS.aloadN X7.here hx rfl (hb hby d27_29) rfl rfl tk) ?_
      refine Gs (fun _ tk => XS.iloadN X7.here hx rfl (hb hby d27_30) rfl tk) ?_
      obtain ⟨cq8, kq8, q8a, q8b, q8c⟩ := isOf hZ e7 T_a.exa
      obtain ⟨_, _, ⟨T8, L8, k8, n8⟩, -, X8, ⟨Lc8, hQ8, l8, y8, z8⟩, st8⟩ := X7.virtualBack hx (y := mN10) (z := mN10) hown (mvT hZ (gw hw 94 rfl)) (mvT hZ (gw hw 95 rfl)) (notFace_of_selects (args := #[]) (mvT hZ (gw hw 97 rfl))) (mvT hZ (gw hw 97 rfl)) (mvT hZ (gw hw 96 rfl)) (by decide) (backOf (W := 0) (rs_chr l Z a0 hw [] a (t0 :: ts) (0 : Int32) t0 cz fo h0 n0 Z0 T_a S_COMPACT_STRINGS (by first | assumption | decide) (by first | assumption | decide) (own_il 0 _ (by decide) (by simp) T_a.len) rfl S_SIOOBE_FORMATTER (by first | assumption | decide) S__assertionsDisabled S_HI_BYTE_SHIFT S_LO_BYTE_SHIFT) hZ (gw hw 98 rfl) (gw hw 7 rfl) (by decide) (by decide)) q8a q8c (g := (mkF m 31 #[.val (.ref a), .val (.ref b), .val (.int (0 : Int32)), .val (.int p0), .unset, .unset] [(.int (0 : Int32)), (.ref a)])) rfl (by rw [hml]; rfl) (Steps.refl _) (argsL := [(.int (0 : Int32))]) (rest := []) (lenOf own_pd20 rfl) rfl (w0 (Nat.le_of_eq rfl)) (hb hby d27_31) (fun _ _ => ⟨rfl, e7, (by decide : 0 + 0 ≤ _), (by decide : 0 + 0 ≤ _)⟩)
      dsimp only [Pt.U, Pt.locs, Pt.cells, Pt.slots] at X8 l8 y8 z8 st8 hQ8
      subst l8 y8 z8
      obtain ⟨rfl, N8q, e8⟩ := hQ8
      have N8 := Fr.app N7 N8q
      refine Gs (fun _ tk => st8.trans tk) ?_
      show Goes _ _ _ _ _ (T8.setTop (mkF m 34 #[.val (.ref a), .val (.ref b), .val (.int (0 : Int32)), .val (.int p0), .unset, .unset] [(.int t0)]))
      refine Gs (fun _ tk => XS.istore X8.here hx rfl (hb hby d27_34) rfl (l' := #[.val (.ref a), .val (.ref b), .val (.int (0 : Int32)), .val (.int p0), .val (.int t0), .unset]) rfl tk) ?_
      refine Gs (fun _ tk => XS.iloadN X8.here hx rfl (hb hby d27_36) rfl tk) ?_
      refine Gs (fun _ tk => XS.bipush X8.here hx rfl (hb hby d27_37) tk) ?_
      show Goes _ _ _ _ _ (T8.setTop (mkF m 39 #[.val (.ref a), .val (.ref b), .val (.int (0 : Int32)), .val (.int p0), .val (.int t0), .unset] [(.int (48 : Int32)), (.int p0)]))
      refine own_join (B := T8.setTop (mkF m 75 #[.val (.ref a), .val (.ref b), .val (.int (0 : Int32)), .val (.int p0), .val (.int t0), .unset] [(.int (own_fit2 p0 t0))])) ?_ ?_
      · show Goes _ _ _ _ _ (T8.setTop (mkF m 75 #[.val (.ref a), .val (.ref b), .val (.int (0 : Int32)), .val (.int p0), .val (.int t0), .unset] [(.int (own_fit2 p0 t0))]))
        refine Gs (fun _ tk => XS.istore X8.here hx rfl (hb hby d27_75) rfl (l' := #[.val (.ref a), .val (.ref b), .val (.int (0 : Int32)), .val (.int p0), .val (.int t0), .val (.int (own_fit2 p0 t0))]) rfl tk) ?_
        refine Gs (fun _ tk => XS.iload X8.here hx rfl (hb hby d27_77) rfl tk) ?_
        by_cases hc79_10 : (own_fit2 p0 t0) = (0 : Int32)
        · refine Gs (fun _ tk => XS.ifNo X8.here hx rfl (hb hby d27_79) rfl ((if0 _ _).trans (teq hc79_10).2) tk) ?_
          refine Gs (fun _ tk => XS.iconst X8.here hx rfl (hb hby d27_82) tk) ?_
          refine Goes.ret X8 (some (.int (0 : Int32))) (fun h => by rw [hret] at h; cases h) hlk (by decide) (by decide) ?_ (fun fs hr => ?_)
          · exact ⟨(by rw [own_sw, if_pos hc79_10]), N8, e8⟩
          · exact own_retN X8 hx (t := .boolean) hret (by simp) rfl (hb hby d27_83) hr
        · refine Gs (fun _ tk => XS.ifYes X8.here hx rfl (pc0 := 79) (pc' := 84) rfl (hb hby d27_79) rfl ((if0 _ _).trans (feq hc79_10).2) (by decide) (by decide) tk) ?_
          show Goes _ _ _ _ _ (T8.setTop (mkF m 84 #[.val (.ref a), .val (.ref b), .val (.int (0 : Int32)), .val (.int p0), .val (.int t0), .val (.int (own_fit2 p0 t0))] []))
          refine Gs (fun _ tk => XS.iinc X8.here hx rfl (hb hby d27_84) rfl (l' := #[.val (.ref a), .val (.ref b), .val (.int ((0 : Int32) + (1 : Int32))), .val (.int p0), .val (.int t0), .val (.int (own_fit2 p0 t0))]) rfl tk) ?_
          rw [show ((0 : Int32) + (1 : Int32)) = (1 : Int32) from by decide]
          show Goes _ _ _ _ _ (T8.setTop (mkF m 87 #[.val (.ref a), .val (.ref b), .val (.int (1 : Int32)), .val (.int p0), .val (.int t0), .val (.int (own_fit2 p0 t0))] []))
          refine Gs (fun _ tk => XS.goto X8.here hx rfl (pc0 := 87) (pc' := 15) rfl (hb hby d27_87) (by decide) (by decide) tk) ?_
          refine Gs (fun _ tk => XS.iloadN X8.here hx rfl (hb hby d27_15) rfl tk) ?_
          refine Gs (fun _ tk => XS.aloadN X8.here hx rfl (hb hby d27_16) rfl rfl tk) ?_
          obtain ⟨cq11, kq11, q11a, q11b, q11c⟩ := isOf hZ e8 T_b.exa
          obtain ⟨_, _, ⟨T11, L11, k11, n11⟩, -, X11, ⟨Lc11, hQ11, l11, y11, z11⟩, st11⟩ := X8.virtualBack hx (y := mN2) (z := mN2) hown (mvT hZ (gw hw 31 rfl)) (mvT hZ (gw hw 32 rfl)) (notFace_of_selects (args := #[]) (mvT hZ (gw hw 34 rfl))) (mvT hZ (gw hw 34 rfl)) (mvT hZ (gw hw 33 rfl)) (by decide) (backOf (W := 1) (rs_len l Z a0 hw [] b [p0] cz h0 n0 Z0 T_b S_COMPACT_STRINGS (by first | assumption | decide)) hZ (gw hw 35 rfl) (gw hw 7 rfl) (by decide) (by decide)) q11a q11c (g := (mkF m 17 #[.val (.ref a), .val (.ref b), .val (.int (1 : Int32)), .val (.int p0), .val (.int t0), .val (.int (own_fit2 p0 t0))] [(.ref b), (.int (1 : Int32))])) rfl (by rw [hml]; rfl) (Steps.refl _) (argsL := []) (rest := [(.int (1 : Int32))]) (lenOf own_pd19 rfl) rfl (w0 (Nat.le_of_eq rfl)) (hb hby d27_17) (fun _ _ => ⟨rfl, e8, (by decide : 0 + 0 ≤ _), (by decide : 0 + 0 ≤ _)⟩)
          dsimp only [Pt.U, Pt.locs, Pt.cells, Pt.slots] at X11 l11 y11 z11 st11 hQ11
          subst l11 y11 z11
          obtain ⟨rfl, N11q, e11⟩ := hQ11
          have N11 := Fr.app N8 N11q
          refine Gs (fun _ tk => st11.trans tk) ?_
          show Goes _ _ _ _ _ (T11.setTop (mkF m 20 #[.val (.ref a), .val (.ref b), .val (.int (1 : Int32)), .val (.int p0), .val (.int t0), .val (.int (own_fit2 p0 t0))] [(.int (Int32.ofNat [p0].length)), (.int (1 : Int32))]))
          rw [show (Int32.ofNat [p0].length) = (1 : Int32) from rfl]
          show Goes _ _ _ _ _ (T11.setTop (mkF m 20 #[.val (.ref a), .val (.ref b), .val (.int (1 : Int32)), .val (.int p0), .val (.int t0), .val (.int (own_fit2 p0 t0))] [(.int (1 : Int32)), (.int (1 : Int32))]))
          refine Gs (fun _ tk => XS.icmpYes X11.here hx rfl (pc0 := 20) (pc' := 90) rfl (hb hby d27_20) rfl (flt (by decide : ¬ ((1 : Int32) < (1 : Int32)))).2.1 (by decide) (by decide) tk) ?_
          refine Gs (fun _ tk => XS.iconst X11.here hx rfl (hb hby d27_90) tk) ?_
          refine Goes.ret X11 (some (.int (1 : Int32))) (fun h => by rw [hret] at h; cases h) hlk (by decide) (by decide) ?_ (fun fs hr => ?_)
          · exact ⟨(by rw [own_sw, if_neg hc79_10, own_sw]), N11, e11⟩
          · exact own_retN X11 hx (t := .boolean) hret (by simp) rfl (hb hby d27_91) hr
      intro J75_9
      by_cases hc39_12 : p0 = (48 : Int32)
      · refine Gs (fun _ tk => XS.icmpNo X8.here hx rfl (hb hby d27_39) rfl (teq hc39_12).2 tk) ?_
        refine Gs (fun _ tk => XS.iload X8.here hx rfl (hb hby d27_42) rfl tk) ?_
        refine Gs (fun _ tk => XS.bipush X8.here hx rfl (hb hby d27_44) tk) ?_
        by_cases hc46_13 : t0 < (48 : Int32)
        · refine Gs (fun _ tk => XS.icmpYes X8.here hx rfl (pc0 := 46) (pc' := 60) rfl (hb hby d27_46) rfl (tlt hc46_13).1 (by decide) (by decide) tk) ?_
          refine Gs (fun _ tk => XS.iconst X8.here hx rfl (hb hby d27_60) tk) ?_
          refine Gs (fun _ tk => XS.goto X8.here hx rfl (pc0 := 61) (pc' := 75) rfl (hb hby d27_61) (by decide) (by decide) tk) ?_
          show Goes _ _ _ _ _ (T8.setTop (mkF m 75 #[.val (.ref a), .val (.ref b), .val (.int (0 : Int32)), .val (.int p0), .val (.int t0), .unset] [(.int (0 : Int32))]))
          rw [show (own_fit2 p0 t0) = (0 : Int32) from by rw [own_fit2, if_pos hc39_12, if_pos hc46_13]] at J75_9
          exact J75_9
        · refine Gs (fun _ tk => XS.icmpNo X8.here hx rfl (hb hby d27_46) rfl (flt hc46_13).1 tk) ?_
          refine Gs (fun _ tk => XS.iload X8.here hx rfl (hb hby d27_49) rfl tk) ?_
          refine Gs (fun _ tk => XS.bipush X8.here hx rfl (hb hby d27_51) tk) ?_
          show Goes _ _ _ _ _ (T8.setTop (mkF m 53 #[.val (.ref a), .val (.ref b), .val (.int (0 : Int32)), .val (.int p0), .val (.int t0), .unset] [(.int (57 : Int32)), (.int t0)]))
          by_cases hc53_14 : (57 : Int32) < t0
          · refine Gs (fun _ tk => XS.icmpYes X8.here hx rfl (pc0 := 53) (pc' := 60) rfl (hb hby d27_53) rfl (tlt hc53_14).2.2.1 (by decide) (by decide) tk) ?_
            refine Gs (fun _ tk => XS.iconst X8.here hx rfl (hb hby d27_60) tk) ?_
            refine Gs (fun _ tk => XS.goto X8.here hx rfl (pc0 := 61) (pc' := 75) rfl (hb hby d27_61) (by decide) (by decide) tk) ?_
            rw [show (own_fit2 p0 t0) = (0 : Int32) from by rw [own_fit2, if_pos hc39_12, if_neg hc46_13, if_pos hc53_14]] at J75_9
            exact J75_9
          · refine Gs (fun _ tk => XS.icmpNo X8.here hx rfl (hb hby d27_53) rfl (flt hc53_14).2.2.1 tk) ?_
            refine Gs (fun _ tk => XS.iconst X8.here hx rfl (hb hby d27_56) tk) ?_
            refine Gs (fun _ tk => XS.goto X8.here hx rfl (pc0 := 57) (pc' := 75) rfl (hb hby d27_57) (by decide) (by decide) tk) ?_
            rw [show (own_fit2 p0 t0) = (1 : Int32) from by rw [own_fit2, if_pos hc39_12, if_neg hc46_13, if_neg hc53_14]] at J75_9
            exact J75_9
      · refine Gs (fun _ tk => XS.icmpYes X8.here hx rfl (pc0 := 39) (pc' := 64) rfl (hb hby d27_39) rfl (feq hc39_12).2 (by decide) (by decide) tk) ?_
        refine Gs (fun _ tk => XS.iload X8.here hx rfl (hb hby d27_64) rfl tk) ?_
        refine Gs (fun _ tk => XS.iloadN X8.here hx rfl (hb hby d27_66) rfl tk) ?_
        by_cases hc67_15 : t0 = p0
        · refine Gs (fun _ tk => XS.icmpNo X8.here hx rfl (hb hby d27_67) rfl (teq hc67_15).2 tk) ?_
          refine Gs (fun _ tk => XS.iconst X8.here hx rfl (hb hby d27_70) tk) ?_
          refine Gs (fun _ tk => XS.goto X8.here hx rfl (pc0 := 71) (pc' := 75) rfl (hb hby d27_71) (by decide) (by decide) tk) ?_
          show Goes _ _ _ _ _ (T8.setTop (mkF m 75 #[.val (.ref a), .val (.ref b), .val (.int (0 : Int32)), .val (.int p0), .val (.int t0), .unset] [(.int (1 : Int32))]))
          rw [show (own_fit2 p0 t0) = (1 : Int32) from by rw [own_fit2, if_neg hc39_12, if_pos hc67_15]] at J75_9
          exact J75_9
        · refine Gs (fun _ tk => XS.icmpYes X8.here hx rfl (pc0 := 67) (pc' := 74) rfl (hb hby d27_67) rfl (feq hc67_15).2 (by decide) (by decide) tk) ?_
          refine Gs (fun _ tk => XS.iconst X8.here hx rfl (hb hby d27_74) tk) ?_
          rw [show (own_fit2 p0 t0) = (0 : Int32) from by rw [own_fit2, if_neg hc39_12, if_neg hc67_15]] at J75_9
          exact J75_9
  · show Goes _ _ _ _ _ (s₁.setTop (mkF m 0 #[.val (.ref a), .val (.ref b), .unset, .unset, .unset, .unset] []))
    refine Gs (fun _ tk => XS.aloadN X0.here hx rfl (hb hby d27_0) rfl rfl tk) ?_
    obtain ⟨cq16, kq16, q16a, q16b, q16c⟩ := isOf hZ e0 T_a.exa
    obtain ⟨_, _, ⟨T16, L16, k16, n16⟩, -, X16, ⟨Lc16, hQ16, l16, y16, z16⟩, st16⟩ := X0.virtualBack hx (y := mN2) (z := mN2) hown (mvT hZ (gw hw 31 rfl)) (mvT hZ (gw hw 32 rfl)) (notFace_of_selects (args := #[]) (mvT hZ (gw hw 34 rfl))) (mvT hZ (gw hw 34 rfl)) (mvT hZ (gw hw 33 rfl)) (by decide) (backOf (W := 0) (rs_len l Z a0 hw [] a xs cz h0 n0 Z0 T_a S_COMPACT_STRINGS (by first | assumption | decide)) hZ (gw hw 35 rfl) (gw hw 7 rfl) (by decide) (by decide)) q16a q16c (g := (mkF m 1 #[.val (.ref a), .val (.ref b), .unset, .unset, .unset, .unset] [(.ref a)])) rfl (by rw [hml]; rfl) (Steps.refl _) (argsL := []) (rest := []) (lenOf own_pd19 rfl) rfl (w0 (Nat.le_of_eq rfl)) (hb hby d27_1) (fun _ _ => ⟨rfl, e0, (by decide : 0 + 0 ≤ _), (by decide : 0 + 0 ≤ _)⟩)
    dsimp only [Pt.U, Pt.locs, Pt.cells, Pt.slots] at X16 l16 y16 z16 st16 hQ16
    subst l16 y16 z16
    obtain ⟨rfl, N16q, e16⟩ := hQ16
    have N16 := Fr.app N0 N16q
    refine Gs (fun _ tk => st16.trans tk) ?_
    show Goes _ _ _ _ _ (T16.setTop (mkF m 4 #[.val (.ref a), .val (.ref b), .unset, .unset, .unset, .unset] [(.int (Int32.ofNat xs.length))]))
    refine Gs (fun _ tk => XS.aloadN X16.here hx rfl (hb hby d27_4) rfl rfl tk) ?_
    obtain ⟨cq17, kq17, q17a, q17b, q17c⟩ := isOf hZ e16 T_b.exa
    obtain ⟨_, _, ⟨T17, L17, k17, n17⟩, -, X17, ⟨Lc17, hQ17, l17, y17, z17⟩, st17⟩ := X16.virtualBack hx (y := mN2) (z := mN2) hown (mvT hZ (gw hw 31 rfl)) (mvT hZ (gw hw 32 rfl)) (notFace_of_selects (args := #[]) (mvT hZ (gw hw 34 rfl))) (mvT hZ (gw hw 34 rfl)) (mvT hZ (gw hw 33 rfl)) (by decide) (backOf (W := 1) (rs_len l Z a0 hw [] b [p0, p1] cz h0 n0 Z0 T_b S_COMPACT_STRINGS (by first | assumption | decide)) hZ (gw hw 35 rfl) (gw hw 7 rfl) (by decide) (by decide)) q17a q17c (g := (mkF m 5 #[.val (.ref a), .val (.ref b), .unset, .unset, .unset, .unset] [(.ref b), (.int (Int32.ofNat xs.length))])) rfl (by rw [hml]; rfl) (Steps.refl _) (argsL := []) (rest := [(.int (Int32.ofNat xs.length))]) (lenOf own_pd19 rfl) rfl (w0 (Nat.le_of_eq rfl)) (hb hby d27_5) (fun _ _ => ⟨rfl, e16, (by decide : 0 + 0 ≤ _), (by decide : 0 + 0 ≤ _)⟩)
    dsimp only [Pt.U, Pt.locs, Pt.cells, Pt.slots] at X17 l17 y17 z17 st17 hQ17
    subst l17 y17 z17
    obtain ⟨rfl, N17q, e17⟩ := hQ17
    have N17 := Fr.app N16 N17q
    refine Gs (fun _ tk => st17.trans tk) ?_
    show Goes _ _ _ _ _ (T17.setTop (mkF m 8 #[.val (.ref a), .val (.ref b), .unset, .unset, .unset, .unset] [(.int (Int32.ofNat [p0, p1].length)), (.int (Int32.ofNat xs.length))]))
    rw [show (Int32.ofNat [p0, p1].length) = (2 : Int32) from rfl]
    show Goes _ _ _ _ _ (T17.setTop (mkF m 8 #[.val (.ref a), .val (.ref b), .unset, .unset, .unset, .unset] [(.int (2 : Int32)), (.int (Int32.ofNat xs.length))]))
    by_cases hcmp : (Int32.ofNat xs.length) < (2 : Int32)
    · refine Gs (fun _ tk => XS.icmpNo X17.here hx rfl (hb hby d27_8) rfl (tlt hcmp).2.1 tk) ?_
      have hshort := (own_len_lt (n := 2) (by decide) T_a.len).mp hcmp
      refine Gs (fun _ tk => XS.iconst X17.here hx rfl (hb hby d27_11) tk) ?_
      refine Goes.ret X17 (some (.int (0 : Int32))) (fun h => by rw [hret] at h; cases h) hlk (by decide) (by decide) ?_ (fun fs hr => ?_)
      · exact ⟨(by rw [own_swShort _ _ hshort]), N17, e17⟩
      · exact own_retN X17 hx (t := .boolean) hret (by simp) rfl (hb hby d27_12) hr
    · refine Gs (fun _ tk => XS.icmpYes X17.here hx rfl (pc0 := 8) (pc' := 13) rfl (hb hby d27_8) rfl (flt hcmp).2.1 (by decide) (by decide) tk) ?_
      have hlong := fun q => hcmp ((own_len_lt (n := 2) (by decide) T_a.len).mpr q)
      obtain ⟨t0, t1, ts, rfl⟩ : ∃ t0 t1 ts, xs = t0 :: t1 :: ts := by
        match xs, hlong with
        | [], h => exact absurd (by simp) h
        | [_], h => exact absurd (by simp) h
        | t0 :: t1 :: ts, _ => exact ⟨t0, t1, ts, rfl⟩
      show Goes _ _ _ _ _ (T17.setTop (mkF m 13 #[.val (.ref a), .val (.ref b), .unset, .unset, .unset, .unset] []))
      refine Gs (fun _ tk => XS.iconst X17.here hx rfl (hb hby d27_13) tk) ?_
      refine Gs (fun _ tk => XS.istoreN X17.here hx rfl (hb hby d27_14) rfl (l' := #[.val (.ref a), .val (.ref b), .val (.int (0 : Int32)), .unset, .unset, .unset]) rfl tk) ?_
      refine Gs (fun _ tk => XS.iloadN X17.here hx rfl (hb hby d27_15) rfl tk) ?_
      refine Gs (fun _ tk => XS.aloadN X17.here hx rfl (hb hby d27_16) rfl rfl tk) ?_
      obtain ⟨cq18, kq18, q18a, q18b, q18c⟩ := isOf hZ e17 T_b.exa
      obtain ⟨_, _, ⟨T18, L18, k18, n18⟩, -, X18, ⟨Lc18, hQ18, l18, y18, z18⟩, st18⟩ := X17.virtualBack hx (y := mN2) (z := mN2) hown (mvT hZ (gw hw 31 rfl)) (mvT hZ (gw hw 32 rfl)) (notFace_of_selects (args := #[]) (mvT hZ (gw hw 34 rfl))) (mvT hZ (gw hw 34 rfl)) (mvT hZ (gw hw 33 rfl)) (by decide) (backOf (W := 1) (rs_len l Z a0 hw [] b [p0, p1] cz h0 n0 Z0 T_b S_COMPACT_STRINGS (by first | assumption | decide)) hZ (gw hw 35 rfl) (gw hw 7 rfl) (by decide) (by decide)) q18a q18c (g := (mkF m 17 #[.val (.ref a), .val (.ref b), .val (.int (0 : Int32)), .unset, .unset, .unset] [(.ref b), (.int (0 : Int32))])) rfl (by rw [hml]; rfl) (Steps.refl _) (argsL := []) (rest := [(.int (0 : Int32))]) (lenOf own_pd19 rfl) rfl (w0 (Nat.le_of_eq rfl)) (hb hby d27_17) (fun _ _ => ⟨rfl, e17, (by decide : 0 + 0 ≤ _), (by decide : 0 + 0 ≤ _)⟩)
      dsimp only [Pt.U, Pt.locs, Pt.cells, Pt.slots] at X18 l18 y18 z18 st18 hQ18
      subst l18 y18 z18
      obtain ⟨rfl, N18q, e18⟩ := hQ18
      have N18 := Fr.app N17 N18q
      refine Gs (fun _ tk => st18.trans tk) ?_
      show Goes _ _ _ _ _ (T18.setTop (mkF m 20 #[.val (.ref a), .val (.ref b), .val (.int (0 : Int32)), .unset, .unset, .unset] [(.int (Int32.ofNat [p0, p1].length)), (.int (0 : Int32))]))
      rw [show (Int32.ofNat [p0, p1].length) = (2 : Int32) from rfl]
      show Goes _ _ _ _ _ (T18.setTop (mkF m 20 #[.val (.ref a), .val (.ref b), .val (.int (0 : Int32)), .unset, .unset, .unset] [(.int (2 : Int32)), (.int (0 : Int32))]))
      refine Gs (fun _ tk => XS.icmpNo X18.here hx rfl (hb hby d27_20) rfl (tlt (by decide : ((0 : Int32) < (2 : Int32)))).2.1 tk) ?_
      refine Gs (fun _ tk => XS.aloadN X18.here hx rfl (hb hby d27_23) rfl rfl tk) ?_
      refine Gs (fun _ tk => XS.iloadN X18.here hx rfl (hb hby d27_24) rfl tk) ?_
      obtain ⟨cq19, kq19, q19a, q19b, q19c⟩ := isOf hZ e18 T_b.exa
      obtain ⟨_, _, ⟨T19, L19, k19, n19⟩, -, X19, ⟨Lc19, hQ19, l19, y19, z19⟩, st19⟩ := X18.virtualBack hx (y := mN10) (z := mN10) hown (mvT hZ (gw hw 94 rfl)) (mvT hZ (gw hw 95 rfl)) (notFace_of_selects (args := #[]) (mvT hZ (gw hw 97 rfl))) (mvT hZ (gw hw 97 rfl)) (mvT hZ (gw hw 96 rfl)) (by decide) (backOf (W := 0) (rs_chr l Z a0 hw [] b [p0, p1] (0 : Int32) p0 cz fo h0 n0 Z0 T_b S_COMPACT_STRINGS (by first | assumption | decide) (by first | assumption | decide) (own_il 0 _ (by decide) (by simp) T_b.len) rfl S_SIOOBE_FORMATTER (by first | assumption | decide) S__assertionsDisabled S_HI_BYTE_SHIFT S_LO_BYTE_SHIFT) hZ (gw hw 98 rfl) (gw hw 7 rfl) (by decide) (by decide)) q19a q19c (g := (mkF m 25 #[.val (.ref a), .val (.ref b), .val (.int (0 : Int32)), .unset, .unset, .unset] [(.int (0 : Int32)), (.ref b)])) rfl (by rw [hml]; rfl) (Steps.refl _) (argsL := [(.int (0 : Int32))]) (rest := []) (lenOf own_pd20 rfl) rfl (w0 (Nat.le_of_eq rfl)) (hb hby d27_25) (fun _ _ => ⟨rfl, e18, (by decide : 0 + 0 ≤ _), (by decide : 0 + 0 ≤ _)⟩)
      dsimp only [Pt.U, Pt.locs, Pt.cells, Pt.slots] at X19 l19 y19 z19 st19 hQ19
      subst l19 y19 z19
      obtain ⟨rfl, N19q, e19⟩ := hQ19
      have N19 := Fr.app N18 N19q
      refine Gs (fun _ tk => st19.trans tk) ?_
      show Goes _ _ _ _ _ (T19.setTop (mkF m 28 #[.val (.ref a), .val (.ref b), .val (.int (0 : Int32)), .unset, .unset, .unset] [(.int p0)]))
      refine Gs (fun _ tk => XS.istoreN X19.here hx rfl (hb hby d27_28) rfl (l' := #[.val (.ref a), .val (.ref b), .val (.int (0 : Int32)), .val (.int p0), .unset, .unset]) rfl tk) ?_
      refine Gs (fun _ tk => XS.aloadN X19.here hx rfl (hb hby d27_29) rfl rfl tk) ?_
      refine Gs (fun _ tk => XS.iloadN X19.here hx rfl (hb hby d27_30) rfl tk) ?_
      obtain ⟨cq20, kq20, q20a, q20b, q20c⟩ := isOf hZ e19 T_a.exa
      obtain ⟨_, _, ⟨T20, L20, k20, n20⟩, -, X20, ⟨Lc20, hQ20, l20, y20, z20⟩, st20⟩ := X19.virtualBack hx (y := mN10) (z := mN10) hown (mvT hZ (gw hw 94 rfl)) (mvT hZ (gw hw 95 rfl)) (notFace_of_selects (args := #[]) (mvT hZ (gw hw 97 rfl))) (mvT hZ (gw hw 97 rfl)) (mvT hZ (gw hw 96 rfl)) (by decide) (backOf (W := 0) (rs_chr l Z a0 hw [] a (t0 :: t1 :: ts) (0 : Int32) t0 cz fo h0 n0 Z0 T_a S_COMPACT_STRINGS (by first | assumption | decide) (by first | assumption | decide) (own_il 0 _ (by decide) (by simp) T_a.len) rfl S_SIOOBE_FORMATTER (by first | assumption | decide) S__assertionsDisabled S_HI_BYTE_SHIFT S_LO_BYTE_SHIFT) hZ (gw hw 98 rfl) (gw hw 7 rfl) (by decide) (by decide)) q20a q20c (g := (mkF m 31 #[.val (.ref a), .val (.ref b), .val (.int (0 : Int32)), .val (.int p0), .unset, .unset] [(.int (0 : Int32)), (.ref a)])) rfl (by rw [hml]; rfl) (Steps.refl _) (argsL := [(.int (0 : Int32))]) (rest := []) (lenOf own_pd20 rfl) rfl (w0 (Nat.le_of_eq rfl)) (hb hby d27_31) (fun _ _ => ⟨rfl, e19, (by decide : 0 + 0 ≤ _), (by decide : 0 + 0 ≤ _)⟩)
      dsimp only [Pt.U, Pt.locs, Pt.cells, Pt.slots] at X20 l20 y20 z20 st20 hQ20
      subst l20 y20 z20
      obtain ⟨rfl, N20q, e20⟩ := hQ20
      have N20 := Fr.app N19 N20q
      refine Gs (fun _ tk => st20.trans tk) ?_
      show Goes _ _ _ _ _ (T20.setTop (mkF m 34 #[.val (.ref a), .val (.ref b), .val (.int (0 : Int32)), .val (.int p0), .unset, .unset] [(.int t0)]))
      refine Gs (fun _ tk => XS.istore X20.here hx rfl (hb hby d27_34) rfl (l' := #[.val (.ref a), .val (.ref b), .val (.int (0 : Int32)), .val (.int p0), .val (.int t0), .unset]) rfl tk) ?_
      refine Gs (fun _ tk => XS.iloadN X20.here hx rfl (hb hby d27_36) rfl tk) ?_
      refine Gs (fun _ tk => XS.bipush X20.here hx rfl (hb hby d27_37) tk) ?_
      show Goes _ _ _ _ _ (T20.setTop (mkF m 39 #[.val (.ref a), .val (.ref b), .val (.int (0 : Int32)), .val (.int p0), .val (.int t0), .unset] [(.int (48 : Int32)), (.int p0)]))
      refine own_join (B := T20.setTop (mkF m 75 #[.val (.ref a), .val (.ref b), .val (.int (0 : Int32)), .val (.int p0), .val (.int t0), .unset] [(.int (own_fit2 p0 t0))])) ?_ ?_
      · show Goes _ _ _ _ _ (T20.setTop (mkF m 75 #[.val (.ref a), .val (.ref b), .val (.int (0 : Int32)), .val (.int p0), .val (.int t0), .unset] [(.int (own_fit2 p0 t0))]))
        refine Gs (fun _ tk => XS.istore X20.here hx rfl (hb hby d27_75) rfl (l' := #[.val (.ref a), .val (.ref b), .val (.int (0 : Int32)), .val (.int p0), .val (.int t0), .val (.int (own_fit2 p0 t0))]) rfl tk) ?_
        refine Gs (fun _ tk => XS.iload X20.here hx rfl (hb hby d27_77) rfl tk) ?_
        by_cases hc79_22 : (own_fit2 p0 t0) = (0 : Int32)
        · refine Gs (fun _ tk => XS.ifNo X20.here hx rfl (hb hby d27_79) rfl ((if0 _ _).trans (teq hc79_22).2) tk) ?_
          refine Gs (fun _ tk => XS.iconst X20.here hx rfl (hb hby d27_82) tk) ?_
          refine Goes.ret X20 (some (.int (0 : Int32))) (fun h => by rw [hret] at h; cases h) hlk (by decide) (by decide) ?_ (fun fs hr => ?_)
          · exact ⟨(by rw [own_sw, if_pos hc79_22]), N20, e20⟩
          · exact own_retN X20 hx (t := .boolean) hret (by simp) rfl (hb hby d27_83) hr
        · refine Gs (fun _ tk => XS.ifYes X20.here hx rfl (pc0 := 79) (pc' := 84) rfl (hb hby d27_79) rfl ((if0 _ _).trans (feq hc79_22).2) (by decide) (by decide) tk) ?_
          show Goes _ _ _ _ _ (T20.setTop (mkF m 84 #[.val (.ref a), .val (.ref b), .val (.int (0 : Int32)), .val (.int p0), .val (.int t0), .val (.int (own_fit2 p0 t0))] []))
          refine Gs (fun _ tk => XS.iinc X20.here hx rfl (hb hby d27_84) rfl (l' := #[.val (.ref a), .val (.ref b), .val (.int ((0 : Int32) + (1 : Int32))), .val (.int p0), .val (.int t0), .val (.int (own_fit2 p0 t0))]) rfl tk) ?_
          rw [show ((0 : Int32) + (1 : Int32)) = (1 : Int32) from by decide]
          show Goes _ _ _ _ _ (T20.setTop (mkF m 87 #[.val (.ref a), .val (.ref b), .val (.int (1 : Int32)), .val (.int p0), .val (.int t0), .val (.int (own_fit2 p0 t0))] []))
          refine Gs (fun _ tk => XS.goto X20.here hx rfl (pc0 := 87) (pc' := 15) rfl (hb hby d27_87) (by decide) (by decide) tk) ?_
          refine Gs (fun _ tk => XS.iloadN X20.here hx rfl (hb hby d27_15) rfl tk) ?_
          refine Gs (fun _ tk => XS.aloadN X20.here hx rfl (hb hby d27_16) rfl rfl tk) ?_
          obtain ⟨cq23, kq23, q23a, q23b, q23c⟩ := isOf hZ e20 T_b.exa
          obtain ⟨_, _, ⟨T23, L23, k23, n23⟩, -, X23, ⟨Lc23, hQ23, l23, y23, z23⟩, st23⟩ := X20.virtualBack hx (y := mN2) (z := mN2) hown (mvT hZ (gw hw 31 rfl)) (mvT hZ (gw hw 32 rfl)) (notFace_of_selects (args := #[]) (mvT hZ (gw hw 34 rfl))) (mvT hZ (gw hw 34 rfl)) (mvT hZ (gw hw 33 rfl)) (by decide) (backOf (W := 1) (rs_len l Z a0 hw [] b [p0, p1] cz h0 n0 Z0 T_b S_COMPACT_STRINGS (by first | assumption | decide)) hZ (gw hw 35 rfl) (gw hw 7 rfl) (by decide) (by decide)) q23a q23c (g := (mkF m 17 #[.val (.ref a), .val (.ref b), .val (.int (1 : Int32)), .val (.int p0), .val (.int t0), .val (.int (own_fit2 p0 t0))] [(.ref b), (.int (1 : Int32))])) rfl (by rw [hml]; rfl) (Steps.refl _) (argsL := []) (rest := [(.int (1 : Int32))]) (lenOf own_pd19 rfl) rfl (w0 (Nat.le_of_eq rfl)) (hb hby d27_17) (fun _ _ => ⟨rfl, e20, (by decide : 0 + 0 ≤ _), (by decide : 0 + 0 ≤ _)⟩)
          dsimp only [Pt.U, Pt.locs, Pt.cells, Pt.slots] at X23 l23 y23 z23 st23 hQ23
          subst l23 y23 z23
          obtain ⟨rfl, N23q, e23⟩ := hQ23
          have N23 := Fr.app N20 N23q
          refine Gs (fun _ tk => st23.trans tk) ?_
          show Goes _ _ _ _ _ (T23.setTop (mkF m 20 #[.val (.ref a), .val (.ref b), .val (.int (1 : Int32)), .val (.int p0), .val (.int t0), .val (.int (own_fit2 p0 t0))] [(.int (Int32.ofNat [p0, p1].length)), (.int (1 : Int32))]))
          rw [show (Int32.ofNat [p0, p1].length) = (2 : Int32) from rfl]
          show Goes _ _ _ _ _ (T23.setTop (mkF m 20 #[.val (.ref a), .val (.ref b), .val (.int (1 : Int32)), .val (.int p0), .val (.int t0), .val (.int (own_fit2 p0 t0))] [(.int (2 : Int32)), (.int (1 : Int32))]))
          refine Gs (fun _ tk => XS.icmpNo X23.here hx rfl (hb hby d27_20) rfl (tlt (by decide : ((1 : Int32) < (2 : Int32)))).2.1 tk) ?_
          refine Gs (fun _ tk => XS.aloadN X23.here hx rfl (hb hby d27_23) rfl rfl tk) ?_
          refine Gs (fun _ tk => XS.iloadN X23.here hx rfl (hb hby d27_24) rfl tk) ?_
          obtain ⟨cq24, kq24, q24a, q24b, q24c⟩ := isOf hZ e23 T_b.exa
          obtain ⟨_, _, ⟨T24, L24, k24, n24⟩, -, X24, ⟨Lc24, hQ24, l24, y24, z24⟩, st24⟩ := X23.virtualBack hx (y := mN10) (z := mN10) hown (mvT hZ (gw hw 94 rfl)) (mvT hZ (gw hw 95 rfl)) (notFace_of_selects (args := #[]) (mvT hZ (gw hw 97 rfl))) (mvT hZ (gw hw 97 rfl)) (mvT hZ (gw hw 96 rfl)) (by decide) (backOf (W := 0) (rs_chr l Z a0 hw [] b [p0, p1] (1 : Int32) p1 cz fo h0 n0 Z0 T_b S_COMPACT_STRINGS (by first | assumption | decide) (by first | assumption | decide) (own_il 1 _ (by decide) (by simp) T_b.len) rfl S_SIOOBE_FORMATTER (by first | assumption | decide) S__assertionsDisabled S_HI_BYTE_SHIFT S_LO_BYTE_SHIFT) hZ (gw hw 98 rfl) (gw hw 7 rfl) (by decide) (by decide)) q24a q24c (g := (mkF m 25 #[.val (.ref a), .val (.ref b), .val (.int (1 : Int32)), .val (.int p0), .val (.int t0), .val (.int (own_fit2 p0 t0))] [(.int (1 : Int32)), (.ref b)])) rfl (by rw [hml]; rfl) (Steps.refl _) (argsL := [(.int (1 : Int32))]) (rest := []) (lenOf own_pd20 rfl) rfl (w0 (Nat.le_of_eq rfl)) (hb hby d27_25) (fun _ _ => ⟨rfl, e23, (by decide : 0 + 0 ≤ _), (by decide : 0 + 0 ≤ _)⟩)
          dsimp only [Pt.U, Pt.locs, Pt.cells, Pt.slots] at X24 l24 y24 z24 st24 hQ24
          subst l24 y24 z24
          obtain ⟨rfl, N24q, e24⟩ := hQ24
          have N24 := Fr.app N23 N24q
          refine Gs (fun _ tk => st24.trans tk) ?_
          show Goes _ _ _ _ _ (T24.setTop (mkF m 28 #[.val (.ref a), .val (.ref b), .val (.int (1 : Int32)), .val (.int p0), .val (.int t0), .val (.int (own_fit2 p0 t0))] [(.int p1)]))
          refine Gs (fun _ tk => XS.istoreN X24.here hx rfl (hb hby d27_28) rfl (l' := #[.val (.ref a), .val (.ref b), .val (.int (1 : Int32)), .val (.int p1), .val (.int t0), .val (.int (own_fit2 p0 t0))]) rfl tk) ?_
          refine Gs (fun _ tk => XS.aloadN X24.here hx rfl (hb hby d27_29) rfl rfl tk) ?_
          refine Gs (fun _ tk => XS.iloadN X24.here hx rfl (hb hby d27_30) rfl tk) ?_
          obtain ⟨cq25, kq25, q25a, q25b, q25c⟩ := isOf hZ e24 T_a.exa
          obtain ⟨_, _, ⟨T25, L25, k25, n25⟩, -, X25, ⟨Lc25, hQ25, l25, y25, z25⟩, st25⟩ := X24.virtualBack hx (y := mN10) (z := mN10) hown (mvT hZ (gw hw 94 rfl)) (mvT hZ (gw hw 95 rfl)) (notFace_of_selects (args := #[]) (mvT hZ (gw hw 97 rfl))) (mvT hZ (gw hw 97 rfl)) (mvT hZ (gw hw 96 rfl)) (by decide) (backOf (W := 0) (rs_chr l Z a0 hw [] a (t0 :: t1 :: ts) (1 : Int32) t1 cz fo h0 n0 Z0 T_a S_COMPACT_STRINGS (by first | assumption | decide) (by first | assumption | decide) (own_il 1 _ (by decide) (by simp) T_a.len) rfl S_SIOOBE_FORMATTER (by first | assumption | decide) S__assertionsDisabled S_HI_BYTE_SHIFT S_LO_BYTE_SHIFT) hZ (gw hw 98 rfl) (gw hw 7 rfl) (by decide) (by decide)) q25a q25c (g := (mkF m 31 #[.val (.ref a), .val (.ref b), .val (.int (1 : Int32)), .val (.int p1), .val (.int t0), .val (.int (own_fit2 p0 t0))] [(.int (1 : Int32)), (.ref a)])) rfl (by rw [hml]; rfl) (Steps.refl _) (argsL := [(.int (1 : Int32))]) (rest := []) (lenOf own_pd20 rfl) rfl (w0 (Nat.le_of_eq rfl)) (hb hby d27_31) (fun _ _ => ⟨rfl, e24, (by decide : 0 + 0 ≤ _), (by decide : 0 + 0 ≤ _)⟩)
          dsimp only [Pt.U, Pt.locs, Pt.cells, Pt.slots] at X25 l25 y25 z25 st25 hQ25
          subst l25 y25 z25
          obtain ⟨rfl, N25q, e25⟩ := hQ25
          have N25 := Fr.app N24 N25q
          refine Gs (fun _ tk => st25.trans tk) ?_
          show Goes _ _ _ _ _ (T25.setTop (mkF m 34 #[.val (.ref a), .val (.ref b), .val (.int (1 : Int32)), .val (.int p1), .val (.int t0), .val (.int (own_fit2 p0 t0))] [(.int t1)]))
          refine Gs (fun _ tk => XS.istore X25.here hx rfl (hb hby d27_34) rfl (l' := #[.val (.ref a), .val (.ref b), .val (.int (1 : Int32)), .val (.int p1), .val (.int t1), .val (.int (own_fit2 p0 t0))]) rfl tk) ?_
          refine Gs (fun _ tk => XS.iloadN X25.here hx rfl (hb hby d27_36) rfl tk) ?_
          refine Gs (fun _ tk => XS.bipush X25.here hx rfl (hb hby d27_37) tk) ?_
          show Goes _ _ _ _ _ (T25.setTop (mkF m 39 #[.val (.ref a), .val (.ref b), .val (.int (1 : Int32)), .val (.int p1), .val (.int t1), .val (.int (own_fit2 p0 t0))] [(.int (48 : Int32)), (.int p1)]))
          refine own_join (B := T25.setTop (mkF m 75 #[.val (.ref a), .val (.ref b), .val (.int (1 : Int32)), .val (.int p1), .val (.int t1), .val (.int (own_fit2 p0 t0))] [(.int (own_fit2 p1 t1))])) ?_ ?_
          · show Goes _ _ _ _ _ (T25.setTop (mkF m 75 #[.val (.ref a), .val (.ref b), .val (.int (1 : Int32)), .val (.int p1), .val (.int t1), .val (.int (own_fit2 p0 t0))] [(.int (own_fit2 p1 t1))]))
            refine Gs (fun _ tk => XS.istore X25.here hx rfl (hb hby d27_75) rfl (l' := #[.val (.ref a), .val (.ref b), .val (.int (1 : Int32)), .val (.int p1), .val (.int t1), .val (.int (own_fit2 p1 t1))]) rfl tk) ?_
            refine Gs (fun _ tk => XS.iload X25.here hx rfl (hb hby d27_77) rfl tk) ?_
            by_cases hc79_27 : (own_fit2 p1 t1) = (0 : Int32)
            · refine Gs (fun _ tk => XS.ifNo X25.here hx rfl (hb hby d27_79) rfl ((if0 _ _).trans (teq hc79_27).2) tk) ?_
              refine Gs (fun _ tk => XS.iconst X25.here hx rfl (hb hby d27_82) tk) ?_
              refine Goes.ret X25 (some (.int (0 : Int32))) (fun h => by rw [hret] at h; cases h) hlk (by decide) (by decide) ?_ (fun fs hr => ?_)
              · exact ⟨(by rw [own_sw, if_neg hc79_22, own_sw, if_pos hc79_27]), N25, e25⟩
              · exact own_retN X25 hx (t := .boolean) hret (by simp) rfl (hb hby d27_83) hr
            · refine Gs (fun _ tk => XS.ifYes X25.here hx rfl (pc0 := 79) (pc' := 84) rfl (hb hby d27_79) rfl ((if0 _ _).trans (feq hc79_27).2) (by decide) (by decide) tk) ?_
              show Goes _ _ _ _ _ (T25.setTop (mkF m 84 #[.val (.ref a), .val (.ref b), .val (.int (1 : Int32)), .val (.int p1), .val (.int t1), .val (.int (own_fit2 p1 t1))] []))
              refine Gs (fun _ tk => XS.iinc X25.here hx rfl (hb hby d27_84) rfl (l' := #[.val (.ref a), .val (.ref b), .val (.int ((1 : Int32) + (1 : Int32))), .val (.int p1), .val (.int t1), .val (.int (own_fit2 p1 t1))]) rfl tk) ?_
              rw [show ((1 : Int32) + (1 : Int32)) = (2 : Int32) from by decide]
              show Goes _ _ _ _ _ (T25.setTop (mkF m 87 #[.val (.ref a), .val (.ref b), .val (.int (2 : Int32)), .val (.int p1), .val (.int t1), .val (.int (own_fit2 p1 t1))] []))
              refine Gs (fun _ tk => XS.goto X25.here hx rfl (pc0 := 87) (pc' := 15) rfl (hb hby d27_87) (by decide) (by decide) tk) ?_
              refine Gs (fun _ tk => XS.iloadN X25.here hx rfl (hb hby d27_15) rfl tk) ?_
              refine Gs (fun _ tk => XS.aloadN X25.here hx rfl (hb hby d27_16) rfl rfl tk) ?_
              obtain ⟨cq28, kq28, q28a, q28b, q28c⟩ := isOf hZ e25 T_b.exa
              obtain ⟨_, _, ⟨T28, L28, k28, n28⟩, -, X28, ⟨Lc28, hQ28, l28, y28, z28⟩, st28⟩ := X25.virtualBack hx (y := mN2) (z := mN2) hown (mvT hZ (gw hw 31 rfl)) (mvT hZ (gw hw 32 rfl)) (notFace_of_selects (args := #[]) (mvT hZ (gw hw 34 rfl))) (mvT hZ (gw hw 34 rfl)) (mvT hZ (gw hw 33 rfl)) (by decide) (backOf (W := 1) (rs_len l Z a0 hw [] b [p0, p1] cz h0 n0 Z0 T_b S_COMPACT_STRINGS (by first | assumption | decide)) hZ (gw hw 35 rfl) (gw hw 7 rfl) (by decide) (by decide)) q28a q28c (g := (mkF m 17 #[.val (.ref a), .val (.ref b), .val (.int (2 : Int32)), .val (.int p1), .val (.int t1), .val (.int (own_fit2 p1 t1))] [(.ref b), (.int (2 : Int32))])) rfl (by rw [hml]; rfl) (Steps.refl _) (argsL := []) (rest := [(.int (2 : Int32))]) (lenOf own_pd19 rfl) rfl (w0 (Nat.le_of_eq rfl)) (hb hby d27_17) (fun _ _ => ⟨rfl, e25, (by decide : 0 + 0 ≤ _), (by decide : 0 + 0 ≤ _)⟩)
              dsimp only [Pt.U, Pt.locs, Pt.cells, Pt.slots] at X28 l28 y28 z28 st28 hQ28
              subst l28 y28 z28
              obtain ⟨rfl, N28q, e28⟩ := hQ28
              have N28 := Fr.app N25 N28q
              refine Gs (fun _ tk => st28.trans tk) ?_
              show Goes _ _ _ _ _ (T28.setTop (mkF m 20 #[.val (.ref a), .val (.ref b), .val (.int (2 : Int32)), .val (.int p1), .val (.int t1), .val (.int (own_fit2 p1 t1))] [(.int (Int32.ofNat [p0, p1].length)), (.int (2 : Int32))]))
              rw [show (Int32.ofNat [p0, p1].length) = (2 : Int32) from rfl]
              show Goes _ _ _ _ _ (T28.setTop (mkF m 20 #[.val (.ref a), .val (.ref b), .val (.int (2 : Int32)), .val (.int p1), .val (.int t1), .val (.int (own_fit2 p1 t1))] [(.int (2 : Int32)), (.int (2 : Int32))]))
              refine Gs (fun _ tk => XS.icmpYes X28.here hx rfl (pc0 := 20) (pc' := 90) rfl (hb hby d27_20) rfl (flt (by decide : ¬ ((2 : Int32) < (2 : Int32)))).2.1 (by decide) (by decide) tk) ?_
              refine Gs (fun _ tk => XS.iconst X28.here hx rfl (hb hby d27_90) tk) ?_
              refine Goes.ret X28 (some (.int (1 : Int32))) (fun h => by rw [hret] at h; cases h) hlk (by decide) (by decide) ?_ (fun fs hr => ?_)
              · exact ⟨(by rw [own_sw, if_neg hc79_22, own_sw, if_neg hc79_27, own_sw]), N28, e28⟩
              · exact own_retN X28 hx (t := .boolean) hret (by simp) rfl (hb hby d27_91) hr
          intro J75_26
          by_cases hc39_29 : p1 = (48 : Int32)
          · refine Gs (fun _ tk => XS.icmpNo X25.here hx rfl (hb hby d27_39) rfl (teq hc39_29).2 tk) ?_
            refine Gs (fun _ tk => XS.iload X25.here hx rfl (hb hby d27_42) rfl tk) ?_
            refine Gs (fun _ tk => XS.bipush X25.here hx rfl (hb hby d27_44) tk) ?_
            by_cases hc46_30 : t1 < (48 : Int32)
            · refine Gs (fun _ tk => XS.icmpYes X25.here hx rfl (pc0 := 46) (pc' := 60) rfl (hb hby d27_46) rfl (tlt hc46_30).1 (by decide) (by decide) tk) ?_
              refine Gs (fun _ tk => XS.iconst X25.here hx rfl (hb hby d27_60) tk) ?_
              refine Gs (fun _ tk => XS.goto X25.here hx rfl (pc0 := 61) (pc' := 75) rfl (hb hby d27_61) (by decide) (by decide) tk) ?_
              show Goes _ _ _ _ _ (T25.setTop (mkF m 75 #[.val (.ref a), .val (.ref b), .val (.int (1 : Int32)), .val (.int p1), .val (.int t1), .val (.int (own_fit2 p0 t0))] [(.int (0 : Int32))]))
              rw [show (own_fit2 p1 t1) = (0 : Int32) from by rw [own_fit2, if_pos hc39_29, if_pos hc46_30]] at J75_26
              exact J75_26
            · refine Gs (fun _ tk => XS.icmpNo X25.here hx rfl (hb hby d27_46) rfl (flt hc46_30).1 tk) ?_
              refine Gs (fun _ tk => XS.iload X25.here hx rfl (hb hby d27_49) rfl tk) ?_
              refine Gs (fun _ tk => XS.bipush X25.here hx rfl (hb hby d27_51) tk) ?_
              show Goes _ _ _ _ _ (T25.setTop (mkF m 53 #[.val (.ref a), .val (.ref b), .val (.int (1 : Int32)), .val (.int p1), .val (.int t1), .val (.int (own_fit2 p0 t0))] [(.int (57 : Int32)), (.int t1)]))
              by_cases hc53_31 : (57 : Int32) < t1
              · refine Gs (fun _ tk => XS.icmpYes X25.here hx rfl (pc0 := 53) (pc' := 60) rfl (hb hby d27_53) rfl (tlt hc53_31).2.2.1 (by decide) (by decide) tk) ?_
                refine Gs (fun _ tk => XS.iconst X25.here hx rfl (hb hby d27_60) tk) ?_
                refine Gs (fun _ tk => XS.goto X25.here hx rfl (pc0 := 61) (pc' := 75) rfl (hb hby d27_61) (by decide) (by decide) tk) ?_
                rw [show (own_fit2 p1 t1) = (0 : Int32) from by rw [own_fit2, if_pos hc39_29, if_neg hc46_30, if_pos hc53_31]] at J75_26
                exact J75_26
              · refine Gs (fun _ tk => XS.icmpNo X25.here hx rfl (hb hby d27_53) rfl (flt hc53_31).2.2.1 tk) ?_
                refine Gs (fun _ tk => XS.iconst X25.here hx rfl (hb hby d27_56) tk) ?_
                refine Gs (fun _ tk => XS.goto X25.here hx rfl (pc0 := 57) (pc' := 75) rfl (hb hby d27_57) (by decide) (by decide) tk) ?_
                rw [show (own_fit2 p1 t1) = (1 : Int32) from by rw [own_fit2, if_pos hc39_29, if_neg hc46_30, if_neg hc53_31]] at J75_26
                exact J75_26
          · refine Gs (fun _ tk => XS.icmpYes X25.here hx rfl (pc0 := 39) (pc' := 64) rfl (hb hby d27_39) rfl (feq hc39_29).2 (by decide) (by decide) tk) ?_
            refine Gs (fun _ tk => XS.iload X25.here hx rfl (hb hby d27_64) rfl tk) ?_
            refine Gs (fun _ tk => XS.iloadN X25.here hx rfl (hb hby d27_66) rfl tk) ?_
            by_cases hc67_32 : t1 = p1
            · refine Gs (fun _ tk => XS.icmpNo X25.here hx rfl (hb hby d27_67) rfl (teq hc67_32).2 tk) ?_
              refine Gs (fun _ tk => XS.iconst X25.here hx rfl (hb hby d27_70) tk) ?_
              refine Gs (fun _ tk => XS.goto X25.here hx rfl (pc0 := 71) (pc' := 75) rfl (hb hby d27_71) (by decide) (by decide) tk) ?_
              show Goes _ _ _ _ _ (T25.setTop (mkF m 75 #[.val (.ref a), .val (.ref b), .val (.int (1 : Int32)), .val (.int p1), .val (.int t1), .val (.int (own_fit2 p0 t0))] [(.int (1 : Int32))]))
              rw [show (own_fit2 p1 t1) = (1 : Int32) from by rw [own_fit2, if_neg hc39_29, if_pos hc67_32]] at J75_26
              exact J75_26
            · refine Gs (fun _ tk => XS.icmpYes X25.here hx rfl (pc0 := 67) (pc' := 74) rfl (hb hby d27_67) rfl (feq hc67_32).2 (by decide) (by decide) tk) ?_
              refine Gs (fun _ tk => XS.iconst X25.here hx rfl (hb hby d27_74) tk) ?_
              rw [show (own_fit2 p1 t1) = (0 : Int32) from by rw [own_fit2, if_neg hc39_29, if_neg hc67_32]] at J75_26
              exact J75_26
      intro J75_21
      by_cases hc39_33 : p0 = (48 : Int32)
      · refine Gs (fun _ tk => XS.icmpNo X20.here hx rfl (hb hby d27_39) rfl (teq hc39_33).2 tk) ?_
        refine Gs (fun _ tk => XS.iload X20.here hx rfl (hb hby d27_42) rfl tk) ?_
        refine Gs (fun _ tk => XS.bipush X20.here hx rfl (hb hby d27_44) tk) ?_
        by_cases hc46_34 : t0 < (48 : Int32)
        · refine Gs (fun _ tk => XS.icmpYes X20.here hx rfl (pc0 := 46) (pc' := 60) rfl (hb hby d27_46) rfl (tlt hc46_34).1 (by decide) (by decide) tk) ?_
          refine Gs (fun _ tk => XS.iconst X20.here hx rfl (hb hby d27_60) tk) ?_
          refine Gs (fun _ tk => XS.goto X20.here hx rfl (pc0 := 61) (pc' := 75) rfl (hb hby d27_61) (by decide) (by decide) tk) ?_
          show Goes _ _ _ _ _ (T20.setTop (mkF m 75 #[.val (.ref a), .val (.ref b), .val (.int (0 : Int32)), .val (.int p0), .val (.int t0), .unset] [(.int (0 : Int32))]))
          rw [show (own_fit2 p0 t0) = (0 : Int32) from by rw [own_fit2, if_pos hc39_33, if_pos hc46_34]] at J75_21
          exact J75_21
        · refine Gs (fun _ tk => XS.icmpNo X20.here hx rfl (hb hby d27_46) rfl (flt hc46_34).1 tk) ?_
          refine Gs (fun _ tk => XS.iload X20.here hx rfl (hb hby d27_49) rfl tk) ?_
          refine Gs (fun _ tk => XS.bipush X20.here hx rfl (hb hby d27_51) tk) ?_
          show Goes _ _ _ _ _ (T20.setTop (mkF m 53 #[.val (.ref a), .val (.ref b), .val (.int (0 : Int32)), .val (.int p0), .val (.int t0), .unset] [(.int (57 : Int32)), (.int t0)]))
          by_cases hc53_35 : (57 : Int32) < t0
          · refine Gs (fun _ tk => XS.icmpYes X20.here hx rfl (pc0 := 53) (pc' := 60) rfl (hb hby d27_53) rfl (tlt hc53_35).2.2.1 (by decide) (by decide) tk) ?_
            refine Gs (fun _ tk => XS.iconst X20.here hx rfl (hb hby d27_60) tk) ?_
            refine Gs (fun _ tk => XS.goto X20.here hx rfl (pc0 := 61) (pc' := 75) rfl (hb hby d27_61) (by decide) (by decide) tk) ?_
            rw [show (own_fit2 p0 t0) = (0 : Int32) from by rw [own_fit2, if_pos hc39_33, if_neg hc46_34, if_pos hc53_35]] at J75_21
            exact J75_21
          · refine Gs (fun _ tk => XS.icmpNo X20.here hx rfl (hb hby d27_53) rfl (flt hc53_35).2.2.1 tk) ?_
            refine Gs (fun _ tk => XS.iconst X20.here hx rfl (hb hby d27_56) tk) ?_
            refine Gs (fun _ tk => XS.goto X20.here hx rfl (pc0 := 57) (pc' := 75) rfl (hb hby d27_57) (by decide) (by decide) tk) ?_
            rw [show (own_fit2 p0 t0) = (1 : Int32) from by rw [own_fit2, if_pos hc39_33, if_neg hc46_34, if_neg hc53_35]] at J75_21
            exact J75_21
      · refine Gs (fun _ tk => XS.icmpYes X20.here hx rfl (pc0 := 39) (pc' := 64) rfl (hb hby d27_39) rfl (feq hc39_33).2 (by decide) (by decide) tk) ?_
        refine Gs (fun _ tk => XS.iload X20.here hx rfl (hb hby d27_64) rfl tk) ?_
        refine Gs (fun _ tk => XS.iloadN X20.here hx rfl (hb hby d27_66) rfl tk) ?_
        by_cases hc67_36 : t0 = p0
        · refine Gs (fun _ tk => XS.icmpNo X20.here hx rfl (hb hby d27_67) rfl (teq hc67_36).2 tk) ?_
          refine Gs (fun _ tk => XS.iconst X20.here hx rfl (hb hby d27_70) tk) ?_
          refine Gs (fun _ tk => XS.goto X20.here hx rfl (pc0 := 71) (pc' := 75) rfl (hb hby d27_71) (by decide) (by decide) tk) ?_
          show Goes _ _ _ _ _ (T20.setTop (mkF m 75 #[.val (.ref a), .val (.ref b), .val (.int (0 : Int32)), .val (.int p0), .val (.int t0), .unset] [(.int (1 : Int32))]))
          rw [show (own_fit2 p0 t0) = (1 : Int32) from by rw [own_fit2, if_neg hc39_33, if_pos hc67_36]] at J75_21
          exact J75_21
        · refine Gs (fun _ tk => XS.icmpYes X20.here hx rfl (pc0 := 67) (pc' := 74) rfl (hb hby d27_67) rfl (feq hc67_36).2 (by decide) (by decide) tk) ?_
          refine Gs (fun _ tk => XS.iconst X20.here hx rfl (hb hby d27_74) tk) ?_
          rw [show (own_fit2 p0 t0) = (0 : Int32) from by rw [own_fit2, if_neg hc39_33, if_neg hc67_36]] at J75_21
          exact J75_21
  · show Goes _ _ _ _ _ (s₁.setTop (mkF m 0 #[.val (.ref a), .val (.ref b), .unset, .unset, .unset, .unset] []))
    refine Gs (fun _ tk => XS.aloadN X0.here hx rfl (hb hby d27_0) rfl rfl tk) ?_
    obtain ⟨cq37, kq37, q37a, q37b, q37c⟩ := isOf hZ e0 T_a.exa
    obtain ⟨_, _, ⟨T37, L37, k37, n37⟩, -, X37, ⟨Lc37, hQ37, l37, y37, z37⟩, st37⟩ := X0.virtualBack hx (y := mN2) (z := mN2) hown (mvT hZ (gw hw 31 rfl)) (mvT hZ (gw hw 32 rfl)) (notFace_of_selects (args := #[]) (mvT hZ (gw hw 34 rfl))) (mvT hZ (gw hw 34 rfl)) (mvT hZ (gw hw 33 rfl)) (by decide) (backOf (W := 0) (rs_len l Z a0 hw [] a xs cz h0 n0 Z0 T_a S_COMPACT_STRINGS (by first | assumption | decide)) hZ (gw hw 35 rfl) (gw hw 7 rfl) (by decide) (by decide)) q37a q37c (g := (mkF m 1 #[.val (.ref a), .val (.ref b), .unset, .unset, .unset, .unset] [(.ref a)])) rfl (by rw [hml]; rfl) (Steps.refl _) (argsL := []) (rest := []) (lenOf own_pd19 rfl) rfl (w0 (Nat.le_of_eq rfl)) (hb hby d27_1) (fun _ _ => ⟨rfl, e0, (by decide : 0 + 0 ≤ _), (by decide : 0 + 0 ≤ _)⟩)
    dsimp only [Pt.U, Pt.locs, Pt.cells, Pt.slots] at X37 l37 y37 z37 st37 hQ37
    subst l37 y37 z37
    obtain ⟨rfl, N37q, e37⟩ := hQ37
    have N37 := Fr.app N0 N37q
    refine Gs (fun _ tk => st37.trans tk) ?_
    show Goes _ _ _ _ _ (T37.setTop (mkF m 4 #[.val (.ref a), .val (.ref b), .unset, .unset, .unset, .unset] [(.int (Int32.ofNat xs.length))]))
    refine Gs (fun _ tk => XS.aloadN X37.here hx rfl (hb hby d27_4) rfl rfl tk) ?_
    obtain ⟨cq38, kq38, q38a, q38b, q38c⟩ := isOf hZ e37 T_b.exa
    obtain ⟨_, _, ⟨T38, L38, k38, n38⟩, -, X38, ⟨Lc38, hQ38, l38, y38, z38⟩, st38⟩ := X37.virtualBack hx (y := mN2) (z := mN2) hown (mvT hZ (gw hw 31 rfl)) (mvT hZ (gw hw 32 rfl)) (notFace_of_selects (args := #[]) (mvT hZ (gw hw 34 rfl))) (mvT hZ (gw hw 34 rfl)) (mvT hZ (gw hw 33 rfl)) (by decide) (backOf (W := 1) (rs_len l Z a0 hw [] b [p0, p1, p2] cz h0 n0 Z0 T_b S_COMPACT_STRINGS (by first | assumption | decide)) hZ (gw hw 35 rfl) (gw hw 7 rfl) (by decide) (by decide)) q38a q38c (g := (mkF m 5 #[.val (.ref a), .val (.ref b), .unset, .unset, .unset, .unset] [(.ref b), (.int (Int32.ofNat xs.length))])) rfl (by rw [hml]; rfl) (Steps.refl _) (argsL := []) (rest := [(.int (Int32.ofNat xs.length))]) (lenOf own_pd19 rfl) rfl (w0 (Nat.le_of_eq rfl)) (hb hby d27_5) (fun _ _ => ⟨rfl, e37, (by decide : 0 + 0 ≤ _), (by decide : 0 + 0 ≤ _)⟩)
    dsimp only [Pt.U, Pt.locs, Pt.cells, Pt.slots] at X38 l38 y38 z38 st38 hQ38
    subst l38 y38 z38
    obtain ⟨rfl, N38q, e38⟩ := hQ38
    have N38 := Fr.app N37 N38q
    refine Gs (fun _ tk => st38.trans tk) ?_
    show Goes _ _ _ _ _ (T38.setTop (mkF m 8 #[.val (.ref a), .val (.ref b), .unset, .unset, .unset, .unset] [(.int (Int32.ofNat [p0, p1, p2].length)), (.int (Int32.ofNat xs.length))]))
    rw [show (Int32.ofNat [p0, p1, p2].length) = (3 : Int32) from rfl]
    show Goes _ _ _ _ _ (T38.setTop (mkF m 8 #[.val (.ref a), .val (.ref b), .unset, .unset, .unset, .unset] [(.int (3 : Int32)), (.int (Int32.ofNat xs.length))]))
    by_cases hcmp : (Int32.ofNat xs.length) < (3 : Int32)
    · refine Gs (fun _ tk => XS.icmpNo X38.here hx rfl (hb hby d27_8) rfl (tlt hcmp).2.1 tk) ?_
      have hshort := (own_len_lt (n := 3) (by decide) T_a.len).mp hcmp
      refine Gs (fun _ tk => XS.iconst X38.here hx rfl (hb hby d27_11) tk) ?_
      refine Goes.ret X38 (some (.int (0 : Int32))) (fun h => by rw [hret] at h; cases h) hlk (by decide) (by decide) ?_ (fun fs hr => ?_)
      · exact ⟨(by rw [own_swShort _ _ hshort]), N38, e38⟩
      · exact own_retN X38 hx (t := .boolean) hret (by simp) rfl (hb hby d27_12) hr
    · refine Gs (fun _ tk => XS.icmpYes X38.here hx rfl (pc0 := 8) (pc' := 13) rfl (hb hby d27_8) rfl (flt hcmp).2.1 (by decide) (by decide) tk) ?_
      have hlong := fun q => hcmp ((own_len_lt (n := 3) (by decide) T_a.len).mpr q)
      obtain ⟨t0, t1, t2, ts, rfl⟩ : ∃ t0 t1 t2 ts, xs = t0 :: t1 :: t2 :: ts := by
        match xs, hlong with
        | [], h => exact absurd (by simp) h
        | [_], h => exact absurd (by simp) h
        | [_, _], h => exact absurd (by simp) h
        | t0 :: t1 :: t2 :: ts, _ => exact ⟨t0, t1, t2, ts, rfl⟩
      show Goes _ _ _ _ _ (T38.setTop (mkF m 13 #[.val (.ref a), .val (.ref b), .unset, .unset, .unset, .unset] []))
      refine Gs (fun _ tk => XS.iconst X38.here hx rfl (hb hby d27_13) tk) ?_
      refine Gs (fun _ tk => XS.istoreN X38.here hx rfl (hb hby d27_14) rfl (l' := #[.val (.ref a), .val (.ref b), .val (.int (0 : Int32)), .unset, .unset, .unset]) rfl tk) ?_
      refine Gs (fun _ tk => XS.iloadN X38.here hx rfl (hb hby d27_15) rfl tk) ?_
      refine Gs (fun _ tk => XS.aloadN X38.here hx rfl (hb hby d27_16) rfl rfl tk) ?_
      obtain ⟨cq39, kq39, q39a, q39b, q39c⟩ := isOf hZ e38 T_b.exa
      obtain ⟨_, _, ⟨T39, L39, k39, n39⟩, -, X39, ⟨Lc39, hQ39, l39, y39, z39⟩, st39⟩ := X38.virtualBack hx (y := mN2) (z := mN2) hown (mvT hZ (gw hw 31 rfl)) (mvT hZ (gw hw 32 rfl)) (notFace_of_selects (args := #[]) (mvT hZ (gw hw 34 rfl))) (mvT hZ (gw hw 34 rfl)) (mvT hZ (gw hw 33 rfl)) (by decide) (backOf (W := 1) (rs_len l Z a0 hw [] b [p0, p1, p2] cz h0 n0 Z0 T_b S_COMPACT_STRINGS (by first | assumption | decide)) hZ (gw hw 35 rfl) (gw hw 7 rfl) (by decide) (by decide)) q39a q39c (g := (mkF m 17 #[.val (.ref a), .val (.ref b), .val (.int (0 : Int32)), .unset, .unset, .unset] [(.ref b), (.int (0 : Int32))])) rfl (by rw [hml]; rfl) (Steps.refl _) (argsL := []) (rest := [(.int (0 : Int32))]) (lenOf own_pd19 rfl) rfl (w0 (Nat.le_of_eq rfl)) (hb hby d27_17) (fun _ _ => ⟨rfl, e38, (by decide : 0 + 0 ≤ _), (by decide : 0 + 0 ≤ _)⟩)
      dsimp only [Pt.U, Pt.locs, Pt.cells, Pt.slots] at X39 l39 y39 z39 st39 hQ39
      subst l39 y39 z39
      obtain ⟨rfl, N39q, e39⟩ := hQ39
      have N39 := Fr.app N38 N39q
      refine Gs (fun _ tk => st39.trans tk) ?_
      show Goes _ _ _ _ _ (T39.setTop (mkF m 20 #[.val (.ref a), .val (.ref b), .val (.int (0 : Int32)), .unset, .unset, .unset] [(.int (Int32.ofNat [p0, p1, p2].length)), (.int (0 : Int32))]))
      rw [show (Int32.ofNat [p0, p1, p2].length) = (3 : Int32) from rfl]
      show Goes _ _ _ _ _ (T39.setTop (mkF m 20 #[.val (.ref a), .val (.ref b), .val (.int (0 : Int32)), .unset, .unset, .unset] [(.int (3 : Int32)), (.int (0 : Int32))]))
      refine Gs (fun _ tk => XS.icmpNo X39.here hx rfl (hb hby d27_20) rfl (tlt (by decide : ((0 : Int32) < (3 : Int32)))).2.1 tk) ?_
      refine Gs (fun _ tk => XS.aloadN X39.here hx rfl (hb hby d27_23) rfl rfl tk) ?_
      refine Gs (fun _ tk => XS.iloadN X39.here hx rfl (hb hby d27_24) rfl tk) ?_
      obtain ⟨cq40, kq40, q40a, q40b, q40c⟩ := isOf hZ e39 T_b.exa
      obtain ⟨_, _, ⟨T40, L40, k40, n40⟩, -, X40, ⟨Lc40, hQ40, l40, y40, z40⟩, st40⟩ := X39.virtualBack hx (y := mN10) (z := mN10) hown (mvT hZ (gw hw 94 rfl)) (mvT hZ (gw hw 95 rfl)) (notFace_of_selects (args := #[]) (mvT hZ (gw hw 97 rfl))) (mvT hZ (gw hw 97 rfl)) (mvT hZ (gw hw 96 rfl)) (by decide) (backOf (W := 0) (rs_chr l Z a0 hw [] b [p0, p1, p2] (0 : Int32) p0 cz fo h0 n0 Z0 T_b S_COMPACT_STRINGS (by first | assumption | decide) (by first | assumption | decide) (own_il 0 _ (by decide) (by simp) T_b.len) rfl S_SIOOBE_FORMATTER (by first | assumption | decide) S__assertionsDisabled S_HI_BYTE_SHIFT S_LO_BYTE_SHIFT) hZ (gw hw 98 rfl) (gw hw 7 rfl) (by decide) (by decide)) q40a q40c (g := (mkF m 25 #[.val (.ref a), .val (.ref b), .val (.int (0 : Int32)), .unset, .unset, .unset] [(.int (0 : Int32)), (.ref b)])) rfl (by rw [hml]; rfl) (Steps.refl _) (argsL := [(.int (0 : Int32))]) (rest := []) (lenOf own_pd20 rfl) rfl (w0 (Nat.le_of_eq rfl)) (hb hby d27_25) (fun _ _ => ⟨rfl, e39, (by decide : 0 + 0 ≤ _), (by decide : 0 + 0 ≤ _)⟩)
      dsimp only [Pt.U, Pt.locs, Pt.cells, Pt.slots] at X40 l40 y40 z40 st40 hQ40
      subst l40 y40 z40
      obtain ⟨rfl, N40q, e40⟩ := hQ40
      have N40 := Fr.app N39 N40q
      refine Gs (fun _ tk => st40.trans tk) ?_
      show Goes _ _ _ _ _ (T40.setTop (mkF m 28 #[.val (.ref a), .val (.ref b), .val (.int (0 : Int32)), .unset, .unset, .unset] [(.int p0)]))
      refine Gs (fun _ tk => XS.istoreN X40.here hx rfl (hb hby d27_28) rfl (l' := #[.val (.ref a), .val (.ref b), .val (.int (0 : Int32)), .val (.int p0), .unset, .unset]) rfl tk) ?_
      refine Gs (fun _ tk => XS.aloadN X40.here hx rfl (hb hby d27_29) rfl rfl tk) ?_
      refine Gs (fun _ tk => XS.iloadN X40.here hx rfl (hb hby d27_30) rfl tk) ?_
      obtain ⟨cq41, kq41, q41a, q41b, q41c⟩ := isOf hZ e40 T_a.exa
      obtain ⟨_, _, ⟨T41, L41, k41, n41⟩, -, X41, ⟨Lc41, hQ41, l41, y41, z41⟩, st41⟩ := X40.virtualBack hx (y := mN10) (z := mN10) hown (mvT hZ (gw hw 94 rfl)) (mvT hZ (gw hw 95 rfl)) (notFace_of_selects (args := #[]) (mvT hZ (gw hw 97 rfl))) (mvT hZ (gw hw 97 rfl)) (mvT hZ (gw hw 96 rfl)) (by decide) (backOf (W := 0) (rs_chr l Z a0 hw [] a (t0 :: t1 :: t2 :: ts) (0 : Int32) t0 cz fo h0 n0 Z0 T_a S_COMPACT_STRINGS (by first | assumption | decide) (by first | assumption | decide) (own_il 0 _ (by decide) (by simp) T_a.len) rfl S_SIOOBE_FORMATTER (by first | assumption | decide) S__assertionsDisabled S_HI_BYTE_SHIFT S_LO_BYTE_SHIFT) hZ (gw hw 98 rfl) (gw hw 7 rfl) (by decide) (by decide)) q41a q41c (g := (mkF m 31 #[.val (.ref a), .val (.ref b), .val (.int (0 : Int32)), .val (.int p0), .unset, .unset] [(.int (0 : Int32)), (.ref a)])) rfl (by rw [hml]; rfl) (Steps.refl _) (argsL := [(.int (0 : Int32))]) (rest := []) (lenOf own_pd20 rfl) rfl (w0 (Nat.le_of_eq rfl)) (hb hby d27_31) (fun _ _ => ⟨rfl, e40, (by decide : 0 + 0 ≤ _), (by decide : 0 + 0 ≤ _)⟩)
      dsimp only [Pt.U, Pt.locs, Pt.cells, Pt.slots] at X41 l41 y41 z41 st41 hQ41
      subst l41 y41 z41
      obtain ⟨rfl, N41q, e41⟩ := hQ41
      have N41 := Fr.app N40 N41q
      refine Gs (fun _ tk => st41.trans tk) ?_
      show Goes _ _ _ _ _ (T41.setTop (mkF m 34 #[.val (.ref a), .val (.ref b), .val (.int (0 : Int32)), .val (.int p0), .unset, .unset] [(.int t0)]))
      refine Gs (fun _ tk => XS.istore X41.here hx rfl (hb hby d27_34) rfl (l' := #[.val (.ref a), .val (.ref b), .val (.int (0 : Int32)), .val (.int p0), .val (.int t0), .unset]) rfl tk) ?_
      refine Gs (fun _ tk => XS.iloadN X41.here hx rfl (hb hby d27_36) rfl tk) ?_
      refine Gs (fun _ tk => XS.bipush X41.here hx rfl (hb hby d27_37) tk) ?_
      show Goes _ _ _ _ _ (T41.setTop (mkF m 39 #[.val (.ref a), .val (.ref b), .val (.int (0 : Int32)), .val (.int p0), .val (.int t0), .unset] [(.int (48 : Int32)), (.int p0)]))
      refine own_join (B := T41.setTop (mkF m 75 #[.val (.ref a), .val (.ref b), .val (.int (0 : Int32)), .val (.int p0), .val (.int t0), .unset] [(.int (own_fit2 p0 t0))])) ?_ ?_
      · show Goes _ _ _ _ _ (T41.setTop (mkF m 75 #[.val (.ref a), .val (.ref b), .val (.int (0 : Int32)), .val (.int p0), .val (.int t0), .unset] [(.int (own_fit2 p0 t0))]))
        refine Gs (fun _ tk => XS.istore X41.here hx rfl (hb hby d27_75) rfl (l' := #[.val (.ref a), .val (.ref b), .val (.int (0 : Int32)), .val (.int p0), .val (.int t0), .val (.int (own_fit2 p0 t0))]) rfl tk) ?_
        refine Gs (fun _ tk => XS.iload X41.here hx rfl (hb hby d27_77) rfl tk) ?_
        by_cases hc79_43 : (own_fit2 p0 t0) = (0 : Int32)
        · refine Gs (fun _ tk => XS.ifNo X41.here hx rfl (hb hby d27_79) rfl ((if0 _ _).trans (teq hc79_43).2) tk) ?_
          refine Gs (fun _ tk => XS.iconst X41.here hx rfl (hb hby d27_82) tk) ?_
          refine Goes.ret X41 (some (.int (0 : Int32))) (fun h => by rw [hret] at h; cases h) hlk (by decide) (by decide) ?_ (fun fs hr => ?_)
          · exact ⟨(by rw [own_sw, if_pos hc79_43]), N41, e41⟩
          · exact own_retN X41 hx (t := .boolean) hret (by simp) rfl (hb hby d27_83) hr
        · refine Gs (fun _ tk => XS.ifYes X41.here hx rfl (pc0 := 79) (pc' := 84) rfl (hb hby d27_79) rfl ((if0 _ _).trans (feq hc79_43).2) (by decide) (by decide) tk) ?_
          show Goes _ _ _ _ _ (T41.setTop (mkF m 84 #[.val (.ref a), .val (.ref b), .val (.int (0 : Int32)), .val (.int p0), .val (.int t0), .val (.int (own_fit2 p0 t0))] []))
          refine Gs (fun _ tk => XS.iinc X41.here hx rfl (hb hby d27_84) rfl (l' := #[.val (.ref a), .val (.ref b), .val (.int ((0 : Int32) + (1 : Int32))), .val (.int p0), .val (.int t0), .val (.int (own_fit2 p0 t0))]) rfl tk) ?_
          rw [show ((0 : Int32) + (1 : Int32)) = (1 : Int32) from by decide]
          show Goes _ _ _ _ _ (T41.setTop (mkF m 87 #[.val (.ref a), .val (.ref b), .val (.int (1 : Int32)), .val (.int p0), .val (.int t0), .val (.int (own_fit2 p0 t0))] []))
          refine Gs (fun _ tk => XS.goto X41.here hx rfl (pc0 := 87) (pc' := 15) rfl (hb hby d27_87) (by decide) (by decide) tk) ?_
          refine Gs (fun _ tk => XS.iloadN X41.here hx rfl (hb hby d27_15) rfl tk) ?_
          refine Gs (fun _ tk => XS.aloadN X41.here hx rfl (hb hby d27_16) rfl rfl tk) ?_
          obtain ⟨cq44, kq44, q44a, q44b, q44c⟩ := isOf hZ e41 T_b.exa
          obtain ⟨_, _, ⟨T44, L44, k44, n44⟩, -, X44, ⟨Lc44, hQ44, l44, y44, z44⟩, st44⟩ := X41.virtualBack hx (y := mN2) (z := mN2) hown (mvT hZ (gw hw 31 rfl)) (mvT hZ (gw hw 32 rfl)) (notFace_of_selects (args := #[]) (mvT hZ (gw hw 34 rfl))) (mvT hZ (gw hw 34 rfl)) (mvT hZ (gw hw 33 rfl)) (by decide) (backOf (W := 1) (rs_len l Z a0 hw [] b [p0, p1, p2] cz h0 n0 Z0 T_b S_COMPACT_STRINGS (by first | assumption | decide)) hZ (gw hw 35 rfl) (gw hw 7 rfl) (by decide) (by decide)) q44a q44c (g := (mkF m 17 #[.val (.ref a), .val (.ref b), .val (.int (1 : Int32)), .val (.int p0), .val (.int t0), .val (.int (own_fit2 p0 t0))] [(.ref b), (.int (1 : Int32))])) rfl (by rw [hml]; rfl) (Steps.refl _) (argsL := []) (rest := [(.int (1 : Int32))]) (lenOf own_pd19 rfl) rfl (w0 (Nat.le_of_eq rfl)) (hb hby d27_17) (fun _ _ => ⟨rfl, e41, (by decide : 0 + 0 ≤ _), (by decide : 0 + 0 ≤ _)⟩)
          dsimp only [Pt.U, Pt.locs, Pt.cells, Pt.slots] at X44 l44 y44 z44 st44 hQ44
          subst l44 y44 z44
          obtain ⟨rfl, N44q, e44⟩ := hQ44
          have N44 := Fr.app N41 N44q
          refine Gs (fun _ tk => st44.trans tk) ?_
          show Goes _ _ _ _ _ (T44.setTop (mkF m 20 #[.val (.ref a), .val (.ref b), .val (.int (1 : Int32)), .val (.int p0), .val (.int t0), .val (.int (own_fit2 p0 t0))] [(.int (Int32.ofNat [p0, p1, p2].length)), (.int (1 : Int32))]))
          rw [show (Int32.ofNat [p0, p1, p2].length) = (3 : Int32) from rfl]
          show Goes _ _ _ _ _ (T44.setTop (mkF m 20 #[.val (.ref a), .val (.ref b), .val (.int (1 : Int32)), .val (.int p0), .val (.int t0), .val (.int (own_fit2 p0 t0))] [(.int (3 : Int32)), (.int (1 : Int32))]))
          refine Gs (fun _ tk => XS.icmpNo X44.here hx rfl (hb hby d27_20) rfl (tlt (by decide : ((1 : Int32) < (3 : Int32)))).2.1 tk) ?_
          refine Gs (fun _ tk => XS.aloadN X44.here hx rfl (hb hby d27_23) rfl rfl tk) ?_
          refine Gs (fun _ tk => XS.iloadN X44.here hx rfl (hb hby d27_24) rfl tk) ?_
          obtain ⟨cq45, kq45, q45a, q45b, q45c⟩ := isOf hZ e44 T_b.exa
          obtain ⟨_, _, ⟨T45, L45, k45, n45⟩, -, X45, ⟨Lc45, hQ45, l45, y45, z45⟩, st45⟩ := X44.virtualBack hx (y := mN10) (z := mN10) hown (mvT hZ (gw hw 94 rfl)) (mvT hZ (gw hw 95 rfl)) (notFace_of_selects (args := #[]) (mvT hZ (gw hw 97 rfl))) (mvT hZ (gw hw 97 rfl)) (mvT hZ (gw hw 96 rfl)) (by decide) (backOf (W := 0) (rs_chr l Z a0 hw [] b [p0, p1, p2] (1 : Int32) p1 cz fo h0 n0 Z0 T_b S_COMPACT_STRINGS (by first | assumption | decide) (by first | assumption | decide) (own_il 1 _ (by decide) (by simp) T_b.len) rfl S_SIOOBE_FORMATTER (by first | assumption | decide) S__assertionsDisabled S_HI_BYTE_SHIFT S_LO_BYTE_SHIFT) hZ (gw hw 98 rfl) (gw hw 7 rfl) (by decide) (by decide)) q45a q45c (g := (mkF m 25 #[.val (.ref a), .val (.ref b), .val (.int (1 : Int32)), .val (.int p0), .val (.int t0), .val (.int (own_fit2 p0 t0))] [(.int (1 : Int32)), (.ref b)])) rfl (by rw [hml]; rfl) (Steps.refl _) (argsL := [(.int (1 : Int32))]) (rest := []) (lenOf own_pd20 rfl) rfl (w0 (Nat.le_of_eq rfl)) (hb hby d27_25) (fun _ _ => ⟨rfl, e44, (by decide : 0 + 0 ≤ _), (by decide : 0 + 0 ≤ _)⟩)
          dsimp only [Pt.U, Pt.locs, Pt.cells, Pt.slots] at X45 l45 y45 z45 st45 hQ45
          subst l45 y45 z45
          obtain ⟨rfl, N45q, e45⟩ := hQ45
          have N45 := Fr.app N44 N45q
          refine Gs (fun _ tk => st45.trans tk) ?_
          show Goes _ _ _ _ _ (T45.setTop (mkF m 28 #[.val (.ref a), .val (.ref b), .val (.int (1 : Int32)), .val (.int p0), .val (.int t0), .val (.int (own_fit2 p0 t0))] [(.int p1)]))
          refine Gs (fun _ tk => XS.istoreN X45.here hx rfl (hb hby d27_28) rfl (l' := #[.val (.ref a), .val (.ref b), .val (.int (1 : Int32)), .val (.int p1), .val (.int t0), .val (.int (own_fit2 p0 t0))]) rfl tk) ?_
          refine Gs (fun _ tk => XS.aloadN X45.here hx rfl (hb hby d27_29) rfl rfl tk) ?_
          refine Gs (fun _ tk => XS.iloadN X45.here hx rfl (hb hby d27_30) rfl tk) ?_
          obtain ⟨cq46, kq46, q46a, q46b, q46c⟩ := isOf hZ e45 T_a.exa
          obtain ⟨_, _, ⟨T46, L46, k46, n46⟩, -, X46, ⟨Lc46, hQ46, l46, y46, z46⟩, st46⟩ := X45.virtualBack hx (y := mN10) (z := mN10) hown (mvT hZ (gw hw 94 rfl)) (mvT hZ (gw hw 95 rfl)) (notFace_of_selects (args := #[]) (mvT hZ (gw hw 97 rfl))) (mvT hZ (gw hw 97 rfl)) (mvT hZ (gw hw 96 rfl)) (by decide) (backOf (W := 0) (rs_chr l Z a0 hw [] a (t0 :: t1 :: t2 :: ts) (1 : Int32) t1 cz fo h0 n0 Z0 T_a S_COMPACT_STRINGS (by first | assumption | decide) (by first | assumption | decide) (own_il 1 _ (by decide) (by simp) T_a.len) rfl S_SIOOBE_FORMATTER (by first | assumption | decide) S__assertionsDisabled S_HI_BYTE_SHIFT S_LO_BYTE_SHIFT) hZ (gw hw 98 rfl) (gw hw 7 rfl) (by decide) (by decide)) q46a q46c (g := (mkF m 31 #[.val (.ref a), .val (.ref b), .val (.int (1 : Int32)), .val (.int p1), .val (.int t0), .val (.int (own_fit2 p0 t0))] [(.int (1 : Int32)), (.ref a)])) rfl (by rw [hml]; rfl) (Steps.refl _) (argsL := [(.int (1 : Int32))]) (rest := []) (lenOf own_pd20 rfl) rfl (w0 (Nat.le_of_eq rfl)) (hb hby d27_31) (fun _ _ => ⟨rfl, e45, (by decide : 0 + 0 ≤ _), (by decide : 0 + 0 ≤ _)⟩)
          dsimp only [Pt.U, Pt.locs, Pt.cells, Pt.slots] at X46 l46 y46 z46 st46 hQ46
          subst l46 y46 z46
          obtain ⟨rfl, N46q, e46⟩ := hQ46
          have N46 := Fr.app N45 N46q
          refine Gs (fun _ tk => st46.trans tk) ?_
          show Goes _ _ _ _ _ (T46.setTop (mkF m 34 #[.val (.ref a), .val (.ref b), .val (.int (1 : Int32)), .val (.int p1), .val (.int t0), .val (.int (own_fit2 p0 t0))] [(.int t1)]))
          refine Gs (fun _ tk => XS.istore X46.here hx rfl (hb hby d27_34) rfl (l' := #[.val (.ref a), .val (.ref b), .val (.int (1 : Int32)), .val (.int p1), .val (.int t1), .val (.int (own_fit2 p0 t0))]) rfl tk) ?_
          refine Gs (fun _ tk => XS.iloadN X46.here hx rfl (hb hby d27_36) rfl tk) ?_
          refine Gs (fun _ tk => XS.bipush X46.here hx rfl (hb hby d27_37) tk) ?_
          show Goes _ _ _ _ _ (T46.setTop (mkF m 39 #[.val (.ref a), .val (.ref b), .val (.int (1 : Int32)), .val (.int p1), .val (.int t1), .val (.int (own_fit2 p0 t0))] [(.int (48 : Int32)), (.int p1)]))
          refine own_join (B := T46.setTop (mkF m 75 #[.val (.ref a), .val (.ref b), .val (.int (1 : Int32)), .val (.int p1), .val (.int t1), .val (.int (own_fit2 p0 t0))] [(.int (own_fit2 p1 t1))])) ?_ ?_
          · show Goes _ _ _ _ _ (T46.setTop (mkF m 75 #[.val (.ref a), .val (.ref b), .val (.int (1 : Int32)), .val (.int p1), .val (.int t1), .val (.int (own_fit2 p0 t0))] [(.int (own_fit2 p1 t1))]))
            refine Gs (fun _ tk => XS.istore X46.here hx rfl (hb hby d27_75) rfl (l' := #[.val (.ref a), .val (.ref b), .val (.int (1 : Int32)), .val (.int p1), .val (.int t1), .val (.int (own_fit2 p1 t1))]) rfl tk) ?_
            refine Gs (fun _ tk => XS.iload X46.here hx rfl (hb hby d27_77) rfl tk) ?_
            by_cases hc79_48 : (own_fit2 p1 t1) = (0 : Int32)
            · refine Gs (fun _ tk => XS.ifNo X46.here hx rfl (hb hby d27_79) rfl ((if0 _ _).trans (teq hc79_48).2) tk) ?_
              refine Gs (fun _ tk => XS.iconst X46.here hx rfl (hb hby d27_82) tk) ?_
              refine Goes.ret X46 (some (.int (0 : Int32))) (fun h => by rw [hret] at h; cases h) hlk (by decide) (by decide) ?_ (fun fs hr => ?_)
              · exact ⟨(by rw [own_sw, if_neg hc79_43, own_sw, if_pos hc79_48]), N46, e46⟩
              · exact own_retN X46 hx (t := .boolean) hret (by simp) rfl (hb hby d27_83) hr
            · refine Gs (fun _ tk => XS.ifYes X46.here hx rfl (pc0 := 79) (pc' := 84) rfl (hb hby d27_79) rfl ((if0 _ _).trans (feq hc79_48).2) (by decide) (by decide) tk) ?_
              show Goes _ _ _ _ _ (T46.setTop (mkF m 84 #[.val (.ref a), .val (.ref b), .val (.int (1 : Int32)), .val (.int p1), .val (.int t1), .val (.int (own_fit2 p1 t1))] []))
              refine Gs (fun _ tk => XS.iinc X46.here hx rfl (hb hby d27_84) rfl (l' := #[.val (.ref a), .val (.ref b), .val (.int ((1 : Int32) + (1 : Int32))), .val (.int p1), .val (.int t1), .val (.int (own_fit2 p1 t1))]) rfl tk) ?_
              rw [show ((1 : Int32) + (1 : Int32)) = (2 : Int32) from by decide]
              show Goes _ _ _ _ _ (T46.setTop (mkF m 87 #[.val (.ref a), .val (.ref b), .val (.int (2 : Int32)), .val (.int p1), .val (.int t1), .val (.int (own_fit2 p1 t1))] []))
              refine Gs (fun _ tk => XS.goto X46.here hx rfl (pc0 := 87) (pc' := 15) rfl (hb hby d27_87) (by decide) (by decide) tk) ?_
              refine Gs (fun _ tk => XS.iloadN X46.here hx rfl (hb hby d27_15) rfl tk) ?_
              refine Gs (fun _ tk => XS.aloadN X46.here hx rfl (hb hby d27_16) rfl rfl tk) ?_
              obtain ⟨cq49, kq49, q49a, q49b, q49c⟩ := isOf hZ e46 T_b.exa
              obtain ⟨_, _, ⟨T49, L49, k49, n49⟩, -, X49, ⟨Lc49, hQ49, l49, y49, z49⟩, st49⟩ := X46.virtualBack hx (y := mN2) (z := mN2) hown (mvT hZ (gw hw 31 rfl)) (mvT hZ (gw hw 32 rfl)) (notFace_of_selects (args := #[]) (mvT hZ (gw hw 34 rfl))) (mvT hZ (gw hw 34 rfl)) (mvT hZ (gw hw 33 rfl)) (by decide) (backOf (W := 1) (rs_len l Z a0 hw [] b [p0, p1, p2] cz h0 n0 Z0 T_b S_COMPACT_STRINGS (by first | assumption | decide)) hZ (gw hw 35 rfl) (gw hw 7 rfl) (by decide) (by decide)) q49a q49c (g := (mkF m 17 #[.val (.ref a), .val (.ref b), .val (.int (2 : Int32)), .val (.int p1), .val (.int t1), .val (.int (own_fit2 p1 t1))] [(.ref b), (.int (2 : Int32))])) rfl (by rw [hml]; rfl) (Steps.refl _) (argsL := []) (rest := [(.int (2 : Int32))]) (lenOf own_pd19 rfl) rfl (w0 (Nat.le_of_eq rfl)) (hb hby d27_17) (fun _ _ => ⟨rfl, e46, (by decide : 0 + 0 ≤ _), (by decide : 0 + 0 ≤ _)⟩)
              dsimp only [Pt.U, Pt.locs, Pt.cells, Pt.slots] at X49 l49 y49 z49 st49 hQ49
              subst l49 y49 z49
              obtain ⟨rfl, N49q, e49⟩ := hQ49
              have N49 := Fr.app N46 N49q
              refine Gs (fun _ tk => st49.trans tk) ?_
              show Goes _ _ _ _ _ (T49.setTop (mkF m 20 #[.val (.ref a), .val (.ref b), .val (.int (2 : Int32)), .val (.int p1), .val (.int t1), .val (.int (own_fit2 p1 t1))] [(.int (Int32.ofNat [p0, p1, p2].length)), (.int (2 : Int32))]))
              rw [show (Int32.ofNat [p0, p1, p2].length) = (3 : Int32) from rfl]
              show Goes _ _ _ _ _ (T49.setTop (mkF m 20 #[.val (.ref a), .val (.ref b), .val (.int (2 : Int32)), .val (.int p1), .val (.int t1), .val (.int (own_fit2 p1 t1))] [(.int (3 : Int32)), (.int (2 : Int32))]))
              refine Gs (fun _ tk => XS.icmpNo X49.here hx rfl (hb hby d27_20) rfl (tlt (by decide : ((2 : Int32) < (3 : Int32)))).2.1 tk) ?_
              refine Gs (fun _ tk => XS.aloadN X49.here hx rfl (hb hby d27_23) rfl rfl tk) ?_
              refine Gs (fun _ tk => XS.iloadN X49.here hx rfl (hb hby d27_24) rfl tk) ?_
              obtain ⟨cq50, kq50, q50a, q50b, q50c⟩ := isOf hZ e49 T_b.exa
              obtain ⟨_, _, ⟨T50, L50, k50, n50⟩, -, X50, ⟨Lc50, hQ50, l50, y50, z50⟩, st50⟩ := X49.virtualBack hx (y := mN10) (z := mN10) hown (mvT hZ (gw hw 94 rfl)) (mvT hZ (gw hw 95 rfl)) (notFace_of_selects (args := #[]) (mvT hZ (gw hw 97 rfl))) (mvT hZ (gw hw 97 rfl)) (mvT hZ (gw hw 96 rfl)) (by decide) (backOf (W := 0) (rs_chr l Z a0 hw [] b [p0, p1, p2] (2 : Int32) p2 cz fo h0 n0 Z0 T_b S_COMPACT_STRINGS (by first | assumption | decide) (by first | assumption | decide) (own_il 2 _ (by decide) (by simp) T_b.len) rfl S_SIOOBE_FORMATTER (by first | assumption | decide) S__assertionsDisabled S_HI_BYTE_SHIFT S_LO_BYTE_SHIFT) hZ (gw hw 98 rfl) (gw hw 7 rfl) (by decide) (by decide)) q50a q50c (g := (mkF m 25 #[.val (.ref a), .val (.ref b), .val (.int (2 : Int32)), .val (.int p1), .val (.int t1), .val (.int (own_fit2 p1 t1))] [(.int (2 : Int32)), (.ref b)])) rfl (by rw [hml]; rfl) (Steps.refl _) (argsL := [(.int (2 : Int32))]) (rest := []) (lenOf own_pd20 rfl) rfl (w0 (Nat.le_of_eq rfl)) (hb hby d27_25) (fun _ _ => ⟨rfl, e49, (by decide : 0 + 0 ≤ _), (by decide : 0 + 0 ≤ _)⟩)
              dsimp only [Pt.U, Pt.locs, Pt.cells, Pt.slots] at X50 l50 y50 z50 st50 hQ50
              subst l50 y50 z50
              obtain ⟨rfl, N50q, e50⟩ := hQ50
              have N50 := Fr.app N49 N50q
              refine Gs (fun _ tk => st50.trans tk) ?_
              show Goes _ _ _ _ _ (T50.setTop (mkF m 28 #[.val (.ref a), .val (.ref b), .val (.int (2 : Int32)), .val (.int p1), .val (.int t1), .val (.int (own_fit2 p1 t1))] [(.int p2)]))
              refine Gs (fun _ tk => XS.istoreN X50.here hx rfl (hb hby d27_28) rfl (l' := #[.val (.ref a), .val (.ref b), .val (.int (2 : Int32)), .val (.int p2), .val (.int t1), .val (.int (own_fit2 p1 t1))]) rfl tk) ?_
              refine Gs (fun _ tk => XS.aloadN X50.here hx rfl (hb hby d27_29) rfl rfl tk) ?_
              refine Gs (fun _ tk => XS.iloadN X50.here hx rfl (hb hby d27_30) rfl tk) ?_
              obtain ⟨cq51, kq51, q51a, q51b, q51c⟩ := isOf hZ e50 T_a.exa
              obtain ⟨_, _, ⟨T51, L51, k51, n51⟩, -, X51, ⟨Lc51, hQ51, l51, y51, z51⟩, st51⟩ := X50.virtualBack hx (y := mN10) (z := mN10) hown (mvT hZ (gw hw 94 rfl)) (mvT hZ (gw hw 95 rfl)) (notFace_of_selects (args := #[]) (mvT hZ (gw hw 97 rfl))) (mvT hZ (gw hw 97 rfl)) (mvT hZ (gw hw 96 rfl)) (by decide) (backOf (W := 0) (rs_chr l Z a0 hw [] a (t0 :: t1 :: t2 :: ts) (2 : Int32) t2 cz fo h0 n0 Z0 T_a S_COMPACT_STRINGS (by first | assumption | decide) (by first | assumption | decide) (own_il 2 _ (by decide) (by simp) T_a.len) rfl S_SIOOBE_FORMATTER (by first | assumption | decide) S__assertionsDisabled S_HI_BYTE_SHIFT S_LO_BYTE_SHIFT) hZ (gw hw 98 rfl) (gw hw 7 rfl) (by decide) (by decide)) q51a q51c (g := (mkF m 31 #[.val (.ref a), .val (.ref b), .val (.int (2 : Int32)), .val (.int p2), .val (.int t1), .val (.int (own_fit2 p1 t1))] [(.int (2 : Int32)), (.ref a)])) rfl (by rw [hml]; rfl) (Steps.refl _) (argsL := [(.int (2 : Int32))]) (rest := []) (lenOf own_pd20 rfl) rfl (w0 (Nat.le_of_eq rfl)) (hb hby d27_31) (fun _ _ => ⟨rfl, e50, (by decide : 0 + 0 ≤ _), (by decide : 0 + 0 ≤ _)⟩)
              dsimp only [Pt.U, Pt.locs, Pt.cells, Pt.slots] at X51 l51 y51 z51 st51 hQ51
              subst l51 y51 z51
              obtain ⟨rfl, N51q, e51⟩ := hQ51
              have N51 := Fr.app N50 N51q
              refine Gs (fun _ tk => st51.trans tk) ?_
              show Goes _ _ _ _ _ (T51.setTop (mkF m 34 #[.val (.ref a), .val (.ref b), .val (.int (2 : Int32)), .val (.int p2), .val (.int t1), .val (.int (own_fit2 p1 t1))] [(.int t2)]))
              refine Gs (fun _ tk => XS.istore X51.here hx rfl (hb hby d27_34) rfl (l' := #[.val (.ref a), .val (.ref b), .val (.int (2 : Int32)), .val (.int p2), .val (.int t2), .val (.int (own_fit2 p1 t1))]) rfl tk) ?_
              refine Gs (fun _ tk => XS.iloadN X51.here hx rfl (hb hby d27_36) rfl tk) ?_
              refine Gs (fun _ tk => XS.bipush X51.here hx rfl (hb hby d27_37) tk) ?_
              show Goes _ _ _ _ _ (T51.setTop (mkF m 39 #[.val (.ref a), .val (.ref b), .val (.int (2 : Int32)), .val (.int p2), .val (.int t2), .val (.int (own_fit2 p1 t1))] [(.int (48 : Int32)), (.int p2)]))
              refine own_join (B := T51.setTop (mkF m 75 #[.val (.ref a), .val (.ref b), .val (.int (2 : Int32)), .val (.int p2), .val (.int t2), .val (.int (own_fit2 p1 t1))] [(.int (own_fit2 p2 t2))])) ?_ ?_
              · show Goes _ _ _ _ _ (T51.setTop (mkF m 75 #[.val (.ref a), .val (.ref b), .val (.int (2 : Int32)), .val (.int p2), .val (.int t2), .val (.int (own_fit2 p1 t1))] [(.int (own_fit2 p2 t2))]))
                refine Gs (fun _ tk => XS.istore X51.here hx rfl (hb hby d27_75) rfl (l' := #[.val (.ref a), .val (.ref b), .val (.int (2 : Int32)), .val (.int p2), .val (.int t2), .val (.int (own_fit2 p2 t2))]) rfl tk) ?_
                refine Gs (fun _ tk => XS.iload X51.here hx rfl (hb hby d27_77) rfl tk) ?_
                by_cases hc79_53 : (own_fit2 p2 t2) = (0 : Int32)
                · refine Gs (fun _ tk => XS.ifNo X51.here hx rfl (hb hby d27_79) rfl ((if0 _ _).trans (teq hc79_53).2) tk) ?_
                  refine Gs (fun _ tk => XS.iconst X51.here hx rfl (hb hby d27_82) tk) ?_
                  refine Goes.ret X51 (some (.int (0 : Int32))) (fun h => by rw [hret] at h; cases h) hlk (by decide) (by decide) ?_ (fun fs hr => ?_)
                  · exact ⟨(by rw [own_sw, if_neg hc79_43, own_sw, if_neg hc79_48, own_sw, if_pos hc79_53]), N51, e51⟩
                  · exact own_retN X51 hx (t := .boolean) hret (by simp) rfl (hb hby d27_83) hr
                · refine Gs (fun _ tk => XS.ifYes X51.here hx rfl (pc0 := 79) (pc' := 84) rfl (hb hby d27_79) rfl ((if0 _ _).trans (feq hc79_53).2) (by decide) (by decide) tk) ?_
                  show Goes _ _ _ _ _ (T51.setTop (mkF m 84 #[.val (.ref a), .val (.ref b), .val (.int (2 : Int32)), .val (.int p2), .val (.int t2), .val (.int (own_fit2 p2 t2))] []))
                  refine Gs (fun _ tk => XS.iinc X51.here hx rfl (hb hby d27_84) rfl (l' := #[.val (.ref a), .val (.ref b), .val (.int ((2 : Int32) + (1 : Int32))), .val (.int p2), .val (.int t2), .val (.int (own_fit2 p2 t2))]) rfl tk) ?_
                  rw [show ((2 : Int32) + (1 : Int32)) = (3 : Int32) from by decide]
                  show Goes _ _ _ _ _ (T51.setTop (mkF m 87 #[.val (.ref a), .val (.ref b), .val (.int (3 : Int32)), .val (.int p2), .val (.int t2), .val (.int (own_fit2 p2 t2))] []))
                  refine Gs (fun _ tk => XS.goto X51.here hx rfl (pc0 := 87) (pc' := 15) rfl (hb hby d27_87) (by decide) (by decide) tk) ?_
                  refine Gs (fun _ tk => XS.iloadN X51.here hx rfl (hb hby d27_15) rfl tk) ?_
                  refine Gs (fun _ tk => XS.aloadN X51.here hx rfl (hb hby d27_16) rfl rfl tk) ?_
                  obtain ⟨cq54, kq54, q54a, q54b, q54c⟩ := isOf hZ e51 T_b.exa
                  obtain ⟨_, _, ⟨T54, L54, k54, n54⟩, -, X54, ⟨Lc54, hQ54, l54, y54, z54⟩, st54⟩ := X51.virtualBack hx (y := mN2) (z := mN2) hown (mvT hZ (gw hw 31 rfl)) (mvT hZ (gw hw 32 rfl)) (notFace_of_selects (args := #[]) (mvT hZ (gw hw 34 rfl))) (mvT hZ (gw hw 34 rfl)) (mvT hZ (gw hw 33 rfl)) (by decide) (backOf (W := 1) (rs_len l Z a0 hw [] b [p0, p1, p2] cz h0 n0 Z0 T_b S_COMPACT_STRINGS (by first | assumption | decide)) hZ (gw hw 35 rfl) (gw hw 7 rfl) (by decide) (by decide)) q54a q54c (g := (mkF m 17 #[.val (.ref a), .val (.ref b), .val (.int (3 : Int32)), .val (.int p2), .val (.int t2), .val (.int (own_fit2 p2 t2))] [(.ref b), (.int (3 : Int32))])) rfl (by rw [hml]; rfl) (Steps.refl _) (argsL := []) (rest := [(.int (3 : Int32))]) (lenOf own_pd19 rfl) rfl (w0 (Nat.le_of_eq rfl)) (hb hby d27_17) (fun _ _ => ⟨rfl, e51, (by decide : 0 + 0 ≤ _), (by decide : 0 + 0 ≤ _)⟩)
                  dsimp only [Pt.U, Pt.locs, Pt.cells, Pt.slots] at X54 l54 y54 z54 st54 hQ54
                  subst l54 y54 z54
                  obtain ⟨rfl, N54q, e54⟩ := hQ54
                  have N54 := Fr.app N51 N54q
                  refine Gs (fun _ tk => st54.trans tk) ?_
                  show Goes _ _ _ _ _ (T54.setTop (mkF m 20 #[.val (.ref a), .val (.ref b), .val (.int (3 : Int32)), .val (.int p2), .val (.int t2), .val (.int (own_fit2 p2 t2))] [(.int (Int32.ofNat [p0, p1, p2].length)), (.int (3 : Int32))]))
                  rw [show (Int32.ofNat [p0, p1, p2].length) = (3 : Int32) from rfl]
                  show Goes _ _ _ _ _ (T54.setTop (mkF m 20 #[.val (.ref a), .val (.ref b), .val (.int (3 : Int32)), .val (.int p2), .val (.int t2), .val (.int (own_fit2 p2 t2))] [(.int (3 : Int32)), (.int (3 : Int32))]))
                  refine Gs (fun _ tk => XS.icmpYes X54.here hx rfl (pc0 := 20) (pc' := 90) rfl (hb hby d27_20) rfl (flt (by decide : ¬ ((3 : Int32) < (3 : Int32)))).2.1 (by decide) (by decide) tk) ?_
                  refine Gs (fun _ tk => XS.iconst X54.here hx rfl (hb hby d27_90) tk) ?_
                  refine Goes.ret X54 (some (.int (1 : Int32))) (fun h => by rw [hret] at h; cases h) hlk (by decide) (by decide) ?_ (fun fs hr => ?_)
                  · exact ⟨(by rw [own_sw, if_neg hc79_43, own_sw, if_neg hc79_48, own_sw, if_neg hc79_53, own_sw]), N54, e54⟩
                  · exact own_retN X54 hx (t := .boolean) hret (by simp) rfl (hb hby d27_91) hr
              intro J75_52
              by_cases hc39_55 : p2 = (48 : Int32)
              · refine Gs (fun _ tk => XS.icmpNo X51.here hx rfl (hb hby d27_39) rfl (teq hc39_55).2 tk) ?_
                refine Gs (fun _ tk => XS.iload X51.here hx rfl (hb hby d27_42) rfl tk) ?_
                refine Gs (fun _ tk => XS.bipush X51.here hx rfl (hb hby d27_44) tk) ?_
                by_cases hc46_56 : t2 < (48 : Int32)
                · refine Gs (fun _ tk => XS.icmpYes X51.here hx rfl (pc0 := 46) (pc' := 60) rfl (hb hby d27_46) rfl (tlt hc46_56).1 (by decide) (by decide) tk) ?_
                  refine Gs (fun _ tk => XS.iconst X51.here hx rfl (hb hby d27_60) tk) ?_
                  refine Gs (fun _ tk => XS.goto X51.here hx rfl (pc0 := 61) (pc' := 75) rfl (hb hby d27_61) (by decide) (by decide) tk) ?_
                  show Goes _ _ _ _ _ (T51.setTop (mkF m 75 #[.val (.ref a), .val (.ref b), .val (.int (2 : Int32)), .val (.int p2), .val (.int t2), .val (.int (own_fit2 p1 t1))] [(.int (0 : Int32))]))
                  rw [show (own_fit2 p2 t2) = (0 : Int32) from by rw [own_fit2, if_pos hc39_55, if_pos hc46_56]] at J75_52
                  exact J75_52
                · refine Gs (fun _ tk => XS.icmpNo X51.here hx rfl (hb hby d27_46) rfl (flt hc46_56).1 tk) ?_
                  refine Gs (fun _ tk => XS.iload X51.here hx rfl (hb hby d27_49) rfl tk) ?_
                  refine Gs (fun _ tk => XS.bipush X51.here hx rfl (hb hby d27_51) tk) ?_
                  show Goes _ _ _ _ _ (T51.setTop (mkF m 53 #[.val (.ref a), .val (.ref b), .val (.int (2 : Int32)), .val (.int p2), .val (.int t2), .val (.int (own_fit2 p1 t1))] [(.int (57 : Int32)), (.int t2)]))
                  by_cases hc53_57 : (57 : Int32) < t2
                  · refine Gs (fun _ tk => XS.icmpYes X51.here hx rfl (pc0 := 53) (pc' := 60) rfl (hb hby d27_53) rfl (tlt hc53_57).2.2.1 (by decide) (by decide) tk) ?_
                    refine Gs (fun _ tk => XS.iconst X51.here hx rfl (hb hby d27_60) tk) ?_
                    refine Gs (fun _ tk => XS.goto X51.here hx rfl (pc0 := 61) (pc' := 75) rfl (hb hby d27_61) (by decide) (by decide) tk) ?_
                    rw [show (own_fit2 p2 t2) = (0 : Int32) from by rw [own_fit2, if_pos hc39_55, if_neg hc46_56, if_pos hc53_57]] at J75_52
                    exact J75_52
                  · refine Gs (fun _ tk => XS.icmpNo X51.here hx rfl (hb hby d27_53) rfl (flt hc53_57).2.2.1 tk) ?_
                    refine Gs (fun _ tk => XS.iconst X51.here hx rfl (hb hby d27_56) tk) ?_
                    refine Gs (fun _ tk => XS.goto X51.here hx rfl (pc0 := 57) (pc' := 75) rfl (hb hby d27_57) (by decide) (by decide) tk) ?_
                    rw [show (own_fit2 p2 t2) = (1 : Int32) from by rw [own_fit2, if_pos hc39_55, if_neg hc46_56, if_neg hc53_57]] at J75_52
                    exact J75_52
              · refine Gs (fun _ tk => XS.icmpYes X51.here hx rfl (pc0 := 39) (pc' := 64) rfl (hb hby d27_39) rfl (feq hc39_55).2 (by decide) (by decide) tk) ?_
                refine Gs (fun _ tk => XS.iload X51.here hx rfl (hb hby d27_64) rfl tk) ?_
                refine Gs (fun _ tk => XS.iloadN X51.here hx rfl (hb hby d27_66) rfl tk) ?_
                by_cases hc67_58 : t2 = p2
                · refine Gs (fun _ tk => XS.icmpNo X51.here hx rfl (hb hby d27_67) rfl (teq hc67_58).2 tk) ?_
                  refine Gs (fun _ tk => XS.iconst X51.here hx rfl (hb hby d27_70) tk) ?_
                  refine Gs (fun _ tk => XS.goto X51.here hx rfl (pc0 := 71) (pc' := 75) rfl (hb hby d27_71) (by decide) (by decide) tk) ?_
                  show Goes _ _ _ _ _ (T51.setTop (mkF m 75 #[.val (.ref a), .val (.ref b), .val (.int (2 : Int32)), .val (.int p2), .val (.int t2), .val (.int (own_fit2 p1 t1))] [(.int (1 : Int32))]))
                  rw [show (own_fit2 p2 t2) = (1 : Int32) from by rw [own_fit2, if_neg hc39_55, if_pos hc67_58]] at J75_52
                  exact J75_52
                · refine Gs (fun _ tk => XS.icmpYes X51.here hx rfl (pc0 := 67) (pc' := 74) rfl (hb hby d27_67) rfl (feq hc67_58).2 (by decide) (by decide) tk) ?_
                  refine Gs (fun _ tk => XS.iconst X51.here hx rfl (hb hby d27_74) tk) ?_
                  rw [show (own_fit2 p2 t2) = (0 : Int32) from by rw [own_fit2, if_neg hc39_55, if_neg hc67_58]] at J75_52
                  exact J75_52
          intro J75_47
          by_cases hc39_59 : p1 = (48 : Int32)
          · refine Gs (fun _ tk => XS.icmpNo X46.here hx rfl (hb hby d27_39) rfl (teq hc39_59).2 tk) ?_
            refine Gs (fun _ tk => XS.iload X46.here hx rfl (hb hby d27_42) rfl tk) ?_
            refine Gs (fun _ tk => XS.bipush X46.here hx rfl (hb hby d27_44) tk) ?_
            by_cases hc46_60 : t1 < (48 : Int32)
            · refine Gs (fun _ tk => XS.icmpYes X46.here hx rfl (pc0 := 46) (pc' := 60) rfl (hb hby d27_46) rfl (tlt hc46_60).1 (by decide) (by decide) tk) ?_
              refine Gs (fun _ tk => XS.iconst X46.here hx rfl (hb hby d27_60) tk) ?_
              refine Gs (fun _ tk => XS.goto X46.here hx rfl (pc0 := 61) (pc' := 75) rfl (hb hby d27_61) (by decide) (by decide) tk) ?_
              show Goes _ _ _ _ _ (T46.setTop (mkF m 75 #[.val (.ref a), .val (.ref b), .val (.int (1 : Int32)), .val (.int p1), .val (.int t1), .val (.int (own_fit2 p0 t0))] [(.int (0 : Int32))]))
              rw [show (own_fit2 p1 t1) = (0 : Int32) from by rw [own_fit2, if_pos hc39_59, if_pos hc46_60]] at J75_47
              exact J75_47
            · refine Gs (fun _ tk => XS.icmpNo X46.here hx rfl (hb hby d27_46) rfl (flt hc46_60).1 tk) ?_
              refine Gs (fun _ tk => XS.iload X46.here hx rfl (hb hby d27_49) rfl tk) ?_
              refine Gs (fun _ tk => XS.bipush X46.here hx rfl (hb hby d27_51) tk) ?_
              show Goes _ _ _ _ _ (T46.setTop (mkF m 53 #[.val (.ref a), .val (.ref b), .val (.int (1 : Int32)), .val (.int p1), .val (.int t1), .val (.int (own_fit2 p0 t0))] [(.int (57 : Int32)), (.int t1)]))
              by_cases hc53_61 : (57 : Int32) < t1
              · refine Gs (fun _ tk => XS.icmpYes X46.here hx rfl (pc0 := 53) (pc' := 60) rfl (hb hby d27_53) rfl (tlt hc53_61).2.2.1 (by decide) (by decide) tk) ?_
                refine Gs (fun _ tk => XS.iconst X46.here hx rfl (hb hby d27_60) tk) ?_
                refine Gs (fun _ tk => XS.goto X46.here hx rfl (pc0 := 61) (pc' := 75) rfl (hb hby d27_61) (by decide) (by decide) tk) ?_
                rw [show (own_fit2 p1 t1) = (0 : Int32) from by rw [own_fit2, if_pos hc39_59, if_neg hc46_60, if_pos hc53_61]] at J75_47
                exact J75_47
              · refine Gs (fun _ tk => XS.icmpNo X46.here hx rfl (hb hby d27_53) rfl (flt hc53_61).2.2.1 tk) ?_
                refine Gs (fun _ tk => XS.iconst X46.here hx rfl (hb hby d27_56) tk) ?_
                refine Gs (fun _ tk => XS.goto X46.here hx rfl (pc0 := 57) (pc' := 75) rfl (hb hby d27_57) (by decide) (by decide) tk) ?_
                rw [show (own_fit2 p1 t1) = (1 : Int32) from by rw [own_fit2, if_pos hc39_59, if_neg hc46_60, if_neg hc53_61]] at J75_47
                exact J75_47
          · refine Gs (fun _ tk => XS.icmpYes X46.here hx rfl (pc0 := 39) (pc' := 64) rfl (hb hby d27_39) rfl (feq hc39_59).2 (by decide) (by decide) tk) ?_
            refine Gs (fun _ tk => XS.iload X46.here hx rfl (hb hby d27_64) rfl tk) ?_
            refine Gs (fun _ tk => XS.iloadN X46.here hx rfl (hb hby d27_66) rfl tk) ?_
            by_cases hc67_62 : t1 = p1
            · refine Gs (fun _ tk => XS.icmpNo X46.here hx rfl (hb hby d27_67) rfl (teq hc67_62).2 tk) ?_
              refine Gs (fun _ tk => XS.iconst X46.here hx rfl (hb hby d27_70) tk) ?_
              refine Gs (fun _ tk => XS.goto X46.here hx rfl (pc0 := 71) (pc' := 75) rfl (hb hby d27_71) (by decide) (by decide) tk) ?_
              show Goes _ _ _ _ _ (T46.setTop (mkF m 75 #[.val (.ref a), .val (.ref b), .val (.int (1 : Int32)), .val (.int p1), .val (.int t1), .val (.int (own_fit2 p0 t0))] [(.int (1 : Int32))]))
              rw [show (own_fit2 p1 t1) = (1 : Int32) from by rw [own_fit2, if_neg hc39_59, if_pos hc67_62]] at J75_47
              exact J75_47
            · refine Gs (fun _ tk => XS.icmpYes X46.here hx rfl (pc0 := 67) (pc' := 74) rfl (hb hby d27_67) rfl (feq hc67_62).2 (by decide) (by decide) tk) ?_
              refine Gs (fun _ tk => XS.iconst X46.here hx rfl (hb hby d27_74) tk) ?_
              rw [show (own_fit2 p1 t1) = (0 : Int32) from by rw [own_fit2, if_neg hc39_59, if_neg hc67_62]] at J75_47
              exact J75_47
      intro J75_42
      by_cases hc39_63 : p0 = (48 : Int32)
      · refine Gs (fun _ tk => XS.icmpNo X41.here hx rfl (hb hby d27_39) rfl (teq hc39_63).2 tk) ?_
        refine Gs (fun _ tk => XS.iload X41.here hx rfl (hb hby d27_42) rfl tk) ?_
        refine Gs (fun _ tk => XS.bipush X41.here hx rfl (hb hby d27_44) tk) ?_
        by_cases hc46_64 : t0 < (48 : Int32)
        · refine Gs (fun _ tk => XS.icmpYes X41.here hx rfl (pc0 := 46) (pc' := 60) rfl (hb hby d27_46) rfl (tlt hc46_64).1 (by decide) (by decide) tk) ?_
          refine Gs (fun _ tk => XS.iconst X41.here hx rfl (hb hby d27_60) tk) ?_
          refine Gs (fun _ tk => XS.goto X41.here hx rfl (pc0 := 61) (pc' := 75) rfl (hb hby d27_61) (by decide) (by decide) tk) ?_
          show Goes _ _ _ _ _ (T41.setTop (mkF m 75 #[.val (.ref a), .val (.ref b), .val (.int (0 : Int32)), .val (.int p0), .val (.int t0), .unset] [(.int (0 : Int32))]))
          rw [show (own_fit2 p0 t0) = (0 : Int32) from by rw [own_fit2, if_pos hc39_63, if_pos hc46_64]] at J75_42
          exact J75_42
        · refine Gs (fun _ tk => XS.icmpNo X41.here hx rfl (hb hby d27_46) rfl (flt hc46_64).1 tk) ?_
          refine Gs (fun _ tk => XS.iload X41.here hx rfl (hb hby d27_49) rfl tk) ?_
          refine Gs (fun _ tk => XS.bipush X41.here hx rfl (hb hby d27_51) tk) ?_
          show Goes _ _ _ _ _ (T41.setTop (mkF m 53 #[.val (.ref a), .val (.ref b), .val (.int (0 : Int32)), .val (.int p0), .val (.int t0), .unset] [(.int (57 : Int32)), (.int t0)]))
          by_cases hc53_65 : (57 : Int32) < t0
          · refine Gs (fun _ tk => XS.icmpYes X41.here hx rfl (pc0 := 53) (pc' := 60) rfl (hb hby d27_53) rfl (tlt hc53_65).2.2.1 (by decide) (by decide) tk) ?_
            refine Gs (fun _ tk => XS.iconst X41.here hx rfl (hb hby d27_60) tk) ?_
            refine Gs (fun _ tk => XS.goto X41.here hx rfl (pc0 := 61) (pc' := 75) rfl (hb hby d27_61) (by decide) (by decide) tk) ?_
            rw [show (own_fit2 p0 t0) = (0 : Int32) from by rw [own_fit2, if_pos hc39_63, if_neg hc46_64, if_pos hc53_65]] at J75_42
            exact J75_42
          · refine Gs (fun _ tk => XS.icmpNo X41.here hx rfl (hb hby d27_53) rfl (flt hc53_65).2.2.1 tk) ?_
            refine Gs (fun _ tk => XS.iconst X41.here hx rfl (hb hby d27_56) tk) ?_
            refine Gs (fun _ tk => XS.goto X41.here hx rfl (pc0 := 57) (pc' := 75) rfl (hb hby d27_57) (by decide) (by decide) tk) ?_
            rw [show (own_fit2 p0 t0) = (1 : Int32) from by rw [own_fit2, if_pos hc39_63, if_neg hc46_64, if_neg hc53_65]] at J75_42
            exact J75_42
      · refine Gs (fun _ tk => XS.icmpYes X41.here hx rfl (pc0 := 39) (pc' := 64) rfl (hb hby d27_39) rfl (feq hc39_63).2 (by decide) (by decide) tk) ?_
        refine Gs (fun _ tk => XS.iload X41.here hx rfl (hb hby d27_64) rfl tk) ?_
        refine Gs (fun _ tk => XS.iloadN X41.here hx rfl (hb hby d27_66) rfl tk) ?_
        by_cases hc67_66 : t0 = p0
        · refine Gs (fun _ tk => XS.icmpNo X41.here hx rfl (hb hby d27_67) rfl (teq hc67_66).2 tk) ?_
          refine Gs (fun _ tk => XS.iconst X41.here hx rfl (hb hby d27_70) tk) ?_
          refine Gs (fun _ tk => XS.goto X41.here hx rfl (pc0 := 71) (pc' := 75) rfl (hb hby d27_71) (by decide) (by decide) tk) ?_
          show Goes _ _ _ _ _ (T41.setTop (mkF m 75 #[.val (.ref a), .val (.ref b), .val (.int (0 : Int32)), .val (.int p0), .val (.int t0), .unset] [(.int (1 : Int32))]))
          rw [show (own_fit2 p0 t0) = (1 : Int32) from by rw [own_fit2, if_neg hc39_63, if_pos hc67_66]] at J75_42
          exact J75_42
        · refine Gs (fun _ tk => XS.icmpYes X41.here hx rfl (pc0 := 67) (pc' := 74) rfl (hb hby d27_67) rfl (feq hc67_66).2 (by decide) (by decide) tk) ?_
          refine Gs (fun _ tk => XS.iconst X41.here hx rfl (hb hby d27_74) tk) ?_
          rw [show (own_fit2 p0 t0) = (0 : Int32) from by rw [own_fit2, if_neg hc39_63, if_neg hc67_66]] at J75_42
          exact J75_42
  · simp at hps
theorem d28_0 : decode prog_18_method_2_code 0 = .ok (.aload_n 0, 1) := by decide +kernel
theorem d28_1 : decode prog_18_method_2_code 1 = .ok (.invokevirtual 7, 3) := by decide +kernel
theorem d28_4 : decode prog_18_method_2_code 4 = .ok (.aload_n 1, 1) := by decide +kernel
theorem d28_5 : decode prog_18_method_2_code 5 = .ok (.invokevirtual 7, 3) := by decide +kernel
theorem d28_8 : decode prog_18_method_2_code 8 = .ok (.if_icmp .ne 15, 3) := by decide +kernel
theorem d28_11 : decode prog_18_method_2_code 11 = .ok (.aload_n 0, 1) := by decide +kernel
theorem d28_12 : decode prog_18_method_2_code 12 = .ok (.aload_n 1, 1) := by decide +kernel
theorem d28_13 : decode prog_18_method_2_code 13 = .ok (.invokestatic 13, 3) := by decide +kernel
theorem own_pd21 : parseMethodDescriptor "(Ljava/lang/String;Ljava/lang/String;)Z" = some ⟨[(.object "java/lang/String"), (.object "java/lang/String")], some .boolean⟩ := by decide +kernel
theorem d28_16 : decode prog_18_method_2_code 16 = .ok (.ifCond .eq 7, 3) := by decide +kernel
theorem d28_23 : decode prog_18_method_2_code 23 = .ok (.iconst 0, 1) := by decide +kernel
theorem d28_24 : decode prog_18_method_2_code 24 = .ok (.ireturn, 1) := by decide +kernel
theorem d28_19 : decode prog_18_method_2_code 19 = .ok (.iconst 1, 1) := by decide +kernel
theorem d28_20 : decode prog_18_method_2_code 20 = .ok (.goto 4, 3) := by decide +kernel
theorem own_ef_rm_mt (m : MethodId) (x0 : Addr) (x1 : Addr) : entryFrame m #[(.ref x0), (.ref x1)] 2 = mkF m 0 #[.val (.ref x0), .val (.ref x1)] [] := by first | (simp [entryFrame, mkF, argsToLocals, Value.category]; done) | rfl
def Q_rm_mt (Z : State) (a : Addr) (b : Addr) (xs : List Int32) (ps : List Int32) (cz : Int32) (fo : Value) (h0 : Heap) (n0 : Nat) (v : Option Value) (h : Heap) (L : List Loc) : Prop := v = some (.int (own_mt ps xs)) ∧ Fr n0 L ∧ h = h0
set_option maxRecDepth 65536 in
set_option maxHeartbeats 40000000 in
theorem rm_mt (l : Launch) (Z : State) (a0 : Array Value) (hw : ∀ d ∈ tables_1, d.before a0 Z = true) (ws : List Jvm.Cond) (a : Addr) (b : Addr) (xs : List Int32) (ps : List Int32) (cz : Int32) (fo : Value) (h0 : Heap) (n0 : Nat) (Z0 : n0 ≤ h0.size) (T_a : StrOf Z h0 a xs) (T_b : StrOf Z h0 b ps) (hps : ps.length ≤ 3) (S_COMPACT_STRINGS : Sta Z h0 "java/lang/String" "COMPACT_STRINGS" "Z" (.int cz)) (hcz : ¬ (cz = (0 : Int32))) (S_SIOOBE_FORMATTER : Sta Z h0 "jdk/internal/util/Preconditions" "SIOOBE_FORMATTER" "Ljava/util/function/BiFunction;" fo) (r_fo : fo.isRef = true) (S__assertionsDisabled : Sta Z h0 "java/lang/StringUTF16" "$assertionsDisabled" "Z" (.int (1 : Int32))) (S_HI_BYTE_SHIFT : Sta Z h0 "java/lang/StringUTF16" "HI_BYTE_SHIFT" "I" (.int (0 : Int32))) (S_LO_BYTE_SHIFT : Sta Z h0 "java/lang/StringUTF16" "LO_BYTE_SHIFT" "I" (.int (8 : Int32))) :
    Met l Z mN28 prog_18_method_2_code 2 (some .boolean) ({ frames := 6, cells := 0, slots := 0, locals := 83 } : Room) ws #[(.ref a), (.ref b)] h0 (Q_rm_mt Z a b xs ps cz fo h0 n0) := by
  refine own_met (plainFor_of_name own_pn5) ?_
  intro p e s m below meth c s₁ hret hx hby hlk hml hown hnm X0 e0 hZ hh
  have N0 := Fr.nil n0
  refine Gs (fun _ tk => castTop (own_ef_rm_mt m a b) tk) ?_
  show Goes _ _ _ _ _ (s₁.setTop (mkF m 0 #[.val (.ref a), .val (.ref b)] []))
  refine Gs (fun _ tk => XS.aloadN X0.here hx rfl (hb hby d28_0) rfl rfl tk) ?_
  obtain ⟨cq1, kq1, q1a, q1b, q1c⟩ := isOf hZ e0 T_a.exa
  obtain ⟨_, _, ⟨T1, L1, k1, n1⟩, -, X1, ⟨Lc1, hQ1, l1, y1, z1⟩, st1⟩ := X0.virtualBack hx (y := mN2) (z := mN2) hown (mvT hZ (gw hw 31 rfl)) (mvT hZ (gw hw 32 rfl)) (notFace_of_selects (args := #[]) (mvT hZ (gw hw 34 rfl))) (mvT hZ (gw hw 34 rfl)) (mvT hZ (gw hw 33 rfl)) (by decide) (backOf (W := 0) (rs_len l Z a0 hw [] a xs cz h0 n0 Z0 T_a S_COMPACT_STRINGS (by first | assumption | decide)) hZ (gw hw 35 rfl) (gw hw 7 rfl) (by decide) (by decide)) q1a q1c (g := (mkF m 1 #[.val (.ref a), .val (.ref b)] [(.ref a)])) rfl (by rw [hml]; rfl) (Steps.refl _) (argsL := []) (rest := []) (lenOf own_pd19 rfl) rfl (w0 (Nat.le_of_eq rfl)) (hb hby d28_1) (fun _ _ => ⟨rfl, e0, (by decide : 0 + 0 ≤ _), (by decide : 0 + 0 ≤ _)⟩)
  dsimp only [Pt.U, Pt.locs, Pt.cells, Pt.slots] at X1 l1 y1 z1 st1 hQ1
  subst l1 y1 z1
  obtain ⟨rfl, N1q, e1⟩ := hQ1
  have N1 := Fr.app N0 N1q
  refine Gs (fun _ tk => st1.trans tk) ?_
  show Goes _ _ _ _ _ (T1.setTop (mkF m 4 #[.val (.ref a), .val (.ref b)] [(.int (Int32.ofNat xs.length))]))
  refine Gs (fun _ tk => XS.aloadN X1.here hx rfl (hb hby d28_4) rfl rfl tk) ?_
  obtain ⟨cq2, kq2, q2a, q2b, q2c⟩ := isOf hZ e1 T_b.exa
  obtain ⟨_, _, ⟨T2, L2, k2, n2⟩, -, X2, ⟨Lc2, hQ2, l2, y2, z2⟩, st2⟩ := X1.virtualBack hx (y := mN2) (z := mN2) hown (mvT hZ (gw hw 31 rfl)) (mvT hZ (gw hw 32 rfl)) (notFace_of_selects (args := #[]) (mvT hZ (gw hw 34 rfl))) (mvT hZ (gw hw 34 rfl)) (mvT hZ (gw hw 33 rfl)) (by decide) (backOf (W := 1) (rs_len l Z a0 hw [] b ps cz h0 n0 Z0 T_b S_COMPACT_STRINGS (by first | assumption | decide)) hZ (gw hw 35 rfl) (gw hw 7 rfl) (by decide) (by decide)) q2a q2c (g := (mkF m 5 #[.val (.ref a), .val (.ref b)] [(.ref b), (.int (Int32.ofNat xs.length))])) rfl (by rw [hml]; rfl) (Steps.refl _) (argsL := []) (rest := [(.int (Int32.ofNat xs.length))]) (lenOf own_pd19 rfl) rfl (w0 (Nat.le_of_eq rfl)) (hb hby d28_5) (fun _ _ => ⟨rfl, e1, (by decide : 0 + 0 ≤ _), (by decide : 0 + 0 ≤ _)⟩)
  dsimp only [Pt.U, Pt.locs, Pt.cells, Pt.slots] at X2 l2 y2 z2 st2 hQ2
  subst l2 y2 z2
  obtain ⟨rfl, N2q, e2⟩ := hQ2
  have N2 := Fr.app N1 N2q
  refine Gs (fun _ tk => st2.trans tk) ?_
  show Goes _ _ _ _ _ (T2.setTop (mkF m 8 #[.val (.ref a), .val (.ref b)] [(.int (Int32.ofNat ps.length)), (.int (Int32.ofNat xs.length))]))
  by_cases hc8_3 : (Int32.ofNat xs.length) = (Int32.ofNat ps.length)
  · refine Gs (fun _ tk => XS.icmpNo X2.here hx rfl (hb hby d28_8) rfl (teq hc8_3).2 tk) ?_
    refine Gs (fun _ tk => XS.aloadN X2.here hx rfl (hb hby d28_11) rfl rfl tk) ?_
    refine Gs (fun _ tk => XS.aloadN X2.here hx rfl (hb hby d28_12) rfl rfl tk) ?_
    obtain ⟨_, _, ⟨T4, L4, k4, n4⟩, -, X4, ⟨Lc4, hQ4, l4, y4, z4⟩, st4⟩ := Jvm.LawKit.callS X2 hx (y := mN27) hown (mvT hZ (gw hw 42 rfl)) (mvT hZ (gw hw 43 rfl)) (mvT hZ (gw hw 29 rfl)) (mvT hZ (gw hw 44 rfl)) (by decide) (backOf (W := 0) (rm_sw l Z a0 hw [] a b xs ps cz fo h0 n0 Z0 T_a T_b hps S_COMPACT_STRINGS (by first | assumption | decide) S_SIOOBE_FORMATTER (by first | assumption | decide) S__assertionsDisabled S_HI_BYTE_SHIFT S_LO_BYTE_SHIFT) hZ (gw hw 44 rfl) (gw hw 29 rfl) (by decide) (by decide)) (g := (mkF m 13 #[.val (.ref a), .val (.ref b)] [(.ref b), (.ref a)])) rfl (by rw [hml]; rfl) (argsL := [(.ref a), (.ref b)]) (rest := []) (lenOf own_pd21 rfl) rfl (w0 (Nat.le_of_eq rfl)) (hb hby d28_13) (fun _ _ => ⟨rfl, e2, (by decide : 0 + 0 ≤ _), (by decide : 0 + 0 ≤ _)⟩)
    dsimp only [Pt.U, Pt.locs, Pt.cells, Pt.slots] at X4 l4 y4 z4 st4 hQ4
    subst l4 y4 z4
    obtain ⟨rfl, N4q, e4⟩ := hQ4
    have N4 := Fr.app N2 N4q
    refine Gs st4 ?_
    show Goes _ _ _ _ _ (T4.setTop (mkF m 16 #[.val (.ref a), .val (.ref b)] [(.int (own_sw ps xs))]))
    by_cases hc16_5 : (own_sw ps xs) = (0 : Int32)
    · refine Gs (fun _ tk => XS.ifYes X4.here hx rfl (pc0 := 16) (pc' := 23) rfl (hb hby d28_16) rfl ((if0 _ _).trans (teq hc16_5).1) (by decide) (by decide) tk) ?_
      refine Gs (fun _ tk => XS.iconst X4.here hx rfl (hb hby d28_23) tk) ?_
      refine Goes.ret X4 (some (.int (0 : Int32))) (fun h => by rw [hret] at h; cases h) hlk (by decide) (by decide) ?_ (fun fs hr => ?_)
      · exact ⟨(by rw [own_mt, if_pos hc8_3, if_pos hc16_5]), N4, e4⟩
      · exact own_retN X4 hx (t := .boolean) hret (by simp) rfl (hb hby d28_24) hr
    · refine Gs (fun _ tk => XS.ifNo X4.here hx rfl (hb hby d28_16) rfl ((if0 _ _).trans (feq hc16_5).1) tk) ?_
      refine Gs (fun _ tk => XS.iconst X4.here hx rfl (hb hby d28_19) tk) ?_
      refine Gs (fun _ tk => XS.goto X4.here hx rfl (pc0 := 20) (pc' := 24) rfl (hb hby d28_20) (by decide) (by decide) tk) ?_
      refine Goes.ret X4 (some (.int (1 : Int32))) (fun h => by rw [hret] at h; cases h) hlk (by decide) (by decide) ?_ (fun fs hr => ?_)
      · exact ⟨(by rw [own_mt, if_pos hc8_3, if_neg hc16_5]), N4, e4⟩
      · exact own_retN X4 hx (t := .boolean) hret (by simp) rfl (hb hby d28_24) hr
  · refine Gs (fun _ tk => XS.icmpYes X2.here hx rfl (pc0 := 8) (pc' := 23) rfl (hb hby d28_8) rfl (feq hc8_3).2 (by decide) (by decide) tk) ?_
    refine Gs (fun _ tk => XS.iconst X2.here hx rfl (hb hby d28_23) tk) ?_
    refine Goes.ret X2 (some (.int (0 : Int32))) (fun h => by rw [hret] at h; cases h) hlk (by decide) (by decide) ?_ (fun fs hr => ?_)
    · exact ⟨(by rw [own_mt, if_neg hc8_3]), N2, e2⟩
    · exact own_retN X2 hx (t := .boolean) hret (by simp) rfl (hb hby d28_24) hr
theorem own_pd22 : parseMethodDescriptor "(ICCC)Ljava/lang/String;" = some ⟨[.int, .char, .char, .char], some (.object "java/lang/String")⟩ := by decide +kernel
theorem own_pd23 : parseMethodDescriptor "(CC)Z" = some ⟨[.char, .char], some .boolean⟩ := by decide +kernel
theorem own_ef_rm_law (m : MethodId) (x0 : Int64) (x1 : Int64) (x2 : Int32) : entryFrame m #[(.long x0), (.long x1), (.int x2)] maxLocals = mkF m 0 #[.val (.long x0), .second, .val (.long x1), .second, .val (.int x2), .unset, .unset, .unset, .unset, .unset, .unset, .unset, .unset, .unset, .unset, .unset] [] := by first | (simp [entryFrame, mkF, argsToLocals, Value.category, maxLocals]; done) | rfl
def Q_rm_law (Z : State) (x0 : Int64) (x1 : Int64) (x2 : Int32) (cz : Int32) (fo : Value) (h0 : Heap) (n0 : Nat) (v : Option Value) (h : Heap) (L : List Loc) : Prop := v = some (.int 1) ∧ Fr n0 L
set_option maxRecDepth 65536 in
set_option maxHeartbeats 40000000 in
theorem rm_law (l : Launch) (Z : State) (a0 : Array Value) (hw : ∀ d ∈ tables_1, d.before a0 Z = true) (ws : List Jvm.Cond) (x0 : Int64) (x1 : Int64) (x2 : Int32) (cz : Int32) (fo : Value) (h0 : Heap) (n0 : Nat) (Z0 : n0 ≤ h0.size) (S_COMPACT_STRINGS : Sta Z h0 "java/lang/String" "COMPACT_STRINGS" "Z" (.int cz)) (hcz : ¬ (cz = (0 : Int32))) (S_SIOOBE_FORMATTER : Sta Z h0 "jdk/internal/util/Preconditions" "SIOOBE_FORMATTER" "Ljava/util/function/BiFunction;" fo) (r_fo : fo.isRef = true) (S__assertionsDisabled : Sta Z h0 "java/lang/StringUTF16" "$assertionsDisabled" "Z" (.int (1 : Int32))) (S_HI_BYTE_SHIFT : Sta Z h0 "java/lang/StringUTF16" "HI_BYTE_SHIFT" "I" (.int (0 : Int32))) (S_LO_BYTE_SHIFT : Sta Z h0 "java/lang/StringUTF16" "LO_BYTE_SHIFT" "I" (.int (8 : Int32))) :
    MetH l Z x code maxLocals ret room_1 ws #[(.long x0), (.long x1), (.int x2)] h0 (Q_rm_law Z x0 x1 x2 cz fo h0 n0) := by
  refine own_metH (plainFor_of_name own_pn4) ?_
  intro p e s m below meth c s₁ hret hx hby hlk hml hown hnm X0 e0 hZ hh hC0
  have N0 := Fr.nil n0
  have hS : s.Since s.vm h0.size := (State.WarmedH.refl s).since _
  have hk : h0.size ≤ h0.size := Nat.le_refl _
  replace hZ : Z.Warmed39 (s.setVm s.vm).vm := hZ
  have hR : CHr Z consts_1 s.vm h0 s.vm h0 := CHr.refl hC0
  refine Gs (fun _ tk => castTop (own_ef_rm_law m x0 x1 x2) tk) ?_
  show Goes _ _ _ _ _ (s₁.setTop (mkF m 0 #[.val (.long x0), .second, .val (.long x1), .second, .val (.int x2), .unset, .unset, .unset, .unset, .unset, .unset, .unset, .unset, .unset, .unset, .unset] []))
  refine Gs (fun _ tk => XS.iload X0.here hx rfl (hb hby at_0) rfl tk) ?_
  refine Gs (fun _ tk => XS.iconst X0.here hx rfl (hb hby at_2) tk) ?_
  show Goes _ _ _ _ _ (s₁.setTop (mkF m 3 #[.val (.long x0), .second, .val (.long x1), .second, .val (.int x2), .unset, .unset, .unset, .unset, .unset, .unset, .unset, .unset, .unset, .unset, .unset] [(.int (3 : Int32)), (.int x2)]))
  refine Gs (fun _ tk => XS.iand X0.here hx rfl (hb hby at_3) rfl tk) ?_
  show Goes _ _ _ _ _ (s₁.setTop (mkF m 4 #[.val (.long x0), .second, .val (.long x1), .second, .val (.int x2), .unset, .unset, .unset, .unset, .unset, .unset, .unset, .unset, .unset, .unset, .unset] [(.int (x2 &&& (3 : Int32)))]))
  generalize htl : (x2 &&& (3 : Int32)) = tl
  show Goes _ _ _ _ _ (s₁.setTop (mkF m 4 #[.val (.long x0), .second, .val (.long x1), .second, .val (.int x2), .unset, .unset, .unset, .unset, .unset, .unset, .unset, .unset, .unset, .unset, .unset] [(.int tl)]))
  have htl : tl = 0 ∨ tl = 1 ∨ tl = 2 ∨ tl = 3 := by rw [← htl]; exact own_mask3 _
  refine Gs (fun _ tk => XS.istore X0.here hx rfl (hb hby at_4) rfl (l' := #[.val (.long x0), .second, .val (.long x1), .second, .val (.int x2), .val (.int tl), .unset, .unset, .unset, .unset, .unset, .unset, .unset, .unset, .unset, .unset]) rfl tk) ?_
  refine Gs (fun _ tk => XS.iload X0.here hx rfl (hb hby at_6) rfl tk) ?_
  refine Gs (fun _ tk => XS.iconst X0.here hx rfl (hb hby at_8) tk) ?_
  show Goes _ _ _ _ _ (s₁.setTop (mkF m 9 #[.val (.long x0), .second, .val (.long x1), .second, .val (.int x2), .val (.int tl), .unset, .unset, .unset, .unset, .unset, .unset, .unset, .unset, .unset, .unset] [(.int (2 : Int32)), (.int x2)]))
  refine Gs (fun _ tk => XS.iushr X0.here hx rfl (hb hby at_9) rfl tk) ?_
  show Goes _ _ _ _ _ (s₁.setTop (mkF m 10 #[.val (.long x0), .second, .val (.long x1), .second, .val (.int x2), .val (.int tl), .unset, .unset, .unset, .unset, .unset, .unset, .unset, .unset, .unset, .unset] [(.int ((x2.toUInt32 >>> ((2 : Int32) &&& 31).toUInt32).toInt32))]))
  refine Gs (fun _ tk => XS.iconst X0.here hx rfl (hb hby at_10) tk) ?_
  show Goes _ _ _ _ _ (s₁.setTop (mkF m 11 #[.val (.long x0), .second, .val (.long x1), .second, .val (.int x2), .val (.int tl), .unset, .unset, .unset, .unset, .unset, .unset, .unset, .unset, .unset, .unset] [(.int (3 : Int32)), (.int ((x2.toUInt32 >>> ((2 : Int32) &&& 31).toUInt32).toInt32))]))
  refine Gs (fun _ tk => XS.iand X0.here hx rfl (hb hby at_11) rfl tk) ?_
  show Goes _ _ _ _ _ (s₁.setTop (mkF m 12 #[.val (.long x0), .second, .val (.long x1), .second, .val (.int x2), .val (.int tl), .unset, .unset, .unset, .unset, .unset, .unset, .unset, .unset, .unset, .unset] [(.int (((x2.toUInt32 >>> ((2 : Int32) &&& 31).toUInt32).toInt32) &&& (3 : Int32)))]))
  generalize hpl : (((x2.toUInt32 >>> ((2 : Int32) &&& 31).toUInt32).toInt32) &&& (3 : Int32)) = pl
  show Goes _ _ _ _ _ (s₁.setTop (mkF m 12 #[.val (.long x0), .second, .val (.long x1), .second, .val (.int x2), .val (.int tl), .unset, .unset, .unset, .unset, .unset, .unset, .unset, .unset, .unset, .unset] [(.int pl)]))
  have hpl : pl = 0 ∨ pl = 1 ∨ pl = 2 ∨ pl = 3 := by rw [← hpl]; exact own_mask3 _
  refine Gs (fun _ tk => XS.istore X0.here hx rfl (hb hby at_12) rfl (l' := #[.val (.long x0), .second, .val (.long x1), .second, .val (.int x2), .val (.int tl), .val (.int pl), .unset, .unset, .unset, .unset, .unset, .unset, .unset, .unset, .unset]) rfl tk) ?_
  refine Gs (fun _ tk => XS.lloadN X0.here hx rfl (hb hby at_14) rfl tk) ?_
  refine Gs (fun _ tk => Jvm.Stand.ldc2J X0 hx hown (mvT hZ (gw hw 0 rfl)) rfl (hb hby at_15) tk) ?_
  show Goes _ _ _ _ _ (s₁.setTop (mkF m 18 #[.val (.long x0), .second, .val (.long x1), .second, .val (.int x2), .val (.int tl), .val (.int pl), .unset, .unset, .unset, .unset, .unset, .unset, .unset, .unset, .unset] [(.long (65535 : Int64)), (.long x0)]))
  refine Gs (fun _ tk => XS.land X0.here hx rfl (hb hby at_18) rfl tk) ?_
  show Goes _ _ _ _ _ (s₁.setTop (mkF m 19 #[.val (.long x0), .second, .val (.long x1), .second, .val (.int x2), .val (.int tl), .val (.int pl), .unset, .unset, .unset, .unset, .unset, .unset, .unset, .unset, .unset] [(.long (x0 &&& (65535 : Int64)))]))
  refine Gs (fun _ tk => XS.l2i X0.here hx rfl (hb hby at_19) rfl tk) ?_
  show Goes _ _ _ _ _ (s₁.setTop (mkF m 20 #[.val (.long x0), .second, .val (.long x1), .second, .val (.int x2), .val (.int tl), .val (.int pl), .unset, .unset, .unset, .unset, .unset, .unset, .unset, .unset, .unset] [(.int ((x0 &&& (65535 : Int64)).toInt32))]))
  refine Gs (fun _ tk => XS.i2c X0.here hx rfl (hb hby at_20) rfl tk) ?_
  show Goes _ _ _ _ _ (s₁.setTop (mkF m 21 #[.val (.long x0), .second, .val (.long x1), .second, .val (.int x2), .val (.int tl), .val (.int pl), .unset, .unset, .unset, .unset, .unset, .unset, .unset, .unset, .unset] [(.int (((x0 &&& (65535 : Int64)).toInt32).toUInt32.toUInt16.toUInt32.toInt32))]))
  generalize ht0 : (((x0 &&& (65535 : Int64)).toInt32).toUInt32.toUInt16.toUInt32.toInt32) = t0
  show Goes _ _ _ _ _ (s₁.setTop (mkF m 21 #[.val (.long x0), .second, .val (.long x1), .second, .val (.int x2), .val (.int tl), .val (.int pl), .unset, .unset, .unset, .unset, .unset, .unset, .unset, .unset, .unset] [(.int t0)]))
  have hC_t0 : Chr t0 := by rw [← ht0]; exact own_chrI _
  refine Gs (fun _ tk => XS.istore X0.here hx rfl (hb hby at_21) rfl (l' := #[.val (.long x0), .second, .val (.long x1), .second, .val (.int x2), .val (.int tl), .val (.int pl), .val (.int t0), .unset, .unset, .unset, .unset, .unset, .unset, .unset, .unset]) rfl tk) ?_
  refine Gs (fun _ tk => XS.lloadN X0.here hx rfl (hb hby at_23) rfl tk) ?_
  refine Gs (fun _ tk => XS.bipush X0.here hx rfl (hb hby at_24) tk) ?_
  show Goes _ _ _ _ _ (s₁.setTop (mkF m 26 #[.val (.long x0), .second, .val (.long x1), .second, .val (.int x2), .val (.int tl), .val (.int pl), .val (.int t0), .unset, .unset, .unset, .unset, .unset, .unset, .unset, .unset] [(.int (16 : Int32)), (.long x0)]))
  refine Gs (fun _ tk => XS.lushr X0.here hx rfl (hb hby at_26) rfl tk) ?_
  show Goes _ _ _ _ _ (s₁.setTop (mkF m 27 #[.val (.long x0), .second, .val (.long x1), .second, .val (.int x2), .val (.int tl), .val (.int pl), .val (.int t0), .unset, .unset, .unset, .unset, .unset, .unset, .unset, .unset] [(.long ((x0.toUInt64 >>> ((16 : Int32) &&& 0x3f).toInt64.toUInt64).toInt64))]))
  refine Gs (fun _ tk => Jvm.Stand.ldc2J X0 hx hown (mvT hZ (gw hw 0 rfl)) rfl (hb hby at_27) tk) ?_
  show Goes _ _ _ _ _ (s₁.setTop (mkF m 30 #[.val (.long x0), .second, .val (.long x1), .second, .val (.int x2), .val (.int tl), .val (.int pl), .val (.int t0), .unset, .unset, .unset, .unset, .unset, .unset, .unset, .unset] [(.long (65535 : Int64)), (.long ((x0.toUInt64 >>> ((16 : Int32) &&& 0x3f).toInt64.toUInt64).toInt64))]))
  refine Gs (fun _ tk => XS.land X0.here hx rfl (hb hby at_30) rfl tk) ?_
  show Goes _ _ _ _ _ (s₁.setTop (mkF m 31 #[.val (.long x0), .second, .val (.long x1), .second, .val (.int x2), .val (.int tl), .val (.int pl), .val (.int t0), .unset, .unset, .unset, .unset, .unset, .unset, .unset, .unset] [(.long (((x0.toUInt64 >>> ((16 : Int32) &&& 0x3f).toInt64.toUInt64).toInt64) &&& (65535 : Int64)))]))
  refine Gs (fun _ tk => XS.l2i X0.here hx rfl (hb hby at_31) rfl tk) ?_
  show Goes _ _ _ _ _ (s₁.setTop (mkF m 32 #[.val (.long x0), .second, .val (.long x1), .second, .val (.int x2), .val (.int tl), .val (.int pl), .val (.int t0), .unset, .unset, .unset, .unset, .unset, .unset, .unset, .unset] [(.int ((((x0.toUInt64 >>> ((16 : Int32) &&& 0x3f).toInt64.toUInt64).toInt64) &&& (65535 : Int64)).toInt32))]))
  refine Gs (fun _ tk => XS.i2c X0.here hx rfl (hb hby at_32) rfl tk) ?_
  show Goes _ _ _ _ _ (s₁.setTop (mkF m 33 #[.val (.long x0), .second, .val (.long x1), .second, .val (.int x2), .val (.int tl), .val (.int pl), .val (.int t0), .unset, .unset, .unset, .unset, .unset, .unset, .unset, .unset] [(.int (((((x0.toUInt64 >>> ((16 : Int32) &&& 0x3f).toInt64.toUInt64).toInt64) &&& (65535 : Int64)).toInt32).toUInt32.toUInt16.toUInt32.toInt32))]))
  generalize ht1 : (((((x0.toUInt64 >>> ((16 : Int32) &&& 0x3f).toInt64.toUInt64).toInt64) &&& (65535 : Int64)).toInt32).toUInt32.toUInt16.toUInt32.toInt32) = t1
  show Goes _ _ _ _ _ (s₁.setTop (mkF m 33 #[.val (.long x0), .second, .val (.long x1), .second, .val (.int x2), .val (.int tl), .val (.int pl), .val (.int t0), .unset, .unset, .unset, .unset, .unset, .unset, .unset, .unset] [(.int t1)]))
  have hC_t1 : Chr t1 := by rw [← ht1]; exact own_chrI _
  refine Gs (fun _ tk => XS.istore X0.here hx rfl (hb hby at_33) rfl (l' := #[.val (.long x0), .second, .val (.long x1), .second, .val (.int x2), .val (.int tl), .val (.int pl), .val (.int t0), .val (.int t1), .unset, .unset, .unset, .unset, .unset, .unset, .unset]) rfl tk) ?_
  refine Gs (fun _ tk => XS.lloadN X0.here hx rfl (hb hby at_35) rfl tk) ?_
  refine Gs (fun _ tk => XS.bipush X0.here hx rfl (hb hby at_36) tk) ?_
  show Goes _ _ _ _ _ (s₁.setTop (mkF m 38 #[.val (.long x0), .second, .val (.long x1), .second, .val (.int x2), .val (.int tl), .val (.int pl), .val (.int t0), .val (.int t1), .unset, .unset, .unset, .unset, .unset, .unset, .unset] [(.int (32 : Int32)), (.long x0)]))
  refine Gs (fun _ tk => XS.lushr X0.here hx rfl (hb hby at_38) rfl tk) ?_
  show Goes _ _ _ _ _ (s₁.setTop (mkF m 39 #[.val (.long x0), .second, .val (.long x1), .second, .val (.int x2), .val (.int tl), .val (.int pl), .val (.int t0), .val (.int t1), .unset, .unset, .unset, .unset, .unset, .unset, .unset] [(.long ((x0.toUInt64 >>> ((32 : Int32) &&& 0x3f).toInt64.toUInt64).toInt64))]))
  refine Gs (fun _ tk => Jvm.Stand.ldc2J X0 hx hown (mvT hZ (gw hw 0 rfl)) rfl (hb hby at_39) tk) ?_
  show Goes _ _ _ _ _ (s₁.setTop (mkF m 42 #[.val (.long x0), .second, .val (.long x1), .second, .val (.int x2), .val (.int tl), .val (.int pl), .val (.int t0), .val (.int t1), .unset, .unset, .unset, .unset, .unset, .unset, .unset] [(.long (65535 : Int64)), (.long ((x0.toUInt64 >>> ((32 : Int32) &&& 0x3f).toInt64.toUInt64).toInt64))]))
  refine Gs (fun _ tk => XS.land X0.here hx rfl (hb hby at_42) rfl tk) ?_
  show Goes _ _ _ _ _ (s₁.setTop (mkF m 43 #[.val (.long x0), .second, .val (.long x1), .second, .val (.int x2), .val (.int tl), .val (.int pl), .val (.int t0), .val (.int t1), .unset, .unset, .unset, .unset, .unset, .unset, .unset] [(.long (((x0.toUInt64 >>> ((32 : Int32) &&& 0x3f).toInt64.toUInt64).toInt64) &&& (65535 : Int64)))]))
  refine Gs (fun _ tk => XS.l2i X0.here hx rfl (hb hby at_43) rfl tk) ?_
  show Goes _ _ _ _ _ (s₁.setTop (mkF m 44 #[.val (.long x0), .second, .val (.long x1), .second, .val (.int x2), .val (.int tl), .val (.int pl), .val (.int t0), .val (.int t1), .unset, .unset, .unset, .unset, .unset, .unset, .unset] [(.int ((((x0.toUInt64 >>> ((32 : Int32) &&& 0x3f).toInt64.toUInt64).toInt64) &&& (65535 : Int64)).toInt32))]))
  refine Gs (fun _ tk => XS.i2c X0.here hx rfl (hb hby at_44) rfl tk) ?_
  show Goes _ _ _ _ _ (s₁.setTop (mkF m 45 #[.val (.long x0), .second, .val (.long x1), .second, .val (.int x2), .val (.int tl), .val (.int pl), .val (.int t0), .val (.int t1), .unset, .unset, .unset, .unset, .unset, .unset, .unset] [(.int (((((x0.toUInt64 >>> ((32 : Int32) &&& 0x3f).toInt64.toUInt64).toInt64) &&& (65535 : Int64)).toInt32).toUInt32.toUInt16.toUInt32.toInt32))]))
  generalize ht2 : (((((x0.toUInt64 >>> ((32 : Int32) &&& 0x3f).toInt64.toUInt64).toInt64) &&& (65535 : Int64)).toInt32).toUInt32.toUInt16.toUInt32.toInt32) = t2
  show Goes _ _ _ _ _ (s₁.setTop (mkF m 45 #[.val (.long x0), .second, .val (.long x1), .second, .val (.int x2), .val (.int tl), .val (.int pl), .val (.int t0), .val (.int t1), .unset, .unset, .unset, .unset, .unset, .unset, .unset] [(.int t2)]))
  have hC_t2 : Chr t2 := by rw [← ht2]; exact own_chrI _
  refine Gs (fun _ tk => XS.istore X0.here hx rfl (hb hby at_45) rfl (l' := #[.val (.long x0), .second, .val (.long x1), .second, .val (.int x2), .val (.int tl), .val (.int pl), .val (.int t0), .val (.int t1), .val (.int t2), .unset, .unset, .unset, .unset, .unset, .unset]) rfl tk) ?_
  refine Gs (fun _ tk => XS.iload X0.here hx rfl (hb hby at_47) rfl tk) ?_
  refine Gs (fun _ tk => XS.iconst X0.here hx rfl (hb hby at_49) tk) ?_
  show Goes _ _ _ _ _ (s₁.setTop (mkF m 50 #[.val (.long x0), .second, .val (.long x1), .second, .val (.int x2), .val (.int tl), .val (.int pl), .val (.int t0), .val (.int t1), .val (.int t2), .unset, .unset, .unset, .unset, .unset, .unset] [(.int (4 : Int32)), (.int x2)]))
  refine Gs (fun _ tk => XS.iushr X0.here hx rfl (hb hby at_50) rfl tk) ?_
  show Goes _ _ _ _ _ (s₁.setTop (mkF m 51 #[.val (.long x0), .second, .val (.long x1), .second, .val (.int x2), .val (.int tl), .val (.int pl), .val (.int t0), .val (.int t1), .val (.int t2), .unset, .unset, .unset, .unset, .unset, .unset] [(.int ((x2.toUInt32 >>> ((4 : Int32) &&& 31).toUInt32).toInt32))]))
  refine Gs (fun _ tk => XS.iconst X0.here hx rfl (hb hby at_51) tk) ?_
  show Goes _ _ _ _ _ (s₁.setTop (mkF m 52 #[.val (.long x0), .second, .val (.long x1), .second, .val (.int x2), .val (.int tl), .val (.int pl), .val (.int t0), .val (.int t1), .val (.int t2), .unset, .unset, .unset, .unset, .unset, .unset] [(.int (1 : Int32)), (.int ((x2.toUInt32 >>> ((4 : Int32) &&& 31).toUInt32).toInt32))]))
  refine Gs (fun _ tk => XS.iand X0.here hx rfl (hb hby at_52) rfl tk) ?_
  show Goes _ _ _ _ _ (s₁.setTop (mkF m 53 #[.val (.long x0), .second, .val (.long x1), .second, .val (.int x2), .val (.int tl), .val (.int pl), .val (.int t0), .val (.int t1), .val (.int t2), .unset, .unset, .unset, .unset, .unset, .unset] [(.int (((x2.toUInt32 >>> ((4 : Int32) &&& 31).toUInt32).toInt32) &&& (1 : Int32)))]))
  show Goes _ _ _ _ _ (s₁.setTop (mkF m 53 #[.val (.long x0), .second, .val (.long x1), .second, .val (.int x2), .val (.int tl), .val (.int pl), .val (.int t0), .val (.int t1), .val (.int t2), .unset, .unset, .unset, .unset, .unset, .unset] [(.int (((x2.toUInt32 >>> ((4 : Int32) &&& 31).toUInt32).toInt32) &&& (1 : Int32)))]))
  refine own_joinP (B := fun p0 => s₁.setTop (mkF m 68 #[.val (.long x0), .second, .val (.long x1), .second, .val (.int x2), .val (.int tl), .val (.int pl), .val (.int t0), .val (.int t1), .val (.int t2), .unset, .unset, .unset, .unset, .unset, .unset] [(.int p0)])) (P := Chr) ?_ ?_
  · intro p0 hC_p0
    show Goes _ _ _ _ _ (s₁.setTop (mkF m 68 #[.val (.long x0), .second, .val (.long x1), .second, .val (.int x2), .val (.int tl), .val (.int pl), .val (.int t0), .val (.int t1), .val (.int t2), .unset, .unset, .unset, .unset, .unset, .unset] [(.int p0)]))
    refine Gs (fun _ tk => XS.istore X0.here hx rfl (hb hby at_68) rfl (l' := #[.val (.long x0), .second, .val (.long x1), .second, .val (.int x2), .val (.int tl), .val (.int pl), .val (.int t0), .val (.int t1), .val (.int t2), .val (.int p0), .unset, .unset, .unset, .unset, .unset]) rfl tk) ?_
    refine Gs (fun _ tk => XS.iload X0.here hx rfl (hb hby at_70) rfl tk) ?_
    refine Gs (fun _ tk => XS.iconst X0.here hx rfl (hb hby at_72) tk) ?_
    show Goes _ _ _ _ _ (s₁.setTop (mkF m 73 #[.val (.long x0), .second, .val (.long x1), .second, .val (.int x2), .val (.int tl), .val (.int pl), .val (.int t0), .val (.int t1), .val (.int t2), .val (.int p0), .unset, .unset, .unset, .unset, .unset] [(.int (5 : Int32)), (.int x2)]))
    refine Gs (fun _ tk => XS.iushr X0.here hx rfl (hb hby at_73) rfl tk) ?_
    show Goes _ _ _ _ _ (s₁.setTop (mkF m 74 #[.val (.long x0), .second, .val (.long x1), .second, .val (.int x2), .val (.int tl), .val (.int pl), .val (.int t0), .val (.int t1), .val (.int t2), .val (.int p0), .unset, .unset, .unset, .unset, .unset] [(.int ((x2.toUInt32 >>> ((5 : Int32) &&& 31).toUInt32).toInt32))]))
    refine Gs (fun _ tk => XS.iconst X0.here hx rfl (hb hby at_74) tk) ?_
    show Goes _ _ _ _ _ (s₁.setTop (mkF m 75 #[.val (.long x0), .second, .val (.long x1), .second, .val (.int x2), .val (.int tl), .val (.int pl), .val (.int t0), .val (.int t1), .val (.int t2), .val (.int p0), .unset, .unset, .unset, .unset, .unset] [(.int (1 : Int32)), (.int ((x2.toUInt32 >>> ((5 : Int32) &&& 31).toUInt32).toInt32))]))
    refine Gs (fun _ tk => XS.iand X0.here hx rfl (hb hby at_75) rfl tk) ?_
    show Goes _ _ _ _ _ (s₁.setTop (mkF m 76 #[.val (.long x0), .second, .val (.long x1), .second, .val (.int x2), .val (.int tl), .val (.int pl), .val (.int t0), .val (.int t1), .val (.int t2), .val (.int p0), .unset, .unset, .unset, .unset, .unset] [(.int (((x2.toUInt32 >>> ((5 : Int32) &&& 31).toUInt32).toInt32) &&& (1 : Int32)))]))
    show Goes _ _ _ _ _ (s₁.setTop (mkF m 76 #[.val (.long x0), .second, .val (.long x1), .second, .val (.int x2), .val (.int tl), .val (.int pl), .val (.int t0), .val (.int t1), .val (.int t2), .val (.int p0), .unset, .unset, .unset, .unset, .unset] [(.int (((x2.toUInt32 >>> ((5 : Int32) &&& 31).toUInt32).toInt32) &&& (1 : Int32)))]))
    refine own_joinP (B := fun p1 => s₁.setTop (mkF m 94 #[.val (.long x0), .second, .val (.long x1), .second, .val (.int x2), .val (.int tl), .val (.int pl), .val (.int t0), .val (.int t1), .val (.int t2), .val (.int p0), .unset, .unset, .unset, .unset, .unset] [(.int p1)])) (P := Chr) ?_ ?_
    · intro p1 hC_p1
      show Goes _ _ _ _ _ (s₁.setTop (mkF m 94 #[.val (.long x0), .second, .val (.long x1), .second, .val (.int x2), .val (.int tl), .val (.int pl), .val (.int t0), .val (.int t1), .val (.int t2), .val (.int p0), .unset, .unset, .unset, .unset, .unset] [(.int p1)]))
      refine Gs (fun _ tk => XS.istore X0.here hx rfl (hb hby at_94) rfl (l' := #[.val (.long x0), .second, .val (.long x1), .second, .val (.int x2), .val (.int tl), .val (.int pl), .val (.int t0), .val (.int t1), .val (.int t2), .val (.int p0), .val (.int p1), .unset, .unset, .unset, .unset]) rfl tk) ?_
      refine Gs (fun _ tk => XS.iload X0.here hx rfl (hb hby at_96) rfl tk) ?_
      refine Gs (fun _ tk => XS.bipush X0.here hx rfl (hb hby at_98) tk) ?_
      show Goes _ _ _ _ _ (s₁.setTop (mkF m 100 #[.val (.long x0), .second, .val (.long x1), .second, .val (.int x2), .val (.int tl), .val (.int pl), .val (.int t0), .val (.int t1), .val (.int t2), .val (.int p0), .val (.int p1), .unset, .unset, .unset, .unset] [(.int (6 : Int32)), (.int x2)]))
      refine Gs (fun _ tk => XS.iushr X0.here hx rfl (hb hby at_100) rfl tk) ?_
      show Goes _ _ _ _ _ (s₁.setTop (mkF m 101 #[.val (.long x0), .second, .val (.long x1), .second, .val (.int x2), .val (.int tl), .val (.int pl), .val (.int t0), .val (.int t1), .val (.int t2), .val (.int p0), .val (.int p1), .unset, .unset, .unset, .unset] [(.int ((x2.toUInt32 >>> ((6 : Int32) &&& 31).toUInt32).toInt32))]))
      refine Gs (fun _ tk => XS.iconst X0.here hx rfl (hb hby at_101) tk) ?_
      show Goes _ _ _ _ _ (s₁.setTop (mkF m 102 #[.val (.long x0), .second, .val (.long x1), .second, .val (.int x2), .val (.int tl), .val (.int pl), .val (.int t0), .val (.int t1), .val (.int t2), .val (.int p0), .val (.int p1), .unset, .unset, .unset, .unset] [(.int (1 : Int32)), (.int ((x2.toUInt32 >>> ((6 : Int32) &&& 31).toUInt32).toInt32))]))
      refine Gs (fun _ tk => XS.iand X0.here hx rfl (hb hby at_102) rfl tk) ?_
      show Goes _ _ _ _ _ (s₁.setTop (mkF m 103 #[.val (.long x0), .second, .val (.long x1), .second, .val (.int x2), .val (.int tl), .val (.int pl), .val (.int t0), .val (.int t1), .val (.int t2), .val (.int p0), .val (.int p1), .unset, .unset, .unset, .unset] [(.int (((x2.toUInt32 >>> ((6 : Int32) &&& 31).toUInt32).toInt32) &&& (1 : Int32)))]))
      show Goes _ _ _ _ _ (s₁.setTop (mkF m 103 #[.val (.long x0), .second, .val (.long x1), .second, .val (.int x2), .val (.int tl), .val (.int pl), .val (.int t0), .val (.int t1), .val (.int t2), .val (.int p0), .val (.int p1), .unset, .unset, .unset, .unset] [(.int (((x2.toUInt32 >>> ((6 : Int32) &&& 31).toUInt32).toInt32) &&& (1 : Int32)))]))
      refine own_joinP (B := fun p2 => s₁.setTop (mkF m 121 #[.val (.long x0), .second, .val (.long x1), .second, .val (.int x2), .val (.int tl), .val (.int pl), .val (.int t0), .val (.int t1), .val (.int t2), .val (.int p0), .val (.int p1), .unset, .unset, .unset, .unset] [(.int p2)])) (P := Chr) ?_ ?_
      · intro p2 hC_p2
        show Goes _ _ _ _ _ (s₁.setTop (mkF m 121 #[.val (.long x0), .second, .val (.long x1), .second, .val (.int x2), .val (.int tl), .val (.int pl), .val (.int t0), .val (.int t1), .val (.int t2), .val (.int p0), .val (.int p1), .unset, .unset, .unset, .unset] [(.int p2)]))
        refine Gs (fun _ tk => XS.istore X0.here hx rfl (hb hby at_121) rfl (l' := #[.val (.long x0), .second, .val (.long x1), .second, .val (.int x2), .val (.int tl), .val (.int pl), .val (.int t0), .val (.int t1), .val (.int t2), .val (.int p0), .val (.int p1), .val (.int p2), .unset, .unset, .unset]) rfl tk) ?_
        refine Gs (fun _ tk => XS.iload X0.here hx rfl (hb hby at_123) rfl tk) ?_
        refine Gs (fun _ tk => XS.iload X0.here hx rfl (hb hby at_125) rfl tk) ?_
        refine Gs (fun _ tk => XS.iload X0.here hx rfl (hb hby at_127) rfl tk) ?_
        refine Gs (fun _ tk => XS.iload X0.here hx rfl (hb hby at_129) rfl tk) ?_
        obtain ⟨_, _, ⟨T1, L1, k1, n1⟩, -, X1, hS1, gr1, ⟨Lc1, hQ1, l1, y1, z1, hC1⟩, st1⟩ := callSS X0 hx (y := mN26) hown (mvT hZ (gw hw 1 rfl)) (mvT hZ (gw hw 2 rfl)) (mvT hZ (gw hw 3 rfl)) (mvT hZ (gw hw 4 rfl)) (by decide) (backOfSH (W := 0) (rm_str l Z a0 hw [] tl t0 t1 t2 cz h0 n0 Z0 hC_t0 hC_t1 hC_t2 S_COMPACT_STRINGS (by first | assumption | decide) S__assertionsDisabled S_HI_BYTE_SHIFT S_LO_BYTE_SHIFT) hZ (gw hw 4 rfl) (gw hw 3 rfl) (by decide) (by decide) (own_EW hw) hR.1) (g := (mkF m 131 #[.val (.long x0), .second, .val (.long x1), .second, .val (.int x2), .val (.int tl), .val (.int pl), .val (.int t0), .val (.int t1), .val (.int t2), .val (.int p0), .val (.int p1), .val (.int p2), .unset, .unset, .unset] [(.int t2), (.int t1), (.int t0), (.int tl)])) rfl (by rw [hml]; rfl) (argsL := [(.int tl), (.int t0), (.int t1), (.int t2)]) (rest := []) (lenOf own_pd22 rfl) rfl (w0 (Nat.le_of_eq rfl)) (hb hby at_131) (fun _ _ => ⟨rfl, e0, (by decide : 0 + 6 ≤ _), (by decide : 0 + 16 ≤ _)⟩)
        dsimp only [Pt.U, Pt.locs, Pt.cells, Pt.slots] at X1 l1 y1 z1 st1 hQ1 hS1 gr1 hC1
        subst l1 y1 z1
        obtain ⟨X1, hS, hZ, hown⟩ := rebS hS hk X1 hS1 (by have q := gr1; rw [e0] at q; exact q) hZ hown
        replace hk : T1.heap.size ≤ T1.heap.size := Nat.le_refl _
        obtain ⟨u1, rfl, N1q, K1, T_u1_1'⟩ := hQ1
        have N1 := Fr.app N0 N1q
        replace hR := hR.trans hC1
        replace S_COMPACT_STRINGS := own_staK S_COMPACT_STRINGS K1 all0
        replace S_SIOOBE_FORMATTER := own_staK S_SIOOBE_FORMATTER K1 all0
        replace S__assertionsDisabled := own_staK S__assertionsDisabled K1 all0
        replace S_HI_BYTE_SHIFT := own_staK S_HI_BYTE_SHIFT K1 all0
        replace S_LO_BYTE_SHIFT := own_staK S_LO_BYTE_SHIFT K1 all0
        replace Z0 := Nat.le_trans Z0 K1.1
        have T_u1 := T_u1_1'
        refine Gs (fun _ tk => st1.trans tk) ?_
        show Goes _ _ _ _ _ (T1.setTop (mkF m 134 #[.val (.long x0), .second, .val (.long x1), .second, .val (.int x2), .val (.int tl), .val (.int pl), .val (.int t0), .val (.int t1), .val (.int t2), .val (.int p0), .val (.int p1), .val (.int p2), .unset, .unset, .unset] [(.ref u1)]))
        refine Gs (fun _ tk => XS.astore X1.here hx rfl (hb hby at_134) rfl rfl (l' := #[.val (.long x0), .second, .val (.long x1), .second, .val (.int x2), .val (.int tl), .val (.int pl), .val (.int t0), .val (.int t1), .val (.int t2), .val (.int p0), .val (.int p1), .val (.int p2), .val (.ref u1), .unset, .unset]) rfl tk) ?_
        refine Gs (fun _ tk => XS.iload X1.here hx rfl (hb hby at_136) rfl tk) ?_
        refine Gs (fun _ tk => XS.iload X1.here hx rfl (hb hby at_138) rfl tk) ?_
        refine Gs (fun _ tk => XS.iload X1.here hx rfl (hb hby at_140) rfl tk) ?_
        refine Gs (fun _ tk => XS.iload X1.here hx rfl (hb hby at_142) rfl tk) ?_
        obtain ⟨_, _, ⟨T2, L2, k2, n2⟩, -, X2, hS2, gr2, ⟨Lc2, hQ2, l2, y2, z2, hC2⟩, st2⟩ := callSS X1 hx (y := mN26) hown (mvT hZ (gw hw 1 rfl)) (mvT hZ (gw hw 2 rfl)) (mvT hZ (gw hw 3 rfl)) (mvT hZ (gw hw 4 rfl)) (by decide) (backOfSH (W := 0) (rm_str l Z a0 hw [] pl p0 p1 p2 cz T1.heap n0 Z0 hC_p0 hC_p1 hC_p2 S_COMPACT_STRINGS (by first | assumption | decide) S__assertionsDisabled S_HI_BYTE_SHIFT S_LO_BYTE_SHIFT) hZ (gw hw 4 rfl) (gw hw 3 rfl) (by decide) (by decide) (own_EW hw) hR.1) (g := (mkF m 144 #[.val (.long x0), .second, .val (.long x1), .second, .val (.int x2), .val (.int tl), .val (.int pl), .val (.int t0), .val (.int t1), .val (.int t2), .val (.int p0), .val (.int p1), .val (.int p2), .val (.ref u1), .unset, .unset] [(.int p2), (.int p1), (.int p0), (.int pl)])) rfl (by rw [hml]; rfl) (argsL := [(.int pl), (.int p0), (.int p1), (.int p2)]) (rest := []) (lenOf own_pd22 rfl) rfl (w0 (Nat.le_of_eq rfl)) (hb hby at_144) (fun _ _ => ⟨rfl, rfl, (by decide : 6 + 6 ≤ _), (by decide : 16 + 16 ≤ _)⟩)
        dsimp only [Pt.U, Pt.locs, Pt.cells, Pt.slots] at X2 l2 y2 z2 st2 hQ2 hS2 gr2 hC2
        subst l2 y2 z2
        obtain ⟨X2, hS, hZ, hown⟩ := rebS hS hk X2 hS2 gr2 hZ hown
        replace hk : T2.heap.size ≤ T2.heap.size := Nat.le_refl _
        obtain ⟨u2, rfl, N2q, K2, T_u2_2'⟩ := hQ2
        have N2 := Fr.app N1 N2q
        replace hR := hR.trans hC2
        replace S_COMPACT_STRINGS := own_staK S_COMPACT_STRINGS K2 all0
        replace S_SIOOBE_FORMATTER := own_staK S_SIOOBE_FORMATTER K2 all0
        replace S__assertionsDisabled := own_staK S__assertionsDisabled K2 all0
        replace S_HI_BYTE_SHIFT := own_staK S_HI_BYTE_SHIFT K2 all0
        replace S_LO_BYTE_SHIFT := own_staK S_LO_BYTE_SHIFT K2 all0
        replace T_u1 := T_u1.keep K2 all0
        replace Z0 := Nat.le_trans Z0 K2.1
        have T_u2 := T_u2_2'
        refine Gs (fun _ tk => st2.trans tk) ?_
        show Goes _ _ _ _ _ (T2.setTop (mkF m 147 #[.val (.long x0), .second, .val (.long x1), .second, .val (.int x2), .val (.int tl), .val (.int pl), .val (.int t0), .val (.int t1), .val (.int t2), .val (.int p0), .val (.int p1), .val (.int p2), .val (.ref u1), .unset, .unset] [(.ref u2)]))
        refine Gs (fun _ tk => XS.astore X2.here hx rfl (hb hby at_147) rfl rfl (l' := #[.val (.long x0), .second, .val (.long x1), .second, .val (.int x2), .val (.int tl), .val (.int pl), .val (.int t0), .val (.int t1), .val (.int t2), .val (.int p0), .val (.int p1), .val (.int p2), .val (.ref u1), .val (.ref u2), .unset]) rfl tk) ?_
        refine Gs (fun _ tk => XS.iload X2.here hx rfl (hb hby at_149) rfl tk) ?_
        refine Gs (fun _ tk => XS.iload X2.here hx rfl (hb hby at_151) rfl tk) ?_
        by_cases hc153_3 : tl = pl
        · refine Gs (fun _ tk => XS.icmpNo X2.here hx rfl (hb hby at_153) rfl (teq hc153_3).2 tk) ?_
          refine Gs (fun _ tk => XS.iload X2.here hx rfl (hb hby at_156) rfl tk) ?_
          refine Gs (fun _ tk => XS.iconst X2.here hx rfl (hb hby at_158) tk) ?_
          show Goes _ _ _ _ _ (T2.setTop (mkF m 159 #[.val (.long x0), .second, .val (.long x1), .second, .val (.int x2), .val (.int tl), .val (.int pl), .val (.int t0), .val (.int t1), .val (.int t2), .val (.int p0), .val (.int p1), .val (.int p2), .val (.ref u1), .val (.ref u2), .unset] [(.int (1 : Int32)), (.int pl)]))
          by_cases hc159_4 : pl < (1 : Int32)
          · refine Gs (fun _ tk => XS.icmpYes X2.here hx rfl (pc0 := 159) (pc' := 172) rfl (hb hby at_159) rfl (tlt hc159_4).1 (by decide) (by decide) tk) ?_
            refine Gs (fun _ tk => XS.iload X2.here hx rfl (hb hby at_172) rfl tk) ?_
            refine Gs (fun _ tk => XS.iconst X2.here hx rfl (hb hby at_174) tk) ?_
            by_cases hc175_5 : pl < (2 : Int32)
            · refine Gs (fun _ tk => XS.icmpYes X2.here hx rfl (pc0 := 175) (pc' := 188) rfl (hb hby at_175) rfl (tlt hc175_5).1 (by decide) (by decide) tk) ?_
              refine Gs (fun _ tk => XS.iload X2.here hx rfl (hb hby at_188) rfl tk) ?_
              refine Gs (fun _ tk => XS.iconst X2.here hx rfl (hb hby at_190) tk) ?_
              show Goes _ _ _ _ _ (T2.setTop (mkF m 191 #[.val (.long x0), .second, .val (.long x1), .second, .val (.int x2), .val (.int tl), .val (.int pl), .val (.int t0), .val (.int t1), .val (.int t2), .val (.int p0), .val (.int p1), .val (.int p2), .val (.ref u1), .val (.ref u2), .unset] [(.int (3 : Int32)), (.int pl)]))
              by_cases hc191_6 : pl < (3 : Int32)
              · refine Gs (fun _ tk => XS.icmpYes X2.here hx rfl (pc0 := 191) (pc' := 204) rfl (hb hby at_191) rfl (tlt hc191_6).1 (by decide) (by decide) tk) ?_
                refine Gs (fun _ tk => XS.iconst X2.here hx rfl (hb hby at_204) tk) ?_
                refine Gs (fun _ tk => XS.goto X2.here hx rfl (pc0 := 205) (pc' := 209) rfl (hb hby at_205) (by decide) (by decide) tk) ?_
                refine Gs (fun _ tk => XS.istore X2.here hx rfl (hb hby at_209) rfl (l' := #[.val (.long x0), .second, .val (.long x1), .second, .val (.int x2), .val (.int tl), .val (.int pl), .val (.int t0), .val (.int t1), .val (.int t2), .val (.int p0), .val (.int p1), .val (.int p2), .val (.ref u1), .val (.ref u2), .val (.int (1 : Int32))]) rfl tk) ?_
                refine Gs (fun _ tk => XS.aload X2.here hx rfl (hb hby at_211) rfl rfl tk) ?_
                refine Gs (fun _ tk => XS.aload X2.here hx rfl (hb hby at_213) rfl rfl tk) ?_
                show Goes _ _ _ _ _ (T2.setTop (mkF m 215 #[.val (.long x0), .second, .val (.long x1), .second, .val (.int x2), .val (.int tl), .val (.int pl), .val (.int t0), .val (.int t1), .val (.int t2), .val (.int p0), .val (.int p1), .val (.int p2), .val (.ref u1), .val (.ref u2), .val (.int (1 : Int32))] [(.ref u2), (.ref u1)]))
                obtain ⟨_, _, ⟨T7, L7, k7, n7⟩, -, X7, ⟨Lc7, hQ7, l7, y7, z7⟩, st7⟩ := Jvm.LawKit.callS X2 hx (y := mN28) hown (mvT hZ (gw hw 27 rfl)) (mvT hZ (gw hw 28 rfl)) (mvT hZ (gw hw 29 rfl)) (mvT hZ (gw hw 30 rfl)) (by decide) (backOf (W := 0) (rm_mt l Z a0 hw [] u1 u2 (own_str tl t0 t1 t2) (own_str pl p0 p1 p2) cz fo T2.heap n0 Z0 T_u1 T_u2 (by rcases hpl with rfl | rfl | rfl | rfl <;> simp [own_str]) S_COMPACT_STRINGS (by first | assumption | decide) S_SIOOBE_FORMATTER (by first | assumption | decide) S__assertionsDisabled S_HI_BYTE_SHIFT S_LO_BYTE_SHIFT) hZ (gw hw 30 rfl) (gw hw 29 rfl) (by decide) (by decide)) (g := (mkF m 215 #[.val (.long x0), .second, .val (.long x1), .second, .val (.int x2), .val (.int tl), .val (.int pl), .val (.int t0), .val (.int t1), .val (.int t2), .val (.int p0), .val (.int p1), .val (.int p2), .val (.ref u1), .val (.ref u2), .val (.int (1 : Int32))] [(.ref u2), (.ref u1)])) rfl (by rw [hml]; rfl) (argsL := [(.ref u1), (.ref u2)]) (rest := []) (lenOf own_pd21 rfl) rfl (w0 (Nat.le_of_eq rfl)) (hb hby at_215) (fun _ _ => ⟨rfl, rfl, (by decide : 12 + 0 ≤ _), (by decide : 32 + 0 ≤ _)⟩)
                dsimp only [Pt.U, Pt.locs, Pt.cells, Pt.slots] at X7 l7 y7 z7 st7 hQ7
                subst l7 y7 z7
                obtain ⟨rfl, N7q, e7⟩ := hQ7
                have N7 := Fr.app N2 N7q
                refine Gs st7 ?_
                show Goes _ _ _ _ _ (T7.setTop (mkF m 218 #[.val (.long x0), .second, .val (.long x1), .second, .val (.int x2), .val (.int tl), .val (.int pl), .val (.int t0), .val (.int t1), .val (.int t2), .val (.int p0), .val (.int p1), .val (.int p2), .val (.ref u1), .val (.ref u2), .val (.int (1 : Int32))] [(.int (own_mt (own_str pl p0 p1 p2) (own_str tl t0 t1 t2)))]))
                refine Gs (fun _ tk => XS.iload X7.here hx rfl (hb hby at_218) rfl tk) ?_
                have hc220_8 : (own_mt (own_str pl p0 p1 p2) (own_str tl t0 t1 t2)) = (1 : Int32) := by
                  rcases htl with rfl | rfl | rfl | rfl <;> rcases hpl with rfl | rfl | rfl | rfl <;> first | exact absurd hc153_3 (by decide) | exact absurd hc159_4 (by decide) | exact absurd hc175_5 (by decide) | exact absurd hc191_6 (by decide) | simp +decide [own_mt, own_sw, own_str]
                refine Gs (fun _ tk => XS.icmpNo X7.here hx rfl (hb hby at_220) rfl (teq hc220_8).2 tk) ?_
                refine Gs (fun _ tk => XS.iconst X7.here hx rfl (hb hby at_223) tk) ?_
                refine Gs (fun _ tk => XS.goto X7.here hx rfl (pc0 := 224) (pc' := 228) rfl (hb hby at_224) (by decide) (by decide) tk) ?_
                refine Goes.retH X7 hS e7 hk hZ (own_EW hw) hh hR (some (.int (1 : Int32))) (fun h => by rw [hret] at h; cases h) hlk (by decide) (by decide) ?_ (fun fs hr => ?_)
                · rw [e7]; exact ⟨rfl, N7⟩
                · exact own_retN X7 hx (t := .boolean) hret (by simp) rfl (hb hby at_228) hr
              · refine Gs (fun _ tk => XS.icmpNo X2.here hx rfl (hb hby at_191) rfl (flt hc191_6).1 tk) ?_
                refine Gs (fun _ tk => XS.iload X2.here hx rfl (hb hby at_194) rfl tk) ?_
                refine Gs (fun _ tk => XS.iload X2.here hx rfl (hb hby at_196) rfl tk) ?_
                obtain ⟨_, _, ⟨T9, L9, k9, n9⟩, -, X9, ⟨Lc9, hQ9, l9, y9, z9⟩, st9⟩ := Jvm.LawKit.callS X2 hx (y := mN25) hown (mvT hZ (gw hw 91 rfl)) (mvT hZ (gw hw 92 rfl)) (mvT hZ (gw hw 3 rfl)) (mvT hZ (gw hw 93 rfl)) (by decide) (backOf (W := 0) (rm_fits l Z a0 hw [] t2 p2 T2.heap n0 Z0) hZ (gw hw 93 rfl) (gw hw 3 rfl) (by decide) (by decide)) (g := (mkF m 198 #[.val (.long x0), .second, .val (.long x1), .second, .val (.int x2), .val (.int tl), .val (.int pl), .val (.int t0), .val (.int t1), .val (.int t2), .val (.int p0), .val (.int p1), .val (.int p2), .val (.ref u1), .val (.ref u2), .unset] [(.int p2), (.int t2)])) rfl (by rw [hml]; rfl) (argsL := [(.int t2), (.int p2)]) (rest := []) (lenOf own_pd23 rfl) rfl (w0 (Nat.le_of_eq rfl)) (hb hby at_198) (fun _ _ => ⟨rfl, rfl, (by decide : 12 + 0 ≤ _), (by decide : 32 + 0 ≤ _)⟩)
                dsimp only [Pt.U, Pt.locs, Pt.cells, Pt.slots] at X9 l9 y9 z9 st9 hQ9
                subst l9 y9 z9
                obtain ⟨rfl, N9q, e9⟩ := hQ9
                have N9 := Fr.app N2 N9q
                refine Gs st9 ?_
                show Goes _ _ _ _ _ (T9.setTop (mkF m 201 #[.val (.long x0), .second, .val (.long x1), .second, .val (.int x2), .val (.int tl), .val (.int pl), .val (.int t0), .val (.int t1), .val (.int t2), .val (.int p0), .val (.int p1), .val (.int p2), .val (.ref u1), .val (.ref u2), .unset] [(.int (own_fit2 p2 t2))]))
                by_cases hc201_10 : (own_fit2 p2 t2) = (0 : Int32)
                · refine Gs (fun _ tk => XS.ifYes X9.here hx rfl (pc0 := 201) (pc' := 208) rfl (hb hby at_201) rfl ((if0 _ _).trans (teq hc201_10).1) (by decide) (by decide) tk) ?_
                  refine Gs (fun _ tk => XS.iconst X9.here hx rfl (hb hby at_208) tk) ?_
                  refine Gs (fun _ tk => XS.istore X9.here hx rfl (hb hby at_209) rfl (l' := #[.val (.long x0), .second, .val (.long x1), .second, .val (.int x2), .val (.int tl), .val (.int pl), .val (.int t0), .val (.int t1), .val (.int t2), .val (.int p0), .val (.int p1), .val (.int p2), .val (.ref u1), .val (.ref u2), .val (.int (0 : Int32))]) rfl tk) ?_
                  refine Gs (fun _ tk => XS.aload X9.here hx rfl (hb hby at_211) rfl rfl tk) ?_
                  refine Gs (fun _ tk => XS.aload X9.here hx rfl (hb hby at_213) rfl rfl tk) ?_
                  obtain ⟨_, _, ⟨T11, L11, k11, n11⟩, -, X11, ⟨Lc11, hQ11, l11, y11, z11⟩, st11⟩ := Jvm.LawKit.callS X9 hx (y := mN28) hown (mvT hZ (gw hw 27 rfl)) (mvT hZ (gw hw 28 rfl)) (mvT hZ (gw hw 29 rfl)) (mvT hZ (gw hw 30 rfl)) (by decide) (backOf (W := 0) (rm_mt l Z a0 hw [] u1 u2 (own_str tl t0 t1 t2) (own_str pl p0 p1 p2) cz fo T2.heap n0 Z0 T_u1 T_u2 (by rcases hpl with rfl | rfl | rfl | rfl <;> simp [own_str]) S_COMPACT_STRINGS (by first | assumption | decide) S_SIOOBE_FORMATTER (by first | assumption | decide) S__assertionsDisabled S_HI_BYTE_SHIFT S_LO_BYTE_SHIFT) hZ (gw hw 30 rfl) (gw hw 29 rfl) (by decide) (by decide)) (g := (mkF m 215 #[.val (.long x0), .second, .val (.long x1), .second, .val (.int x2), .val (.int tl), .val (.int pl), .val (.int t0), .val (.int t1), .val (.int t2), .val (.int p0), .val (.int p1), .val (.int p2), .val (.ref u1), .val (.ref u2), .val (.int (0 : Int32))] [(.ref u2), (.ref u1)])) rfl (by rw [hml]; rfl) (argsL := [(.ref u1), (.ref u2)]) (rest := []) (lenOf own_pd21 rfl) rfl (w0 (Nat.le_of_eq rfl)) (hb hby at_215) (fun _ _ => ⟨rfl, e9, (by decide : 12 + 0 ≤ _), (by decide : 32 + 0 ≤ _)⟩)
                  dsimp only [Pt.U, Pt.locs, Pt.cells, Pt.slots] at X11 l11 y11 z11 st11 hQ11
                  subst l11 y11 z11
                  obtain ⟨rfl, N11q, e11⟩ := hQ11
                  have N11 := Fr.app N9 N11q
                  refine Gs st11 ?_
                  show Goes _ _ _ _ _ (T11.setTop (mkF m 218 #[.val (.long x0), .second, .val (.long x1), .second, .val (.int x2), .val (.int tl), .val (.int pl), .val (.int t0), .val (.int t1), .val (.int t2), .val (.int p0), .val (.int p1), .val (.int p2), .val (.ref u1), .val (.ref u2), .val (.int (0 : Int32))] [(.int (own_mt (own_str pl p0 p1 p2) (own_str tl t0 t1 t2)))]))
                  refine Gs (fun _ tk => XS.iload X11.here hx rfl (hb hby at_218) rfl tk) ?_
                  have hc220_12 : (own_mt (own_str pl p0 p1 p2) (own_str tl t0 t1 t2)) = (0 : Int32) := by
                    rcases htl with rfl | rfl | rfl | rfl <;> rcases hpl with rfl | rfl | rfl | rfl <;> first | exact absurd hc153_3 (by decide) | exact absurd hc159_4 (by decide) | exact absurd hc175_5 (by decide) | exact absurd hc191_6 (by decide) | simp +decide [own_mt, own_sw, own_str, hc201_10]
                  refine Gs (fun _ tk => XS.icmpNo X11.here hx rfl (hb hby at_220) rfl (teq hc220_12).2 tk) ?_
                  refine Gs (fun _ tk => XS.iconst X11.here hx rfl (hb hby at_223) tk) ?_
                  refine Gs (fun _ tk => XS.goto X11.here hx rfl (pc0 := 224) (pc' := 228) rfl (hb hby at_224) (by decide) (by decide) tk) ?_
                  refine Goes.retH X11 hS e11 hk hZ (own_EW hw) hh hR (some (.int (1 : Int32))) (fun h => by rw [hret] at h; cases h) hlk (by decide) (by decide) ?_ (fun fs hr => ?_)
                  · rw [e11]; exact ⟨rfl, N11⟩
                  · exact own_retN X11 hx (t := .boolean) hret (by simp) rfl (hb hby at_228) hr
                · refine Gs (fun _ tk => XS.ifNo X9.here hx rfl (hb hby at_201) rfl ((if0 _ _).trans (feq hc201_10).1) tk) ?_
                  refine Gs (fun _ tk => XS.iconst X9.here hx rfl (hb hby at_204) tk) ?_
                  refine Gs (fun _ tk => XS.goto X9.here hx rfl (pc0 := 205) (pc' := 209) rfl (hb hby at_205) (by decide) (by decide) tk) ?_
                  refine Gs (fun _ tk => XS.istore X9.here hx rfl (hb hby at_209) rfl (l' := #[.val (.long x0), .second, .val (.long x1), .second, .val (.int x2), .val (.int tl), .val (.int pl), .val (.int t0), .val (.int t1), .val (.int t2), .val (.int p0), .val (.int p1), .val (.int p2), .val (.ref u1), .val (.ref u2), .val (.int (1 : Int32))]) rfl tk) ?_
                  refine Gs (fun _ tk => XS.aload X9.here hx rfl (hb hby at_211) rfl rfl tk) ?_
                  refine Gs (fun _ tk => XS.aload X9.here hx rfl (hb hby at_213) rfl rfl tk) ?_
                  show Goes _ _ _ _ _ (T9.setTop (mkF m 215 #[.val (.long x0), .second, .val (.long x1), .second, .val (.int x2), .val (.int tl), .val (.int pl), .val (.int t0), .val (.int t1), .val (.int t2), .val (.int p0), .val (.int p1), .val (.int p2), .val (.ref u1), .val (.ref u2), .val (.int (1 : Int32))] [(.ref u2), (.ref u1)]))
                  obtain ⟨_, _, ⟨T13, L13, k13, n13⟩, -, X13, ⟨Lc13, hQ13, l13, y13, z13⟩, st13⟩ := Jvm.LawKit.callS X9 hx (y := mN28) hown (mvT hZ (gw hw 27 rfl)) (mvT hZ (gw hw 28 rfl)) (mvT hZ (gw hw 29 rfl)) (mvT hZ (gw hw 30 rfl)) (by decide) (backOf (W := 0) (rm_mt l Z a0 hw [] u1 u2 (own_str tl t0 t1 t2) (own_str pl p0 p1 p2) cz fo T2.heap n0 Z0 T_u1 T_u2 (by rcases hpl with rfl | rfl | rfl | rfl <;> simp [own_str]) S_COMPACT_STRINGS (by first | assumption | decide) S_SIOOBE_FORMATTER (by first | assumption | decide) S__assertionsDisabled S_HI_BYTE_SHIFT S_LO_BYTE_SHIFT) hZ (gw hw 30 rfl) (gw hw 29 rfl) (by decide) (by decide)) (g := (mkF m 215 #[.val (.long x0), .second, .val (.long x1), .second, .val (.int x2), .val (.int tl), .val (.int pl), .val (.int t0), .val (.int t1), .val (.int t2), .val (.int p0), .val (.int p1), .val (.int p2), .val (.ref u1), .val (.ref u2), .val (.int (1 : Int32))] [(.ref u2), (.ref u1)])) rfl (by rw [hml]; rfl) (argsL := [(.ref u1), (.ref u2)]) (rest := []) (lenOf own_pd21 rfl) rfl (w0 (Nat.le_of_eq rfl)) (hb hby at_215) (fun _ _ => ⟨rfl, e9, (by decide : 12 + 0 ≤ _), (by decide : 32 + 0 ≤ _)⟩)
                  dsimp only [Pt.U, Pt.locs, Pt.cells, Pt.slots] at X13 l13 y13 z13 st13 hQ13
                  subst l13 y13 z13
                  obtain ⟨rfl, N13q, e13⟩ := hQ13
                  have N13 := Fr.app N9 N13q
                  refine Gs st13 ?_
                  show Goes _ _ _ _ _ (T13.setTop (mkF m 218 #[.val (.long x0), .second, .val (.long x1), .second, .val (.int x2), .val (.int tl), .val (.int pl), .val (.int t0), .val (.int t1), .val (.int t2), .val (.int p0), .val (.int p1), .val (.int p2), .val (.ref u1), .val (.ref u2), .val (.int (1 : Int32))] [(.int (own_mt (own_str pl p0 p1 p2) (own_str tl t0 t1 t2)))]))
                  refine Gs (fun _ tk => XS.iload X13.here hx rfl (hb hby at_218) rfl tk) ?_
                  have hc220_14 : (own_mt (own_str pl p0 p1 p2) (own_str tl t0 t1 t2)) = (1 : Int32) := by
                    rcases htl with rfl | rfl | rfl | rfl <;> rcases hpl with rfl | rfl | rfl | rfl <;> first | exact absurd hc153_3 (by decide) | exact absurd hc159_4 (by decide) | exact absurd hc175_5 (by decide) | exact absurd hc191_6 (by decide) | simp +decide [own_mt, own_sw, own_str, hc201_10]
                  refine Gs (fun _ tk => XS.icmpNo X13.here hx rfl (hb hby at_220) rfl (teq hc220_14).2 tk) ?_
                  refine Gs (fun _ tk => XS.iconst X13.here hx rfl (hb hby at_223) tk) ?_
                  refine Gs (fun _ tk => XS.goto X13.here hx rfl (pc0 := 224) (pc' := 228) rfl (hb hby at_224) (by decide) (by decide) tk) ?_
                  refine Goes.retH X13 hS e13 hk hZ (own_EW hw) hh hR (some (.int (1 : Int32))) (fun h => by rw [hret] at h; cases h) hlk (by decide) (by decide) ?_ (fun fs hr => ?_)
                  · rw [e13]; exact ⟨rfl, N13⟩
                  · exact own_retN X13 hx (t := .boolean) hret (by simp) rfl (hb hby at_228) hr
            · refine Gs (fun _ tk => XS.icmpNo X2.here hx rfl (hb hby at_175) rfl (flt hc175_5).1 tk) ?_
              refine Gs (fun _ tk => XS.iload X2.here hx rfl (hb hby at_178) rfl tk) ?_
              refine Gs (fun _ tk => XS.iload X2.here hx rfl (hb hby at_180) rfl tk) ?_
              show Goes _ _ _ _ _ (T2.setTop (mkF m 182 #[.val (.long x0), .second, .val (.long x1), .second, .val (.int x2), .val (.int tl), .val (.int pl), .val (.int t0), .val (.int t1), .val (.int t2), .val (.int p0), .val (.int p1), .val (.int p2), .val (.ref u1), .val (.ref u2), .unset] [(.int p1), (.int t1)]))
              obtain ⟨_, _, ⟨T15, L15, k15, n15⟩, -, X15, ⟨Lc15, hQ15, l15, y15, z15⟩, st15⟩ := Jvm.LawKit.callS X2 hx (y := mN25) hown (mvT hZ (gw hw 91 rfl)) (mvT hZ (gw hw 92 rfl)) (mvT hZ (gw hw 3 rfl)) (mvT hZ (gw hw 93 rfl)) (by decide) (backOf (W := 0) (rm_fits l Z a0 hw [] t1 p1 T2.heap n0 Z0) hZ (gw hw 93 rfl) (gw hw 3 rfl) (by decide) (by decide)) (g := (mkF m 182 #[.val (.long x0), .second, .val (.long x1), .second, .val (.int x2), .val (.int tl), .val (.int pl), .val (.int t0), .val (.int t1), .val (.int t2), .val (.int p0), .val (.int p1), .val (.int p2), .val (.ref u1), .val (.ref u2), .unset] [(.int p1), (.int t1)])) rfl (by rw [hml]; rfl) (argsL := [(.int t1), (.int p1)]) (rest := []) (lenOf own_pd23 rfl) rfl (w0 (Nat.le_of_eq rfl)) (hb hby at_182) (fun _ _ => ⟨rfl, rfl, (by decide : 12 + 0 ≤ _), (by decide : 32 + 0 ≤ _)⟩)
              dsimp only [Pt.U, Pt.locs, Pt.cells, Pt.slots] at X15 l15 y15 z15 st15 hQ15
              subst l15 y15 z15
              obtain ⟨rfl, N15q, e15⟩ := hQ15
              have N15 := Fr.app N2 N15q
              refine Gs st15 ?_
              show Goes _ _ _ _ _ (T15.setTop (mkF m 185 #[.val (.long x0), .second, .val (.long x1), .second, .val (.int x2), .val (.int tl), .val (.int pl), .val (.int t0), .val (.int t1), .val (.int t2), .val (.int p0), .val (.int p1), .val (.int p2), .val (.ref u1), .val (.ref u2), .unset] [(.int (own_fit2 p1 t1))]))
              by_cases hc185_16 : (own_fit2 p1 t1) = (0 : Int32)
              · refine Gs (fun _ tk => XS.ifYes X15.here hx rfl (pc0 := 185) (pc' := 208) rfl (hb hby at_185) rfl ((if0 _ _).trans (teq hc185_16).1) (by decide) (by decide) tk) ?_
                refine Gs (fun _ tk => XS.iconst X15.here hx rfl (hb hby at_208) tk) ?_
                refine Gs (fun _ tk => XS.istore X15.here hx rfl (hb hby at_209) rfl (l' := #[.val (.long x0), .second, .val (.long x1), .second, .val (.int x2), .val (.int tl), .val (.int pl), .val (.int t0), .val (.int t1), .val (.int t2), .val (.int p0), .val (.int p1), .val (.int p2), .val (.ref u1), .val (.ref u2), .val (.int (0 : Int32))]) rfl tk) ?_
                refine Gs (fun _ tk => XS.aload X15.here hx rfl (hb hby at_211) rfl rfl tk) ?_
                refine Gs (fun _ tk => XS.aload X15.here hx rfl (hb hby at_213) rfl rfl tk) ?_
                obtain ⟨_, _, ⟨T17, L17, k17, n17⟩, -, X17, ⟨Lc17, hQ17, l17, y17, z17⟩, st17⟩ := Jvm.LawKit.callS X15 hx (y := mN28) hown (mvT hZ (gw hw 27 rfl)) (mvT hZ (gw hw 28 rfl)) (mvT hZ (gw hw 29 rfl)) (mvT hZ (gw hw 30 rfl)) (by decide) (backOf (W := 0) (rm_mt l Z a0 hw [] u1 u2 (own_str tl t0 t1 t2) (own_str pl p0 p1 p2) cz fo T2.heap n0 Z0 T_u1 T_u2 (by rcases hpl with rfl | rfl | rfl | rfl <;> simp [own_str]) S_COMPACT_STRINGS (by first | assumption | decide) S_SIOOBE_FORMATTER (by first | assumption | decide) S__assertionsDisabled S_HI_BYTE_SHIFT S_LO_BYTE_SHIFT) hZ (gw hw 30 rfl) (gw hw 29 rfl) (by decide) (by decide)) (g := (mkF m 215 #[.val (.long x0), .second, .val (.long x1), .second, .val (.int x2), .val (.int tl), .val (.int pl), .val (.int t0), .val (.int t1), .val (.int t2), .val (.int p0), .val (.int p1), .val (.int p2), .val (.ref u1), .val (.ref u2), .val (.int (0 : Int32))] [(.ref u2), (.ref u1)])) rfl (by rw [hml]; rfl) (argsL := [(.ref u1), (.ref u2)]) (rest := []) (lenOf own_pd21 rfl) rfl (w0 (Nat.le_of_eq rfl)) (hb hby at_215) (fun _ _ => ⟨rfl, e15, (by decide : 12 + 0 ≤ _), (by decide : 32 + 0 ≤ _)⟩)
                dsimp only [Pt.U, Pt.locs, Pt.cells, Pt.slots] at X17 l17 y17 z17 st17 hQ17
                subst l17 y17 z17
                obtain ⟨rfl, N17q, e17⟩ := hQ17
                have N17 := Fr.app N15 N17q
                refine Gs st17 ?_
                show Goes _ _ _ _ _ (T17.setTop (mkF m 218 #[.val (.long x0), .second, .val (.long x1), .second, .val (.int x2), .val (.int tl), .val (.int pl), .val (.int t0), .val (.int t1), .val (.int t2), .val (.int p0), .val (.int p1), .val (.int p2), .val (.ref u1), .val (.ref u2), .val (.int (0 : Int32))] [(.int (own_mt (own_str pl p0 p1 p2) (own_str tl t0 t1 t2)))]))
                refine Gs (fun _ tk => XS.iload X17.here hx rfl (hb hby at_218) rfl tk) ?_
                have hc220_18 : (own_mt (own_str pl p0 p1 p2) (own_str tl t0 t1 t2)) = (0 : Int32) := by
                  rcases htl with rfl | rfl | rfl | rfl <;> rcases hpl with rfl | rfl | rfl | rfl <;> first | exact absurd hc153_3 (by decide) | exact absurd hc159_4 (by decide) | exact absurd hc175_5 (by decide) | simp +decide [own_mt, own_sw, own_str, hc185_16]
                refine Gs (fun _ tk => XS.icmpNo X17.here hx rfl (hb hby at_220) rfl (teq hc220_18).2 tk) ?_
                refine Gs (fun _ tk => XS.iconst X17.here hx rfl (hb hby at_223) tk) ?_
                refine Gs (fun _ tk => XS.goto X17.here hx rfl (pc0 := 224) (pc' := 228) rfl (hb hby at_224) (by decide) (by decide) tk) ?_
                refine Goes.retH X17 hS e17 hk hZ (own_EW hw) hh hR (some (.int (1 : Int32))) (fun h => by rw [hret] at h; cases h) hlk (by decide) (by decide) ?_ (fun fs hr => ?_)
                · rw [e17]; exact ⟨rfl, N17⟩
                · exact own_retN X17 hx (t := .boolean) hret (by simp) rfl (hb hby at_228) hr
              · refine Gs (fun _ tk => XS.ifNo X15.here hx rfl (hb hby at_185) rfl ((if0 _ _).trans (feq hc185_16).1) tk) ?_
                refine Gs (fun _ tk => XS.iload X15.here hx rfl (hb hby at_188) rfl tk) ?_
                refine Gs (fun _ tk => XS.iconst X15.here hx rfl (hb hby at_190) tk) ?_
                by_cases hc191_19 : pl < (3 : Int32)
                · refine Gs (fun _ tk => XS.icmpYes X15.here hx rfl (pc0 := 191) (pc' := 204) rfl (hb hby at_191) rfl (tlt hc191_19).1 (by decide) (by decide) tk) ?_
                  refine Gs (fun _ tk => XS.iconst X15.here hx rfl (hb hby at_204) tk) ?_
                  refine Gs (fun _ tk => XS.goto X15.here hx rfl (pc0 := 205) (pc' := 209) rfl (hb hby at_205) (by decide) (by decide) tk) ?_
                  show Goes _ _ _ _ _ (T15.setTop (mkF m 209 #[.val (.long x0), .second, .val (.long x1), .second, .val (.int x2), .val (.int tl), .val (.int pl), .val (.int t0), .val (.int t1), .val (.int t2), .val (.int p0), .val (.int p1), .val (.int p2), .val (.ref u1), .val (.ref u2), .unset] [(.int (1 : Int32))]))
                  refine Gs (fun _ tk => XS.istore X15.here hx rfl (hb hby at_209) rfl (l' := #[.val (.long x0), .second, .val (.long x1), .second, .val (.int x2), .val (.int tl), .val (.int pl), .val (.int t0), .val (.int t1), .val (.int t2), .val (.int p0), .val (.int p1), .val (.int p2), .val (.ref u1), .val (.ref u2), .val (.int (1 : Int32))]) rfl tk) ?_
                  refine Gs (fun _ tk => XS.aload X15.here hx rfl (hb hby at_211) rfl rfl tk) ?_
                  refine Gs (fun _ tk => XS.aload X15.here hx rfl (hb hby at_213) rfl rfl tk) ?_
                  obtain ⟨_, _, ⟨T20, L20, k20, n20⟩, -, X20, ⟨Lc20, hQ20, l20, y20, z20⟩, st20⟩ := Jvm.LawKit.callS X15 hx (y := mN28) hown (mvT hZ (gw hw 27 rfl)) (mvT hZ (gw hw 28 rfl)) (mvT hZ (gw hw 29 rfl)) (mvT hZ (gw hw 30 rfl)) (by decide) (backOf (W := 0) (rm_mt l Z a0 hw [] u1 u2 (own_str tl t0 t1 t2) (own_str pl p0 p1 p2) cz fo T2.heap n0 Z0 T_u1 T_u2 (by rcases hpl with rfl | rfl | rfl | rfl <;> simp [own_str]) S_COMPACT_STRINGS (by first | assumption | decide) S_SIOOBE_FORMATTER (by first | assumption | decide) S__assertionsDisabled S_HI_BYTE_SHIFT S_LO_BYTE_SHIFT) hZ (gw hw 30 rfl) (gw hw 29 rfl) (by decide) (by decide)) (g := (mkF m 215 #[.val (.long x0), .second, .val (.long x1), .second, .val (.int x2), .val (.int tl), .val (.int pl), .val (.int t0), .val (.int t1), .val (.int t2), .val (.int p0), .val (.int p1), .val (.int p2), .val (.ref u1), .val (.ref u2), .val (.int (1 : Int32))] [(.ref u2), (.ref u1)])) rfl (by rw [hml]; rfl) (argsL := [(.ref u1), (.ref u2)]) (rest := []) (lenOf own_pd21 rfl) rfl (w0 (Nat.le_of_eq rfl)) (hb hby at_215) (fun _ _ => ⟨rfl, e15, (by decide : 12 + 0 ≤ _), (by decide : 32 + 0 ≤ _)⟩)
                  dsimp only [Pt.U, Pt.locs, Pt.cells, Pt.slots] at X20 l20 y20 z20 st20 hQ20
                  subst l20 y20 z20
                  obtain ⟨rfl, N20q, e20⟩ := hQ20
                  have N20 := Fr.app N15 N20q
                  refine Gs st20 ?_
                  show Goes _ _ _ _ _ (T20.setTop (mkF m 218 #[.val (.long x0), .second, .val (.long x1), .second, .val (.int x2), .val (.int tl), .val (.int pl), .val (.int t0), .val (.int t1), .val (.int t2), .val (.int p0), .val (.int p1), .val (.int p2), .val (.ref u1), .val (.ref u2), .val (.int (1 : Int32))] [(.int (own_mt (own_str pl p0 p1 p2) (own_str tl t0 t1 t2)))]))
                  refine Gs (fun _ tk => XS.iload X20.here hx rfl (hb hby at_218) rfl tk) ?_
                  have hc220_21 : (own_mt (own_str pl p0 p1 p2) (own_str tl t0 t1 t2)) = (1 : Int32) := by
                    rcases htl with rfl | rfl | rfl | rfl <;> rcases hpl with rfl | rfl | rfl | rfl <;> first | exact absurd hc153_3 (by decide) | exact absurd hc159_4 (by decide) | exact absurd hc175_5 (by decide) | exact absurd hc191_19 (by decide) | simp +decide [own_mt, own_sw, own_str, hc185_16]
                  refine Gs (fun _ tk => XS.icmpNo X20.here hx rfl (hb hby at_220) rfl (teq hc220_21).2 tk) ?_
                  refine Gs (fun _ tk => XS.iconst X20.here hx rfl (hb hby at_223) tk) ?_
                  refine Gs (fun _ tk => XS.goto X20.here hx rfl (pc0 := 224) (pc' := 228) rfl (hb hby at_224) (by decide) (by decide) tk) ?_
                  refine Goes.retH X20 hS e20 hk hZ (own_EW hw) hh hR (some (.int (1 : Int32))) (fun h => by rw [hret] at h; cases h) hlk (by decide) (by decide) ?_ (fun fs hr => ?_)
                  · rw [e20]; exact ⟨rfl, N20⟩
                  · exact own_retN X20 hx (t := .boolean) hret (by simp) rfl (hb hby at_228) hr
                · refine Gs (fun _ tk => XS.icmpNo X15.here hx rfl (hb hby at_191) rfl (flt hc191_19).1 tk) ?_
                  refine Gs (fun _ tk => XS.iload X15.here hx rfl (hb hby at_194) rfl tk) ?_
                  refine Gs (fun _ tk => XS.iload X15.here hx rfl (hb hby at_196) rfl tk) ?_
                  show Goes _ _ _ _ _ (T15.setTop (mkF m 198 #[.val (.long x0), .second, .val (.long x1), .second, .val (.int x2), .val (.int tl), .val (.int pl), .val (.int t0), .val (.int t1), .val (.int t2), .val (.int p0), .val (.int p1), .val (.int p2), .val (.ref u1), .val (.ref u2), .unset] [(.int p2), (.int t2)]))
                  obtain ⟨_, _, ⟨T22, L22, k22, n22⟩, -, X22, ⟨Lc22, hQ22, l22, y22, z22⟩, st22⟩ := Jvm.LawKit.callS X15 hx (y := mN25) hown (mvT hZ (gw hw 91 rfl)) (mvT hZ (gw hw 92 rfl)) (mvT hZ (gw hw 3 rfl)) (mvT hZ (gw hw 93 rfl)) (by decide) (backOf (W := 0) (rm_fits l Z a0 hw [] t2 p2 T2.heap n0 Z0) hZ (gw hw 93 rfl) (gw hw 3 rfl) (by decide) (by decide)) (g := (mkF m 198 #[.val (.long x0), .second, .val (.long x1), .second, .val (.int x2), .val (.int tl), .val (.int pl), .val (.int t0), .val (.int t1), .val (.int t2), .val (.int p0), .val (.int p1), .val (.int p2), .val (.ref u1), .val (.ref u2), .unset] [(.int p2), (.int t2)])) rfl (by rw [hml]; rfl) (argsL := [(.int t2), (.int p2)]) (rest := []) (lenOf own_pd23 rfl) rfl (w0 (Nat.le_of_eq rfl)) (hb hby at_198) (fun _ _ => ⟨rfl, e15, (by decide : 12 + 0 ≤ _), (by decide : 32 + 0 ≤ _)⟩)
                  dsimp only [Pt.U, Pt.locs, Pt.cells, Pt.slots] at X22 l22 y22 z22 st22 hQ22
                  subst l22 y22 z22
                  obtain ⟨rfl, N22q, e22⟩ := hQ22
                  have N22 := Fr.app N15 N22q
                  refine Gs st22 ?_
                  show Goes _ _ _ _ _ (T22.setTop (mkF m 201 #[.val (.long x0), .second, .val (.long x1), .second, .val (.int x2), .val (.int tl), .val (.int pl), .val (.int t0), .val (.int t1), .val (.int t2), .val (.int p0), .val (.int p1), .val (.int p2), .val (.ref u1), .val (.ref u2), .unset] [(.int (own_fit2 p2 t2))]))
                  by_cases hc201_23 : (own_fit2 p2 t2) = (0 : Int32)
                  · refine Gs (fun _ tk => XS.ifYes X22.here hx rfl (pc0 := 201) (pc' := 208) rfl (hb hby at_201) rfl ((if0 _ _).trans (teq hc201_23).1) (by decide) (by decide) tk) ?_
                    refine Gs (fun _ tk => XS.iconst X22.here hx rfl (hb hby at_208) tk) ?_
                    refine Gs (fun _ tk => XS.istore X22.here hx rfl (hb hby at_209) rfl (l' := #[.val (.long x0), .second, .val (.long x1), .second, .val (.int x2), .val (.int tl), .val (.int pl), .val (.int t0), .val (.int t1), .val (.int t2), .val (.int p0), .val (.int p1), .val (.int p2), .val (.ref u1), .val (.ref u2), .val (.int (0 : Int32))]) rfl tk) ?_
                    refine Gs (fun _ tk => XS.aload X22.here hx rfl (hb hby at_211) rfl rfl tk) ?_
                    refine Gs (fun _ tk => XS.aload X22.here hx rfl (hb hby at_213) rfl rfl tk) ?_
                    obtain ⟨_, _, ⟨T24, L24, k24, n24⟩, -, X24, ⟨Lc24, hQ24, l24, y24, z24⟩, st24⟩ := Jvm.LawKit.callS X22 hx (y := mN28) hown (mvT hZ (gw hw 27 rfl)) (mvT hZ (gw hw 28 rfl)) (mvT hZ (gw hw 29 rfl)) (mvT hZ (gw hw 30 rfl)) (by decide) (backOf (W := 0) (rm_mt l Z a0 hw [] u1 u2 (own_str tl t0 t1 t2) (own_str pl p0 p1 p2) cz fo T2.heap n0 Z0 T_u1 T_u2 (by rcases hpl with rfl | rfl | rfl | rfl <;> simp [own_str]) S_COMPACT_STRINGS (by first | assumption | decide) S_SIOOBE_FORMATTER (by first | assumption | decide) S__assertionsDisabled S_HI_BYTE_SHIFT S_LO_BYTE_SHIFT) hZ (gw hw 30 rfl) (gw hw 29 rfl) (by decide) (by decide)) (g := (mkF m 215 #[.val (.long x0), .second, .val (.long x1), .second, .val (.int x2), .val (.int tl), .val (.int pl), .val (.int t0), .val (.int t1), .val (.int t2), .val (.int p0), .val (.int p1), .val (.int p2), .val (.ref u1), .val (.ref u2), .val (.int (0 : Int32))] [(.ref u2), (.ref u1)])) rfl (by rw [hml]; rfl) (argsL := [(.ref u1), (.ref u2)]) (rest := []) (lenOf own_pd21 rfl) rfl (w0 (Nat.le_of_eq rfl)) (hb hby at_215) (fun _ _ => ⟨rfl, e22, (by decide : 12 + 0 ≤ _), (by decide : 32 + 0 ≤ _)⟩)
                    dsimp only [Pt.U, Pt.locs, Pt.cells, Pt.slots] at X24 l24 y24 z24 st24 hQ24
                    subst l24 y24 z24
                    obtain ⟨rfl, N24q, e24⟩ := hQ24
                    have N24 := Fr.app N22 N24q
                    refine Gs st24 ?_
                    show Goes _ _ _ _ _ (T24.setTop (mkF m 218 #[.val (.long x0), .second, .val (.long x1), .second, .val (.int x2), .val (.int tl), .val (.int pl), .val (.int t0), .val (.int t1), .val (.int t2), .val (.int p0), .val (.int p1), .val (.int p2), .val (.ref u1), .val (.ref u2), .val (.int (0 : Int32))] [(.int (own_mt (own_str pl p0 p1 p2) (own_str tl t0 t1 t2)))]))
                    refine Gs (fun _ tk => XS.iload X24.here hx rfl (hb hby at_218) rfl tk) ?_
                    have hc220_25 : (own_mt (own_str pl p0 p1 p2) (own_str tl t0 t1 t2)) = (0 : Int32) := by
                      rcases htl with rfl | rfl | rfl | rfl <;> rcases hpl with rfl | rfl | rfl | rfl <;> first | exact absurd hc153_3 (by decide) | exact absurd hc159_4 (by decide) | exact absurd hc175_5 (by decide) | exact absurd hc191_19 (by decide) | simp +decide [own_mt, own_sw, own_str, hc185_16, hc201_23]
                    refine Gs (fun _ tk => XS.icmpNo X24.here hx rfl (hb hby at_220) rfl (teq hc220_25).2 tk) ?_
                    refine Gs (fun _ tk => XS.iconst X24.here hx rfl (hb hby at_223) tk) ?_
                    refine Gs (fun _ tk => XS.goto X24.here hx rfl (pc0 := 224) (pc' := 228) rfl (hb hby at_224) (by decide) (by decide) tk) ?_
                    refine Goes.retH X24 hS e24 hk hZ (own_EW hw) hh hR (some (.int (1 : Int32))) (fun h => by rw [hret] at h; cases h) hlk (by decide) (by decide) ?_ (fun fs hr => ?_)
                    · rw [e24]; exact ⟨rfl, N24⟩
                    · exact own_retN X24 hx (t := .boolean) hret (by simp) rfl (hb hby at_228) hr
                  · refine Gs (fun _ tk => XS.ifNo X22.here hx rfl (hb hby at_201) rfl ((if0 _ _).trans (feq hc201_23).1) tk) ?_
                    refine Gs (fun _ tk => XS.iconst X22.here hx rfl (hb hby at_204) tk) ?_
                    refine Gs (fun _ tk => XS.goto X22.here hx rfl (pc0 := 205) (pc' := 209) rfl (hb hby at_205) (by decide) (by decide) tk) ?_
                    refine Gs (fun _ tk => XS.istore X22.here hx rfl (hb hby at_209) rfl (l' := #[.val (.long x0), .second, .val (.long x1), .second, .val (.int x2), .val (.int tl), .val (.int pl), .val (.int t0), .val (.int t1), .val (.int t2), .val (.int p0), .val (.int p1), .val (.int p2), .val (.ref u1), .val (.ref u2), .val (.int (1 : Int32))]) rfl tk) ?_
                    refine Gs (fun _ tk => XS.aload X22.here hx rfl (hb hby at_211) rfl rfl tk) ?_
                    refine Gs (fun _ tk => XS.aload X22.here hx rfl (hb hby at_213) rfl rfl tk) ?_
                    show Goes _ _ _ _ _ (T22.setTop (mkF m 215 #[.val (.long x0), .second, .val (.long x1), .second, .val (.int x2), .val (.int tl), .val (.int pl), .val (.int t0), .val (.int t1), .val (.int t2), .val (.int p0), .val (.int p1), .val (.int p2), .val (.ref u1), .val (.ref u2), .val (.int (1 : Int32))] [(.ref u2), (.ref u1)]))
                    obtain ⟨_, _, ⟨T26, L26, k26, n26⟩, -, X26, ⟨Lc26, hQ26, l26, y26, z26⟩, st26⟩ := Jvm.LawKit.callS X22 hx (y := mN28) hown (mvT hZ (gw hw 27 rfl)) (mvT hZ (gw hw 28 rfl)) (mvT hZ (gw hw 29 rfl)) (mvT hZ (gw hw 30 rfl)) (by decide) (backOf (W := 0) (rm_mt l Z a0 hw [] u1 u2 (own_str tl t0 t1 t2) (own_str pl p0 p1 p2) cz fo T2.heap n0 Z0 T_u1 T_u2 (by rcases hpl with rfl | rfl | rfl | rfl <;> simp [own_str]) S_COMPACT_STRINGS (by first | assumption | decide) S_SIOOBE_FORMATTER (by first | assumption | decide) S__assertionsDisabled S_HI_BYTE_SHIFT S_LO_BYTE_SHIFT) hZ (gw hw 30 rfl) (gw hw 29 rfl) (by decide) (by decide)) (g := (mkF m 215 #[.val (.long x0), .second, .val (.long x1), .second, .val (.int x2), .val (.int tl), .val (.int pl), .val (.int t0), .val (.int t1), .val (.int t2), .val (.int p0), .val (.int p1), .val (.int p2), .val (.ref u1), .val (.ref u2), .val (.int (1 : Int32))] [(.ref u2), (.ref u1)])) rfl (by rw [hml]; rfl) (argsL := [(.ref u1), (.ref u2)]) (rest := []) (lenOf own_pd21 rfl) rfl (w0 (Nat.le_of_eq rfl)) (hb hby at_215) (fun _ _ => ⟨rfl, e22, (by decide : 12 + 0 ≤ _), (by decide : 32 + 0 ≤ _)⟩)
                    dsimp only [Pt.U, Pt.locs, Pt.cells, Pt.slots] at X26 l26 y26 z26 st26 hQ26
                    subst l26 y26 z26
                    obtain ⟨rfl, N26q, e26⟩ := hQ26
                    have N26 := Fr.app N22 N26q
                    refine Gs st26 ?_
                    show Goes _ _ _ _ _ (T26.setTop (mkF m 218 #[.val (.long x0), .second, .val (.long x1), .second, .val (.int x2), .val (.int tl), .val (.int pl), .val (.int t0), .val (.int t1), .val (.int t2), .val (.int p0), .val (.int p1), .val (.int p2), .val (.ref u1), .val (.ref u2), .val (.int (1 : Int32))] [(.int (own_mt (own_str pl p0 p1 p2) (own_str tl t0 t1 t2)))]))
                    refine Gs (fun _ tk => XS.iload X26.here hx rfl (hb hby at_218) rfl tk) ?_
                    have hc220_27 : (own_mt (own_str pl p0 p1 p2) (own_str tl t0 t1 t2)) = (1 : Int32) := by
                      rcases htl with rfl | rfl | rfl | rfl <;> rcases hpl with rfl | rfl | rfl | rfl <;> first | exact absurd hc153_3 (by decide) | exact absurd hc159_4 (by decide) | exact absurd hc175_5 (by decide) | exact absurd hc191_19 (by decide) | simp +decide [own_mt, own_sw, own_str, hc185_16, hc201_23]
                    refine Gs (fun _ tk => XS.icmpNo X26.here hx rfl (hb hby at_220) rfl (teq hc220_27).2 tk) ?_
                    refine Gs (fun _ tk => XS.iconst X26.here hx rfl (hb hby at_223) tk) ?_
                    refine Gs (fun _ tk => XS.goto X26.here hx rfl (pc0 := 224) (pc' := 228) rfl (hb hby at_224) (by decide) (by decide) tk) ?_
                    refine Goes.retH X26 hS e26 hk hZ (own_EW hw) hh hR (some (.int (1 : Int32))) (fun h => by rw [hret] at h; cases h) hlk (by decide) (by decide) ?_ (fun fs hr => ?_)
                    · rw [e26]; exact ⟨rfl, N26⟩
                    · exact own_retN X26 hx (t := .boolean) hret (by simp) rfl (hb hby at_228) hr
          · refine Gs (fun _ tk => XS.icmpNo X2.here hx rfl (hb hby at_159) rfl (flt hc159_4).1 tk) ?_
            refine Gs (fun _ tk => XS.iload X2.here hx rfl (hb hby at_162) rfl tk) ?_
            refine Gs (fun _ tk => XS.iload X2.here hx rfl (hb hby at_164) rfl tk) ?_
            obtain ⟨_, _, ⟨T28, L28, k28, n28⟩, -, X28, ⟨Lc28, hQ28, l28, y28, z28⟩, st28⟩ := Jvm.LawKit.callS X2 hx (y := mN25) hown (mvT hZ (gw hw 91 rfl)) (mvT hZ (gw hw 92 rfl)) (mvT hZ (gw hw 3 rfl)) (mvT hZ (gw hw 93 rfl)) (by decide) (backOf (W := 0) (rm_fits l Z a0 hw [] t0 p0 T2.heap n0 Z0) hZ (gw hw 93 rfl) (gw hw 3 rfl) (by decide) (by decide)) (g := (mkF m 166 #[.val (.long x0), .second, .val (.long x1), .second, .val (.int x2), .val (.int tl), .val (.int pl), .val (.int t0), .val (.int t1), .val (.int t2), .val (.int p0), .val (.int p1), .val (.int p2), .val (.ref u1), .val (.ref u2), .unset] [(.int p0), (.int t0)])) rfl (by rw [hml]; rfl) (argsL := [(.int t0), (.int p0)]) (rest := []) (lenOf own_pd23 rfl) rfl (w0 (Nat.le_of_eq rfl)) (hb hby at_166) (fun _ _ => ⟨rfl, rfl, (by decide : 12 + 0 ≤ _), (by decide : 32 + 0 ≤ _)⟩)
            dsimp only [Pt.U, Pt.locs, Pt.cells, Pt.slots] at X28 l28 y28 z28 st28 hQ28
            subst l28 y28 z28
            obtain ⟨rfl, N28q, e28⟩ := hQ28
            have N28 := Fr.app N2 N28q
            refine Gs st28 ?_
            show Goes _ _ _ _ _ (T28.setTop (mkF m 169 #[.val (.long x0), .second, .val (.long x1), .second, .val (.int x2), .val (.int tl), .val (.int pl), .val (.int t0), .val (.int t1), .val (.int t2), .val (.int p0), .val (.int p1), .val (.int p2), .val (.ref u1), .val (.ref u2), .unset] [(.int (own_fit2 p0 t0))]))
            by_cases hc169_29 : (own_fit2 p0 t0) = (0 : Int32)
            · refine Gs (fun _ tk => XS.ifYes X28.here hx rfl (pc0 := 169) (pc' := 208) rfl (hb hby at_169) rfl ((if0 _ _).trans (teq hc169_29).1) (by decide) (by decide) tk) ?_
              refine Gs (fun _ tk => XS.iconst X28.here hx rfl (hb hby at_208) tk) ?_
              refine Gs (fun _ tk => XS.istore X28.here hx rfl (hb hby at_209) rfl (l' := #[.val (.long x0), .second, .val (.long x1), .second, .val (.int x2), .val (.int tl), .val (.int pl), .val (.int t0), .val (.int t1), .val (.int t2), .val (.int p0), .val (.int p1), .val (.int p2), .val (.ref u1), .val (.ref u2), .val (.int (0 : Int32))]) rfl tk) ?_
              refine Gs (fun _ tk => XS.aload X28.here hx rfl (hb hby at_211) rfl rfl tk) ?_
              refine Gs (fun _ tk => XS.aload X28.here hx rfl (hb hby at_213) rfl rfl tk) ?_
              obtain ⟨_, _, ⟨T30, L30, k30, n30⟩, -, X30, ⟨Lc30, hQ30, l30, y30, z30⟩, st30⟩ := Jvm.LawKit.callS X28 hx (y := mN28) hown (mvT hZ (gw hw 27 rfl)) (mvT hZ (gw hw 28 rfl)) (mvT hZ (gw hw 29 rfl)) (mvT hZ (gw hw 30 rfl)) (by decide) (backOf (W := 0) (rm_mt l Z a0 hw [] u1 u2 (own_str tl t0 t1 t2) (own_str pl p0 p1 p2) cz fo T2.heap n0 Z0 T_u1 T_u2 (by rcases hpl with rfl | rfl | rfl | rfl <;> simp [own_str]) S_COMPACT_STRINGS (by first | assumption | decide) S_SIOOBE_FORMATTER (by first | assumption | decide) S__assertionsDisabled S_HI_BYTE_SHIFT S_LO_BYTE_SHIFT) hZ (gw hw 30 rfl) (gw hw 29 rfl) (by decide) (by decide)) (g := (mkF m 215 #[.val (.long x0), .second, .val (.long x1), .second, .val (.int x2), .val (.int tl), .val (.int pl), .val (.int t0), .val (.int t1), .val (.int t2), .val (.int p0), .val (.int p1), .val (.int p2), .val (.ref u1), .val (.ref u2), .val (.int (0 : Int32))] [(.ref u2), (.ref u1)])) rfl (by rw [hml]; rfl) (argsL := [(.ref u1), (.ref u2)]) (rest := []) (lenOf own_pd21 rfl) rfl (w0 (Nat.le_of_eq rfl)) (hb hby at_215) (fun _ _ => ⟨rfl, e28, (by decide : 12 + 0 ≤ _), (by decide : 32 + 0 ≤ _)⟩)
              dsimp only [Pt.U, Pt.locs, Pt.cells, Pt.slots] at X30 l30 y30 z30 st30 hQ30
              subst l30 y30 z30
              obtain ⟨rfl, N30q, e30⟩ := hQ30
              have N30 := Fr.app N28 N30q
              refine Gs st30 ?_
              show Goes _ _ _ _ _ (T30.setTop (mkF m 218 #[.val (.long x0), .second, .val (.long x1), .second, .val (.int x2), .val (.int tl), .val (.int pl), .val (.int t0), .val (.int t1), .val (.int t2), .val (.int p0), .val (.int p1), .val (.int p2), .val (.ref u1), .val (.ref u2), .val (.int (0 : Int32))] [(.int (own_mt (own_str pl p0 p1 p2) (own_str tl t0 t1 t2)))]))
              refine Gs (fun _ tk => XS.iload X30.here hx rfl (hb hby at_218) rfl tk) ?_
              have hc220_31 : (own_mt (own_str pl p0 p1 p2) (own_str tl t0 t1 t2)) = (0 : Int32) := by
                rcases htl with rfl | rfl | rfl | rfl <;> rcases hpl with rfl | rfl | rfl | rfl <;> first | exact absurd hc153_3 (by decide) | exact absurd hc159_4 (by decide) | simp +decide [own_mt, own_sw, own_str, hc169_29]
              refine Gs (fun _ tk => XS.icmpNo X30.here hx rfl (hb hby at_220) rfl (teq hc220_31).2 tk) ?_
              refine Gs (fun _ tk => XS.iconst X30.here hx rfl (hb hby at_223) tk) ?_
              refine Gs (fun _ tk => XS.goto X30.here hx rfl (pc0 := 224) (pc' := 228) rfl (hb hby at_224) (by decide) (by decide) tk) ?_
              refine Goes.retH X30 hS e30 hk hZ (own_EW hw) hh hR (some (.int (1 : Int32))) (fun h => by rw [hret] at h; cases h) hlk (by decide) (by decide) ?_ (fun fs hr => ?_)
              · rw [e30]; exact ⟨rfl, N30⟩
              · exact own_retN X30 hx (t := .boolean) hret (by simp) rfl (hb hby at_228) hr
            · refine Gs (fun _ tk => XS.ifNo X28.here hx rfl (hb hby at_169) rfl ((if0 _ _).trans (feq hc169_29).1) tk) ?_
              refine Gs (fun _ tk => XS.iload X28.here hx rfl (hb hby at_172) rfl tk) ?_
              refine Gs (fun _ tk => XS.iconst X28.here hx rfl (hb hby at_174) tk) ?_
              by_cases hc175_32 : pl < (2 : Int32)
              · refine Gs (fun _ tk => XS.icmpYes X28.here hx rfl (pc0 := 175) (pc' := 188) rfl (hb hby at_175) rfl (tlt hc175_32).1 (by decide) (by decide) tk) ?_
                refine Gs (fun _ tk => XS.iload X28.here hx rfl (hb hby at_188) rfl tk) ?_
                refine Gs (fun _ tk => XS.iconst X28.here hx rfl (hb hby at_190) tk) ?_
                show Goes _ _ _ _ _ (T28.setTop (mkF m 191 #[.val (.long x0), .second, .val (.long x1), .second, .val (.int x2), .val (.int tl), .val (.int pl), .val (.int t0), .val (.int t1), .val (.int t2), .val (.int p0), .val (.int p1), .val (.int p2), .val (.ref u1), .val (.ref u2), .unset] [(.int (3 : Int32)), (.int pl)]))
                by_cases hc191_33 : pl < (3 : Int32)
                · refine Gs (fun _ tk => XS.icmpYes X28.here hx rfl (pc0 := 191) (pc' := 204) rfl (hb hby at_191) rfl (tlt hc191_33).1 (by decide) (by decide) tk) ?_
                  refine Gs (fun _ tk => XS.iconst X28.here hx rfl (hb hby at_204) tk) ?_
                  refine Gs (fun _ tk => XS.goto X28.here hx rfl (pc0 := 205) (pc' := 209) rfl (hb hby at_205) (by decide) (by decide) tk) ?_
                  refine Gs (fun _ tk => XS.istore X28.here hx rfl (hb hby at_209) rfl (l' := #[.val (.long x0), .second, .val (.long x1), .second, .val (.int x2), .val (.int tl), .val (.int pl), .val (.int t0), .val (.int t1), .val (.int t2), .val (.int p0), .val (.int p1), .val (.int p2), .val (.ref u1), .val (.ref u2), .val (.int (1 : Int32))]) rfl tk) ?_
                  refine Gs (fun _ tk => XS.aload X28.here hx rfl (hb hby at_211) rfl rfl tk) ?_
                  refine Gs (fun _ tk => XS.aload X28.here hx rfl (hb hby at_213) rfl rfl tk) ?_
                  show Goes _ _ _ _ _ (T28.setTop (mkF m 215 #[.val (.long x0), .second, .val (.long x1), .second, .val (.int x2), .val (.int tl), .val (.int pl), .val (.int t0), .val (.int t1), .val (.int t2), .val (.int p0), .val (.int p1), .val (.int p2), .val (.ref u1), .val (.ref u2), .val (.int (1 : Int32))] [(.ref u2), (.ref u1)]))
                  obtain ⟨_, _, ⟨T34, L34, k34, n34⟩, -, X34, ⟨Lc34, hQ34, l34, y34, z34⟩, st34⟩ := Jvm.LawKit.callS X28 hx (y := mN28) hown (mvT hZ (gw hw 27 rfl)) (mvT hZ (gw hw 28 rfl)) (mvT hZ (gw hw 29 rfl)) (mvT hZ (gw hw 30 rfl)) (by decide) (backOf (W := 0) (rm_mt l Z a0 hw [] u1 u2 (own_str tl t0 t1 t2) (own_str pl p0 p1 p2) cz fo T2.heap n0 Z0 T_u1 T_u2 (by rcases hpl with rfl | rfl | rfl | rfl <;> simp [own_str]) S_COMPACT_STRINGS (by first | assumption | decide) S_SIOOBE_FORMATTER (by first | assumption | decide) S__assertionsDisabled S_HI_BYTE_SHIFT S_LO_BYTE_SHIFT) hZ (gw hw 30 rfl) (gw hw 29 rfl) (by decide) (by decide)) (g := (mkF m 215 #[.val (.long x0), .second, .val (.long x1), .second, .val (.int x2), .val (.int tl), .val (.int pl), .val (.int t0), .val (.int t1), .val (.int t2), .val (.int p0), .val (.int p1), .val (.int p2), .val (.ref u1), .val (.ref u2), .val (.int (1 : Int32))] [(.ref u2), (.ref u1)])) rfl (by rw [hml]; rfl) (argsL := [(.ref u1), (.ref u2)]) (rest := []) (lenOf own_pd21 rfl) rfl (w0 (Nat.le_of_eq rfl)) (hb hby at_215) (fun _ _ => ⟨rfl, e28, (by decide : 12 + 0 ≤ _), (by decide : 32 + 0 ≤ _)⟩)
                  dsimp only [Pt.U, Pt.locs, Pt.cells, Pt.slots] at X34 l34 y34 z34 st34 hQ34
                  subst l34 y34 z34
                  obtain ⟨rfl, N34q, e34⟩ := hQ34
                  have N34 := Fr.app N28 N34q
                  refine Gs st34 ?_
                  show Goes _ _ _ _ _ (T34.setTop (mkF m 218 #[.val (.long x0), .second, .val (.long x1), .second, .val (.int x2), .val (.int tl), .val (.int pl), .val (.int t0), .val (.int t1), .val (.int t2), .val (.int p0), .val (.int p1), .val (.int p2), .val (.ref u1), .val (.ref u2), .val (.int (1 : Int32))] [(.int (own_mt (own_str pl p0 p1 p2) (own_str tl t0 t1 t2)))]))
                  refine Gs (fun _ tk => XS.iload X34.here hx rfl (hb hby at_218) rfl tk) ?_
                  have hc220_35 : (own_mt (own_str pl p0 p1 p2) (own_str tl t0 t1 t2)) = (1 : Int32) := by
                    rcases htl with rfl | rfl | rfl | rfl <;> rcases hpl with rfl | rfl | rfl | rfl <;> first | exact absurd hc153_3 (by decide) | exact absurd hc159_4 (by decide) | exact absurd hc175_32 (by decide) | exact absurd hc191_33 (by decide) | simp +decide [own_mt, own_sw, own_str, hc169_29]
                  refine Gs (fun _ tk => XS.icmpNo X34.here hx rfl (hb hby at_220) rfl (teq hc220_35).2 tk) ?_
                  refine Gs (fun _ tk => XS.iconst X34.here hx rfl (hb hby at_223) tk) ?_
                  refine Gs (fun _ tk => XS.goto X34.here hx rfl (pc0 := 224) (pc' := 228) rfl (hb hby at_224) (by decide) (by decide) tk) ?_
                  refine Goes.retH X34 hS e34 hk hZ (own_EW hw) hh hR (some (.int (1 : Int32))) (fun h => by rw [hret] at h; cases h) hlk (by decide) (by decide) ?_ (fun fs hr => ?_)
                  · rw [e34]; exact ⟨rfl, N34⟩
                  · exact own_retN X34 hx (t := .boolean) hret (by simp) rfl (hb hby at_228) hr
                · refine Gs (fun _ tk => XS.icmpNo X28.here hx rfl (hb hby at_191) rfl (flt hc191_33).1 tk) ?_
                  refine Gs (fun _ tk => XS.iload X28.here hx rfl (hb hby at_194) rfl tk) ?_
                  refine Gs (fun _ tk => XS.iload X28.here hx rfl (hb hby at_196) rfl tk) ?_
                  obtain ⟨_, _, ⟨T36, L36, k36, n36⟩, -, X36, ⟨Lc36, hQ36, l36, y36, z36⟩, st36⟩ := Jvm.LawKit.callS X28 hx (y := mN25) hown (mvT hZ (gw hw 91 rfl)) (mvT hZ (gw hw 92 rfl)) (mvT hZ (gw hw 3 rfl)) (mvT hZ (gw hw 93 rfl)) (by decide) (backOf (W := 0) (rm_fits l Z a0 hw [] t2 p2 T2.heap n0 Z0) hZ (gw hw 93 rfl) (gw hw 3 rfl) (by decide) (by decide)) (g := (mkF m 198 #[.val (.long x0), .second, .val (.long x1), .second, .val (.int x2), .val (.int tl), .val (.int pl), .val (.int t0), .val (.int t1), .val (.int t2), .val (.int p0), .val (.int p1), .val (.int p2), .val (.ref u1), .val (.ref u2), .unset] [(.int p2), (.int t2)])) rfl (by rw [hml]; rfl) (argsL := [(.int t2), (.int p2)]) (rest := []) (lenOf own_pd23 rfl) rfl (w0 (Nat.le_of_eq rfl)) (hb hby at_198) (fun _ _ => ⟨rfl, e28, (by decide : 12 + 0 ≤ _), (by decide : 32 + 0 ≤ _)⟩)
                  dsimp only [Pt.U, Pt.locs, Pt.cells, Pt.slots] at X36 l36 y36 z36 st36 hQ36
                  subst l36 y36 z36
                  obtain ⟨rfl, N36q, e36⟩ := hQ36
                  have N36 := Fr.app N28 N36q
                  refine Gs st36 ?_
                  show Goes _ _ _ _ _ (T36.setTop (mkF m 201 #[.val (.long x0), .second, .val (.long x1), .second, .val (.int x2), .val (.int tl), .val (.int pl), .val (.int t0), .val (.int t1), .val (.int t2), .val (.int p0), .val (.int p1), .val (.int p2), .val (.ref u1), .val (.ref u2), .unset] [(.int (own_fit2 p2 t2))]))
                  by_cases hc201_37 : (own_fit2 p2 t2) = (0 : Int32)
                  · refine Gs (fun _ tk => XS.ifYes X36.here hx rfl (pc0 := 201) (pc' := 208) rfl (hb hby at_201) rfl ((if0 _ _).trans (teq hc201_37).1) (by decide) (by decide) tk) ?_
                    refine Gs (fun _ tk => XS.iconst X36.here hx rfl (hb hby at_208) tk) ?_
                    refine Gs (fun _ tk => XS.istore X36.here hx rfl (hb hby at_209) rfl (l' := #[.val (.long x0), .second, .val (.long x1), .second, .val (.int x2), .val (.int tl), .val (.int pl), .val (.int t0), .val (.int t1), .val (.int t2), .val (.int p0), .val (.int p1), .val (.int p2), .val (.ref u1), .val (.ref u2), .val (.int (0 : Int32))]) rfl tk) ?_
                    refine Gs (fun _ tk => XS.aload X36.here hx rfl (hb hby at_211) rfl rfl tk) ?_
                    refine Gs (fun _ tk => XS.aload X36.here hx rfl (hb hby at_213) rfl rfl tk) ?_
                    obtain ⟨_, _, ⟨T38, L38, k38, n38⟩, -, X38, ⟨Lc38, hQ38, l38, y38, z38⟩, st38⟩ := Jvm.LawKit.callS X36 hx (y := mN28) hown (mvT hZ (gw hw 27 rfl)) (mvT hZ (gw hw 28 rfl)) (mvT hZ (gw hw 29 rfl)) (mvT hZ (gw hw 30 rfl)) (by decide) (backOf (W := 0) (rm_mt l Z a0 hw [] u1 u2 (own_str tl t0 t1 t2) (own_str pl p0 p1 p2) cz fo T2.heap n0 Z0 T_u1 T_u2 (by rcases hpl with rfl | rfl | rfl | rfl <;> simp [own_str]) S_COMPACT_STRINGS (by first | assumption | decide) S_SIOOBE_FORMATTER (by first | assumption | decide) S__assertionsDisabled S_HI_BYTE_SHIFT S_LO_BYTE_SHIFT) hZ (gw hw 30 rfl) (gw hw 29 rfl) (by decide) (by decide)) (g := (mkF m 215 #[.val (.long x0), .second, .val (.long x1), .second, .val (.int x2), .val (.int tl), .val (.int pl), .val (.int t0), .val (.int t1), .val (.int t2), .val (.int p0), .val (.int p1), .val (.int p2), .val (.ref u1), .val (.ref u2), .val (.int (0 : Int32))] [(.ref u2), (.ref u1)])) rfl (by rw [hml]; rfl) (argsL := [(.ref u1), (.ref u2)]) (rest := []) (lenOf own_pd21 rfl) rfl (w0 (Nat.le_of_eq rfl)) (hb hby at_215) (fun _ _ => ⟨rfl, e36, (by decide : 12 + 0 ≤ _), (by decide : 32 + 0 ≤ _)⟩)
                    dsimp only [Pt.U, Pt.locs, Pt.cells, Pt.slots] at X38 l38 y38 z38 st38 hQ38
                    subst l38 y38 z38
                    obtain ⟨rfl, N38q, e38⟩ := hQ38
                    have N38 := Fr.app N36 N38q
                    refine Gs st38 ?_
                    show Goes _ _ _ _ _ (T38.setTop (mkF m 218 #[.val (.long x0), .second, .val (.long x1), .second, .val (.int x2), .val (.int tl), .val (.int pl), .val (.int t0), .val (.int t1), .val (.int t2), .val (.int p0), .val (.int p1), .val (.int p2), .val (.ref u1), .val (.ref u2), .val (.int (0 : Int32))] [(.int (own_mt (own_str pl p0 p1 p2) (own_str tl t0 t1 t2)))]))
                    refine Gs (fun _ tk => XS.iload X38.here hx rfl (hb hby at_218) rfl tk) ?_
                    have hc220_39 : (own_mt (own_str pl p0 p1 p2) (own_str tl t0 t1 t2)) = (0 : Int32) := by
                      rcases htl with rfl | rfl | rfl | rfl <;> rcases hpl with rfl | rfl | rfl | rfl <;> first | exact absurd hc153_3 (by decide) | exact absurd hc159_4 (by decide) | exact absurd hc175_32 (by decide) | exact absurd hc191_33 (by decide) | simp +decide [own_mt, own_sw, own_str, hc169_29, hc201_37]
                    refine Gs (fun _ tk => XS.icmpNo X38.here hx rfl (hb hby at_220) rfl (teq hc220_39).2 tk) ?_
                    refine Gs (fun _ tk => XS.iconst X38.here hx rfl (hb hby at_223) tk) ?_
                    refine Gs (fun _ tk => XS.goto X38.here hx rfl (pc0 := 224) (pc' := 228) rfl (hb hby at_224) (by decide) (by decide) tk) ?_
                    refine Goes.retH X38 hS e38 hk hZ (own_EW hw) hh hR (some (.int (1 : Int32))) (fun h => by rw [hret] at h; cases h) hlk (by decide) (by decide) ?_ (fun fs hr => ?_)
                    · rw [e38]; exact ⟨rfl, N38⟩
                    · exact own_retN X38 hx (t := .boolean) hret (by simp) rfl (hb hby at_228) hr
                  · refine Gs (fun _ tk => XS.ifNo X36.here hx rfl (hb hby at_201) rfl ((if0 _ _).trans (feq hc201_37).1) tk) ?_
                    refine Gs (fun _ tk => XS.iconst X36.here hx rfl (hb hby at_204) tk) ?_
                    refine Gs (fun _ tk => XS.goto X36.here hx rfl (pc0 := 205) (pc' := 209) rfl (hb hby at_205) (by decide) (by decide) tk) ?_
                    refine Gs (fun _ tk => XS.istore X36.here hx rfl (hb hby at_209) rfl (l' := #[.val (.long x0), .second, .val (.long x1), .second, .val (.int x2), .val (.int tl), .val (.int pl), .val (.int t0), .val (.int t1), .val (.int t2), .val (.int p0), .val (.int p1), .val (.int p2), .val (.ref u1), .val (.ref u2), .val (.int (1 : Int32))]) rfl tk) ?_
                    refine Gs (fun _ tk => XS.aload X36.here hx rfl (hb hby at_211) rfl rfl tk) ?_
                    refine Gs (fun _ tk => XS.aload X36.here hx rfl (hb hby at_213) rfl rfl tk) ?_
                    show Goes _ _ _ _ _ (T36.setTop (mkF m 215 #[.val (.long x0), .second, .val (.long x1), .second, .val (.int x2), .val (.int tl), .val (.int pl), .val (.int t0), .val (.int t1), .val (.int t2), .val (.int p0), .val (.int p1), .val (.int p2), .val (.ref u1), .val (.ref u2), .val (.int (1 : Int32))] [(.ref u2), (.ref u1)]))
                    obtain ⟨_, _, ⟨T40, L40, k40, n40⟩, -, X40, ⟨Lc40, hQ40, l40, y40, z40⟩, st40⟩ := Jvm.LawKit.callS X36 hx (y := mN28) hown (mvT hZ (gw hw 27 rfl)) (mvT hZ (gw hw 28 rfl)) (mvT hZ (gw hw 29 rfl)) (mvT hZ (gw hw 30 rfl)) (by decide) (backOf (W := 0) (rm_mt l Z a0 hw [] u1 u2 (own_str tl t0 t1 t2) (own_str pl p0 p1 p2) cz fo T2.heap n0 Z0 T_u1 T_u2 (by rcases hpl with rfl | rfl | rfl | rfl <;> simp [own_str]) S_COMPACT_STRINGS (by first | assumption | decide) S_SIOOBE_FORMATTER (by first | assumption | decide) S__assertionsDisabled S_HI_BYTE_SHIFT S_LO_BYTE_SHIFT) hZ (gw hw 30 rfl) (gw hw 29 rfl) (by decide) (by decide)) (g := (mkF m 215 #[.val (.long x0), .second, .val (.long x1), .second, .val (.int x2), .val (.int tl), .val (.int pl), .val (.int t0), .val (.int t1), .val (.int t2), .val (.int p0), .val (.int p1), .val (.int p2), .val (.ref u1), .val (.ref u2), .val (.int (1 : Int32))] [(.ref u2), (.ref u1)])) rfl (by rw [hml]; rfl) (argsL := [(.ref u1), (.ref u2)]) (rest := []) (lenOf own_pd21 rfl) rfl (w0 (Nat.le_of_eq rfl)) (hb hby at_215) (fun _ _ => ⟨rfl, e36, (by decide : 12 + 0 ≤ _), (by decide : 32 + 0 ≤ _)⟩)
                    dsimp only [Pt.U, Pt.locs, Pt.cells, Pt.slots] at X40 l40 y40 z40 st40 hQ40
                    subst l40 y40 z40
                    obtain ⟨rfl, N40q, e40⟩ := hQ40
                    have N40 := Fr.app N36 N40q
                    refine Gs st40 ?_
                    show Goes _ _ _ _ _ (T40.setTop (mkF m 218 #[.val (.long x0), .second, .val (.long x1), .second, .val (.int x2), .val (.int tl), .val (.int pl), .val (.int t0), .val (.int t1), .val (.int t2), .val (.int p0), .val (.int p1), .val (.int p2), .val (.ref u1), .val (.ref u2), .val (.int (1 : Int32))] [(.int (own_mt (own_str pl p0 p1 p2) (own_str tl t0 t1 t2)))]))
                    refine Gs (fun _ tk => XS.iload X40.here hx rfl (hb hby at_218) rfl tk) ?_
                    have hc220_41 : (own_mt (own_str pl p0 p1 p2) (own_str tl t0 t1 t2)) = (1 : Int32) := by
                      rcases htl with rfl | rfl | rfl | rfl <;> rcases hpl with rfl | rfl | rfl | rfl <;> first | exact absurd hc153_3 (by decide) | exact absurd hc159_4 (by decide) | exact absurd hc175_32 (by decide) | exact absurd hc191_33 (by decide) | simp +decide [own_mt, own_sw, own_str, hc169_29, hc201_37]
                    refine Gs (fun _ tk => XS.icmpNo X40.here hx rfl (hb hby at_220) rfl (teq hc220_41).2 tk) ?_
                    refine Gs (fun _ tk => XS.iconst X40.here hx rfl (hb hby at_223) tk) ?_
                    refine Gs (fun _ tk => XS.goto X40.here hx rfl (pc0 := 224) (pc' := 228) rfl (hb hby at_224) (by decide) (by decide) tk) ?_
                    refine Goes.retH X40 hS e40 hk hZ (own_EW hw) hh hR (some (.int (1 : Int32))) (fun h => by rw [hret] at h; cases h) hlk (by decide) (by decide) ?_ (fun fs hr => ?_)
                    · rw [e40]; exact ⟨rfl, N40⟩
                    · exact own_retN X40 hx (t := .boolean) hret (by simp) rfl (hb hby at_228) hr
              · refine Gs (fun _ tk => XS.icmpNo X28.here hx rfl (hb hby at_175) rfl (flt hc175_32).1 tk) ?_
                refine Gs (fun _ tk => XS.iload X28.here hx rfl (hb hby at_178) rfl tk) ?_
                refine Gs (fun _ tk => XS.iload X28.here hx rfl (hb hby at_180) rfl tk) ?_
                show Goes _ _ _ _ _ (T28.setTop (mkF m 182 #[.val (.long x0), .second, .val (.long x1), .second, .val (.int x2), .val (.int tl), .val (.int pl), .val (.int t0), .val (.int t1), .val (.int t2), .val (.int p0), .val (.int p1), .val (.int p2), .val (.ref u1), .val (.ref u2), .unset] [(.int p1), (.int t1)]))
                obtain ⟨_, _, ⟨T42, L42, k42, n42⟩, -, X42, ⟨Lc42, hQ42, l42, y42, z42⟩, st42⟩ := Jvm.LawKit.callS X28 hx (y := mN25) hown (mvT hZ (gw hw 91 rfl)) (mvT hZ (gw hw 92 rfl)) (mvT hZ (gw hw 3 rfl)) (mvT hZ (gw hw 93 rfl)) (by decide) (backOf (W := 0) (rm_fits l Z a0 hw [] t1 p1 T2.heap n0 Z0) hZ (gw hw 93 rfl) (gw hw 3 rfl) (by decide) (by decide)) (g := (mkF m 182 #[.val (.long x0), .second, .val (.long x1), .second, .val (.int x2), .val (.int tl), .val (.int pl), .val (.int t0), .val (.int t1), .val (.int t2), .val (.int p0), .val (.int p1), .val (.int p2), .val (.ref u1), .val (.ref u2), .unset] [(.int p1), (.int t1)])) rfl (by rw [hml]; rfl) (argsL := [(.int t1), (.int p1)]) (rest := []) (lenOf own_pd23 rfl) rfl (w0 (Nat.le_of_eq rfl)) (hb hby at_182) (fun _ _ => ⟨rfl, e28, (by decide : 12 + 0 ≤ _), (by decide : 32 + 0 ≤ _)⟩)
                dsimp only [Pt.U, Pt.locs, Pt.cells, Pt.slots] at X42 l42 y42 z42 st42 hQ42
                subst l42 y42 z42
                obtain ⟨rfl, N42q, e42⟩ := hQ42
                have N42 := Fr.app N28 N42q
                refine Gs st42 ?_
                show Goes _ _ _ _ _ (T42.setTop (mkF m 185 #[.val (.long x0), .second, .val (.long x1), .second, .val (.int x2), .val (.int tl), .val (.int pl), .val (.int t0), .val (.int t1), .val (.int t2), .val (.int p0), .val (.int p1), .val (.int p2), .val (.ref u1), .val (.ref u2), .unset] [(.int (own_fit2 p1 t1))]))
                by_cases hc185_43 : (own_fit2 p1 t1) = (0 : Int32)
                · refine Gs (fun _ tk => XS.ifYes X42.here hx rfl (pc0 := 185) (pc' := 208) rfl (hb hby at_185) rfl ((if0 _ _).trans (teq hc185_43).1) (by decide) (by decide) tk) ?_
                  refine Gs (fun _ tk => XS.iconst X42.here hx rfl (hb hby at_208) tk) ?_
                  refine Gs (fun _ tk => XS.istore X42.here hx rfl (hb hby at_209) rfl (l' := #[.val (.long x0), .second, .val (.long x1), .second, .val (.int x2), .val (.int tl), .val (.int pl), .val (.int t0), .val (.int t1), .val (.int t2), .val (.int p0), .val (.int p1), .val (.int p2), .val (.ref u1), .val (.ref u2), .val (.int (0 : Int32))]) rfl tk) ?_
                  refine Gs (fun _ tk => XS.aload X42.here hx rfl (hb hby at_211) rfl rfl tk) ?_
                  refine Gs (fun _ tk => XS.aload X42.here hx rfl (hb hby at_213) rfl rfl tk) ?_
                  obtain ⟨_, _, ⟨T44, L44, k44, n44⟩, -, X44, ⟨Lc44, hQ44, l44, y44, z44⟩, st44⟩ := Jvm.LawKit.callS X42 hx (y := mN28) hown (mvT hZ (gw hw 27 rfl)) (mvT hZ (gw hw 28 rfl)) (mvT hZ (gw hw 29 rfl)) (mvT hZ (gw hw 30 rfl)) (by decide) (backOf (W := 0) (rm_mt l Z a0 hw [] u1 u2 (own_str tl t0 t1 t2) (own_str pl p0 p1 p2) cz fo T2.heap n0 Z0 T_u1 T_u2 (by rcases hpl with rfl | rfl | rfl | rfl <;> simp [own_str]) S_COMPACT_STRINGS (by first | assumption | decide) S_SIOOBE_FORMATTER (by first | assumption | decide) S__assertionsDisabled S_HI_BYTE_SHIFT S_LO_BYTE_SHIFT) hZ (gw hw 30 rfl) (gw hw 29 rfl) (by decide) (by decide)) (g := (mkF m 215 #[.val (.long x0), .second, .val (.long x1), .second, .val (.int x2), .val (.int tl), .val (.int pl), .val (.int t0), .val (.int t1), .val (.int t2), .val (.int p0), .val (.int p1), .val (.int p2), .val (.ref u1), .val (.ref u2), .val (.int (0 : Int32))] [(.ref u2), (.ref u1)])) rfl (by rw [hml]; rfl) (argsL := [(.ref u1), (.ref u2)]) (rest := []) (lenOf own_pd21 rfl) rfl (w0 (Nat.le_of_eq rfl)) (hb hby at_215) (fun _ _ => ⟨rfl, e42, (by decide : 12 + 0 ≤ _), (by decide : 32 + 0 ≤ _)⟩)
                  dsimp only [Pt.U, Pt.locs, Pt.cells, Pt.slots] at X44 l44 y44 z44 st44 hQ44
                  subst l44 y44 z44
                  obtain ⟨rfl, N44q, e44⟩ := hQ44
                  have N44 := Fr.app N42 N44q
                  refine Gs st44 ?_
                  show Goes _ _ _ _ _ (T44.setTop (mkF m 218 #[.val (.long x0), .second, .val (.long x1), .second, .val (.int x2), .val (.int tl), .val (.int pl), .val (.int t0), .val (.int t1), .val (.int t2), .val (.int p0), .val (.int p1), .val (.int p2), .val (.ref u1), .val (.ref u2), .val (.int (0 : Int32))] [(.int (own_mt (own_str pl p0 p1 p2) (own_str tl t0 t1 t2)))]))
                  refine Gs (fun _ tk => XS.iload X44.here hx rfl (hb hby at_218) rfl tk) ?_
                  have hc220_45 : (own_mt (own_str pl p0 p1 p2) (own_str tl t0 t1 t2)) = (0 : Int32) := by
                    rcases htl with rfl | rfl | rfl | rfl <;> rcases hpl with rfl | rfl | rfl | rfl <;> first | exact absurd hc153_3 (by decide) | exact absurd hc159_4 (by decide) | exact absurd hc175_32 (by decide) | simp +decide [own_mt, own_sw, own_str, hc169_29, hc185_43]
                  refine Gs (fun _ tk => XS.icmpNo X44.here hx rfl (hb hby at_220) rfl (teq hc220_45).2 tk) ?_
                  refine Gs (fun _ tk => XS.iconst X44.here hx rfl (hb hby at_223) tk) ?_
                  refine Gs (fun _ tk => XS.goto X44.here hx rfl (pc0 := 224) (pc' := 228) rfl (hb hby at_224) (by decide) (by decide) tk) ?_
                  refine Goes.retH X44 hS e44 hk hZ (own_EW hw) hh hR (some (.int (1 : Int32))) (fun h => by rw [hret] at h; cases h) hlk (by decide) (by decide) ?_ (fun fs hr => ?_)
                  · rw [e44]; exact ⟨rfl, N44⟩
                  · exact own_retN X44 hx (t := .boolean) hret (by simp) rfl (hb hby at_228) hr
                · refine Gs (fun _ tk => XS.ifNo X42.here hx rfl (hb hby at_185) rfl ((if0 _ _).trans (feq hc185_43).1) tk) ?_
                  refine Gs (fun _ tk => XS.iload X42.here hx rfl (hb hby at_188) rfl tk) ?_
                  refine Gs (fun _ tk => XS.iconst X42.here hx rfl (hb hby at_190) tk) ?_
                  by_cases hc191_46 : pl < (3 : Int32)
                  · refine Gs (fun _ tk => XS.icmpYes X42.here hx rfl (pc0 := 191) (pc' := 204) rfl (hb hby at_191) rfl (tlt hc191_46).1 (by decide) (by decide) tk) ?_
                    refine Gs (fun _ tk => XS.iconst X42.here hx rfl (hb hby at_204) tk) ?_
                    refine Gs (fun _ tk => XS.goto X42.here hx rfl (pc0 := 205) (pc' := 209) rfl (hb hby at_205) (by decide) (by decide) tk) ?_
                    show Goes _ _ _ _ _ (T42.setTop (mkF m 209 #[.val (.long x0), .second, .val (.long x1), .second, .val (.int x2), .val (.int tl), .val (.int pl), .val (.int t0), .val (.int t1), .val (.int t2), .val (.int p0), .val (.int p1), .val (.int p2), .val (.ref u1), .val (.ref u2), .unset] [(.int (1 : Int32))]))
                    refine Gs (fun _ tk => XS.istore X42.here hx rfl (hb hby at_209) rfl (l' := #[.val (.long x0), .second, .val (.long x1), .second, .val (.int x2), .val (.int tl), .val (.int pl), .val (.int t0), .val (.int t1), .val (.int t2), .val (.int p0), .val (.int p1), .val (.int p2), .val (.ref u1), .val (.ref u2), .val (.int (1 : Int32))]) rfl tk) ?_
                    refine Gs (fun _ tk => XS.aload X42.here hx rfl (hb hby at_211) rfl rfl tk) ?_
                    refine Gs (fun _ tk => XS.aload X42.here hx rfl (hb hby at_213) rfl rfl tk) ?_
                    obtain ⟨_, _, ⟨T47, L47, k47, n47⟩, -, X47, ⟨Lc47, hQ47, l47, y47, z47⟩, st47⟩ := Jvm.LawKit.callS X42 hx (y := mN28) hown (mvT hZ (gw hw 27 rfl)) (mvT hZ (gw hw 28 rfl)) (mvT hZ (gw hw 29 rfl)) (mvT hZ (gw hw 30 rfl)) (by decide) (backOf (W := 0) (rm_mt l Z a0 hw [] u1 u2 (own_str tl t0 t1 t2) (own_str pl p0 p1 p2) cz fo T2.heap n0 Z0 T_u1 T_u2 (by rcases hpl with rfl | rfl | rfl | rfl <;> simp [own_str]) S_COMPACT_STRINGS (by first | assumption | decide) S_SIOOBE_FORMATTER (by first | assumption | decide) S__assertionsDisabled S_HI_BYTE_SHIFT S_LO_BYTE_SHIFT) hZ (gw hw 30 rfl) (gw hw 29 rfl) (by decide) (by decide)) (g := (mkF m 215 #[.val (.long x0), .second, .val (.long x1), .second, .val (.int x2), .val (.int tl), .val (.int pl), .val (.int t0), .val (.int t1), .val (.int t2), .val (.int p0), .val (.int p1), .val (.int p2), .val (.ref u1), .val (.ref u2), .val (.int (1 : Int32))] [(.ref u2), (.ref u1)])) rfl (by rw [hml]; rfl) (argsL := [(.ref u1), (.ref u2)]) (rest := []) (lenOf own_pd21 rfl) rfl (w0 (Nat.le_of_eq rfl)) (hb hby at_215) (fun _ _ => ⟨rfl, e42, (by decide : 12 + 0 ≤ _), (by decide : 32 + 0 ≤ _)⟩)
                    dsimp only [Pt.U, Pt.locs, Pt.cells, Pt.slots] at X47 l47 y47 z47 st47 hQ47
                    subst l47 y47 z47
                    obtain ⟨rfl, N47q, e47⟩ := hQ47
                    have N47 := Fr.app N42 N47q
                    refine Gs st47 ?_
                    show Goes _ _ _ _ _ (T47.setTop (mkF m 218 #[.val (.long x0), .second, .val (.long x1), .second, .val (.int x2), .val (.int tl), .val (.int pl), .val (.int t0), .val (.int t1), .val (.int t2), .val (.int p0), .val (.int p1), .val (.int p2), .val (.ref u1), .val (.ref u2), .val (.int (1 : Int32))] [(.int (own_mt (own_str pl p0 p1 p2) (own_str tl t0 t1 t2)))]))
                    refine Gs (fun _ tk => XS.iload X47.here hx rfl (hb hby at_218) rfl tk) ?_
                    have hc220_48 : (own_mt (own_str pl p0 p1 p2) (own_str tl t0 t1 t2)) = (1 : Int32) := by
                      rcases htl with rfl | rfl | rfl | rfl <;> rcases hpl with rfl | rfl | rfl | rfl <;> first | exact absurd hc153_3 (by decide) | exact absurd hc159_4 (by decide) | exact absurd hc175_32 (by decide) | exact absurd hc191_46 (by decide) | simp +decide [own_mt, own_sw, own_str, hc169_29, hc185_43]
                    refine Gs (fun _ tk => XS.icmpNo X47.here hx rfl (hb hby at_220) rfl (teq hc220_48).2 tk) ?_
                    refine Gs (fun _ tk => XS.iconst X47.here hx rfl (hb hby at_223) tk) ?_
                    refine Gs (fun _ tk => XS.goto X47.here hx rfl (pc0 := 224) (pc' := 228) rfl (hb hby at_224) (by decide) (by decide) tk) ?_
                    refine Goes.retH X47 hS e47 hk hZ (own_EW hw) hh hR (some (.int (1 : Int32))) (fun h => by rw [hret] at h; cases h) hlk (by decide) (by decide) ?_ (fun fs hr => ?_)
                    · rw [e47]; exact ⟨rfl, N47⟩
                    · exact own_retN X47 hx (t := .boolean) hret (by simp) rfl (hb hby at_228) hr
                  · refine Gs (fun _ tk => XS.icmpNo X42.here hx rfl (hb hby at_191) rfl (flt hc191_46).1 tk) ?_
                    refine Gs (fun _ tk => XS.iload X42.here hx rfl (hb hby at_194) rfl tk) ?_
                    refine Gs (fun _ tk => XS.iload X42.here hx rfl (hb hby at_196) rfl tk) ?_
                    show Goes _ _ _ _ _ (T42.setTop (mkF m 198 #[.val (.long x0), .second, .val (.long x1), .second, .val (.int x2), .val (.int tl), .val (.int pl), .val (.int t0), .val (.int t1), .val (.int t2), .val (.int p0), .val (.int p1), .val (.int p2), .val (.ref u1), .val (.ref u2), .unset] [(.int p2), (.int t2)]))
                    obtain ⟨_, _, ⟨T49, L49, k49, n49⟩, -, X49, ⟨Lc49, hQ49, l49, y49, z49⟩, st49⟩ := Jvm.LawKit.callS X42 hx (y := mN25) hown (mvT hZ (gw hw 91 rfl)) (mvT hZ (gw hw 92 rfl)) (mvT hZ (gw hw 3 rfl)) (mvT hZ (gw hw 93 rfl)) (by decide) (backOf (W := 0) (rm_fits l Z a0 hw [] t2 p2 T2.heap n0 Z0) hZ (gw hw 93 rfl) (gw hw 3 rfl) (by decide) (by decide)) (g := (mkF m 198 #[.val (.long x0), .second, .val (.long x1), .second, .val (.int x2), .val (.int tl), .val (.int pl), .val (.int t0), .val (.int t1), .val (.int t2), .val (.int p0), .val (.int p1), .val (.int p2), .val (.ref u1), .val (.ref u2), .unset] [(.int p2), (.int t2)])) rfl (by rw [hml]; rfl) (argsL := [(.int t2), (.int p2)]) (rest := []) (lenOf own_pd23 rfl) rfl (w0 (Nat.le_of_eq rfl)) (hb hby at_198) (fun _ _ => ⟨rfl, e42, (by decide : 12 + 0 ≤ _), (by decide : 32 + 0 ≤ _)⟩)
                    dsimp only [Pt.U, Pt.locs, Pt.cells, Pt.slots] at X49 l49 y49 z49 st49 hQ49
                    subst l49 y49 z49
                    obtain ⟨rfl, N49q, e49⟩ := hQ49
                    have N49 := Fr.app N42 N49q
                    refine Gs st49 ?_
                    show Goes _ _ _ _ _ (T49.setTop (mkF m 201 #[.val (.long x0), .second, .val (.long x1), .second, .val (.int x2), .val (.int tl), .val (.int pl), .val (.int t0), .val (.int t1), .val (.int t2), .val (.int p0), .val (.int p1), .val (.int p2), .val (.ref u1), .val (.ref u2), .unset] [(.int (own_fit2 p2 t2))]))
                    by_cases hc201_50 : (own_fit2 p2 t2) = (0 : Int32)
                    · refine Gs (fun _ tk => XS.ifYes X49.here hx rfl (pc0 := 201) (pc' := 208) rfl (hb hby at_201) rfl ((if0 _ _).trans (teq hc201_50).1) (by decide) (by decide) tk) ?_
                      refine Gs (fun _ tk => XS.iconst X49.here hx rfl (hb hby at_208) tk) ?_
                      refine Gs (fun _ tk => XS.istore X49.here hx rfl (hb hby at_209) rfl (l' := #[.val (.long x0), .second, .val (.long x1), .second, .val (.int x2), .val (.int tl), .val (.int pl), .val (.int t0), .val (.int t1), .val (.int t2), .val (.int p0), .val (.int p1), .val (.int p2), .val (.ref u1), .val (.ref u2), .val (.int (0 : Int32))]) rfl tk) ?_
                      refine Gs (fun _ tk => XS.aload X49.here hx rfl (hb hby at_211) rfl rfl tk) ?_
                      refine Gs (fun _ tk => XS.aload X49.here hx rfl (hb hby at_213) rfl rfl tk) ?_
                      obtain ⟨_, _, ⟨T51, L51, k51, n51⟩, -, X51, ⟨Lc51, hQ51, l51, y51, z51⟩, st51⟩ := Jvm.LawKit.callS X49 hx (y := mN28) hown (mvT hZ (gw hw 27 rfl)) (mvT hZ (gw hw 28 rfl)) (mvT hZ (gw hw 29 rfl)) (mvT hZ (gw hw 30 rfl)) (by decide) (backOf (W := 0) (rm_mt l Z a0 hw [] u1 u2 (own_str tl t0 t1 t2) (own_str pl p0 p1 p2) cz fo T2.heap n0 Z0 T_u1 T_u2 (by rcases hpl with rfl | rfl | rfl | rfl <;> simp [own_str]) S_COMPACT_STRINGS (by first | assumption | decide) S_SIOOBE_FORMATTER (by first | assumption | decide) S__assertionsDisabled S_HI_BYTE_SHIFT S_LO_BYTE_SHIFT) hZ (gw hw 30 rfl) (gw hw 29 rfl) (by decide) (by decide)) (g := (mkF m 215 #[.val (.long x0), .second, .val (.long x1), .second, .val (.int x2), .val (.int tl), .val (.int pl), .val (.int t0), .val (.int t1), .val (.int t2), .val (.int p0), .val (.int p1), .val (.int p2), .val (.ref u1), .val (.ref u2), .val (.int (0 : Int32))] [(.ref u2), (.ref u1)])) rfl (by rw [hml]; rfl) (argsL := [(.ref u1), (.ref u2)]) (rest := []) (lenOf own_pd21 rfl) rfl (w0 (Nat.le_of_eq rfl)) (hb hby at_215) (fun _ _ => ⟨rfl, e49, (by decide : 12 + 0 ≤ _), (by decide : 32 + 0 ≤ _)⟩)
                      dsimp only [Pt.U, Pt.locs, Pt.cells, Pt.slots] at X51 l51 y51 z51 st51 hQ51
                      subst l51 y51 z51
                      obtain ⟨rfl, N51q, e51⟩ := hQ51
                      have N51 := Fr.app N49 N51q
                      refine Gs st51 ?_
                      show Goes _ _ _ _ _ (T51.setTop (mkF m 218 #[.val (.long x0), .second, .val (.long x1), .second, .val (.int x2), .val (.int tl), .val (.int pl), .val (.int t0), .val (.int t1), .val (.int t2), .val (.int p0), .val (.int p1), .val (.int p2), .val (.ref u1), .val (.ref u2), .val (.int (0 : Int32))] [(.int (own_mt (own_str pl p0 p1 p2) (own_str tl t0 t1 t2)))]))
                      refine Gs (fun _ tk => XS.iload X51.here hx rfl (hb hby at_218) rfl tk) ?_
                      have hc220_52 : (own_mt (own_str pl p0 p1 p2) (own_str tl t0 t1 t2)) = (0 : Int32) := by
                        rcases htl with rfl | rfl | rfl | rfl <;> rcases hpl with rfl | rfl | rfl | rfl <;> first | exact absurd hc153_3 (by decide) | exact absurd hc159_4 (by decide) | exact absurd hc175_32 (by decide) | exact absurd hc191_46 (by decide) | simp +decide [own_mt, own_sw, own_str, hc169_29, hc185_43, hc201_50]
                      refine Gs (fun _ tk => XS.icmpNo X51.here hx rfl (hb hby at_220) rfl (teq hc220_52).2 tk) ?_
                      refine Gs (fun _ tk => XS.iconst X51.here hx rfl (hb hby at_223) tk) ?_
                      refine Gs (fun _ tk => XS.goto X51.here hx rfl (pc0 := 224) (pc' := 228) rfl (hb hby at_224) (by decide) (by decide) tk) ?_
                      refine Goes.retH X51 hS e51 hk hZ (own_EW hw) hh hR (some (.int (1 : Int32))) (fun h => by rw [hret] at h; cases h) hlk (by decide) (by decide) ?_ (fun fs hr => ?_)
                      · rw [e51]; exact ⟨rfl, N51⟩
                      · exact own_retN X51 hx (t := .boolean) hret (by simp) rfl (hb hby at_228) hr
                    · refine Gs (fun _ tk => XS.ifNo X49.here hx rfl (hb hby at_201) rfl ((if0 _ _).trans (feq hc201_50).1) tk) ?_
                      refine Gs (fun _ tk => XS.iconst X49.here hx rfl (hb hby at_204) tk) ?_
                      refine Gs (fun _ tk => XS.goto X49.here hx rfl (pc0 := 205) (pc' := 209) rfl (hb hby at_205) (by decide) (by decide) tk) ?_
                      refine Gs (fun _ tk => XS.istore X49.here hx rfl (hb hby at_209) rfl (l' := #[.val (.long x0), .second, .val (.long x1), .second, .val (.int x2), .val (.int tl), .val (.int pl), .val (.int t0), .val (.int t1), .val (.int t2), .val (.int p0), .val (.int p1), .val (.int p2), .val (.ref u1), .val (.ref u2), .val (.int (1 : Int32))]) rfl tk) ?_
                      refine Gs (fun _ tk => XS.aload X49.here hx rfl (hb hby at_211) rfl rfl tk) ?_
                      refine Gs (fun _ tk => XS.aload X49.here hx rfl (hb hby at_213) rfl rfl tk) ?_
                      show Goes _ _ _ _ _ (T49.setTop (mkF m 215 #[.val (.long x0), .second, .val (.long x1), .second, .val (.int x2), .val (.int tl), .val (.int pl), .val (.int t0), .val (.int t1), .val (.int t2), .val (.int p0), .val (.int p1), .val (.int p2), .val (.ref u1), .val (.ref u2), .val (.int (1 : Int32))] [(.ref u2), (.ref u1)]))
                      obtain ⟨_, _, ⟨T53, L53, k53, n53⟩, -, X53, ⟨Lc53, hQ53, l53, y53, z53⟩, st53⟩ := Jvm.LawKit.callS X49 hx (y := mN28) hown (mvT hZ (gw hw 27 rfl)) (mvT hZ (gw hw 28 rfl)) (mvT hZ (gw hw 29 rfl)) (mvT hZ (gw hw 30 rfl)) (by decide) (backOf (W := 0) (rm_mt l Z a0 hw [] u1 u2 (own_str tl t0 t1 t2) (own_str pl p0 p1 p2) cz fo T2.heap n0 Z0 T_u1 T_u2 (by rcases hpl with rfl | rfl | rfl | rfl <;> simp [own_str]) S_COMPACT_STRINGS (by first | assumption | decide) S_SIOOBE_FORMATTER (by first | assumption | decide) S__assertionsDisabled S_HI_BYTE_SHIFT S_LO_BYTE_SHIFT) hZ (gw hw 30 rfl) (gw hw 29 rfl) (by decide) (by decide)) (g := (mkF m 215 #[.val (.long x0), .second, .val (.long x1), .second, .val (.int x2), .val (.int tl), .val (.int pl), .val (.int t0), .val (.int t1), .val (.int t2), .val (.int p0), .val (.int p1), .val (.int p2), .val (.ref u1), .val (.ref u2), .val (.int (1 : Int32))] [(.ref u2), (.ref u1)])) rfl (by rw [hml]; rfl) (argsL := [(.ref u1), (.ref u2)]) (rest := []) (lenOf own_pd21 rfl) rfl (w0 (Nat.le_of_eq rfl)) (hb hby at_215) (fun _ _ => ⟨rfl, e49, (by decide : 12 + 0 ≤ _), (by decide : 32 + 0 ≤ _)⟩)
                      dsimp only [Pt.U, Pt.locs, Pt.cells, Pt.slots] at X53 l53 y53 z53 st53 hQ53
                      subst l53 y53 z53
                      obtain ⟨rfl, N53q, e53⟩ := hQ53
                      have N53 := Fr.app N49 N53q
                      refine Gs st53 ?_
                      show Goes _ _ _ _ _ (T53.setTop (mkF m 218 #[.val (.long x0), .second, .val (.long x1), .second, .val (.int x2), .val (.int tl), .val (.int pl), .val (.int t0), .val (.int t1), .val (.int t2), .val (.int p0), .val (.int p1), .val (.int p2), .val (.ref u1), .val (.ref u2), .val (.int (1 : Int32))] [(.int (own_mt (own_str pl p0 p1 p2) (own_str tl t0 t1 t2)))]))
                      refine Gs (fun _ tk => XS.iload X53.here hx rfl (hb hby at_218) rfl tk) ?_
                      have hc220_54 : (own_mt (own_str pl p0 p1 p2) (own_str tl t0 t1 t2)) = (1 : Int32) := by
                        rcases htl with rfl | rfl | rfl | rfl <;> rcases hpl with rfl | rfl | rfl | rfl <;> first | exact absurd hc153_3 (by decide) | exact absurd hc159_4 (by decide) | exact absurd hc175_32 (by decide) | exact absurd hc191_46 (by decide) | simp +decide [own_mt, own_sw, own_str, hc169_29, hc185_43, hc201_50]
                      refine Gs (fun _ tk => XS.icmpNo X53.here hx rfl (hb hby at_220) rfl (teq hc220_54).2 tk) ?_
                      refine Gs (fun _ tk => XS.iconst X53.here hx rfl (hb hby at_223) tk) ?_
                      refine Gs (fun _ tk => XS.goto X53.here hx rfl (pc0 := 224) (pc' := 228) rfl (hb hby at_224) (by decide) (by decide) tk) ?_
                      refine Goes.retH X53 hS e53 hk hZ (own_EW hw) hh hR (some (.int (1 : Int32))) (fun h => by rw [hret] at h; cases h) hlk (by decide) (by decide) ?_ (fun fs hr => ?_)
                      · rw [e53]; exact ⟨rfl, N53⟩
                      · exact own_retN X53 hx (t := .boolean) hret (by simp) rfl (hb hby at_228) hr
        · refine Gs (fun _ tk => XS.icmpYes X2.here hx rfl (pc0 := 153) (pc' := 208) rfl (hb hby at_153) rfl (feq hc153_3).2 (by decide) (by decide) tk) ?_
          refine Gs (fun _ tk => XS.iconst X2.here hx rfl (hb hby at_208) tk) ?_
          refine Gs (fun _ tk => XS.istore X2.here hx rfl (hb hby at_209) rfl (l' := #[.val (.long x0), .second, .val (.long x1), .second, .val (.int x2), .val (.int tl), .val (.int pl), .val (.int t0), .val (.int t1), .val (.int t2), .val (.int p0), .val (.int p1), .val (.int p2), .val (.ref u1), .val (.ref u2), .val (.int (0 : Int32))]) rfl tk) ?_
          show Goes _ _ _ _ _ (T2.setTop (mkF m 211 #[.val (.long x0), .second, .val (.long x1), .second, .val (.int x2), .val (.int tl), .val (.int pl), .val (.int t0), .val (.int t1), .val (.int t2), .val (.int p0), .val (.int p1), .val (.int p2), .val (.ref u1), .val (.ref u2), .val (.int (0 : Int32))] []))
          refine Gs (fun _ tk => XS.aload X2.here hx rfl (hb hby at_211) rfl rfl tk) ?_
          refine Gs (fun _ tk => XS.aload X2.here hx rfl (hb hby at_213) rfl rfl tk) ?_
          obtain ⟨_, _, ⟨T55, L55, k55, n55⟩, -, X55, ⟨Lc55, hQ55, l55, y55, z55⟩, st55⟩ := Jvm.LawKit.callS X2 hx (y := mN28) hown (mvT hZ (gw hw 27 rfl)) (mvT hZ (gw hw 28 rfl)) (mvT hZ (gw hw 29 rfl)) (mvT hZ (gw hw 30 rfl)) (by decide) (backOf (W := 0) (rm_mt l Z a0 hw [] u1 u2 (own_str tl t0 t1 t2) (own_str pl p0 p1 p2) cz fo T2.heap n0 Z0 T_u1 T_u2 (by rcases hpl with rfl | rfl | rfl | rfl <;> simp [own_str]) S_COMPACT_STRINGS (by first | assumption | decide) S_SIOOBE_FORMATTER (by first | assumption | decide) S__assertionsDisabled S_HI_BYTE_SHIFT S_LO_BYTE_SHIFT) hZ (gw hw 30 rfl) (gw hw 29 rfl) (by decide) (by decide)) (g := (mkF m 215 #[.val (.long x0), .second, .val (.long x1), .second, .val (.int x2), .val (.int tl), .val (.int pl), .val (.int t0), .val (.int t1), .val (.int t2), .val (.int p0), .val (.int p1), .val (.int p2), .val (.ref u1), .val (.ref u2), .val (.int (0 : Int32))] [(.ref u2), (.ref u1)])) rfl (by rw [hml]; rfl) (argsL := [(.ref u1), (.ref u2)]) (rest := []) (lenOf own_pd21 rfl) rfl (w0 (Nat.le_of_eq rfl)) (hb hby at_215) (fun _ _ => ⟨rfl, rfl, (by decide : 12 + 0 ≤ _), (by decide : 32 + 0 ≤ _)⟩)
          dsimp only [Pt.U, Pt.locs, Pt.cells, Pt.slots] at X55 l55 y55 z55 st55 hQ55
          subst l55 y55 z55
          obtain ⟨rfl, N55q, e55⟩ := hQ55
          have N55 := Fr.app N2 N55q
          refine Gs st55 ?_
          show Goes _ _ _ _ _ (T55.setTop (mkF m 218 #[.val (.long x0), .second, .val (.long x1), .second, .val (.int x2), .val (.int tl), .val (.int pl), .val (.int t0), .val (.int t1), .val (.int t2), .val (.int p0), .val (.int p1), .val (.int p2), .val (.ref u1), .val (.ref u2), .val (.int (0 : Int32))] [(.int (own_mt (own_str pl p0 p1 p2) (own_str tl t0 t1 t2)))]))
          refine Gs (fun _ tk => XS.iload X55.here hx rfl (hb hby at_218) rfl tk) ?_
          have hc220_56 : (own_mt (own_str pl p0 p1 p2) (own_str tl t0 t1 t2)) = (0 : Int32) := by
            rcases htl with rfl | rfl | rfl | rfl <;> rcases hpl with rfl | rfl | rfl | rfl <;> first | exact absurd hc153_3 (by decide) | simp +decide [own_mt, own_sw, own_str]
          refine Gs (fun _ tk => XS.icmpNo X55.here hx rfl (hb hby at_220) rfl (teq hc220_56).2 tk) ?_
          refine Gs (fun _ tk => XS.iconst X55.here hx rfl (hb hby at_223) tk) ?_
          refine Gs (fun _ tk => XS.goto X55.here hx rfl (pc0 := 224) (pc' := 228) rfl (hb hby at_224) (by decide) (by decide) tk) ?_
          refine Goes.retH X55 hS e55 hk hZ (own_EW hw) hh hR (some (.int (1 : Int32))) (fun h => by rw [hret] at h; cases h) hlk (by decide) (by decide) ?_ (fun fs hr => ?_)
          · rw [e55]; exact ⟨rfl, N55⟩
          · exact own_retN X55 hx (t := .boolean) hret (by simp) rfl (hb hby at_228) hr
      intro J121
      by_cases hc103_57 : (((x2.toUInt32 >>> ((6 : Int32) &&& 31).toUInt32).toInt32) &&& (1 : Int32)) = (0 : Int32)
      · refine Gs (fun _ tk => XS.ifYes X0.here hx rfl (pc0 := 103) (pc' := 111) rfl (hb hby at_103) rfl ((if0 _ _).trans (teq hc103_57).1) (by decide) (by decide) tk) ?_
        refine Gs (fun _ tk => XS.lloadN X0.here hx rfl (hb hby at_111) rfl tk) ?_
        refine Gs (fun _ tk => XS.bipush X0.here hx rfl (hb hby at_112) tk) ?_
        show Goes _ _ _ _ _ (s₁.setTop (mkF m 114 #[.val (.long x0), .second, .val (.long x1), .second, .val (.int x2), .val (.int tl), .val (.int pl), .val (.int t0), .val (.int t1), .val (.int t2), .val (.int p0), .val (.int p1), .unset, .unset, .unset, .unset] [(.int (32 : Int32)), (.long x1)]))
        refine Gs (fun _ tk => XS.lushr X0.here hx rfl (hb hby at_114) rfl tk) ?_
        show Goes _ _ _ _ _ (s₁.setTop (mkF m 115 #[.val (.long x0), .second, .val (.long x1), .second, .val (.int x2), .val (.int tl), .val (.int pl), .val (.int t0), .val (.int t1), .val (.int t2), .val (.int p0), .val (.int p1), .unset, .unset, .unset, .unset] [(.long ((x1.toUInt64 >>> ((32 : Int32) &&& 0x3f).toInt64.toUInt64).toInt64))]))
        refine Gs (fun _ tk => Jvm.Stand.ldc2J X0 hx hown (mvT hZ (gw hw 0 rfl)) rfl (hb hby at_115) tk) ?_
        show Goes _ _ _ _ _ (s₁.setTop (mkF m 118 #[.val (.long x0), .second, .val (.long x1), .second, .val (.int x2), .val (.int tl), .val (.int pl), .val (.int t0), .val (.int t1), .val (.int t2), .val (.int p0), .val (.int p1), .unset, .unset, .unset, .unset] [(.long (65535 : Int64)), (.long ((x1.toUInt64 >>> ((32 : Int32) &&& 0x3f).toInt64.toUInt64).toInt64))]))
        refine Gs (fun _ tk => XS.land X0.here hx rfl (hb hby at_118) rfl tk) ?_
        show Goes _ _ _ _ _ (s₁.setTop (mkF m 119 #[.val (.long x0), .second, .val (.long x1), .second, .val (.int x2), .val (.int tl), .val (.int pl), .val (.int t0), .val (.int t1), .val (.int t2), .val (.int p0), .val (.int p1), .unset, .unset, .unset, .unset] [(.long (((x1.toUInt64 >>> ((32 : Int32) &&& 0x3f).toInt64.toUInt64).toInt64) &&& (65535 : Int64)))]))
        refine Gs (fun _ tk => XS.l2i X0.here hx rfl (hb hby at_119) rfl tk) ?_
        show Goes _ _ _ _ _ (s₁.setTop (mkF m 120 #[.val (.long x0), .second, .val (.long x1), .second, .val (.int x2), .val (.int tl), .val (.int pl), .val (.int t0), .val (.int t1), .val (.int t2), .val (.int p0), .val (.int p1), .unset, .unset, .unset, .unset] [(.int ((((x1.toUInt64 >>> ((32 : Int32) &&& 0x3f).toInt64.toUInt64).toInt64) &&& (65535 : Int64)).toInt32))]))
        refine Gs (fun _ tk => XS.i2c X0.here hx rfl (hb hby at_120) rfl tk) ?_
        show Goes _ _ _ _ _ (s₁.setTop (mkF m 121 #[.val (.long x0), .second, .val (.long x1), .second, .val (.int x2), .val (.int tl), .val (.int pl), .val (.int t0), .val (.int t1), .val (.int t2), .val (.int p0), .val (.int p1), .unset, .unset, .unset, .unset] [(.int (((((x1.toUInt64 >>> ((32 : Int32) &&& 0x3f).toInt64.toUInt64).toInt64) &&& (65535 : Int64)).toInt32).toUInt32.toUInt16.toUInt32.toInt32))]))
        exact J121 _ (own_chrI _)
      · refine Gs (fun _ tk => XS.ifNo X0.here hx rfl (hb hby at_103) rfl ((if0 _ _).trans (feq hc103_57).1) tk) ?_
        refine Gs (fun _ tk => XS.bipush X0.here hx rfl (hb hby at_106) tk) ?_
        refine Gs (fun _ tk => XS.goto X0.here hx rfl (pc0 := 108) (pc' := 121) rfl (hb hby at_108) (by decide) (by decide) tk) ?_
        exact J121 _ ⟨by decide, by decide⟩
    intro J94
    by_cases hc76_58 : (((x2.toUInt32 >>> ((5 : Int32) &&& 31).toUInt32).toInt32) &&& (1 : Int32)) = (0 : Int32)
    · refine Gs (fun _ tk => XS.ifYes X0.here hx rfl (pc0 := 76) (pc' := 84) rfl (hb hby at_76) rfl ((if0 _ _).trans (teq hc76_58).1) (by decide) (by decide) tk) ?_
      refine Gs (fun _ tk => XS.lloadN X0.here hx rfl (hb hby at_84) rfl tk) ?_
      refine Gs (fun _ tk => XS.bipush X0.here hx rfl (hb hby at_85) tk) ?_
      show Goes _ _ _ _ _ (s₁.setTop (mkF m 87 #[.val (.long x0), .second, .val (.long x1), .second, .val (.int x2), .val (.int tl), .val (.int pl), .val (.int t0), .val (.int t1), .val (.int t2), .val (.int p0), .unset, .unset, .unset, .unset, .unset] [(.int (16 : Int32)), (.long x1)]))
      refine Gs (fun _ tk => XS.lushr X0.here hx rfl (hb hby at_87) rfl tk) ?_
      show Goes _ _ _ _ _ (s₁.setTop (mkF m 88 #[.val (.long x0), .second, .val (.long x1), .second, .val (.int x2), .val (.int tl), .val (.int pl), .val (.int t0), .val (.int t1), .val (.int t2), .val (.int p0), .unset, .unset, .unset, .unset, .unset] [(.long ((x1.toUInt64 >>> ((16 : Int32) &&& 0x3f).toInt64.toUInt64).toInt64))]))
      refine Gs (fun _ tk => Jvm.Stand.ldc2J X0 hx hown (mvT hZ (gw hw 0 rfl)) rfl (hb hby at_88) tk) ?_
      show Goes _ _ _ _ _ (s₁.setTop (mkF m 91 #[.val (.long x0), .second, .val (.long x1), .second, .val (.int x2), .val (.int tl), .val (.int pl), .val (.int t0), .val (.int t1), .val (.int t2), .val (.int p0), .unset, .unset, .unset, .unset, .unset] [(.long (65535 : Int64)), (.long ((x1.toUInt64 >>> ((16 : Int32) &&& 0x3f).toInt64.toUInt64).toInt64))]))
      refine Gs (fun _ tk => XS.land X0.here hx rfl (hb hby at_91) rfl tk) ?_
      show Goes _ _ _ _ _ (s₁.setTop (mkF m 92 #[.val (.long x0), .second, .val (.long x1), .second, .val (.int x2), .val (.int tl), .val (.int pl), .val (.int t0), .val (.int t1), .val (.int t2), .val (.int p0), .unset, .unset, .unset, .unset, .unset] [(.long (((x1.toUInt64 >>> ((16 : Int32) &&& 0x3f).toInt64.toUInt64).toInt64) &&& (65535 : Int64)))]))
      refine Gs (fun _ tk => XS.l2i X0.here hx rfl (hb hby at_92) rfl tk) ?_
      show Goes _ _ _ _ _ (s₁.setTop (mkF m 93 #[.val (.long x0), .second, .val (.long x1), .second, .val (.int x2), .val (.int tl), .val (.int pl), .val (.int t0), .val (.int t1), .val (.int t2), .val (.int p0), .unset, .unset, .unset, .unset, .unset] [(.int ((((x1.toUInt64 >>> ((16 : Int32) &&& 0x3f).toInt64.toUInt64).toInt64) &&& (65535 : Int64)).toInt32))]))
      refine Gs (fun _ tk => XS.i2c X0.here hx rfl (hb hby at_93) rfl tk) ?_
      show Goes _ _ _ _ _ (s₁.setTop (mkF m 94 #[.val (.long x0), .second, .val (.long x1), .second, .val (.int x2), .val (.int tl), .val (.int pl), .val (.int t0), .val (.int t1), .val (.int t2), .val (.int p0), .unset, .unset, .unset, .unset, .unset] [(.int (((((x1.toUInt64 >>> ((16 : Int32) &&& 0x3f).toInt64.toUInt64).toInt64) &&& (65535 : Int64)).toInt32).toUInt32.toUInt16.toUInt32.toInt32))]))
      exact J94 _ (own_chrI _)
    · refine Gs (fun _ tk => XS.ifNo X0.here hx rfl (hb hby at_76) rfl ((if0 _ _).trans (feq hc76_58).1) tk) ?_
      refine Gs (fun _ tk => XS.bipush X0.here hx rfl (hb hby at_79) tk) ?_
      refine Gs (fun _ tk => XS.goto X0.here hx rfl (pc0 := 81) (pc' := 94) rfl (hb hby at_81) (by decide) (by decide) tk) ?_
      exact J94 _ ⟨by decide, by decide⟩
  intro J68
  by_cases hc53_59 : (((x2.toUInt32 >>> ((4 : Int32) &&& 31).toUInt32).toInt32) &&& (1 : Int32)) = (0 : Int32)
  · refine Gs (fun _ tk => XS.ifYes X0.here hx rfl (pc0 := 53) (pc' := 61) rfl (hb hby at_53) rfl ((if0 _ _).trans (teq hc53_59).1) (by decide) (by decide) tk) ?_
    refine Gs (fun _ tk => XS.lloadN X0.here hx rfl (hb hby at_61) rfl tk) ?_
    refine Gs (fun _ tk => Jvm.Stand.ldc2J X0 hx hown (mvT hZ (gw hw 0 rfl)) rfl (hb hby at_62) tk) ?_
    show Goes _ _ _ _ _ (s₁.setTop (mkF m 65 #[.val (.long x0), .second, .val (.long x1), .second, .val (.int x2), .val (.int tl), .val (.int pl), .val (.int t0), .val (.int t1), .val (.int t2), .unset, .unset, .unset, .unset, .unset, .unset] [(.long (65535 : Int64)), (.long x1)]))
    refine Gs (fun _ tk => XS.land X0.here hx rfl (hb hby at_65) rfl tk) ?_
    show Goes _ _ _ _ _ (s₁.setTop (mkF m 66 #[.val (.long x0), .second, .val (.long x1), .second, .val (.int x2), .val (.int tl), .val (.int pl), .val (.int t0), .val (.int t1), .val (.int t2), .unset, .unset, .unset, .unset, .unset, .unset] [(.long (x1 &&& (65535 : Int64)))]))
    refine Gs (fun _ tk => XS.l2i X0.here hx rfl (hb hby at_66) rfl tk) ?_
    show Goes _ _ _ _ _ (s₁.setTop (mkF m 67 #[.val (.long x0), .second, .val (.long x1), .second, .val (.int x2), .val (.int tl), .val (.int pl), .val (.int t0), .val (.int t1), .val (.int t2), .unset, .unset, .unset, .unset, .unset, .unset] [(.int ((x1 &&& (65535 : Int64)).toInt32))]))
    refine Gs (fun _ tk => XS.i2c X0.here hx rfl (hb hby at_67) rfl tk) ?_
    show Goes _ _ _ _ _ (s₁.setTop (mkF m 68 #[.val (.long x0), .second, .val (.long x1), .second, .val (.int x2), .val (.int tl), .val (.int pl), .val (.int t0), .val (.int t1), .val (.int t2), .unset, .unset, .unset, .unset, .unset, .unset] [(.int (((x1 &&& (65535 : Int64)).toInt32).toUInt32.toUInt16.toUInt32.toInt32))]))
    exact J68 _ (own_chrI _)
  · refine Gs (fun _ tk => XS.ifNo X0.here hx rfl (hb hby at_53) rfl ((if0 _ _).trans (feq hc53_59).1) tk) ?_
    refine Gs (fun _ tk => XS.bipush X0.here hx rfl (hb hby at_56) tk) ?_
    refine Gs (fun _ tk => XS.goto X0.here hx rfl (pc0 := 58) (pc' := 68) rfl (hb hby at_58) (by decide) (by decide) tk) ?_
    exact J68 _ ⟨by decide, by decide⟩
set_option maxRecDepth 65536 in
set_option maxHeartbeats 40000000 in
theorem comes_1 {Post : Tables → Env → Array Value → State → Outcome → State → Prop} (hpost : ∀ tb e args s v u, (limb_1_1.after args s (.returned v) u = true ∧ limb_1_2.after args s (.returned v) u = true ∧ True) → ReturnedEndW s (.returned v) u (Jvm.fieldLocs frame_1_writes args s ++ Jvm.arrayLocs frame_1_arrays args s ++ Jvm.staticLocs frame_1_statics s) 32 1216 → Post tb e args s (.returned v) u) :
    ArmFor flags0 classFile x code maxLocals ret World_1 tables_1 room_1 Calls_1 rest_1 Pre_1 Post := by
  intro l hfl _ _ p e ha hc hk s m args below hf hA hF happ hP
  obtain ⟨hcalls, hrest, hpre⟩ := hP
  obtain ⟨-, -, -, hnamed, -, -, -, hat⟩ := (Spec.applies_iff hf).mp happ
  obtain ⟨hg, hn⟩ := and_e (Cond.before_iff.mp (show (Jvm.Cond.and given_1 narrow_1).before args s = true from hpre))
  obtain ⟨g0, hg0⟩ := and_e hg
  obtain ⟨ga0, hg0'⟩ := and_e hg0
  obtain ⟨ga1, hg0''⟩ := and_e hg0'
  obtain ⟨w0, w1, w2, rfl⟩ : ∃ w0 w1 w2 : Value, args = #[w0, w1, w2] := by
    have hs : args.size = 3 := by simpa [Cond.value, given_1] using g0
    obtain ⟨L⟩ := args
    match L, hs with
    | [w0, w1, w2], _ => exact ⟨w0, w1, w2, rfl⟩
  have hw := fun d (hd : d ∈ tables_1) => atoms_spec (ws := Jvm.Cond.code x code maxLocals ret :: tables_1) hat d (List.mem_cons_of_mem _ hd)
  have hfit : Fit s := fun {y c} hc i hi => by
    obtain ⟨ha, rfl⟩ := Array.getElem?_eq_some_iff.mp hc
    have q := List.all_eq_true.mp ((Array.all_eq_true_iff_forall_mem.mp hF) _ (Array.getElem_mem ha)) i (List.mem_range.mpr hi)
    simpa [Array.getElem?_eq_getElem hi] using q
  obtain ⟨hsets, hown0⟩ := atoms_of _ (rest_1_c_eq ▸ (show rest_1_c.before _ s = true from hrest))
  have hr0 := Cond.before_iff.mp hown0
  obtain ⟨i0, ei0⟩ := isL_v ga0
  obtain rfl : w0 = (.long i0) := Option.some.inj ei0
  obtain ⟨i1, ei1⟩ := isL_v ga1
  obtain rfl : w1 = (.long i1) := Option.some.inj ei1
  obtain ⟨i2, ei2⟩ := is_v hg0''
  obtain rfl : w2 = (.int i2) := Option.some.inj ei2
  obtain ⟨cz, evc⟩ := is_v (Cond.before_iff.mp (hsets _ (List.mem_of_getElem? (i := 1) rfl)))
  have S_c := Sta.start evc (Or.inl (hsets _ (List.mem_of_getElem? (i := 0) rfl)))
  have hcz : ¬ (cz = (0 : Int32)) := gotF (Cond.eq_ints evc rfl) (not_v (Cond.before_iff.mp (hsets _ (List.mem_of_getElem? (i := 2) rfl))))
  obtain ⟨fo, evf, r_fo⟩ := isR_v (Cond.before_iff.mp (hsets _ (List.mem_of_getElem? (i := 8) rfl)))
  have S_f := Sta.start evf (Or.inl (hsets _ (List.mem_of_getElem? (i := 7) rfl)))
  have ev0 := own_stv (Cond.before_iff.mp (hsets _ (List.mem_of_getElem? (i := 12) rfl)))
  have S_u0 := Sta.start ev0 (Or.inl (hsets _ (List.mem_of_getElem? (i := 11) rfl)))
  have ev1 := own_stv (Cond.before_iff.mp (hsets _ (List.mem_of_getElem? (i := 15) rfl)))
  have S_u1 := Sta.start ev1 (Or.inl (hsets _ (List.mem_of_getElem? (i := 14) rfl)))
  have ev2 := own_stv (Cond.before_iff.mp (hsets _ (List.mem_of_getElem? (i := 18) rfl)))
  have S_u2 := Sta.start ev2 (Or.inl (hsets _ (List.mem_of_getElem? (i := 17) rfl)))
  have hCH : CHv s consts_1 s.vm s.heap := CHv.start (own_EW hw) hcalls.1 (hsets _ (List.mem_of_getElem? (i := 2) rfl)) (gw hw 20 rfl) (gw hw 6 rfl)
  obtain ⟨n, o, h1, h2, h3, _, L, rfl, ⟨rfl, N⟩, hq⟩ := rm_law l s _ hw tables_1 i0 i1 i2 cz fo s.heap s.heap.size (Nat.le_refl _) S_c hcz S_f r_fo S_u0 S_u1 S_u2 p e ha hc hk s m _ below hf ((Spec.applies_iff_loose hf).mp happ).1 ⟨rfl, State.Warmed39.refl s, rfl, hCH⟩ trivial
  refine ⟨n, _, h1, h2, h3, hpost _ _ _ _ _ _ ⟨Cond.after_iff.mpr rfl, Cond.after_iff.mpr (eq_i res_at (Term.int_eval (1)) rfl), trivial⟩ ⟨hq.2.1, hq.2.2.1, hq.2.2.2.1, (hq.2.2.2.2.sift fun y hy => Or.inr (N y hy)).mono (by decide) (by decide)⟩⟩
theorem main_1_1 : Claimed_1_1 := comes_1 fun _ _ _ _ _ _ h hF => ⟨h.1, hF⟩
theorem main_1_2 : Claimed_1_2 := comes_1 fun _ _ _ _ _ _ h hF => ⟨h.2.1, hF⟩
end Jvm.Pilot.@@N@@
namespace Jvm.Pilot.@@N@@
open Jvm Jvm.ClassFile Sem Op Lib Jvm.Free Jvm.Stand Jvm.Pilot.@@N@@.Jvm.D
/-! MADE BY PROGRAM (witnessworld.py) out of the Statement's table words and the real class files: 20 classes; the members and pool entries that the words name. The judged class is class 1, her method 3. -/
namespace start1
open Jvm.ClassFile
def u (s : String) : CpInfo := .utf8 (stringToUtf16 s)
/-- a pool by its gaps: so many unusable entries, then the entry; so many at the end -/
def gap : Nat → List CpInfo → List CpInfo
  | 0, r => r
  | n + 1, r => .unusable :: gap n r
def poolList (es : List (Nat × CpInfo)) (last : Nat) : List CpInfo := es.foldr (fun e r => gap e.1 (e.2 :: r)) (gap last [])
def pool (es : List (Nat × CpInfo)) (last : Nat) : Array CpInfo := ⟨poolList es last⟩
def fileOf (pool : Array CpInfo) (this : Nat) (attrs : Array Attribute := #[]) (ms : Array MethodInfo := #[]) (fl : Nat := 33) (sup : Nat := 0) (ifs : Array Nat := #[]) (fds : Array FieldInfo := #[]) : ClassFile where
  minorVersion := 0
  majorVersion := 65
  constantPool := pool
  accessFlags := fl
  thisClass := this
  superClass := sup
  interfaces := ifs
  fields := fds
  methods := ms
  attributes := attrs
def plain (name : String) (sup : Option ClassId) : Class where
  name := name
  kind := .ordinary
  loader := none
  accessFlags := 33
  super := sup
  interfaces := #[]
  cf := none
  fields := #[]
  methods := #[]
  instanceTypes := #[]
  staticTypes := #[]
  resolved := #[]
  callSites := []
  init := .initialized
  statics := none
  mirror := none

def pool0 : Array CpInfo := pool [(5, u "<init>"), (0, u "()V"), (1, .class_ 10), (1, u "java/lang/Object")] 113

def k0c0 : Code := { maxStack := 0, maxLocals := 1, code := object_method_1_code, exceptionTable := #[], attributes := #[] }
def k0m0 : Method := { name := "<init>", desc := "()V", sig := { parameters := [], returnType := none }, accessFlags := 1, code := some k0c0 }
/-- java/lang/Object -/
def k0 : Class := { plain "java/lang/Object" none with
  accessFlags := 33
  interfaces := #[]
  cf := some (fileOf pool0 8 #[] #[{ accessFlags := 1, nameIndex := 5, descriptorIndex := 6, attributes := #[] }] 33 0 #[] #[])
  fields := #[]
  methods := #[k0m0]
  instanceTypes := #[]
  staticTypes := #[]
  resolved := Array.replicate 124 none
  statics := none }

def pool1 : Array CpInfo := pool [(2, .class_ 4), (1, u "java/lang/Object"), (0, u "<init>"), (0, u "()V"), (0, .class_ 8), (0, u "java/lang/String"), (0, .methodref 7 10), (0, .nameAndType 5 11), (0, u "([C)V"), (0, .methodref 7 13), (0, .nameAndType 14 15), (0, u "valueOf"), (0, u "(C)Ljava/lang/String;"), (0, .long 65535), (1, .methodref 19 20), (0, .class_ 21), (0, .nameAndType 22 23), (0, u "com/example/token_into_keys/tokenintokeys/text/TextShapeMatchesPinLaw"), (0, u "str"), (0, u "(ICCC)Ljava/lang/String;"), (0, .methodref 19 25), (0, .nameAndType 26 27), (0, u "fits"), (0, u "(CC)Z"), (0, .methodref 29 30), (0, .class_ 31), (0, .nameAndType 32 33), (0, u "com/example/token_into_keys/tokenintokeys/text/TextShape"), (0, u "matches"), (0, u "(Ljava/lang/String;Ljava/lang/String;)Z"), (3, u "law"), (0, u "(JJI)Z")] 2

def k1m0 : Method := { name := "<init>", desc := "()V", sig := { parameters := [], returnType := none }, accessFlags := 1, code := none }
def k1c1 : Code := { maxStack := 6, maxLocals := 4, code := method_2_code, exceptionTable := #[], attributes := #[] }
def k1m1 : Method := { name := "str", desc := "(ICCC)Ljava/lang/String;", sig := { parameters := [.int, .char, .char, .char], returnType := some (.object "java/lang/String") }, accessFlags := 10, code := some k1c1 }
def k1c2 : Code := { maxStack := 2, maxLocals := 2, code := method_3_code, exceptionTable := #[], attributes := #[] }
def k1m2 : Method := { name := "fits", desc := "(CC)Z", sig := { parameters := [.char, .char], returnType := some .boolean }, accessFlags := 10, code := some k1c2 }
def k1c3 : Code := { maxStack := 4, maxLocals := 16, code := code, exceptionTable := #[], attributes := #[] }
def k1m3 : Method := { name := "law", desc := "(JJI)Z", sig := { parameters := [.long, .long, .int], returnType := some .boolean }, accessFlags := 9, code := some k1c3 }
/-- com/example/token_into_keys/tokenintokeys/text/TextShapeMatchesPinLaw -/
def k1 : Class := { plain "com/example/token_into_keys/tokenintokeys/text/TextShapeMatchesPinLaw" (some 0) with
  accessFlags := 49
  interfaces := #[]
  cf := some (fileOf pool1 19 #[] #[{ accessFlags := 1, nameIndex := 5, descriptorIndex := 6, attributes := #[] }, { accessFlags := 10, nameIndex := 22, descriptorIndex := 23, attributes := #[] }, { accessFlags := 10, nameIndex := 26, descriptorIndex := 27, attributes := #[] }, { accessFlags := 9, nameIndex := 37, descriptorIndex := 38, attributes := #[] }] 49 2 #[] #[])
  fields := #[]
  methods := #[k1m0, k1m1, k1m2, k1m3]
  instanceTypes := #[]
  staticTypes := #[]
  resolved := Array.replicate 41 none
  statics := none }

def pool2 : Array CpInfo := pool [(1, .class_ 2), (0, u "java/io/Serializable"), (0, .class_ 4), (0, u "java/lang/Object")] 2

/-- java/io/Serializable -/
def k2 : Class := { plain "java/io/Serializable" (some 0) with
  accessFlags := 1537
  interfaces := #[]
  cf := some (fileOf pool2 1 #[] #[] 1537 3 #[] #[])
  fields := #[]
  methods := #[]
  instanceTypes := #[]
  staticTypes := #[]
  resolved := Array.replicate 7 none
  statics := none }

def pool3 : Array CpInfo := pool [(1, .class_ 2), (0, u "java/lang/Comparable"), (0, .class_ 4), (0, u "java/lang/Object")] 7

/-- java/lang/Comparable -/
def k3 : Class := { plain "java/lang/Comparable" (some 0) with
  accessFlags := 1537
  interfaces := #[]
  cf := some (fileOf pool3 1 #[] #[] 1537 3 #[] #[])
  fields := #[]
  methods := #[]
  instanceTypes := #[]
  staticTypes := #[]
  resolved := Array.replicate 12 none
  statics := none }

def pool4 : Array CpInfo := pool [(2, .class_ 4), (1, u "java/lang/CharSequence"), (42, .class_ 48), (0, u "java/lang/CharSequence$1CodePointIterator"), (10, .class_ 60), (0, u "java/lang/CharSequence$1CharIterator"), (5, .class_ 67), (0, u "java/lang/Object")] 63

/-- java/lang/CharSequence -/
def k4 : Class := { plain "java/lang/CharSequence" (some 0) with
  accessFlags := 1537
  interfaces := #[]
  cf := some (fileOf pool4 2 #[.nestMembers #[47, 59]] #[] 1537 66 #[] #[])
  fields := #[]
  methods := #[]
  instanceTypes := #[]
  staticTypes := #[]
  resolved := Array.replicate 131 none
  statics := none }

def pool5 : Array CpInfo := pool [(1, .class_ 2), (0, u "java/lang/constant/Constable"), (0, .class_ 4), (0, u "java/lang/Object")] 6

/-- java/lang/constant/Constable -/
def k5 : Class := { plain "java/lang/constant/Constable" (some 0) with
  accessFlags := 1537
  interfaces := #[]
  cf := some (fileOf pool5 1 #[] #[] 1537 3 #[] #[])
  fields := #[]
  methods := #[]
  instanceTypes := #[]
  staticTypes := #[]
  resolved := Array.replicate 11 none
  statics := none }

def pool6 : Array CpInfo := pool [(1, .class_ 2), (0, u "java/lang/constant/ConstantDesc"), (0, .class_ 4), (0, u "java/lang/Object")] 32

/-- java/lang/constant/ConstantDesc -/
def k6 : Class := { plain "java/lang/constant/ConstantDesc" (some 0) with
  accessFlags := 1537
  interfaces := #[]
  cf := some (fileOf pool6 1 #[] #[] 1537 3 #[] #[])
  fields := #[]
  methods := #[]
  instanceTypes := #[]
  staticTypes := #[]
  resolved := Array.replicate 37 none
  statics := none }

def pool7 : Array CpInfo := pool [(1, .methodref 2 3), (0, .class_ 4), (0, .nameAndType 5 6), (0, u "java/lang/Object"), (0, u "<init>"), (0, u "()V"), (0, .string 8), (0, u ""), (0, .fieldref 10 11), (0, .class_ 12), (0, .nameAndType 13 14), (0, u "java/lang/String"), (0, u "value"), (0, u "[B"), (0, .fieldref 10 16), (0, .nameAndType 17 18), (0, u "coder"), (0, u "B"), (2, u "hash"), (0, u "I"), (2, u "hashIsZero"), (0, u "Z"), (0, .methodref 10 28), (0, .nameAndType 5 29), (0, u "([CIILjava/lang/Void;)V"), (8, .fieldref 10 39), (0, .nameAndType 40 26), (0, u "COMPACT_STRINGS"), (1, .class_ 44), (1, u "java/lang/StringUTF16"), (0, u "compress"), (1, .methodref 42 48), (0, .nameAndType 49 50), (0, u "coderFromArrayLen"), (0, u "([BI)B"), (2, u "toBytes"), (53, .class_ 109), (1, u "java/lang/StringLatin1"), (32, u "()Z"), (34, .methodref 42 178), (0, .nameAndType 45 179), (0, u "([CII)[B"), (29, .methodref 10 210), (0, .nameAndType 5 211), (0, u "([BB)V"), (122, u "()I"), (0, .methodref 10 336), (0, .nameAndType 17 337), (0, u "()B"), (25, u "([BI)C"), (5, u "(C)Z"), (21, u "(II)V"), (35, u "(I)C"), (64, .methodref 10 493), (0, .nameAndType 494 142), (0, u "isLatin1"), (0, .methodref 107 496), (0, .nameAndType 497 363), (0, u "charAt"), (0, .methodref 42 496), (2, u "checkIndex"), (5, u "length"), (67, .class_ 576), (0, u "java/lang/CharSequence"), (22, u "CASE_INSENSITIVE_ORDER"), (0, u "Ljava/util/Comparator;"), (181, u "valueOf"), (0, u "(C)Ljava/lang/String;"), (226, u "([C)V"), (4, .methodref 107 1016), (0, .nameAndType 1017 369), (0, u "canEncode"), (0, .methodref 107 1019), (0, .nameAndType 53 1020), (0, u "(C)[B"), (0, .methodref 42 1019), (31, .fieldref 1054 1055), (0, .class_ 1056), (0, .nameAndType 1057 1058), (0, u "jdk/internal/util/Preconditions"), (0, u "SIOOBE_FORMATTER"), (0, u "Ljava/util/function/BiFunction;"), (0, .methodref 1054 1060), (0, .nameAndType 501 1061), (0, u "(IILjava/util/function/BiFunction;)I"), (39, u "serialPersistentFields"), (0, u "[Ljava/io/ObjectStreamField;"), (0, .class_ 1104), (0, u "java/lang/String$CaseInsensitiveComparator"), (1, .class_ 1107), (0, u "java/io/Serializable"), (0, .class_ 1109), (0, u "java/lang/Comparable"), (0, .class_ 1111), (0, u "java/lang/constant/Constable"), (0, .class_ 1113), (0, u "java/lang/constant/ConstantDesc"), (2, u "serialVersionUID"), (0, u "J"), (3, u "REPL"), (0, u "C"), (2, u "LATIN1"), (1, u "UTF16")] 323

def k7m0 : Method := { name := "<init>", desc := "()V", sig := { parameters := [], returnType := none }, accessFlags := 1, code := none }
def k7c1 : Code := { maxStack := 5, maxLocals := 2, code := jdk_42_method_3_code, exceptionTable := #[], attributes := #[] }
def k7m1 : Method := { name := "<init>", desc := "([C)V", sig := { parameters := [(.array .char)], returnType := none }, accessFlags := 1, code := some k7c1 }
def k7c2 : Code := { maxStack := 2, maxLocals := 1, code := jdk_42_method_54_code, exceptionTable := #[], attributes := #[] }
def k7m2 : Method := { name := "length", desc := "()I", sig := { parameters := [], returnType := some .int }, accessFlags := 1, code := some k7c2 }
def k7c3 : Code := { maxStack := 2, maxLocals := 2, code := jdk_42_method_56_code, exceptionTable := #[], attributes := #[] }
def k7m3 : Method := { name := "charAt", desc := "(I)C", sig := { parameters := [.int], returnType := some .char }, accessFlags := 1, code := some k7c3 }
def k7c4 : Code := { maxStack := 4, maxLocals := 1, code := jdk_42_method_139_code, exceptionTable := #[], attributes := #[] }
def k7m4 : Method := { name := "valueOf", desc := "(C)Ljava/lang/String;", sig := { parameters := [.char], returnType := some (.object "java/lang/String") }, accessFlags := 9, code := some k7c4 }
def k7c5 : Code := { maxStack := 4, maxLocals := 6, code := jdk_42_method_149_code, exceptionTable := #[], attributes := #[] }
def k7m5 : Method := { name := "<init>", desc := "([CIILjava/lang/Void;)V", sig := { parameters := [(.array .char), .int, .int, (.object "java/lang/Void")], returnType := none }, accessFlags := 2, code := some k7c5 }
def k7c6 : Code := { maxStack := 2, maxLocals := 3, code := jdk_42_method_151_code, exceptionTable := #[], attributes := #[] }
def k7m6 : Method := { name := "<init>", desc := "([BB)V", sig := { parameters := [(.array .byte), .byte], returnType := none }, accessFlags := 0, code := some k7c6 }
def k7c7 : Code := { maxStack := 1, maxLocals := 1, code := jdk_42_method_152_code, exceptionTable := #[], attributes := #[] }
def k7m7 : Method := { name := "coder", desc := "()B", sig := { parameters := [], returnType := some .byte }, accessFlags := 0, code := some k7c7 }
def k7c8 : Code := { maxStack := 1, maxLocals := 1, code := jdk_42_method_154_code, exceptionTable := #[], attributes := #[] }
def k7m8 : Method := { name := "isLatin1", desc := "()Z", sig := { parameters := [], returnType := some .boolean }, accessFlags := 0, code := some k7c8 }
def k7c9 : Code := { maxStack := 3, maxLocals := 2, code := jdk_42_method_155_code, exceptionTable := #[], attributes := #[] }
def k7m9 : Method := { name := "checkIndex", desc := "(II)V", sig := { parameters := [.int, .int], returnType := none }, accessFlags := 8, code := some k7c9 }
/-- java/lang/String -/
def k7 : Class := { plain "java/lang/String" (some 0) with
  accessFlags := 49
  interfaces := #[2, 3, 4, 5, 6]
  cf := some (fileOf pool7 10 #[.nestMembers #[1103]] #[{ accessFlags := 1, nameIndex := 5, descriptorIndex := 6, attributes := #[] }, { accessFlags := 1, nameIndex := 5, descriptorIndex := 1010, attributes := #[] }, { accessFlags := 1, nameIndex := 507, descriptorIndex := 334, attributes := #[] }, { accessFlags := 1, nameIndex := 497, descriptorIndex := 427, attributes := #[] }, { accessFlags := 9, nameIndex := 782, descriptorIndex := 783, attributes := #[] }, { accessFlags := 2, nameIndex := 5, descriptorIndex := 29, attributes := #[] }, { accessFlags := 0, nameIndex := 5, descriptorIndex := 211, attributes := #[] }, { accessFlags := 0, nameIndex := 17, descriptorIndex := 337, attributes := #[] }, { accessFlags := 0, nameIndex := 494, descriptorIndex := 142, attributes := #[] }, { accessFlags := 8, nameIndex := 501, descriptorIndex := 391, attributes := #[] }] 49 2 #[1106, 1108, 575, 1110, 1112] #[{ accessFlags := 18, nameIndex := 13, descriptorIndex := 14, attributes := #[] }, { accessFlags := 18, nameIndex := 17, descriptorIndex := 18, attributes := #[] }, { accessFlags := 2, nameIndex := 21, descriptorIndex := 22, attributes := #[] }, { accessFlags := 2, nameIndex := 25, descriptorIndex := 26, attributes := #[] }, { accessFlags := 26, nameIndex := 1116, descriptorIndex := 1117, attributes := #[] }, { accessFlags := 24, nameIndex := 40, descriptorIndex := 26, attributes := #[] }, { accessFlags := 26, nameIndex := 1101, descriptorIndex := 1102, attributes := #[] }, { accessFlags := 26, nameIndex := 1121, descriptorIndex := 1122, attributes := #[] }, { accessFlags := 25, nameIndex := 599, descriptorIndex := 600, attributes := #[] }, { accessFlags := 24, nameIndex := 1125, descriptorIndex := 18, attributes := #[] }, { accessFlags := 24, nameIndex := 1127, descriptorIndex := 18, attributes := #[] }])
  fields := #[{ name := "value", type := (.array .byte), accessFlags := 18, slot := 0, constantValue := 0 }, { name := "coder", type := .byte, accessFlags := 18, slot := 1, constantValue := 0 }, { name := "hash", type := .int, accessFlags := 2, slot := 2, constantValue := 0 }, { name := "hashIsZero", type := .boolean, accessFlags := 2, slot := 3, constantValue := 0 }, { name := "serialVersionUID", type := .long, accessFlags := 26, slot := 0, constantValue := 0 }, { name := "COMPACT_STRINGS", type := .boolean, accessFlags := 24, slot := 1, constantValue := 0 }, { name := "serialPersistentFields", type := (.array (.object "java/io/ObjectStreamField")), accessFlags := 26, slot := 2, constantValue := 0 }, { name := "REPL", type := .char, accessFlags := 26, slot := 3, constantValue := 0 }, { name := "CASE_INSENSITIVE_ORDER", type := (.object "java/util/Comparator"), accessFlags := 25, slot := 4, constantValue := 0 }, { name := "LATIN1", type := .byte, accessFlags := 24, slot := 5, constantValue := 0 }, { name := "UTF16", type := .byte, accessFlags := 24, slot := 6, constantValue := 0 }]
  methods := #[k7m0, k7m1, k7m2, k7m3, k7m4, k7m5, k7m6, k7m7, k7m8, k7m9]
  instanceTypes := #[(.array .byte), .byte, .int, .boolean]
  staticTypes := #[.long, .boolean, (.array (.object "java/io/ObjectStreamField")), .char, (.object "java/util/Comparator"), .byte, .byte]
  resolved := Array.replicate 1451 none
  statics := some 0 }

def pool8 : Array CpInfo := pool [(2, .class_ 4), (1, u "java/lang/Object"), (0, u "<init>"), (0, u "()V"), (0, .methodref 8 9), (0, .class_ 10), (0, .nameAndType 11 12), (0, u "java/lang/String"), (0, u "length"), (0, u "()I"), (0, .methodref 14 15), (0, .class_ 16), (0, .nameAndType 17 18), (0, u "com/example/token_into_keys/tokenintokeys/text/TextShape"), (0, u "startsWith"), (0, u "(Ljava/lang/String;Ljava/lang/String;)Z"), (0, .methodref 8 20), (0, .nameAndType 21 22), (0, u "charAt"), (0, u "(I)C"), (2, u "matches")] 3

def k8m0 : Method := { name := "<init>", desc := "()V", sig := { parameters := [], returnType := none }, accessFlags := 2, code := none }
def k8c1 : Code := { maxStack := 2, maxLocals := 2, code := prog_18_method_2_code, exceptionTable := #[], attributes := #[] }
def k8m1 : Method := { name := "matches", desc := "(Ljava/lang/String;Ljava/lang/String;)Z", sig := { parameters := [(.object "java/lang/String"), (.object "java/lang/String")], returnType := some .boolean }, accessFlags := 9, code := some k8c1 }
def k8c2 : Code := { maxStack := 2, maxLocals := 6, code := prog_18_method_3_code, exceptionTable := #[], attributes := #[] }
def k8m2 : Method := { name := "startsWith", desc := "(Ljava/lang/String;Ljava/lang/String;)Z", sig := { parameters := [(.object "java/lang/String"), (.object "java/lang/String")], returnType := some .boolean }, accessFlags := 9, code := some k8c2 }
/-- com/example/token_into_keys/tokenintokeys/text/TextShape -/
def k8 : Class := { plain "com/example/token_into_keys/tokenintokeys/text/TextShape" (some 0) with
  accessFlags := 49
  interfaces := #[]
  cf := some (fileOf pool8 14 #[] #[{ accessFlags := 2, nameIndex := 5, descriptorIndex := 6, attributes := #[] }, { accessFlags := 9, nameIndex := 25, descriptorIndex := 18, attributes := #[] }, { accessFlags := 9, nameIndex := 17, descriptorIndex := 18, attributes := #[] }] 49 2 #[] #[])
  fields := #[]
  methods := #[k8m0, k8m1, k8m2]
  instanceTypes := #[]
  staticTypes := #[]
  resolved := Array.replicate 29 none
  statics := none }

def pool9 : Array CpInfo := pool [(3, .class_ 4), (0, u "java/lang/String"), (1, .class_ 8), (1, u "java/lang/Object"), (0, u "<init>"), (0, u "()V"), (0, .methodref 12 13), (0, .class_ 14), (0, .nameAndType 15 16), (0, u "java/lang/StringUTF16"), (0, u "newBytesLength"), (0, u "(I)I"), (3, .integer 1073741823), (23, .fieldref 12 45), (0, .nameAndType 46 47), (0, u "$assertionsDisabled"), (0, u "Z"), (0, .methodref 12 49), (0, .nameAndType 50 51), (0, u "length"), (0, u "([B)I"), (7, .fieldref 12 60), (0, .nameAndType 61 62), (0, u "HI_BYTE_SHIFT"), (0, u "I"), (0, .fieldref 12 64), (0, .nameAndType 65 62), (0, u "LO_BYTE_SHIFT"), (1, .methodref 12 68), (0, .nameAndType 69 70), (0, u "checkIndex"), (0, u "(I[B)V"), (0, .methodref 12 72), (0, .nameAndType 73 74), (0, u "getChar"), (0, u "([BI)C"), (32, .methodref 12 108), (0, .nameAndType 109 110), (0, u "newBytesFor"), (0, u "(I)[B"), (0, .methodref 12 112), (0, .nameAndType 113 114), (0, u "putChar"), (0, u "([BII)V"), (0, .methodref 12 116), (0, .nameAndType 117 118), (0, u "compress"), (0, u "([CI[BII)I"), (0, .methodref 12 120), (0, .nameAndType 121 122), (0, u "toBytes"), (0, u "([CII)[B"), (138, u "coderFromArrayLen"), (0, u "([BI)B"), (106, .class_ 371), (1, u "java/lang/StringUTF16$LinesSpliterator"), (20, u "charAt"), (21, .methodref 3 415), (0, .nameAndType 69 416), (0, u "(II)V"), (13, u "MAX_LENGTH"), (44, u "(C)[B"), (151, .class_ 628), (0, u "java/lang/StringUTF16$CodePointsSpliterator"), (0, .class_ 630), (0, u "java/lang/StringUTF16$CharsSpliterator")] 4

def k9m0 : Method := { name := "<init>", desc := "()V", sig := { parameters := [], returnType := none }, accessFlags := 0, code := none }
def k9c1 : Code := { maxStack := 1, maxLocals := 1, code := jdk_52_method_2_code, exceptionTable := #[], attributes := #[] }
def k9m1 : Method := { name := "newBytesFor", desc := "(I)[B", sig := { parameters := [.int], returnType := some (.array .byte) }, accessFlags := 9, code := some k9c1 }
def k9c2 : Code := { maxStack := 4, maxLocals := 1, code := jdk_52_method_3_code, exceptionTable := #[], attributes := #[] }
def k9m2 : Method := { name := "newBytesLength", desc := "(I)I", sig := { parameters := [.int], returnType := some .int }, accessFlags := 9, code := some k9c2 }
def k9c3 : Code := { maxStack := 4, maxLocals := 3, code := jdk_52_method_4_code, exceptionTable := #[], attributes := #[] }
def k9m3 : Method := { name := "putChar", desc := "([BII)V", sig := { parameters := [(.array .byte), .int, .int], returnType := none }, accessFlags := 8, code := some k9c3 }
def k9c4 : Code := { maxStack := 3, maxLocals := 2, code := jdk_52_method_5_code, exceptionTable := #[], attributes := #[] }
def k9m4 : Method := { name := "getChar", desc := "([BI)C", sig := { parameters := [(.array .byte), .int], returnType := some .char }, accessFlags := 8, code := some k9c4 }
def k9c5 : Code := { maxStack := 2, maxLocals := 1, code := jdk_52_method_6_code, exceptionTable := #[], attributes := #[] }
def k9m5 : Method := { name := "length", desc := "([B)I", sig := { parameters := [(.array .byte)], returnType := some .int }, accessFlags := 9, code := some k9c5 }
def k9c6 : Code := { maxStack := 4, maxLocals := 5, code := jdk_52_method_14_code, exceptionTable := #[], attributes := #[] }
def k9m6 : Method := { name := "toBytes", desc := "([CII)[B", sig := { parameters := [(.array .char), .int, .int], returnType := some (.array .byte) }, accessFlags := 9, code := some k9c6 }
def k9c7 : Code := { maxStack := 2, maxLocals := 2, code := jdk_52_method_15_code, exceptionTable := #[], attributes := #[] }
def k9m7 : Method := { name := "coderFromArrayLen", desc := "([BI)B", sig := { parameters := [(.array .byte), .int], returnType := some .byte }, accessFlags := 8, code := some k9c7 }
def k9c8 : Code := { maxStack := 5, maxLocals := 6, code := jdk_52_method_16_code, exceptionTable := #[], attributes := #[] }
def k9m8 : Method := { name := "compress", desc := "([CII)[B", sig := { parameters := [(.array .char), .int, .int], returnType := some (.array .byte) }, accessFlags := 9, code := some k9c8 }
def k9c9 : Code := { maxStack := 3, maxLocals := 7, code := jdk_52_method_21_code, exceptionTable := #[], attributes := #[] }
def k9m9 : Method := { name := "compress", desc := "([CI[BII)I", sig := { parameters := [(.array .char), .int, (.array .byte), .int, .int], returnType := some .int }, accessFlags := 9, code := some k9c9 }
def k9c10 : Code := { maxStack := 3, maxLocals := 2, code := jdk_52_method_24_code, exceptionTable := #[], attributes := #[] }
def k9m10 : Method := { name := "toBytes", desc := "(C)[B", sig := { parameters := [.char], returnType := some (.array .byte) }, accessFlags := 9, code := some k9c10 }
def k9c11 : Code := { maxStack := 2, maxLocals := 2, code := jdk_52_method_83_code, exceptionTable := #[], attributes := #[] }
def k9m11 : Method := { name := "charAt", desc := "([BI)C", sig := { parameters := [(.array .byte), .int], returnType := some .char }, accessFlags := 9, code := some k9c11 }
def k9c12 : Code := { maxStack := 2, maxLocals := 2, code := jdk_52_method_91_code, exceptionTable := #[], attributes := #[] }
def k9m12 : Method := { name := "checkIndex", desc := "(I[B)V", sig := { parameters := [.int, (.array .byte)], returnType := none }, accessFlags := 9, code := some k9c12 }
/-- java/lang/StringUTF16 -/
def k9 : Class := { plain "java/lang/StringUTF16" (some 0) with
  accessFlags := 48
  interfaces := #[]
  cf := some (fileOf pool9 12 #[.nestMembers #[627, 629, 369]] #[{ accessFlags := 0, nameIndex := 9, descriptorIndex := 10, attributes := #[] }, { accessFlags := 9, nameIndex := 109, descriptorIndex := 110, attributes := #[] }, { accessFlags := 9, nameIndex := 15, descriptorIndex := 16, attributes := #[] }, { accessFlags := 8, nameIndex := 113, descriptorIndex := 114, attributes := #[] }, { accessFlags := 8, nameIndex := 73, descriptorIndex := 74, attributes := #[] }, { accessFlags := 9, nameIndex := 50, descriptorIndex := 51, attributes := #[] }, { accessFlags := 9, nameIndex := 121, descriptorIndex := 122, attributes := #[] }, { accessFlags := 8, nameIndex := 261, descriptorIndex := 262, attributes := #[] }, { accessFlags := 9, nameIndex := 117, descriptorIndex := 122, attributes := #[] }, { accessFlags := 9, nameIndex := 117, descriptorIndex := 118, attributes := #[] }, { accessFlags := 9, nameIndex := 121, descriptorIndex := 475, attributes := #[] }, { accessFlags := 9, nameIndex := 392, descriptorIndex := 74, attributes := #[] }, { accessFlags := 9, nameIndex := 69, descriptorIndex := 70, attributes := #[] }] 48 6 #[] #[{ accessFlags := 26, nameIndex := 61, descriptorIndex := 62, attributes := #[] }, { accessFlags := 26, nameIndex := 65, descriptorIndex := 62, attributes := #[] }, { accessFlags := 24, nameIndex := 430, descriptorIndex := 62, attributes := #[] }, { accessFlags := 4120, nameIndex := 46, descriptorIndex := 47, attributes := #[] }])
  fields := #[{ name := "HI_BYTE_SHIFT", type := .int, accessFlags := 26, slot := 0, constantValue := 0 }, { name := "LO_BYTE_SHIFT", type := .int, accessFlags := 26, slot := 1, constantValue := 0 }, { name := "MAX_LENGTH", type := .int, accessFlags := 24, slot := 2, constantValue := 0 }, { name := "$assertionsDisabled", type := .boolean, accessFlags := 4120, slot := 3, constantValue := 0 }]
  methods := #[k9m0, k9m1, k9m2, k9m3, k9m4, k9m5, k9m6, k9m7, k9m8, k9m9, k9m10, k9m11, k9m12]
  instanceTypes := #[]
  staticTypes := #[.int, .int, .int, .boolean]
  resolved := Array.replicate 635 none
  statics := some 1 }

def pool10 : Array CpInfo := pool [(1, .class_ 2), (0, u "java/lang/String"), (1, .class_ 6), (1, u "java/lang/Object"), (0, u "<init>"), (0, u "()V"), (0, .methodref 1 10), (0, .nameAndType 11 12), (0, u "checkIndex"), (0, u "(II)V"), (1, .class_ 16), (1, u "java/lang/StringLatin1"), (36, u "([BI)C"), (36, u "canEncode"), (14, u "(C)Z"), (15, u "$assertionsDisabled"), (0, u "Z"), (98, .class_ 223), (1, u "java/lang/StringLatin1$LinesSpliterator"), (28, u "charAt"), (127, u "toBytes"), (1, u "(C)[B"), (7, .class_ 391), (0, u "java/lang/StringLatin1$CharsSpliterator")] 3

def k10m0 : Method := { name := "<init>", desc := "()V", sig := { parameters := [], returnType := none }, accessFlags := 0, code := none }
def k10c1 : Code := { maxStack := 2, maxLocals := 2, code := jdk_43_method_2_code, exceptionTable := #[], attributes := #[] }
def k10m1 : Method := { name := "charAt", desc := "([BI)C", sig := { parameters := [(.array .byte), .int], returnType := some .char }, accessFlags := 9, code := some k10c1 }
def k10c2 : Code := { maxStack := 2, maxLocals := 1, code := jdk_43_method_3_code, exceptionTable := #[], attributes := #[] }
def k10m2 : Method := { name := "canEncode", desc := "(C)Z", sig := { parameters := [.char], returnType := some .boolean }, accessFlags := 9, code := some k10c2 }
def k10c3 : Code := { maxStack := 4, maxLocals := 1, code := jdk_43_method_46_code, exceptionTable := #[], attributes := #[] }
def k10m3 : Method := { name := "toBytes", desc := "(C)[B", sig := { parameters := [.char], returnType := some (.array .byte) }, accessFlags := 9, code := some k10c3 }
/-- java/lang/StringLatin1 -/
def k10 : Class := { plain "java/lang/StringLatin1" (some 0) with
  accessFlags := 48
  interfaces := #[]
  cf := some (fileOf pool10 14 #[.nestMembers #[390, 221]] #[{ accessFlags := 0, nameIndex := 7, descriptorIndex := 8, attributes := #[] }, { accessFlags := 9, nameIndex := 252, descriptorIndex := 53, attributes := #[] }, { accessFlags := 9, nameIndex := 90, descriptorIndex := 105, attributes := #[] }, { accessFlags := 9, nameIndex := 380, descriptorIndex := 382, attributes := #[] }] 48 4 #[] #[{ accessFlags := 4120, nameIndex := 121, descriptorIndex := 122, attributes := #[] }])
  fields := #[{ name := "$assertionsDisabled", type := .boolean, accessFlags := 4120, slot := 0, constantValue := 0 }]
  methods := #[k10m0, k10m1, k10m2, k10m3]
  instanceTypes := #[]
  staticTypes := #[.boolean]
  resolved := Array.replicate 395 none
  statics := none }

def pool11 : Array CpInfo := pool [(2, .class_ 4), (1, u "java/lang/Object"), (0, u "<init>"), (0, u "()V"), (17, .class_ 26), (1, u "jdk/internal/util/Preconditions"), (6, u "checkIndex"), (21, .class_ 56), (0, u "jdk/internal/util/Preconditions$4"), (57, .class_ 115), (0, u "jdk/internal/util/Preconditions$1"), (7, u "SIOOBE_FORMATTER"), (0, u "Ljava/util/function/BiFunction;"), (0, .class_ 126), (0, u "jdk/internal/util/Preconditions$2"), (3, u "AIOOBE_FORMATTER"), (0, .class_ 132), (0, u "jdk/internal/util/Preconditions$3"), (3, u "IOOBE_FORMATTER"), (41, u "(IILjava/util/function/BiFunction;)I")] 15

def k11m0 : Method := { name := "<init>", desc := "()V", sig := { parameters := [], returnType := none }, accessFlags := 1, code := none }
def k11c1 : Code := { maxStack := 3, maxLocals := 3, code := jdk_41_method_11_code, exceptionTable := #[], attributes := #[] }
def k11m1 : Method := { name := "checkIndex", desc := "(IILjava/util/function/BiFunction;)I", sig := { parameters := [.int, .int, (.object "java/util/function/BiFunction")], returnType := some .int }, accessFlags := 9, code := some k11c1 }
/-- jdk/internal/util/Preconditions -/
def k11 : Class := { plain "jdk/internal/util/Preconditions" (some 0) with
  accessFlags := 33
  interfaces := #[]
  cf := some (fileOf pool11 24 #[.nestMembers #[55, 131, 125, 114]] #[{ accessFlags := 1, nameIndex := 5, descriptorIndex := 6, attributes := #[] }, { accessFlags := 9, nameIndex := 33, descriptorIndex := 178, attributes := #[] }] 33 2 #[] #[{ accessFlags := 25, nameIndex := 123, descriptorIndex := 124, attributes := #[] }, { accessFlags := 25, nameIndex := 130, descriptorIndex := 124, attributes := #[] }, { accessFlags := 25, nameIndex := 136, descriptorIndex := 124, attributes := #[] }])
  fields := #[{ name := "SIOOBE_FORMATTER", type := (.object "java/util/function/BiFunction"), accessFlags := 25, slot := 0, constantValue := 0 }, { name := "AIOOBE_FORMATTER", type := (.object "java/util/function/BiFunction"), accessFlags := 25, slot := 1, constantValue := 0 }, { name := "IOOBE_FORMATTER", type := (.object "java/util/function/BiFunction"), accessFlags := 25, slot := 2, constantValue := 0 }]
  methods := #[k11m0, k11m1]
  instanceTypes := #[]
  staticTypes := #[(.object "java/util/function/BiFunction"), (.object "java/util/function/BiFunction"), (.object "java/util/function/BiFunction")]
  resolved := Array.replicate 194 none
  statics := some 2 }

def pool12 : Array CpInfo := pool [(9, u "<init>"), (6, .class_ 18), (1, u "java/lang/Object"), (0, u "()V"), (1, .class_ 23), (1, u "jdk/internal/util/ArraysSupport"), (0, u "LOG2_ARRAY_LONG_INDEX_SCALE"), (0, u "I"), (2, u "U"), (0, u "Ljdk/internal/misc/Unsafe;"), (8, u "BIG_ENDIAN"), (0, u "Z"), (8, u "LOG2_BYTE_BIT_SIZE"), (4, u "LOG2_ARRAY_INT_INDEX_SCALE"), (54, u "JLA"), (0, u "Ljdk/internal/access/JavaLangAccess;"), (11, u "LOG2_ARRAY_BOOLEAN_INDEX_SCALE"), (9, u "LOG2_ARRAY_BYTE_INDEX_SCALE"), (5, u "LOG2_ARRAY_CHAR_INDEX_SCALE"), (5, u "LOG2_ARRAY_SHORT_INDEX_SCALE"), (18, u "LOG2_ARRAY_FLOAT_INDEX_SCALE"), (24, u "LOG2_ARRAY_DOUBLE_INDEX_SCALE"), (89, u "T_BOOLEAN"), (2, u "T_CHAR"), (1, u "T_FLOAT"), (1, u "T_DOUBLE"), (1, u "T_BYTE"), (1, u "T_SHORT"), (1, u "T_INT"), (1, u "T_LONG"), (1, u "SOFT_MAX_ARRAY_LENGTH")] 83

def k12m0 : Method := { name := "<init>", desc := "()V", sig := { parameters := [], returnType := none }, accessFlags := 2, code := none }
/-- jdk/internal/util/ArraysSupport -/
def k12 : Class := { plain "jdk/internal/util/ArraysSupport" (some 0) with
  accessFlags := 33
  interfaces := #[]
  cf := some (fileOf pool12 21 #[] #[{ accessFlags := 2, nameIndex := 9, descriptorIndex := 19, attributes := #[] }] 33 16 #[] #[{ accessFlags := 24, nameIndex := 28, descriptorIndex := 29, attributes := #[] }, { accessFlags := 26, nameIndex := 38, descriptorIndex := 39, attributes := #[] }, { accessFlags := 25, nameIndex := 121, descriptorIndex := 25, attributes := #[] }, { accessFlags := 25, nameIndex := 131, descriptorIndex := 25, attributes := #[] }, { accessFlags := 25, nameIndex := 137, descriptorIndex := 25, attributes := #[] }, { accessFlags := 25, nameIndex := 143, descriptorIndex := 25, attributes := #[] }, { accessFlags := 25, nameIndex := 53, descriptorIndex := 25, attributes := #[] }, { accessFlags := 25, nameIndex := 24, descriptorIndex := 25, attributes := #[] }, { accessFlags := 25, nameIndex := 162, descriptorIndex := 25, attributes := #[] }, { accessFlags := 25, nameIndex := 187, descriptorIndex := 25, attributes := #[] }, { accessFlags := 26, nameIndex := 48, descriptorIndex := 25, attributes := #[] }, { accessFlags := 25, nameIndex := 277, descriptorIndex := 25, attributes := #[] }, { accessFlags := 25, nameIndex := 280, descriptorIndex := 25, attributes := #[] }, { accessFlags := 25, nameIndex := 282, descriptorIndex := 25, attributes := #[] }, { accessFlags := 25, nameIndex := 284, descriptorIndex := 25, attributes := #[] }, { accessFlags := 25, nameIndex := 286, descriptorIndex := 25, attributes := #[] }, { accessFlags := 25, nameIndex := 288, descriptorIndex := 25, attributes := #[] }, { accessFlags := 25, nameIndex := 290, descriptorIndex := 25, attributes := #[] }, { accessFlags := 25, nameIndex := 292, descriptorIndex := 25, attributes := #[] }, { accessFlags := 26, nameIndex := 108, descriptorIndex := 109, attributes := #[] }, { accessFlags := 25, nameIndex := 294, descriptorIndex := 25, attributes := #[] }])
  fields := #[{ name := "U", type := (.object "jdk/internal/misc/Unsafe"), accessFlags := 24, slot := 0, constantValue := 0 }, { name := "BIG_ENDIAN", type := .boolean, accessFlags := 26, slot := 1, constantValue := 0 }, { name := "LOG2_ARRAY_BOOLEAN_INDEX_SCALE", type := .int, accessFlags := 25, slot := 2, constantValue := 0 }, { name := "LOG2_ARRAY_BYTE_INDEX_SCALE", type := .int, accessFlags := 25, slot := 3, constantValue := 0 }, { name := "LOG2_ARRAY_CHAR_INDEX_SCALE", type := .int, accessFlags := 25, slot := 4, constantValue := 0 }, { name := "LOG2_ARRAY_SHORT_INDEX_SCALE", type := .int, accessFlags := 25, slot := 5, constantValue := 0 }, { name := "LOG2_ARRAY_INT_INDEX_SCALE", type := .int, accessFlags := 25, slot := 6, constantValue := 0 }, { name := "LOG2_ARRAY_LONG_INDEX_SCALE", type := .int, accessFlags := 25, slot := 7, constantValue := 0 }, { name := "LOG2_ARRAY_FLOAT_INDEX_SCALE", type := .int, accessFlags := 25, slot := 8, constantValue := 0 }, { name := "LOG2_ARRAY_DOUBLE_INDEX_SCALE", type := .int, accessFlags := 25, slot := 9, constantValue := 0 }, { name := "LOG2_BYTE_BIT_SIZE", type := .int, accessFlags := 26, slot := 10, constantValue := 0 }, { name := "T_BOOLEAN", type := .int, accessFlags := 25, slot := 11, constantValue := 0 }, { name := "T_CHAR", type := .int, accessFlags := 25, slot := 12, constantValue := 0 }, { name := "T_FLOAT", type := .int, accessFlags := 25, slot := 13, constantValue := 0 }, { name := "T_DOUBLE", type := .int, accessFlags := 25, slot := 14, constantValue := 0 }, { name := "T_BYTE", type := .int, accessFlags := 25, slot := 15, constantValue := 0 }, { name := "T_SHORT", type := .int, accessFlags := 25, slot := 16, constantValue := 0 }, { name := "T_INT", type := .int, accessFlags := 25, slot := 17, constantValue := 0 }, { name := "T_LONG", type := .int, accessFlags := 25, slot := 18, constantValue := 0 }, { name := "JLA", type := (.object "jdk/internal/access/JavaLangAccess"), accessFlags := 26, slot := 19, constantValue := 0 }, { name := "SOFT_MAX_ARRAY_LENGTH", type := .int, accessFlags := 25, slot := 20, constantValue := 0 }]
  methods := #[k12m0]
  instanceTypes := #[]
  staticTypes := #[(.object "jdk/internal/misc/Unsafe"), .boolean, .int, .int, .int, .int, .int, .int, .int, .int, .int, .int, .int, .int, .int, .int, .int, .int, .int, (.object "jdk/internal/access/JavaLangAccess"), .int]
  resolved := Array.replicate 378 none
  statics := none }

def pool13 : Array CpInfo := pool [(1, u "java/lang/Cloneable"), (0, .class_ 1), (0, u "java/lang/Object"), (0, .class_ 3)] 3

/-- java/lang/Cloneable -/
def k13 : Class := { plain "java/lang/Cloneable" (some 0) with
  accessFlags := 1537
  interfaces := #[]
  cf := some (fileOf pool13 2 #[] #[] 1537 4 #[] #[])
  fields := #[]
  methods := #[]
  instanceTypes := #[]
  staticTypes := #[]
  resolved := Array.replicate 8 none
  statics := none }

/-- the primitive byte -/
def k14 : Class := { plain "byte" none with kind := .primitive 'B', accessFlags := 0x411 }
/-- [B -/
def k15 : Class := { plain "[B" (some 0) with kind := .array 14 .byte, interfaces := #[13, 2], accessFlags := 1041 }

/-- the primitive char -/
def k16 : Class := { plain "char" none with kind := .primitive 'C', accessFlags := 0x411 }
/-- [C -/
def k17 : Class := { plain "[C" (some 0) with kind := .array 16 .char, interfaces := #[13, 2], accessFlags := 1041 }

/-- the primitive int -/
def k18 : Class := { plain "int" none with kind := .primitive 'I', accessFlags := 0x411 }
/-- [I -/
def k19 : Class := { plain "[I" (some 0) with kind := .array 18 .int, interfaces := #[13, 2], accessFlags := 1041 }

def heap : Heap := #[{ cls := 7, slots := #[.long 0, .int 1, .null, .int 0, .null, .int 0, .int 0], vm := .statics 7 },
  { cls := 9, slots := #[.int 0, .int 8, .int 0, .int 1], vm := .statics 9 },
  { cls := 11, slots := #[.null, .null, .null], vm := .statics 11 }]
def classes : Array Class := #[k0, k1, k2, k3, k4, k5, k6, k7, k8, k9, k10, k11, k12, k13, k14, k15, k16, k17, k18, k19]
def interned : List (Array UInt16 × Addr) := []
def slotsUsed : Nat := 14
def theMethod : MethodId := ⟨1, 3⟩
def args0 : Array Value := #[.long 7, .long 9, .int 27]
def aboutOver (below : List Frame) : State where
  vm := { classes := classes, interned := interned.toArray }
  heap := heap
  slotsUsed := slotsUsed
  threads := #[{ frames := .invoking theMethod args0 :: below }]
def below0 : List Frame := [.native { method := ⟨0, 0⟩, args := #[] }]
def about1 : State := aboutOver below0
def p0 : Program := .bare "" "" ""
def e0 : Env := launch0.env 0 0 0
theorem w_frames : about1.frames = Frame.invoking theMethod args0 :: below0 := rfl
set_option maxRecDepth 65536 in
theorem w_args : argsFit about1.vm theMethod args0 = true := by decide +kernel
set_option maxRecDepth 65536 in
theorem w_heap : heapFits about1 = true := by decide +kernel
set_option maxRecDepth 65536 in
theorem w_runnable : about1.curStatus? = some .runnable := by decide +kernel
set_option maxRecDepth 65536 in
theorem w_alone : about1.alone = true := by decide +kernel
set_option maxRecDepth 65536 in
theorem w_named : about1.methodNamed? x = some theMethod := by decide +kernel
set_option maxRecDepth 65536 in
theorem w_hears : about1.hears theMethod below0 = true := by decide +kernel
set_option maxRecDepth 65536 in
theorem w_ripe : about1.ripe theMethod args0 below0 = true := by decide +kernel
theorem w_running : about1.status = .running := rfl
set_option maxRecDepth 65536 in
theorem w_room : about1.hasRoom e0.platform room_1 = true :=
  launch0.hasRoom_least _ room_1 (by decide +kernel) (by decide +kernel) (by decide +kernel) (by decide +kernel) (by decide +kernel) (by decide +kernel)
theorem allAtoms_all (ts : List Jvm.Cond) (a : Array Jvm.Value) (st : Jvm.State) : (allAtoms ts).before a st = ts.all (fun c => c.before a st) := by
  induction ts with
  | nil => rfl
  | cons c t ih =>
    show (Jvm.Cond.and c (allAtoms t)).before a st = _
    rw [Jvm.Cond.before_and, ih, List.all_cons]
def words1 : List Jvm.Cond := Jvm.Cond.code x code maxLocals ret :: tables_1
/-- a 'code' word, met by the world's own term for the bytes: nothing is compared byte by byte -/
theorem code_word {y : MethodName} {bytes : ByteArray} {mx : Nat} {rt : Option FieldType} {a : Array Value} {s : State} {m : MethodId} {meth : Method} {c : Code} (h1 : s.methodNamed? y = some m) (h2 : s.vm.method? m = some meth) (h3 : meth.code = some c) (h4 : c.code = bytes)
    (h5 : (c.maxLocals == mx && c.exceptionTable.isEmpty && decide (c.maxStack ≤ mostOperands) && decide (meth.sig.returnType = rt) && !meth.locks && decide (parseMethodDescriptor y.desc = some meth.sig)) = true) : (Jvm.Cond.code y bytes mx rt).before a s = true := by
  simp only [Bool.and_eq_true, beq_iff_eq, Bool.not_eq_true', decide_eq_true_eq] at h5
  obtain ⟨⟨⟨⟨⟨g1, g2⟩, g3⟩, g4⟩, g5⟩, g6⟩ := h5
  simp [Cond.before, Cond.holds, Cond.value, h1, h2, h3, h4, g1, g2, g3, g4, g5, g6]
def isCode : Jvm.Cond → Bool
  | .code _ _ _ _ => true
  | _ => false
theorem all_split {L : List Jvm.Cond} {P : Jvm.Cond → Bool} (h1 : L.all (fun c => isCode c || P c) = true) (h2 : ∀ c ∈ L.filter isCode, P c = true) : L.all P = true := by
  refine List.all_eq_true.mpr fun c hc => ?_
  have h := List.all_eq_true.mp h1 c hc
  rcases Bool.eq_false_or_eq_true (isCode c) with hi | hi
  · exact h2 c (List.mem_filter.mpr ⟨hc, hi⟩)
  · simpa [hi] using h
set_option maxRecDepth 65536 in
theorem w_c0 : (Jvm.Cond.code x code maxLocals ret).before args0 about1 = true := code_word (m := ⟨1, 3⟩) (meth := k1m3) (c := k1c3) (by decide +kernel) rfl rfl rfl (by decide +kernel)
set_option maxRecDepth 65536 in
theorem w_c1 : (Jvm.Cond.code ({ cls := "com/example/token_into_keys/tokenintokeys/text/TextShapeMatchesPinLaw", name := "str", desc := "(ICCC)Ljava/lang/String;" } : Jvm.MethodName) method_2_code (4 : Nat) (Option.some (Jvm.ClassFile.FieldType.object "java/lang/String"))).before args0 about1 = true := code_word (m := ⟨1, 1⟩) (meth := k1m1) (c := k1c1) (by decide +kernel) rfl rfl rfl (by decide +kernel)
set_option maxRecDepth 65536 in
theorem w_c2 : (Jvm.Cond.code ({ cls := "java/lang/String", name := "<init>", desc := "([C)V" } : Jvm.MethodName) jdk_42_method_3_code (2 : Nat) (Option.none : Option Jvm.ClassFile.FieldType)).before args0 about1 = true := code_word (m := ⟨7, 1⟩) (meth := k7m1) (c := k7c1) (by decide +kernel) rfl rfl rfl (by decide +kernel)
set_option maxRecDepth 65536 in
theorem w_c3 : (Jvm.Cond.code ({ cls := "java/lang/String", name := "<init>", desc := "([CIILjava/lang/Void;)V" } : Jvm.MethodName) jdk_42_method_149_code (6 : Nat) (Option.none : Option Jvm.ClassFile.FieldType)).before args0 about1 = true := code_word (m := ⟨7, 5⟩) (meth := k7m5) (c := k7c5) (by decide +kernel) rfl rfl rfl (by decide +kernel)
set_option maxRecDepth 65536 in
theorem w_c4 : (Jvm.Cond.code ({ cls := "java/lang/Object", name := "<init>", desc := "()V" } : Jvm.MethodName) object_method_1_code (1 : Nat) (Option.none : Option Jvm.ClassFile.FieldType)).before args0 about1 = true := code_word (m := ⟨0, 0⟩) (meth := k0m0) (c := k0c0) (by decide +kernel) rfl rfl rfl (by decide +kernel)
set_option maxRecDepth 65536 in
theorem w_c5 : (Jvm.Cond.code ({ cls := "com/example/token_into_keys/tokenintokeys/text/TextShape", name := "matches", desc := "(Ljava/lang/String;Ljava/lang/String;)Z" } : Jvm.MethodName) prog_18_method_2_code (2 : Nat) (Option.some Jvm.ClassFile.FieldType.boolean)).before args0 about1 = true := code_word (m := ⟨8, 1⟩) (meth := k8m1) (c := k8c1) (by decide +kernel) rfl rfl rfl (by decide +kernel)
set_option maxRecDepth 65536 in
theorem w_c6 : (Jvm.Cond.code ({ cls := "java/lang/String", name := "length", desc := "()I" } : Jvm.MethodName) jdk_42_method_54_code (1 : Nat) (Option.some Jvm.ClassFile.FieldType.int)).before args0 about1 = true := code_word (m := ⟨7, 2⟩) (meth := k7m2) (c := k7c2) (by decide +kernel) rfl rfl rfl (by decide +kernel)
set_option maxRecDepth 65536 in
theorem w_c7 : (Jvm.Cond.code ({ cls := "java/lang/String", name := "coder", desc := "()B" } : Jvm.MethodName) jdk_42_method_152_code (1 : Nat) (Option.some Jvm.ClassFile.FieldType.byte)).before args0 about1 = true := code_word (m := ⟨7, 7⟩) (meth := k7m7) (c := k7c7) (by decide +kernel) rfl rfl rfl (by decide +kernel)
set_option maxRecDepth 65536 in
theorem w_c8 : (Jvm.Cond.code ({ cls := "com/example/token_into_keys/tokenintokeys/text/TextShape", name := "startsWith", desc := "(Ljava/lang/String;Ljava/lang/String;)Z" } : Jvm.MethodName) prog_18_method_3_code (6 : Nat) (Option.some Jvm.ClassFile.FieldType.boolean)).before args0 about1 = true := code_word (m := ⟨8, 2⟩) (meth := k8m2) (c := k8c2) (by decide +kernel) rfl rfl rfl (by decide +kernel)
set_option maxRecDepth 65536 in
theorem w_c9 : (Jvm.Cond.code ({ cls := "java/lang/StringUTF16", name := "compress", desc := "([CII)[B" } : Jvm.MethodName) jdk_52_method_16_code (6 : Nat) (Option.some (Jvm.ClassFile.FieldType.array Jvm.ClassFile.FieldType.byte))).before args0 about1 = true := code_word (m := ⟨9, 8⟩) (meth := k9m8) (c := k9c8) (by decide +kernel) rfl rfl rfl (by decide +kernel)
set_option maxRecDepth 65536 in
theorem w_c10 : (Jvm.Cond.code ({ cls := "java/lang/StringUTF16", name := "compress", desc := "([CI[BII)I" } : Jvm.MethodName) jdk_52_method_21_code (7 : Nat) (Option.some Jvm.ClassFile.FieldType.int)).before args0 about1 = true := code_word (m := ⟨9, 9⟩) (meth := k9m9) (c := k9c9) (by decide +kernel) rfl rfl rfl (by decide +kernel)
set_option maxRecDepth 65536 in
theorem w_c11 : (Jvm.Cond.code ({ cls := "java/lang/StringUTF16", name := "coderFromArrayLen", desc := "([BI)B" } : Jvm.MethodName) jdk_52_method_15_code (2 : Nat) (Option.some Jvm.ClassFile.FieldType.byte)).before args0 about1 = true := code_word (m := ⟨9, 7⟩) (meth := k9m7) (c := k9c7) (by decide +kernel) rfl rfl rfl (by decide +kernel)
set_option maxRecDepth 65536 in
theorem w_c12 : (Jvm.Cond.code ({ cls := "java/lang/String", name := "valueOf", desc := "(C)Ljava/lang/String;" } : Jvm.MethodName) jdk_42_method_139_code (1 : Nat) (Option.some (Jvm.ClassFile.FieldType.object "java/lang/String"))).before args0 about1 = true := code_word (m := ⟨7, 4⟩) (meth := k7m4) (c := k7c4) (by decide +kernel) rfl rfl rfl (by decide +kernel)
set_option maxRecDepth 65536 in
theorem w_c13 : (Jvm.Cond.code ({ cls := "java/lang/StringLatin1", name := "canEncode", desc := "(C)Z" } : Jvm.MethodName) jdk_43_method_3_code (1 : Nat) (Option.some Jvm.ClassFile.FieldType.boolean)).before args0 about1 = true := code_word (m := ⟨10, 2⟩) (meth := k10m2) (c := k10c2) (by decide +kernel) rfl rfl rfl (by decide +kernel)
set_option maxRecDepth 65536 in
theorem w_c14 : (Jvm.Cond.code ({ cls := "java/lang/StringLatin1", name := "toBytes", desc := "(C)[B" } : Jvm.MethodName) jdk_43_method_46_code (1 : Nat) (Option.some (Jvm.ClassFile.FieldType.array Jvm.ClassFile.FieldType.byte))).before args0 about1 = true := code_word (m := ⟨10, 3⟩) (meth := k10m3) (c := k10c3) (by decide +kernel) rfl rfl rfl (by decide +kernel)
set_option maxRecDepth 65536 in
theorem w_c15 : (Jvm.Cond.code ({ cls := "java/lang/String", name := "<init>", desc := "([BB)V" } : Jvm.MethodName) jdk_42_method_151_code (3 : Nat) (Option.none : Option Jvm.ClassFile.FieldType)).before args0 about1 = true := code_word (m := ⟨7, 6⟩) (meth := k7m6) (c := k7c6) (by decide +kernel) rfl rfl rfl (by decide +kernel)
set_option maxRecDepth 65536 in
theorem w_c16 : (Jvm.Cond.code ({ cls := "java/lang/StringUTF16", name := "toBytes", desc := "([CII)[B" } : Jvm.MethodName) jdk_52_method_14_code (5 : Nat) (Option.some (Jvm.ClassFile.FieldType.array Jvm.ClassFile.FieldType.byte))).before args0 about1 = true := code_word (m := ⟨9, 6⟩) (meth := k9m6) (c := k9c6) (by decide +kernel) rfl rfl rfl (by decide +kernel)
set_option maxRecDepth 65536 in
theorem w_c17 : (Jvm.Cond.code ({ cls := "java/lang/StringUTF16", name := "newBytesFor", desc := "(I)[B" } : Jvm.MethodName) jdk_52_method_2_code (1 : Nat) (Option.some (Jvm.ClassFile.FieldType.array Jvm.ClassFile.FieldType.byte))).before args0 about1 = true := code_word (m := ⟨9, 1⟩) (meth := k9m1) (c := k9c1) (by decide +kernel) rfl rfl rfl (by decide +kernel)
set_option maxRecDepth 65536 in
theorem w_c18 : (Jvm.Cond.code ({ cls := "java/lang/StringUTF16", name := "newBytesLength", desc := "(I)I" } : Jvm.MethodName) jdk_52_method_3_code (1 : Nat) (Option.some Jvm.ClassFile.FieldType.int)).before args0 about1 = true := code_word (m := ⟨9, 2⟩) (meth := k9m2) (c := k9c2) (by decide +kernel) rfl rfl rfl (by decide +kernel)
set_option maxRecDepth 65536 in
theorem w_c19 : (Jvm.Cond.code ({ cls := "java/lang/StringUTF16", name := "putChar", desc := "([BII)V" } : Jvm.MethodName) jdk_52_method_4_code (3 : Nat) (Option.none : Option Jvm.ClassFile.FieldType)).before args0 about1 = true := code_word (m := ⟨9, 3⟩) (meth := k9m3) (c := k9c3) (by decide +kernel) rfl rfl rfl (by decide +kernel)
set_option maxRecDepth 65536 in
theorem w_c20 : (Jvm.Cond.code ({ cls := "java/lang/StringUTF16", name := "getChar", desc := "([BI)C" } : Jvm.MethodName) jdk_52_method_5_code (2 : Nat) (Option.some Jvm.ClassFile.FieldType.char)).before args0 about1 = true := code_word (m := ⟨9, 4⟩) (meth := k9m4) (c := k9c4) (by decide +kernel) rfl rfl rfl (by decide +kernel)
set_option maxRecDepth 65536 in
theorem w_c21 : (Jvm.Cond.code ({ cls := "java/lang/StringUTF16", name := "toBytes", desc := "(C)[B" } : Jvm.MethodName) jdk_52_method_24_code (2 : Nat) (Option.some (Jvm.ClassFile.FieldType.array Jvm.ClassFile.FieldType.byte))).before args0 about1 = true := code_word (m := ⟨9, 10⟩) (meth := k9m10) (c := k9c10) (by decide +kernel) rfl rfl rfl (by decide +kernel)
set_option maxRecDepth 65536 in
theorem w_c22 : (Jvm.Cond.code ({ cls := "com/example/token_into_keys/tokenintokeys/text/TextShapeMatchesPinLaw", name := "fits", desc := "(CC)Z" } : Jvm.MethodName) method_3_code (2 : Nat) (Option.some Jvm.ClassFile.FieldType.boolean)).before args0 about1 = true := code_word (m := ⟨1, 2⟩) (meth := k1m2) (c := k1c2) (by decide +kernel) rfl rfl rfl (by decide +kernel)
set_option maxRecDepth 65536 in
theorem w_c23 : (Jvm.Cond.code ({ cls := "java/lang/String", name := "charAt", desc := "(I)C" } : Jvm.MethodName) jdk_42_method_56_code (2 : Nat) (Option.some Jvm.ClassFile.FieldType.char)).before args0 about1 = true := code_word (m := ⟨7, 3⟩) (meth := k7m3) (c := k7c3) (by decide +kernel) rfl rfl rfl (by decide +kernel)
set_option maxRecDepth 65536 in
theorem w_c24 : (Jvm.Cond.code ({ cls := "java/lang/String", name := "isLatin1", desc := "()Z" } : Jvm.MethodName) jdk_42_method_154_code (1 : Nat) (Option.some Jvm.ClassFile.FieldType.boolean)).before args0 about1 = true := code_word (m := ⟨7, 8⟩) (meth := k7m8) (c := k7c8) (by decide +kernel) rfl rfl rfl (by decide +kernel)
set_option maxRecDepth 65536 in
theorem w_c25 : (Jvm.Cond.code ({ cls := "java/lang/StringLatin1", name := "charAt", desc := "([BI)C" } : Jvm.MethodName) jdk_43_method_2_code (2 : Nat) (Option.some Jvm.ClassFile.FieldType.char)).before args0 about1 = true := code_word (m := ⟨10, 1⟩) (meth := k10m1) (c := k10c1) (by decide +kernel) rfl rfl rfl (by decide +kernel)
set_option maxRecDepth 65536 in
theorem w_c26 : (Jvm.Cond.code ({ cls := "java/lang/String", name := "checkIndex", desc := "(II)V" } : Jvm.MethodName) jdk_42_method_155_code (2 : Nat) (Option.none : Option Jvm.ClassFile.FieldType)).before args0 about1 = true := code_word (m := ⟨7, 9⟩) (meth := k7m9) (c := k7c9) (by decide +kernel) rfl rfl rfl (by decide +kernel)
set_option maxRecDepth 65536 in
theorem w_c27 : (Jvm.Cond.code ({ cls := "jdk/internal/util/Preconditions", name := "checkIndex", desc := "(IILjava/util/function/BiFunction;)I" } : Jvm.MethodName) jdk_41_method_11_code (3 : Nat) (Option.some Jvm.ClassFile.FieldType.int)).before args0 about1 = true := code_word (m := ⟨11, 1⟩) (meth := k11m1) (c := k11c1) (by decide +kernel) rfl rfl rfl (by decide +kernel)
set_option maxRecDepth 65536 in
theorem w_c28 : (Jvm.Cond.code ({ cls := "java/lang/StringUTF16", name := "charAt", desc := "([BI)C" } : Jvm.MethodName) jdk_52_method_83_code (2 : Nat) (Option.some Jvm.ClassFile.FieldType.char)).before args0 about1 = true := code_word (m := ⟨9, 11⟩) (meth := k9m11) (c := k9c11) (by decide +kernel) rfl rfl rfl (by decide +kernel)
set_option maxRecDepth 65536 in
theorem w_c29 : (Jvm.Cond.code ({ cls := "java/lang/StringUTF16", name := "checkIndex", desc := "(I[B)V" } : Jvm.MethodName) jdk_52_method_91_code (2 : Nat) (Option.none : Option Jvm.ClassFile.FieldType)).before args0 about1 = true := code_word (m := ⟨9, 12⟩) (meth := k9m12) (c := k9c12) (by decide +kernel) rfl rfl rfl (by decide +kernel)
set_option maxRecDepth 65536 in
theorem w_c30 : (Jvm.Cond.code ({ cls := "java/lang/StringUTF16", name := "length", desc := "([B)I" } : Jvm.MethodName) jdk_52_method_6_code (1 : Nat) (Option.some Jvm.ClassFile.FieldType.int)).before args0 about1 = true := code_word (m := ⟨9, 5⟩) (meth := k9m5) (c := k9c5) (by decide +kernel) rfl rfl rfl (by decide +kernel)
def codes1 : List Jvm.Cond := [Jvm.Cond.code x code maxLocals ret, Jvm.Cond.code ({ cls := "com/example/token_into_keys/tokenintokeys/text/TextShapeMatchesPinLaw", name := "str", desc := "(ICCC)Ljava/lang/String;" } : Jvm.MethodName) method_2_code (4 : Nat) (Option.some (Jvm.ClassFile.FieldType.object "java/lang/String")), Jvm.Cond.code ({ cls := "java/lang/String", name := "<init>", desc := "([C)V" } : Jvm.MethodName) jdk_42_method_3_code (2 : Nat) (Option.none : Option Jvm.ClassFile.FieldType), Jvm.Cond.code ({ cls := "java/lang/String", name := "<init>", desc := "([CIILjava/lang/Void;)V" } : Jvm.MethodName) jdk_42_method_149_code (6 : Nat) (Option.none : Option Jvm.ClassFile.FieldType), Jvm.Cond.code ({ cls := "java/lang/Object", name := "<init>", desc := "()V" } : Jvm.MethodName) object_method_1_code (1 : Nat) (Option.none : Option Jvm.ClassFile.FieldType), Jvm.Cond.code ({ cls := "com/example/token_into_keys/tokenintokeys/text/TextShape", name := "matches", desc := "(Ljava/lang/String;Ljava/lang/String;)Z" } : Jvm.MethodName) prog_18_method_2_code (2 : Nat) (Option.some Jvm.ClassFile.FieldType.boolean), Jvm.Cond.code ({ cls := "java/lang/String", name := "length", desc := "()I" } : Jvm.MethodName) jdk_42_method_54_code (1 : Nat) (Option.some Jvm.ClassFile.FieldType.int), Jvm.Cond.code ({ cls := "java/lang/String", name := "coder", desc := "()B" } : Jvm.MethodName) jdk_42_method_152_code (1 : Nat) (Option.some Jvm.ClassFile.FieldType.byte), Jvm.Cond.code ({ cls := "com/example/token_into_keys/tokenintokeys/text/TextShape", name := "startsWith", desc := "(Ljava/lang/String;Ljava/lang/String;)Z" } : Jvm.MethodName) prog_18_method_3_code (6 : Nat) (Option.some Jvm.ClassFile.FieldType.boolean), Jvm.Cond.code ({ cls := "java/lang/StringUTF16", name := "compress", desc := "([CII)[B" } : Jvm.MethodName) jdk_52_method_16_code (6 : Nat) (Option.some (Jvm.ClassFile.FieldType.array Jvm.ClassFile.FieldType.byte)), Jvm.Cond.code ({ cls := "java/lang/StringUTF16", name := "compress", desc := "([CI[BII)I" } : Jvm.MethodName) jdk_52_method_21_code (7 : Nat) (Option.some Jvm.ClassFile.FieldType.int), Jvm.Cond.code ({ cls := "java/lang/StringUTF16", name := "coderFromArrayLen", desc := "([BI)B" } : Jvm.MethodName) jdk_52_method_15_code (2 : Nat) (Option.some Jvm.ClassFile.FieldType.byte), Jvm.Cond.code ({ cls := "java/lang/String", name := "valueOf", desc := "(C)Ljava/lang/String;" } : Jvm.MethodName) jdk_42_method_139_code (1 : Nat) (Option.some (Jvm.ClassFile.FieldType.object "java/lang/String")), Jvm.Cond.code ({ cls := "java/lang/StringLatin1", name := "canEncode", desc := "(C)Z" } : Jvm.MethodName) jdk_43_method_3_code (1 : Nat) (Option.some Jvm.ClassFile.FieldType.boolean), Jvm.Cond.code ({ cls := "java/lang/StringLatin1", name := "toBytes", desc := "(C)[B" } : Jvm.MethodName) jdk_43_method_46_code (1 : Nat) (Option.some (Jvm.ClassFile.FieldType.array Jvm.ClassFile.FieldType.byte)), Jvm.Cond.code ({ cls := "java/lang/String", name := "<init>", desc := "([BB)V" } : Jvm.MethodName) jdk_42_method_151_code (3 : Nat) (Option.none : Option Jvm.ClassFile.FieldType), Jvm.Cond.code ({ cls := "java/lang/StringUTF16", name := "toBytes", desc := "([CII)[B" } : Jvm.MethodName) jdk_52_method_14_code (5 : Nat) (Option.some (Jvm.ClassFile.FieldType.array Jvm.ClassFile.FieldType.byte)), Jvm.Cond.code ({ cls := "java/lang/StringUTF16", name := "newBytesFor", desc := "(I)[B" } : Jvm.MethodName) jdk_52_method_2_code (1 : Nat) (Option.some (Jvm.ClassFile.FieldType.array Jvm.ClassFile.FieldType.byte)), Jvm.Cond.code ({ cls := "java/lang/StringUTF16", name := "newBytesLength", desc := "(I)I" } : Jvm.MethodName) jdk_52_method_3_code (1 : Nat) (Option.some Jvm.ClassFile.FieldType.int), Jvm.Cond.code ({ cls := "java/lang/StringUTF16", name := "putChar", desc := "([BII)V" } : Jvm.MethodName) jdk_52_method_4_code (3 : Nat) (Option.none : Option Jvm.ClassFile.FieldType), Jvm.Cond.code ({ cls := "java/lang/StringUTF16", name := "getChar", desc := "([BI)C" } : Jvm.MethodName) jdk_52_method_5_code (2 : Nat) (Option.some Jvm.ClassFile.FieldType.char), Jvm.Cond.code ({ cls := "java/lang/StringUTF16", name := "toBytes", desc := "(C)[B" } : Jvm.MethodName) jdk_52_method_24_code (2 : Nat) (Option.some (Jvm.ClassFile.FieldType.array Jvm.ClassFile.FieldType.byte)), Jvm.Cond.code ({ cls := "com/example/token_into_keys/tokenintokeys/text/TextShapeMatchesPinLaw", name := "fits", desc := "(CC)Z" } : Jvm.MethodName) method_3_code (2 : Nat) (Option.some Jvm.ClassFile.FieldType.boolean), Jvm.Cond.code ({ cls := "java/lang/String", name := "charAt", desc := "(I)C" } : Jvm.MethodName) jdk_42_method_56_code (2 : Nat) (Option.some Jvm.ClassFile.FieldType.char), Jvm.Cond.code ({ cls := "java/lang/String", name := "isLatin1", desc := "()Z" } : Jvm.MethodName) jdk_42_method_154_code (1 : Nat) (Option.some Jvm.ClassFile.FieldType.boolean), Jvm.Cond.code ({ cls := "java/lang/StringLatin1", name := "charAt", desc := "([BI)C" } : Jvm.MethodName) jdk_43_method_2_code (2 : Nat) (Option.some Jvm.ClassFile.FieldType.char), Jvm.Cond.code ({ cls := "java/lang/String", name := "checkIndex", desc := "(II)V" } : Jvm.MethodName) jdk_42_method_155_code (2 : Nat) (Option.none : Option Jvm.ClassFile.FieldType), Jvm.Cond.code ({ cls := "jdk/internal/util/Preconditions", name := "checkIndex", desc := "(IILjava/util/function/BiFunction;)I" } : Jvm.MethodName) jdk_41_method_11_code (3 : Nat) (Option.some Jvm.ClassFile.FieldType.int), Jvm.Cond.code ({ cls := "java/lang/StringUTF16", name := "charAt", desc := "([BI)C" } : Jvm.MethodName) jdk_52_method_83_code (2 : Nat) (Option.some Jvm.ClassFile.FieldType.char), Jvm.Cond.code ({ cls := "java/lang/StringUTF16", name := "checkIndex", desc := "(I[B)V" } : Jvm.MethodName) jdk_52_method_91_code (2 : Nat) (Option.none : Option Jvm.ClassFile.FieldType), Jvm.Cond.code ({ cls := "java/lang/StringUTF16", name := "length", desc := "([B)I" } : Jvm.MethodName) jdk_52_method_6_code (1 : Nat) (Option.some Jvm.ClassFile.FieldType.int)]
set_option maxRecDepth 65536 in
theorem codes_eq : words1.filter isCode = codes1 := rfl
theorem w_codes : ∀ c ∈ words1.filter isCode, c.before args0 about1 = true := by
  rw [codes_eq]
  intro c hc
  simp only [codes1, List.mem_cons, List.not_mem_nil, or_false] at hc
  rcases hc with rfl | rfl | rfl | rfl | rfl | rfl | rfl | rfl | rfl | rfl | rfl | rfl | rfl | rfl | rfl | rfl | rfl | rfl | rfl | rfl | rfl | rfl | rfl | rfl | rfl | rfl | rfl | rfl | rfl | rfl | rfl
  · exact w_c0
  · exact w_c1
  · exact w_c2
  · exact w_c3
  · exact w_c4
  · exact w_c5
  · exact w_c6
  · exact w_c7
  · exact w_c8
  · exact w_c9
  · exact w_c10
  · exact w_c11
  · exact w_c12
  · exact w_c13
  · exact w_c14
  · exact w_c15
  · exact w_c16
  · exact w_c17
  · exact w_c18
  · exact w_c19
  · exact w_c20
  · exact w_c21
  · exact w_c22
  · exact w_c23
  · exact w_c24
  · exact w_c25
  · exact w_c26
  · exact w_c27
  · exact w_c28
  · exact w_c29
  · exact w_c30
set_option maxRecDepth 65536 in
theorem w_t1 : (words1.take 24).all (fun c => isCode c || c.before args0 about1) = true := by decide +kernel
set_option maxRecDepth 65536 in
theorem w_t2 : ((words1.drop 24).take 24).all (fun c => isCode c || c.before args0 about1) = true := by decide +kernel
set_option maxRecDepth 65536 in
theorem w_t3 : (((words1.drop 24).drop 24).take 24).all (fun c => isCode c || c.before args0 about1) = true := by decide +kernel
set_option maxRecDepth 65536 in
theorem w_t4 : ((((words1.drop 24).drop 24).drop 24).take 24).all (fun c => isCode c || c.before args0 about1) = true := by decide +kernel
set_option maxRecDepth 65536 in
theorem w_t5 : (((((words1.drop 24).drop 24).drop 24).drop 24).take 24).all (fun c => isCode c || c.before args0 about1) = true := by decide +kernel
set_option maxRecDepth 65536 in
theorem w_t6 : (((((words1.drop 24).drop 24).drop 24).drop 24).drop 24).all (fun c => isCode c || c.before args0 about1) = true := by decide +kernel
theorem w_tables : (allAtoms (Jvm.Cond.code x code maxLocals ret :: tables_1)).before args0 about1 = true := by
  rw [allAtoms_all]
  show words1.all (fun c => c.before args0 about1) = true
  refine all_split ?_ w_codes
  rw [← List.take_append_drop 24 words1, List.all_append, w_t1, ← List.take_append_drop 24 (words1.drop 24), List.all_append, w_t2, ← List.take_append_drop 24 ((words1.drop 24).drop 24), List.all_append, w_t3, ← List.take_append_drop 24 (((words1.drop 24).drop 24).drop 24), List.all_append, w_t4, ← List.take_append_drop 24 ((((words1.drop 24).drop 24).drop 24).drop 24), List.all_append, w_t5, w_t6]
  rfl
set_option maxRecDepth 65536 in
theorem w_rest : rest_1_c.before args0 about1 = true := by decide +kernel
set_option maxRecDepth 65536 in
theorem w_case : (Jvm.Cond.and given_1 narrow_1).before args0 about1 = true := by decide +kernel
set_option maxRecDepth 65536 in
theorem w_consts : constsHeld consts_1 about1 := Jvm.Lit.constsHeldB_iff.mp (by decide +kernel)
theorem w_applies : (headSpec (Jvm.Cond.code x code maxLocals ret :: tables_1) room_1).applies x e0.platform about1 = true :=
  (Spec.applies_iff w_frames).mpr ⟨w_running, w_runnable, w_alone, w_named, w_hears, w_ripe, w_room, w_tables⟩
theorem atStart : AtStart classFile x code maxLocals ret World_1 tables_1 room_1 Calls_1 rest_1 Pre_1 launch0 p0 e0 about1 theMethod args0 below0 :=
  ⟨lists_1, trivial, launch0.admits_env _ _ _, launch0.least_env, fairChoices_fair.cas, fairChoices_fair.clock, w_frames, w_args, w_heap, w_applies, ⟨w_consts, trivial⟩, w_rest, w_case⟩
end start1
theorem witness_1 : WitnessClaimed_1 := ⟨start1.p0, start1.e0, start1.about1, start1.theMethod, start1.args0, start1.below0, start1.atStart⟩
end Jvm.Pilot.@@N@@
