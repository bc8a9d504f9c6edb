import JvmDerived
import JvmDerived.Pilot.@@N@@Statement
import JvmDerived.Pilot.@@N@@Code
set_option linter.unusedVariables false
set_option linter.unusedSimpArgs false
namespace Jvm.RoadKit
open Sem ClassFile Op Lib Jvm.Stand Jvm.Free Jvm.LawKit
section New
variable {p : Program} {l : Launch} {e : Env} {R : Room} {s : State} {m : MethodId} {args : Array Value} {below : List Frame} {meth : Method} {c : Code} {T : State} {locs : List Loc} {cells slots : Nat}
theorem retI (X : Stand p l e R s m args below meth c T locs cells slots) (hx : p.tables.exec = Jvm.exec) {pc : Nat} {Ls : Array Slot} {z : Int32} {rest : List Value} (hret : meth.sig.returnType = some .int) (hd : decode c.code pc = .ok (.ireturn, 1)) {fs : List Frame}
    (hl : ∀ (f : JFrame) (acts : List Action), f.method = m → f.locked = none → f.entered = [] → (doReturn e (T.setTop f) acts (some (.int z))).1 = T.setFrames fs) : Steps p.tables e below (T.setTop (mkF m pc Ls (.int z :: rest))) (T.setFrames fs) := by
  have hm' : T.vm.method? m = some meth := X.method'
  have hn : narrow .int (.int z) = .int z := rfl
  show Steps p.tables e below (T.setTop { method := m, pc := pc, locals := Ls, stack := _ :: rest, locked := none }) _
  jvm_step X.here [X.here.top, hx, hd, hm', hret, hn]
  first | (intro acts; rw [hl _ acts rfl rfl rfl]) | rw [hl _ _ rfl rfl rfl]
  exact Steps.refl _
end New
end Jvm.RoadKit
namespace Jvm.Pilot.@@N@@
open Jvm Jvm.ClassFile Sem Op Lib Jvm.Free Jvm.Stand Jvm.LawKit Jvm.RoadKit Bundle Jvm.Pilot.@@N@@.Jvm.D
/-- from A the run comes to its end, as the contract wants it -/
def Goes (p : Program) (e : Env) (below : List Frame) (En : Outcome → State → List Loc → Prop) (Q : Option Value → Heap → List Loc → Prop) (A : State) : Prop :=
  ∃ s₂ o, Steps p.tables e below A s₂ ∧ s₂.status = .running ∧ Ended s₂ below o ∧ ∃ v L, o = .returned v ∧ Q v s₂.heap L ∧ En o s₂ L
abbrev Met (l : Launch) (Z : State) (y : MethodName) (bytes : ByteArray) (maxL : Nat) (ret : Option FieldType) (rm : Room) (ws : List Jvm.Cond) (as : Array Value) (h0 : Heap) (Q : Option Value → Heap → List Loc → Prop) : Prop :=
  MetFree l y (head1 (Jvm.Cond.code y bytes maxL ret :: ws) rm) (fun aa U => aa = as ∧ Z.Warmed39 U.vm ∧ U.heap = h0) (fun _ _ _ _ _ => True) (fun _ U o U' => ∃ v L, o = .returned v ∧ Q v U'.heap L ∧ FrameEnd U o U' L rm.cells rm.slots)
abbrev MetW (l : Launch) (Z : State) (y : MethodName) (bytes : ByteArray) (maxL : Nat) (ret : Option FieldType) (rm : Room) (ws : List Jvm.Cond) (as : Array Value) (h0 : Heap) (Q : Option Value → Heap → List Loc → Prop) : Prop :=
  MetFree l y (head1 (Jvm.Cond.code y bytes maxL ret :: ws) rm) (fun aa U => aa = as ∧ Z.Warmed39 U.vm ∧ U.heap = h0) (fun _ _ _ _ _ => True) (fun _ U o U' => ∃ v L, o = .returned v ∧ Q v U'.heap L ∧ ReturnedEndW U o U' L rm.cells rm.slots)
abbrev MetH (l : Launch) (Z : State) (y : MethodName) (bytes : ByteArray) (maxL : Nat) (ret : Option FieldType) (rm : Room) (ws : List Jvm.Cond) (as : Array Value) (h0 : Heap) (Q : Option Value → Heap → List Loc → Prop) : Prop :=
  MetFree l y (head1 (Jvm.Cond.code y bytes maxL ret :: ws) rm) (fun aa U => aa = as ∧ Z.Warmed39 U.vm ∧ U.heap = h0 ∧ CHv Z consts_1 U.vm h0) (fun _ _ _ _ _ => True) (fun _ U o U' => ∃ v L, o = .returned v ∧ Q v U'.heap L ∧ CHr Z consts_1 U.vm U.heap U'.vm U'.heap ∧ ReturnedEndW U o U' L rm.cells rm.slots)
theorem gw {a0 : Array Value} {Z : State} (hw : ∀ d ∈ tables_1, d.before a0 Z = true) (i : Nat) {d : Jvm.Cond} (h : tables_1[i]? = some d) : d.before a0 Z = true := hw _ (List.mem_of_getElem? h)
theorem w0 {n W : Nat} (h : n ≤ W) : 2 * 0 + n ≤ W := by omega
def Ob (h : Heap) (x : Addr) : Prop := ∀ c : Cell, h[x]? = some c → c.vm.isStatics = false
theorem own_obE {Z : State} {h : Heap} {a : Addr} {C : String} (F : Exa Z h a C) : Ob h a := fun c hc => by obtain ⟨c', k, h1, -, -, h4, -⟩ := F; cases h1.symm.trans hc; exact h4
theorem own_obF {Z : State} {h : Heap} {a : Addr} {C n d : String} {v : Value} (F : Fld Z h a C n d v) : Ob h a := fun c hc => by obtain ⟨c', cf, k, i, f, h1, -, -, -, h5, -⟩ := F; cases h1.symm.trans hc; exact h5
theorem own_obA {Z : State} {h : Heap} {a : Addr} {k : ClassId} {ty : FieldType} {z : Int32} {vs : List Value} {d : Value} (F : Arv Z h a k ty z vs d) : Ob h a := fun c hc => by obtain ⟨c', A, -⟩ := F; cases A.1.symm.trans hc; exact A.plain
theorem own_staK {Z : State} {h h' : Heap} {C n d : String} {v : Value} {ws : List Addr} (F : Sta Z h C n d v) (K : Keep h h' ws) (q : ∀ x ∈ ws, Ob h x) : Sta Z h' C n d v := by
  obtain ⟨cf, i, k, f, st, cell, h1, h2, h3, h4, h5, h6, h7⟩ := F
  exact ⟨cf, i, k, f, st, cell, h1, h2, h3, h4, K.2.1 st cell h5 (fun hm => by have := q st hm cell h5; rw [this] at h6; cases h6), h6, h7⟩
theorem own_insK {Z : State} {h h' : Heap} {a : Addr} {C : String} {b : Bool} {ws : List Addr} (F : Ins Z h a C b) (K : Keep h h' ws) : Ins Z h' a C b := by
  obtain ⟨cell, cT, h1, h2, h3⟩ := F
  obtain ⟨c', g1, g2, g3, -⟩ := K.2.2 _ _ h1
  exact ⟨c', cT, g1, h2, by rw [g2, g3]; exact h3⟩
def NFc (Z : State) (K : String) : Prop := ∃ t kt, Z.vm.findClass K = some t ∧ Z.vm.classes[t]? = some kt ∧ kt.isInterface = false
theorem own_nfI {Z : State} {a0 : Array Value} {K : String} {n : Nat} (w : (Cond.instantiable K n).before a0 Z = true) : NFc Z K := by
  obtain ⟨c, k, h1, h2, -, h4, -⟩ := Cond.instantiable_spec w
  exact ⟨c, k, h1, h2, (Bool.or_eq_false_iff.mp h4).1⟩
theorem own_nfS {Z : State} {a0 : Array Value} {K : String} {x : MethodName} {n d : String} (w : (Cond.selects K x ⟨K, n, d⟩).before a0 Z = true) : NFc Z K := by
  obtain ⟨c, r, m, h1, h2, h3, h4, mk, h5, h6⟩ := Cond.selects_spec w
  exact ⟨_, mk, findClass_of_methodNamed h3, h5, h6⟩
theorem own_nsRoot {Z : State} {a0 : Array Value} {O K : String} (w : (Cond.noSuperclass O).before a0 Z = true) (wk : NFc Z K) (hn : O ≠ K) : NS Z O K := by
  obtain ⟨c, k, h1, h2, h3, -⟩ := Cond.noSuperclass_spec w
  obtain ⟨t, kt, g1, -⟩ := wk
  have ne := ids_ne h1 g1 hn
  refine ⟨c, t, h1, g1, fun fuel => ?_⟩
  cases fuel <;> simp [Vm.isSubclassAux, ne, h2, h3]
set_option maxRecDepth 65536 in
theorem own_nsNo {Z : State} {a0 : Array Value} {C S K : String} (w : (Cond.superclass C S).before a0 Z = true) (wk : NFc Z K) (n : NS Z C K) (hn : C ≠ K) : ∃ c t, Z.vm.findClass C = some c ∧ Z.vm.findClass K = some t ∧ Z.vm.assignable c t = false := by
  obtain ⟨c, t, h0, g0, n3⟩ := n
  obtain ⟨p, k, kp, h1, h2, h3, h4, h5, -⟩ := Cond.superclass_spec h0 w
  obtain ⟨t', kt, g1, g2, g3⟩ := wk
  cases g0.symm.trans g1
  have ne := ids_ne h0 g0 hn
  refine ⟨c, t, h0, g0, ?_⟩
  show Z.vm.assignableAux (255 + 1) c t = false
  cases hq : kt.kind <;> simp [Vm.assignableAux, ne, h2, g2, h5, hq, g3, Vm.isSubclass, n3]
theorem own_selP {Z s : State} {a0 args : Array Value} {y : MethodName} {n : Nat} (hZ : Z.Warmed39 s.vm) (wi : (Cond.instantiable y.cls n).before a0 Z = true) (wp : (Cond.privateMethod y).before a0 Z = true) (wm : (Cond.instanceMethod y).before a0 Z = true) (hy : y.cls ≠ "java/lang/invoke/MethodHandle" ∧ y.cls ≠ "java/lang/invoke/VarHandle") : (Cond.selects y.cls y y).before args s = true := by
  obtain ⟨c, k, h1, h2, -, h4, -⟩ := Cond.instantiable_spec (mvT hZ wi : (Cond.instantiable y.cls n).before #[] s = true)
  exact selects_self_of_private h1 h2 (Bool.or_eq_false_iff.mp h4).1 (Cond.privateMethod_at (mvP hZ wp (args := #[]))) (mvT hZ wm) hy
section OwnSteps
variable {p : Program} {l : Launch} {e : Env} {R : Room} {s : State} {m : MethodId} {args : Array Value} {below : List Frame} {meth : Method} {c : Code} {T : State} {locs : List Loc} {cells slots : Nat}
theorem Goes.step {En : Outcome → State → List Loc → Prop} {Q : Option Value → Heap → List Loc → Prop} {A B : State} (st : ∀ t, Steps p.tables e below A t → Steps p.tables e below B t) (h : Goes p e below En Q A) : Goes p e below En Q B :=
  let ⟨s₂, o, h1, r⟩ := h; ⟨s₂, o, st _ h1, r⟩
theorem Gs {En : Outcome → State → List Loc → Prop} {Q : Option Value → Heap → List Loc → Prop} {A B : State} (st : ∀ t, Steps p.tables e below A t → Steps p.tables e below B t) (h : Goes p e below En Q A) : Goes p e below En Q B := Goes.step st h
theorem own_join {En : Outcome → State → List Loc → Prop} {Q : Option Value → Heap → List Loc → Prop} {A B : State} (hB : Goes p e below En Q B) (k : Goes p e below En Q B → Goes p e below En Q A) : Goes p e below En Q A := k hB
theorem own_joinV {En : Outcome → State → List Loc → Prop} {Q : Option Value → Heap → List Loc → Prop} {A : State} {B : Int32 → State} (hB : ∀ z, Goes p e below En Q (B z)) (k : (∀ z, Goes p e below En Q (B z)) → Goes p e below En Q A) : Goes p e below En Q A := k hB
theorem own_joinP {En : Outcome → State → List Loc → Prop} {Q : Option Value → Heap → List Loc → Prop} {A : State} {B : Int32 → State} {P : Int32 → Prop} (hB : ∀ z, P z → Goes p e below En Q (B z)) (k : (∀ z, P z → Goes p e below En Q (B z)) → Goes p e below En Q A) : Goes p e below En Q A := k hB
theorem own_met {Z : State} {y : MethodName} {bytes : ByteArray} {maxL : Nat} {ret : Option FieldType} {rm : Room} {ws : List Jvm.Cond} {as : Array Value} {h0 : Heap} {Q : Option Value → Heap → List Loc → Prop} (hp : plainFor y = true)
    (body : ∀ p e s m below meth c s₁, meth.sig.returnType = ret → p.tables.exec = Jvm.exec → c.code = bytes → meth.locks = false → c.maxLocals = maxL → s.vm.findClass y.cls = some m.cls → meth.name = y.name → Stand p l e rm s m as below meth c s₁ [] 0 0 → s₁.heap = h0 → Z.Warmed39 s.vm → s.heap = h0 →
      Goes p e below (fun o u L => FrameEnd s o u L rm.cells rm.slots) Q (s₁.setTop (entryFrame m as maxL))) : Met l Z y bytes maxL ret rm ws as h0 Q := by
  refine MetFree.of_bodySF hp hisR ?_
  intro p e s m args below meth c s₁ Bd hml0 hP hK
  obtain ⟨rfl, hZ, hh⟩ := hP
  exact body p e s m below meth c s₁ Bd.returns Bd.exec Bd.bytes (BodyLoose.notSynchronized Bd) hml0 (findClass_of_methodNamed Bd.named) (name_of_methodNamed Bd.named Bd.method).1 (Stand.of_body Bd) (by rw [← hh, Bd.state]; rfl) hZ hh
theorem own_metW {Z : State} {y : MethodName} {bytes : ByteArray} {maxL : Nat} {ret : Option FieldType} {rm : Room} {ws : List Jvm.Cond} {as : Array Value} {h0 : Heap} {Q : Option Value → Heap → List Loc → Prop} (hp : plainFor y = true)
    (body : ∀ p e s m below meth c s₁, meth.sig.returnType = ret → p.tables.exec = Jvm.exec → c.code = bytes → meth.locks = false → c.maxLocals = maxL → (s.setVm s.vm).vm.findClass y.cls = some m.cls → meth.name = y.name → Stand p l e rm (s.setVm s.vm) m as below meth c s₁ [] 0 0 → s₁.heap = h0 → Z.Warmed39 s.vm → s.heap = h0 →
      Goes p e below (fun o u L => ReturnedEndW s o u L rm.cells rm.slots) Q (s₁.setTop (entryFrame m as maxL))) : MetW l Z y bytes maxL ret rm ws as h0 Q := by
  refine MetFree.of_bodySF hp hisR ?_
  intro p e s m args below meth c s₁ Bd hml0 hP hK
  obtain ⟨rfl, hZ, hh⟩ := hP
  exact body p e s m below meth c s₁ Bd.returns Bd.exec Bd.bytes (BodyLoose.notSynchronized Bd) hml0 (findClass_of_methodNamed Bd.named) (name_of_methodNamed Bd.named Bd.method).1 (Stand.of_body Bd) (by rw [← hh, Bd.state]; rfl) hZ hh
theorem Goes.ret (X : Stand p l e R s m args below meth c T locs cells slots) {rc rs : Nat} {Q : Option Value → Heap → List Loc → Prop} {B : State} (v : Option Value) (hv : meth.sig.returnType = none → v = none) (hlk : meth.locks = false) (hc : cells ≤ rc) (hs : slots ≤ rs) (q : Q v T.heap locs)
    (k : ∀ fs, (∀ (f : JFrame) (acts : List Action), f.method = m → f.locked = none → f.entered = [] → (doReturn e (T.setTop f) acts v).1 = T.setFrames fs) → Steps p.tables e below B (T.setFrames fs)) : Goes p e below (fun o u L => FrameEnd s o u L rc rs) Q B := by
  obtain ⟨fs, hr, hrun, hended, hW, hsame⟩ := X.leave (v := v) hv hlk
  exact ⟨_, _, k fs hr, hrun, hended, _, _, rfl, q, ⟨_, rfl⟩, hW, hsame.mono hc hs⟩
theorem Goes.retW {vm₁ : Vm} (X : Stand p l e R (s.setVm vm₁) m args below meth c T locs cells slots) {n : Nat} (hS : s.Since vm₁ n) (hn : n ≤ T.heap.size) {rc rs : Nat} {Q : Option Value → Heap → List Loc → Prop} {B : State} (v : Option Value) (hv : meth.sig.returnType = none → v = none) (hlk : meth.locks = false) (hc : cells ≤ rc) (hs : slots ≤ rs) (q : Q v T.heap locs)
    (k : ∀ fs, (∀ (f : JFrame) (acts : List Action), f.method = m → f.locked = none → f.entered = [] → (doReturn e (T.setTop f) acts v).1 = T.setFrames fs) → Steps p.tables e below B (T.setFrames fs)) : Goes p e below (fun o u L => ReturnedEndW s o u L rc rs) Q B := by
  obtain ⟨fs, hr, hrun, hended, h1, h2, h3, h4⟩ := X.leaveW hS hn (v := v) hv hlk
  exact ⟨_, _, k fs hr, hrun, hended, _, _, rfl, q, h1, h2, h3, h4.mono hc hs⟩
theorem own_metH {Z : State} {y : MethodName} {bytes : ByteArray} {maxL : Nat} {ret : Option FieldType} {rm : Room} {ws : List Jvm.Cond} {as : Array Value} {h0 : Heap} {Q : Option Value → Heap → List Loc → Prop} (hp : plainFor y = true)
    (body : ∀ p e s m below meth c s₁, meth.sig.returnType = ret → p.tables.exec = Jvm.exec → c.code = bytes → meth.locks = false → c.maxLocals = maxL → (s.setVm s.vm).vm.findClass y.cls = some m.cls → meth.name = y.name → Stand p l e rm (s.setVm s.vm) m as below meth c s₁ [] 0 0 → s₁.heap = h0 → Z.Warmed39 s.vm → s.heap = h0 → CHv Z consts_1 s.vm h0 →
      Goes p e below (fun o u L => CHr Z consts_1 s.vm s.heap u.vm u.heap ∧ ReturnedEndW s o u L rm.cells rm.slots) Q (s₁.setTop (entryFrame m as maxL))) : MetH l Z y bytes maxL ret rm ws as h0 Q := by
  refine MetFree.of_bodySF hp hisR ?_
  intro p e s m args below meth c s₁ Bd hml0 hP hK
  obtain ⟨rfl, hZ, hh, hC⟩ := hP
  exact body p e s m below meth c s₁ Bd.returns Bd.exec Bd.bytes (BodyLoose.notSynchronized Bd) hml0 (findClass_of_methodNamed Bd.named) (name_of_methodNamed Bd.named Bd.method).1 (Stand.of_body Bd) (by rw [← hh, Bd.state]; rfl) hZ hh hC
theorem Goes.retH {Z : State} {a0 : Array Value} {h0 h : Heap} {vm₁ : Vm} (X : Stand p l e R (s.setVm vm₁) m args below meth c T locs cells slots) {n : Nat} (hS : s.Since vm₁ n) (eT : T.heap = h) (hn : n ≤ h.size) (hZ : Z.Warmed39 (s.setVm vm₁).vm) (hEL : EW Z a0 consts_1) (hh : s.heap = h0) (hR : CHr Z consts_1 s.vm h0 vm₁ h) {rc rs : Nat} {Q : Option Value → Heap → List Loc → Prop} {B : State} (v : Option Value) (hv : meth.sig.returnType = none → v = none) (hlk : meth.locks = false) (hc : cells ≤ rc) (hs : slots ≤ rs) (q : Q v T.heap locs)
    (k : ∀ fs, (∀ (f : JFrame) (acts : List Action), f.method = m → f.locked = none → f.entered = [] → (doReturn e (T.setTop f) acts v).1 = T.setFrames fs) → Steps p.tables e below B (T.setFrames fs)) : Goes p e below (fun o u L => CHr Z consts_1 s.vm s.heap u.vm u.heap ∧ ReturnedEndW s o u L rc rs) Q B := by
  subst eT hh
  obtain ⟨fs, hr, hrun, hended, h1, h2, h3, h4⟩ := X.leaveW hS hn (v := v) hv hlk
  have A := hR.trans (CHv.at X hZ hEL hR.1)
  exact ⟨_, _, k fs hr, hrun, hended, _, _, rfl, q, A, h1, h2, h3, h4.mono hc hs⟩
theorem own_ldcM {Z : State} {a0 : Array Value} {h : Heap} {own C : String} {index : Nat} {a : Addr} (X : Stand p l e R s m args below meth c T locs cells slots) (hx : p.tables.exec = Jvm.exec) (hZ : Z.Warmed39 s.vm) (hown : s.vm.findClass own = some m.cls) (w : (Cond.classLink own index C).before a0 Z = true) (eT : T.heap = h) (M : Mir Z C a)
    {g : JFrame} (hg : g.method = m) (hd : decode c.code g.pc = .ok (.ldc index, 2)) : ∃ T', Stand p l e R s m args below meth c T' locs cells slots ∧ T'.heap = h ∧ ∀ target, Steps p.tables e below (T'.setTop { g with pc := g.pc + 2, stack := .ref a :: g.stack }) target → Steps p.tables e below (T.setTop g) target := by
  obtain ⟨cc, kc, m1, m2, m3, -⟩ := M
  obtain ⟨k', q, ek⟩ := hZ.alike.2.2 _ _ m2
  obtain ⟨vm', X', st⟩ := X.ldcMirror hx hown (mvT hZ w) (a := a) (by
    have e1 : s.vm.findClass C = some cc := by rw [hZ.alike.findClass]; exact m1
    have e2 : k'.mirror = some a := by rw [ek]; exact m3
    simp [Term.eval, e1, q, e2]) hg hd
  exact ⟨_, X', eT, st⟩
theorem own_retN (X : Stand p l e R s m args below meth c T locs cells slots) (hx : p.tables.exec = Jvm.exec) {pc : Nat} {Ls : Array Slot} {z : Int32} {t : FieldType} {rest : List Value} (hret : meth.sig.returnType = some t) (ht : t = .boolean ∨ t = .byte ∨ t = .char ∨ t = .short) (hn : nar t z = z) (hd : decode c.code pc = .ok (.ireturn, 1)) {fs : List Frame}
    (hl : ∀ (f : JFrame) (acts : List Action), f.method = m → f.locked = none → f.entered = [] → (doReturn e (T.setTop f) acts (some (.int z))).1 = T.setFrames fs) : Steps p.tables e below (T.setTop (mkF m pc Ls (.int z :: rest))) (T.setFrames fs) :=
  retN X hx hret ht hd (by rw [hn]; exact hl)
theorem own_retA (X : Stand p l e R s m args below meth c T locs cells slots) (hx : p.tables.exec = Jvm.exec) {pc : Nat} {Ls : Array Slot} {z : Value} {t : FieldType} {rest : List Value} (hret : meth.sig.returnType = some t) (ht : t.isReference = true) (hz : z.isRef = true) (hd : decode c.code pc = .ok (.areturn, 1)) {fs : List Frame}
    (hl : ∀ (f : JFrame) (acts : List Action), f.method = m → f.locked = none → f.entered = [] → (doReturn e (T.setTop f) acts (some z)).1 = T.setFrames fs) : Steps p.tables e below (T.setTop (mkF m pc Ls (z :: rest))) (T.setFrames fs) := by
  have hm' : T.vm.method? m = some meth := X.method'
  show Steps p.tables e below (T.setTop { method := m, pc := pc, locals := Ls, stack := _ :: rest, locked := none }) _
  jvm_step X.here [X.here.top, hx, hd, hm', hret, hz, ht]
  first | (intro acts; rw [hl _ acts rfl rfl rfl]) | rw [hl _ _ rfl rfl rfl]
  exact Steps.refl _
end OwnSteps
abbrev mN0 : MethodName := ⟨"java/lang/String", "coder", "()B"⟩
abbrev mN1 : MethodName := ⟨"java/lang/String", "isLatin1", "()Z"⟩
abbrev mN2 : MethodName := ⟨"java/lang/String", "length", "()I"⟩
abbrev mN3 : MethodName := ⟨"jdk/internal/util/Preconditions", "checkIndex", "(IILjava/util/function/BiFunction;)I"⟩
abbrev mN4 : MethodName := ⟨"java/lang/String", "checkIndex", "(II)V"⟩
abbrev mN5 : MethodName := ⟨"java/lang/StringUTF16", "getChar", "([BI)C"⟩
abbrev mN6 : MethodName := ⟨"java/lang/Character", "isHighSurrogate", "(C)Z"⟩
abbrev mN7 : MethodName := ⟨"java/lang/Character", "isLowSurrogate", "(C)Z"⟩
abbrev mN8 : MethodName := ⟨"java/lang/Character", "toCodePoint", "(CC)I"⟩
abbrev mN9 : MethodName := ⟨"java/lang/StringUTF16", "codePointAt", "([BIIZ)I"⟩
abbrev mN10 : MethodName := ⟨"java/lang/StringUTF16", "codePointAt", "([BII)I"⟩
abbrev mN11 : MethodName := ⟨"java/lang/String", "codePointAt", "(I)I"⟩
abbrev mN12 : MethodName := ⟨"java/lang/String", "<init>", "([CIILjava/lang/Void;)V"⟩
abbrev mN13 : MethodName := ⟨"java/lang/String", "<init>", "([C)V"⟩
abbrev mN14 : MethodName := ⟨"java/lang/StringUTF16", "putChar", "([BII)V"⟩
abbrev mN15 : MethodName := ⟨"java/lang/StringUTF16", "newBytesLength", "(I)I"⟩
abbrev mN16 : MethodName := ⟨"java/lang/StringUTF16", "newBytesFor", "(I)[B"⟩
abbrev mN17 : MethodName := ⟨"java/lang/StringUTF16", "toBytes", "([CII)[B"⟩
abbrev mN18 : MethodName := ⟨"java/lang/StringUTF16", "compress", "([CI[BII)I"⟩
abbrev mN19 : MethodName := ⟨"java/lang/StringUTF16", "compress", "([CII)[B"⟩
abbrev mN20 : MethodName := ⟨"java/lang/StringUTF16", "coderFromArrayLen", "([BI)B"⟩
abbrev mN21 : MethodName := ⟨"com/example/tandemtrie/tandemtrie/io/KeyFileCanHoldPinLaw", "draw", "(I)C"⟩
abbrev mN22 : MethodName := ⟨"com/example/tandemtrie/tandemtrie/io/KeyFileCanHoldPinLaw", "isHigh", "(C)Z"⟩
abbrev mN23 : MethodName := ⟨"com/example/tandemtrie/tandemtrie/io/KeyFileCanHoldPinLaw", "isLow", "(C)Z"⟩
abbrev mN24 : MethodName := ⟨"com/example/tandemtrie/tandemtrie/io/KeyFileCanHoldPinLaw", "good", "(CCC)Z"⟩
abbrev mN25 : MethodName := ⟨"java/lang/Character", "charCount", "(I)I"⟩
abbrev mN26 : MethodName := ⟨"com/example/tandemtrie/tandemtrie/io/KeyFile", "canHold", "(Ljava/lang/String;)Z"⟩
abbrev vi (x : Int32) : Slot := .val (.int x)
abbrev vr (x : Addr) : Slot := .val (.ref x)
abbrev vu : Slot := .unset
abbrev fT (T : State) (m : MethodId) (pc : Nat) (ls : Array Slot) (st : List Value) : State := T.setTop (mkF m pc ls st)
theorem Gz {p : Program} {e : Env} {below : List Frame} {En : Outcome → State → List Loc → Prop} {Q : Option Value → Heap → List Loc → Prop} {A B : State} (st : ∀ {t}, Steps p.tables e below A t → Steps p.tables e below B t) (h : Goes p e below En Q A) : Goes p e below En Q B := Goes.step (fun _ => st) h
abbrev HW (a0 : Array Value) (Z : State) : Prop := ∀ d ∈ tables_1, d.before a0 Z = true
theorem gz {Z s : State} {a0 args : Array Value} {d : Jvm.Cond} (hZ : Z.Warmed39 s.vm) (hw : HW a0 Z) (i : Nat) (h : tables_1[i]? = some d) (hd : (d.onTables && d.keepsFace) = true := by first | rfl | simp [Cond.onTables, Cond.keepsFace, Cond.keeps, Cond.steady]) : d.before args s = true := mvT hZ (gw hw i h) hd
theorem z0 {n : Nat} : 0 + 0 ≤ n := Nat.zero_le n
theorem wz {n W : Nat} (h : n = W) : 2 * 0 + n ≤ W := w0 (Nat.le_of_eq h)
theorem gN {p : Program} {l : Launch} {e : Env} {R : Room} {s : State} {m : MethodId} {as : Array Value} {below : List Frame} {meth : Method} {c : Code} {T : State} {L : List Loc} {C S : Nat} {En : Outcome → State → List Loc → Prop} {Q : Option Value → Heap → List Loc → Prop} {code : ByteArray} {g : JFrame} {k : Fin 4} {v : Int32} (X : Stand p l e R s m as below meth c T L C S) (hx : p.tables.exec = Jvm.exec) (hby : c.code = code) (hd : decode code g.pc = .ok (.iload_n k, 1)) (hg : g.method = m) (hl : g.locals[k.val]? = some (.val (.int v))) (h : Goes p e below En Q (T.setTop { g with pc := g.pc + 1, stack := .int v :: g.stack })) : Goes p e below En Q (T.setTop g) := Gz (XS.iloadN X.here hx hg (hb hby hd) hl) h
theorem gI {p : Program} {l : Launch} {e : Env} {R : Room} {s : State} {m : MethodId} {as : Array Value} {below : List Frame} {meth : Method} {c : Code} {T : State} {L : List Loc} {C S : Nat} {En : Outcome → State → List Loc → Prop} {Q : Option Value → Heap → List Loc → Prop} {code : ByteArray} {g : JFrame} {k : Nat} {v : Int32} (X : Stand p l e R s m as below meth c T L C S) (hx : p.tables.exec = Jvm.exec) (hby : c.code = code) (hd : decode code g.pc = .ok (.iload k, 2)) (hg : g.method = m) (hl : g.locals[k]? = some (.val (.int v))) (h : Goes p e below En Q (T.setTop { g with pc := g.pc + 2, stack := .int v :: g.stack })) : Goes p e below En Q (T.setTop g) := Gz (XS.iload X.here hx hg (hb hby hd) hl) h
theorem gA {p : Program} {l : Launch} {e : Env} {R : Room} {s : State} {m : MethodId} {as : Array Value} {below : List Frame} {meth : Method} {c : Code} {T : State} {L : List Loc} {C S : Nat} {En : Outcome → State → List Loc → Prop} {Q : Option Value → Heap → List Loc → Prop} {code : ByteArray} {g : JFrame} {k : Fin 4} {v : Value} (X : Stand p l e R s m as below meth c T L C S) (hx : p.tables.exec = Jvm.exec) (hby : c.code = code) (hd : decode code g.pc = .ok (.aload_n k, 1)) (hg : g.method = m) (hl : g.locals[k.val]? = some (.val v)) (hv : v.isRef = true) (h : Goes p e below En Q (T.setTop { g with pc := g.pc + 1, stack := v :: g.stack })) : Goes p e below En Q (T.setTop g) := Gz (XS.aloadN X.here hx hg (hb hby hd) hl hv) h
theorem own_joinT {p : Program} {l : Launch} {e : Env} {R : Room} {s : State} {m : MethodId} {as : Array Value} {below : List Frame} {meth : Method} {c : Code} {T0 : State} {L0 : List Loc} {C S : Nat} {H : Heap} {n0 : Nat} {En : Outcome → State → List Loc → Prop} {Q : Option Value → Heap → List Loc → Prop} {A : State}
    (_ : Stand p l e R s m as below meth c T0 L0 C S) (_ : T0.heap = H) (_ : Fr n0 L0) {B : State → State}
    (hB : ∀ (T : State) (L : List Loc), Stand p l e R s m as below meth c T L C S → T.heap = H → Fr n0 L → Goes p e below En Q (B T))
    (k : (∀ (T : State) (L : List Loc), Stand p l e R s m as below meth c T L C S → T.heap = H → Fr n0 L → Goes p e below En Q (B T)) → Goes p e below En Q A) : Goes p e below En Q A := k hB
theorem own_loopT {p : Program} {l : Launch} {e : Env} {R : Room} {s : State} {m : MethodId} {as : Array Value} {below : List Frame} {meth : Method} {c : Code} {T0 : State} {L0 : List Loc} {C S : Nat} {H : Heap} {n0 : Nat} {En : Outcome → State → List Loc → Prop} {Q : Option Value → Heap → List Loc → Prop} {A : State}
    (X : Stand p l e R s m as below meth c T0 L0 C S) (E : T0.heap = H) (N : Fr n0 L0) {ι : Type} {μ : ι → Nat} {I : ι → Prop} {B : ι → State → State}
    (step : ∀ (i : ι) (T : State) (L : List Loc), Stand p l e R s m as below meth c T L C S → T.heap = H → Fr n0 L → I i → (∀ (j : ι) (T : State) (L : List Loc), μ j < μ i → I j → Stand p l e R s m as below meth c T L C S → T.heap = H → Fr n0 L → Goes p e below En Q (B j T)) → Goes p e below En Q (B i T))
    (i0 : ι) (hi : I i0) (hA : A = B i0 T0) : Goes p e below En Q A := by
  have key : ∀ (k : Nat) (i : ι), μ i ≤ k → I i → ∀ (T : State) (L : List Loc), Stand p l e R s m as below meth c T L C S → T.heap = H → Fr n0 L → Goes p e below En Q (B i T) := by
    intro k
    induction k with
    | zero => intro i hk h T L X E N; exact step i T L X E N h (fun j T L hj => absurd hj (by omega))
    | succ k ih => intro i hk h T L X E N; exact step i T L X E N h (fun j T L hj hI X E N => ih j (by omega) hI T L X E N)
  rw [hA]; exact key _ i0 (Nat.le_refl _) hi T0 L0 X E N
def Lat (c : Int32) : Prop := 0 ≤ c.toInt ∧ c.toInt ≤ 255
def Chr (c : Int32) : Prop := 0 ≤ c.toInt ∧ c.toInt ≤ 65535
theorem Lat.chr {c : Int32} (h : Lat c) : Chr c := ⟨h.1, by have := h.2; omega⟩
def lo8 (c : Int32) : Int32 := c.toInt8.toInt32
def hi8 (c : Int32) : Int32 := (c >>> ((8 : Int32) &&& 31)).toInt8.toInt32
def latV (cs : List Int32) : List Value := cs.map fun c => .int (lo8 c)
def utfV (cs : List Int32) : List Value := cs.flatMap fun c => [.int (lo8 c), .int (hi8 c)]
theorem own_shr0 (x : Int32) : x >>> ((0 : Int32) &&& 31) = x := by
  apply Int32.toInt_inj.mp
  rw [c_ishr x 0 0 (by decide)]; simp
theorem own_shl0 (x : Int32) : x <<< ((0 : Int32) &&& 31) = x := by
  have h := c_ishl x 0 0 (by decide)
  have a := rng32 x; have b := rng32 (x <<< ((0 : Int32) &&& 31))
  apply Int32.toInt_inj.mp
  simp only [Nat.pow_zero] at h
  omega
theorem own_nc {c : Int32} (h : Chr c) : nar .char c = c := by
  have q := c_i2c c
  obtain ⟨h1, h2⟩ := h
  apply Int32.toInt_inj.mp
  show c.toUInt32.toUInt16.toUInt32.toInt32.toInt = c.toInt
  omega
theorem own_nb (c : Int32) : nar .byte (c.toInt8.toInt32) = lo8 c := by
  show (c.toInt8.toInt32).toInt8.toInt32 = c.toInt8.toInt32
  have a := c_i2b c
  have b := c_i2b (c.toInt8.toInt32)
  apply Int32.toInt_inj.mp
  omega
theorem own_nbh (c : Int32) : nar .byte ((c >>> ((8 : Int32) &&& 31)).toInt8.toInt32) = hi8 c := own_nb _
theorem own_nb2 (c : Int32) : c.toInt8.toInt32.toInt8.toInt32 = lo8 c := own_nb c
theorem own_nbh2 (c : Int32) : (c >>> ((8 : Int32) &&& 31)).toInt8.toInt32.toInt8.toInt32 = hi8 c := own_nb _
theorem own_backL {c : Int32} (h : Lat c) : (lo8 c &&& (255 : Int32)) = c := by
  obtain ⟨h1, h2⟩ := h
  have a := c_i2b c
  have b := c_mask (lo8 c) 255 8 (by decide) (by decide)
  apply Int32.toInt_inj.mp
  rw [b]
  show c.toInt8.toInt32.toInt % 256 = c.toInt
  omega
theorem own_i2c {c : Int32} (h : Chr c) : c.toUInt32.toUInt16.toUInt32.toInt32 = c := own_nc h
theorem own_backU {c : Int32} (h : Chr c) : ((((lo8 c &&& (255 : Int32)) <<< ((0 : Int32) &&& 31)) ||| ((hi8 c &&& (255 : Int32)) <<< ((8 : Int32) &&& 31))).toUInt32.toUInt16.toUInt32.toInt32) = c := by
  obtain ⟨h1, h2⟩ := h
  rw [own_shl0]
  have a := c_i2b c
  have m1 := c_mask (lo8 c) 255 8 (by decide) (by decide)
  have m2 := c_mask (hi8 c) 255 8 (by decide) (by decide)
  have s1 := c_ishr c 8 8 (by decide)
  have b := c_i2b (c >>> ((8 : Int32) &&& 31))
  have e1 : (lo8 c).toInt = c.toInt8.toInt32.toInt := rfl
  have e2 : (hi8 c).toInt = (c >>> ((8 : Int32) &&& 31)).toInt8.toInt32.toInt := rfl
  have sh := c_ishl (hi8 c &&& (255 : Int32)) 8 8 (by decide)
  generalize (lo8 c &&& (255 : Int32)) = x at *
  generalize hy : (hi8 c &&& (255 : Int32)) = y at *
  generalize hw : y <<< ((8 : Int32) &&& 31) = w at *
  have hyr : 0 ≤ y.toInt ∧ y.toInt < 256 := by omega
  have rw1 := rng32 w
  have hwv : w.toInt = y.toInt * 256 := by omega
  have o := c_or w x 8 (by decide) 256 (by decide) (by omega) (by omega) (by omega)
  rw [Int32.or_comm]
  have i := c_i2c (w ||| x)
  have r := rng32 (w ||| x)
  apply Int32.toInt_inj.mp
  omega
theorem own_shr1 {n : Nat} (h : n ≤ 1000) : (Int32.ofNat (2 * n)) >>> ((1 : Int32) &&& 31) = Int32.ofNat n := by
  apply Int32.toInt_inj.mp
  rw [c_ishr _ 1 1 (by decide)]
  have a : (Int32.ofNat (2 * n)).toInt = 2 * n := Int32.toInt_ofNat_of_lt (by omega)
  have b : (Int32.ofNat n).toInt = n := Int32.toInt_ofNat_of_lt (by omega)
  rw [a, b]; omega
abbrev JS : String := "java/lang/String"
def StrOf (Z : State) (h : Heap) (a : Addr) (cs : List Int32) : Prop := ∃ (b : Addr) (kb : ClassId), Exa Z h a "java/lang/String" ∧ Fld Z h a "java/lang/String" "value" "[B" (.ref b) ∧
  ((Fld Z h a "java/lang/String" "coder" "B" (.int 0) ∧ (∀ c ∈ cs, Lat c) ∧ Arv Z h b kb .byte (Int32.ofNat cs.length) (latV cs) (.int 0)) ∨ (Fld Z h a "java/lang/String" "coder" "B" (.int 1) ∧ (∀ c ∈ cs, Chr c) ∧ Arv Z h b kb .byte (Int32.ofNat (2 * cs.length)) (utfV cs) (.int 0))) ∧ cs.length ≤ 1000
section S
variable {Z : State} {h h' : Heap} {a b o : Addr} {kb : ClassId} {cs : List Int32} {z : Int32} {vs : List Value} {ws : List Addr} {a0 : Array Value}
theorem StrOf.latin (A : Exa Z h a "java/lang/String") (F : Fld Z h a "java/lang/String" "value" "[B" (.ref b)) (C : Fld Z h a "java/lang/String" "coder" "B" (.int 0)) (V : Arv Z h b kb .byte z vs (.int 0)) (hL : ∀ c ∈ cs, Lat c) (hz : z = Int32.ofNat cs.length) (hv : vs = latV cs) (hn : cs.length ≤ 1000) : StrOf Z h a cs := by
  subst hz hv; exact ⟨b, kb, A, F, Or.inl ⟨C, hL, V⟩, hn⟩
theorem StrOf.utf (A : Exa Z h a "java/lang/String") (F : Fld Z h a "java/lang/String" "value" "[B" (.ref b)) (C : Fld Z h a "java/lang/String" "coder" "B" (.int 1)) (V : Arv Z h b kb .byte z vs (.int 0)) (hL : ∀ c ∈ cs, Chr c) (hz : z = Int32.ofNat (2 * cs.length)) (hv : vs = utfV cs) (hn : cs.length ≤ 1000) : StrOf Z h a cs := by
  subst hz hv; exact ⟨b, kb, A, F, Or.inr ⟨C, hL, V⟩, hn⟩
theorem StrOf.lt (S : StrOf Z h a cs) : a < h.size := by obtain ⟨b, kb, A, -⟩ := S; exact A.lt
theorem StrOf.exa (S : StrOf Z h a cs) : Exa Z h a "java/lang/String" := by obtain ⟨b, kb, A, -⟩ := S; exact A
theorem StrOf.ext (S : StrOf Z h a cs) (E : Ext h h') : StrOf Z h' a cs := by
  obtain ⟨b, kb, A, F, R, n⟩ := S
  exact ⟨b, kb, A.ext E, F.ext E, R.imp (fun ⟨C, L, V⟩ => ⟨C.ext E, L, V.ext E⟩) (fun ⟨C, L, V⟩ => ⟨C.ext E, L, V.ext E⟩), n⟩
def NB (Z : State) (h : Heap) (x : Addr) : Prop := ∀ (b : Addr) (kb : ClassId) (z : Int32) (vs : List Value) (d : Value), Arv Z h b kb .byte z vs d → x ≠ b
theorem own_nbE {C : String} {n : Nat} (E : Exa Z h o C) (w : (Cond.instantiable C n).before a0 Z = true) : NB Z h o := fun b kb z vs d V => E.neArv V w
theorem own_nbC {k : ClassId} {d : Value} (E : Arv Z h o k .char z vs d) : NB Z h o := fun b kb z' vs' d' V q => by
  subst q
  obtain ⟨c1, A1, -⟩ := E
  obtain ⟨c2, A2, -⟩ := V
  cases A1.1.symm.trans A2.1
  obtain ⟨-, k1, j1, m1, e1⟩ := A1.2.1
  obtain ⟨-, k2, j2, m2, e2⟩ := A2.2.1
  cases j1.symm.trans j2
  rw [e1] at e2; cases e2
theorem StrOf.keep (S : StrOf Z h a cs) (K : Keep h h' ws) (q : ∀ x ∈ ws, x ≠ a ∧ NB Z h x) : StrOf Z h' a cs := by
  obtain ⟨b, kb, A, F, R, n⟩ := S
  have ha : a ∉ ws := fun m => (q a m).1 rfl
  refine ⟨b, kb, A.keep K, F.keep K ha, ?_, n⟩
  rcases R with ⟨C, L, V⟩ | ⟨C, L, V⟩
  · exact Or.inl ⟨C.keep K ha, L, V.keep K fun m => (q b m).2 _ _ _ _ _ V rfl⟩
  · exact Or.inr ⟨C.keep K ha, L, V.keep K fun m => (q b m).2 _ _ _ _ _ V rfl⟩
theorem StrOf.wr {sl : Nat} {v : Value} (S : StrOf Z h a cs) (W : Wr h h' o sl v) (q : o ≠ a) (r : NB Z h o) : StrOf Z h' a cs := S.keep (Keep.of_wr W) (allS ⟨q, r⟩ all0)
end S
theorem own_latGet {cs : List Int32} {j r : Int32} (h0 : ¬ j < 0) (h1 : j < Int32.ofNat cs.length) (hn : cs.length ≤ 1000) (hr : cs.getD j.toNatClampNeg 0 = r) : (latV cs).getD j.toNatClampNeg (.int 0) = .int (lo8 r) := by
  have hl : (Int32.ofNat cs.length).toInt = cs.length := Int32.toInt_ofNat_of_lt (by omega)
  rw [Int32.lt_iff_toInt_lt, hl] at h1
  rw [Int32.lt_iff_toInt_lt] at h0
  have e0 : (0 : Int32).toInt = 0 := by decide
  have hj : j.toNatClampNeg < cs.length := by simp only [Int32.toNatClampNeg]; omega
  subst hr
  simp [latV, List.getD_eq_getElem?_getD, List.getElem?_map, List.getElem?_eq_getElem hj]
theorem own_idx {cs : List Int32} {j : Int32} (h0 : ¬ j < 0) (h1 : j < Int32.ofNat cs.length) (hn : cs.length ≤ 1000) : j.toNatClampNeg < cs.length := by
  have hl : (Int32.ofNat cs.length).toInt = cs.length := Int32.toInt_ofNat_of_lt (by omega)
  rw [Int32.lt_iff_toInt_lt, hl] at h1
  rw [Int32.lt_iff_toInt_lt] at h0
  have e0 : (0 : Int32).toInt = 0 := by decide
  simp only [Int32.toNatClampNeg]; omega
theorem own_mem {cs : List Int32} {j r : Int32} (h0 : ¬ j < 0) (h1 : j < Int32.ofNat cs.length) (hn : cs.length ≤ 1000) (hr : cs.getD j.toNatClampNeg 0 = r) : r ∈ cs := by
  have hj := own_idx h0 h1 hn
  subst hr
  simp [List.getD_eq_getElem?_getD, List.getElem?_eq_getElem hj]
theorem own_latN {c : Int32} (h : Lat c) : ¬ ((255 : Int32) < c) := by
  obtain ⟨h1, h2⟩ := h
  rw [Int32.lt_iff_toInt_lt]
  have e0 : (255 : Int32).toInt = 255 := by decide
  omega
theorem StrOf.len {Z : State} {h : Heap} {a : Addr} {cs : List Int32} (S : StrOf Z h a cs) : cs.length ≤ 1000 := by obtain ⟨b, kb, -, -, -, n⟩ := S; exact n
theorem own_il {cs : List Int32} (k : Nat) (j : Int32) (hj : j.toInt = k) (h : k < cs.length) (hn : cs.length ≤ 1000) : j < Int32.ofNat cs.length := by
  have hl : (Int32.ofNat cs.length).toInt = cs.length := Int32.toInt_ofNat_of_lt (by omega)
  rw [Int32.lt_iff_toInt_lt, hl, hj]; omega
theorem own_len_lt {cs : List Int32} {k : Int32} {n : Nat} (hk : k.toInt = n) (hn : cs.length ≤ 1000) : Int32.ofNat cs.length < k ↔ cs.length < n := by
  have hl : (Int32.ofNat cs.length).toInt = cs.length := Int32.toInt_ofNat_of_lt (by omega)
  rw [Int32.lt_iff_toInt_lt, hl, hk]; omega
theorem own_toLat {c : Int32} (h : Chr c) (q : ¬ ((255 : Int32) < c)) : Lat c := by
  obtain ⟨h1, h2⟩ := h
  rw [Int32.lt_iff_toInt_lt] at q
  have e0 : (255 : Int32).toInt = 255 := by decide
  exact ⟨h1, by omega⟩
theorem own_two {cs : List Int32} {j : Int32} (h0 : ¬ j < 0) (h1 : j < Int32.ofNat cs.length) (hn : cs.length ≤ 1000) : (j <<< ((1 : Int32) &&& 31)).toInt = 2 * j.toInt ∧ ((j <<< ((1 : Int32) &&& 31)) + (1 : Int32)).toInt = 2 * j.toInt + 1 ∧ 0 ≤ j.toInt ∧ j.toInt < cs.length := by
  have hl : (Int32.ofNat cs.length).toInt = cs.length := Int32.toInt_ofNat_of_lt (by omega)
  rw [Int32.lt_iff_toInt_lt, hl] at h1
  rw [Int32.lt_iff_toInt_lt] at h0
  have e0 : (0 : Int32).toInt = 0 := by decide
  have e1 : (1 : Int32).toInt = 1 := by decide
  have s := c_ishl j 1 1 (by decide)
  have r := rng32 (j <<< ((1 : Int32) &&& 31))
  have a := c_iadd (j <<< ((1 : Int32) &&& 31)) 1
  have r2 := rng32 ((j <<< ((1 : Int32) &&& 31)) + (1 : Int32))
  rw [e1] at a
  refine ⟨by omega, by omega, by omega, by omega⟩
theorem own_ub0 {cs : List Int32} {j : Int32} (h0 : ¬ j < 0) (h1 : j < Int32.ofNat cs.length) (hn : cs.length ≤ 1000) : ¬ (j <<< ((1 : Int32) &&& 31)) < 0 ∧ (j <<< ((1 : Int32) &&& 31)) < Int32.ofNat (2 * cs.length) := by
  obtain ⟨a, b, c, d⟩ := own_two h0 h1 hn
  have hl : (Int32.ofNat (2 * cs.length)).toInt = (2 * cs.length : Nat) := Int32.toInt_ofNat_of_lt (by omega)
  have e0 : (0 : Int32).toInt = 0 := by decide
  rw [Int32.lt_iff_toInt_lt, Int32.lt_iff_toInt_lt, hl, a, e0]
  omega
theorem own_ub1 {cs : List Int32} {j : Int32} (h0 : ¬ j < 0) (h1 : j < Int32.ofNat cs.length) (hn : cs.length ≤ 1000) : ¬ ((j <<< ((1 : Int32) &&& 31)) + (1 : Int32)) < 0 ∧ ((j <<< ((1 : Int32) &&& 31)) + (1 : Int32)) < Int32.ofNat (2 * cs.length) := by
  obtain ⟨a, b, c, d⟩ := own_two h0 h1 hn
  have hl : (Int32.ofNat (2 * cs.length)).toInt = (2 * cs.length : Nat) := Int32.toInt_ofNat_of_lt (by omega)
  have e0 : (0 : Int32).toInt = 0 := by decide
  rw [Int32.lt_iff_toInt_lt, Int32.lt_iff_toInt_lt, hl, b, e0]
  omega
theorem own_utfAt : ∀ (cs : List Int32) (i : Nat), i < cs.length → (utfV cs).getD (2 * i) (.int 0) = .int (lo8 (cs.getD i 0)) ∧ (utfV cs).getD (2 * i + 1) (.int 0) = .int (hi8 (cs.getD i 0))
  | [], i, h => by simp at h
  | c :: cs, 0, _ => ⟨rfl, rfl⟩
  | c :: cs, i + 1, h => by
    have q := own_utfAt cs i (by simpa using h)
    exact q
theorem own_ug0 {cs : List Int32} {j r : Int32} (h0 : ¬ j < 0) (h1 : j < Int32.ofNat cs.length) (hn : cs.length ≤ 1000) (hr : cs.getD j.toNatClampNeg 0 = r) : (utfV cs).getD (j <<< ((1 : Int32) &&& 31)).toNatClampNeg (.int 0) = .int (lo8 r) := by
  obtain ⟨a, b, c, d⟩ := own_two h0 h1 hn
  have e : (j <<< ((1 : Int32) &&& 31)).toNatClampNeg = 2 * j.toNatClampNeg := by simp only [Int32.toNatClampNeg, a]; omega
  rw [e, (own_utfAt cs _ (own_idx h0 h1 hn)).1, hr]
theorem own_ug1 {cs : List Int32} {j r : Int32} (h0 : ¬ j < 0) (h1 : j < Int32.ofNat cs.length) (hn : cs.length ≤ 1000) (hr : cs.getD j.toNatClampNeg 0 = r) : (utfV cs).getD ((j <<< ((1 : Int32) &&& 31)) + (1 : Int32)).toNatClampNeg (.int 0) = .int (hi8 r) := by
  obtain ⟨a, b, c, d⟩ := own_two h0 h1 hn
  have e : ((j <<< ((1 : Int32) &&& 31)) + (1 : Int32)).toNatClampNeg = 2 * j.toNatClampNeg + 1 := by simp only [Int32.toNatClampNeg, b]; omega
  rw [e, (own_utfAt cs _ (own_idx h0 h1 hn)).2, hr]
theorem own_stv {s : State} {args : Array Value} {C n d : String} {k : Int32} (h : (Jvm.Cond.eq (Jvm.Term.static C n d) (Jvm.Term.int k)).value args s none s [] = some true) : (Jvm.Term.static C n d).eval args s none [] s = some (.int k) := by
  obtain ⟨x, y, h1, h2, h3, h4⟩ := cmp_v (Or.inl h)
  have e : y = .int k := by simpa [Term.eval] using h2.symm
  subst e
  obtain ⟨z, rfl⟩ := h4
  have q := gotT (Cond.eq_ints h1 rfl) h
  rw [h1, q]
theorem own_safeNew {Z : State} {EL : List (String × Nat)} {vm : Vm} {h : Heap} {x : Addr} (hal : Z.vm.Alike vm) (E : Exa Z h x "java/lang/String") (V : Fld Z h x "java/lang/String" "value" "[B" .null) : Safe Z EL vm h x := fun B => by
  obtain ⟨cell, k, e1, e2, e3, -, -⟩ := E
  obtain ⟨cell', cf, kf, i, f, v1, v2, v3, v4, v5, v6, v7⟩ := V
  cases e1.symm.trans v1
  obtain ⟨p, -, u, a, -, q, -, F, rfl | rfl⟩ := B
  · cases (show h[q.sa]? = some q.sC from F.ha).symm.trans e1
    obtain ⟨cS, ⟨r, -, -⟩, -⟩ := F
    obtain ⟨k', w, -⟩ := State.fieldFound?_setVm (s := ({ Z with heap := h } : State)) (vm' := vm) hal v2
    obtain ⟨c2, k2, i2, w2, -⟩ := r.2.2.2.1
    have w3 := w.symm.trans w2
    simp only [Option.some.injEq, Prod.mk.injEq] at w3
    have r8 := r.2.2.2.2.2.2.2.1
    rw [← w3.2.2.2, v7] at r8
    cases r8
  · cases (show h[q.sd]? = some q.SA from F.hd).symm.trans e1
    obtain ⟨cS, -, -, f', -⟩ := F
    have f2 : vm.findClass "[B" = some q.SA.cls := f'
    rw [hal.findClass] at f2
    obtain ⟨k1, q1, q2⟩ := Vm.findClass_spec f2
    obtain ⟨k2, q3, q4⟩ := Vm.findClass_spec e2
    cases q1.symm.trans q3
    exact absurd (q2.symm.trans q4) (by decide)
def cls (c : Int32) : Fin 4 := if c = 9 then 0 else if c = 13 then 0 else if c = 10 then 0 else if c < 55296 then 3 else if 57343 < c then 3 else if c < 56320 then 1 else 2
def hiv (k : Fin 4) : Int32 := if k = 1 then 1 else 0
def lov (k : Fin 4) : Int32 := if k = 2 then 1 else 0
def gd (p c n : Fin 4) : Int32 := if c = 0 then 0 else if c = 1 then (if n = 2 then 1 else 0) else if c = 2 then (if p = 1 then 1 else 0) else 1
def chK : List (Fin 4) → Int32
  | [] => 1
  | [k] => if k = 3 then 1 else 0
  | k :: j :: t => if k = 3 then chK (j :: t) else if k = 1 then (if j = 2 then chK t else 0) else 0
def own_ex (a b c d : Int32) : Int32 := if a = 0 then 0 else if b = 0 then 0 else if c = 0 then 0 else if d = 0 then 0 else 1
def own_cp (r t : Int32) : Int32 := ((r <<< ((10 : Int32) &&& 31)) + t) + (-56613888 : Int32)
theorem own_lits : (9 : Int32).toInt = 9 ∧ (10 : Int32).toInt = 10 ∧ (13 : Int32).toInt = 13 ∧ (55296 : Int32).toInt = 55296 ∧ (56319 : Int32).toInt = 56319 ∧ (56320 : Int32).toInt = 56320 ∧ (57343 : Int32).toInt = 57343 ∧ (57344 : Int32).toInt = 57344 ∧ (65536 : Int32).toInt = 65536 := by decide
theorem own_k1 {c : Int32} : cls c = 1 ↔ 55296 ≤ c.toInt ∧ c.toInt ≤ 56319 := by
  unfold cls
  simp only [← Int32.toInt_inj, Int32.lt_iff_toInt_lt, own_lits]
  repeat' split
  all_goals first | (refine ⟨fun h => absurd h (by decide), fun h => ?_⟩; exfalso; omega) | (refine ⟨fun _ => ?_, fun _ => rfl⟩; omega)
theorem own_k2 {c : Int32} : cls c = 2 ↔ 56320 ≤ c.toInt ∧ c.toInt ≤ 57343 := by
  unfold cls
  simp only [← Int32.toInt_inj, Int32.lt_iff_toInt_lt, own_lits]
  repeat' split
  all_goals first | (refine ⟨fun h => absurd h (by decide), fun h => ?_⟩; exfalso; omega) | (refine ⟨fun _ => ?_, fun _ => rfl⟩; omega)
theorem own_k3 {c : Int32} : cls c = 3 ↔ (c.toInt ≠ 9 ∧ c.toInt ≠ 13 ∧ c.toInt ≠ 10) ∧ (c.toInt < 55296 ∨ 57343 < c.toInt) := by
  unfold cls
  simp only [← Int32.toInt_inj, Int32.lt_iff_toInt_lt, own_lits]
  repeat' split
  all_goals first | (refine ⟨fun h => absurd h (by decide), fun h => ?_⟩; exfalso; omega) | (refine ⟨fun _ => ?_, fun _ => rfl⟩; omega)
theorem own_k0 {c : Int32} (h : c = 9 ∨ c = 13 ∨ c = 10) : cls c = 0 := by rcases h with rfl | rfl | rfl <;> decide
theorem own_kn {c : Int32} (h1 : ¬ c = 9) (h2 : ¬ c = 13) (h3 : ¬ c = 10) : ¬ cls c = 0 := by
  unfold cls
  rw [if_neg h1, if_neg h2, if_neg h3]
  repeat' split
  all_goals decide
theorem own_hi0 {c : Int32} (h : ¬ (55296 ≤ c.toInt ∧ c.toInt ≤ 56319)) : (0 : Int32) = hiv (cls c) := by rw [hiv, if_neg fun q => h (own_k1.mp q)]
theorem own_hi1 {c : Int32} (h : 55296 ≤ c.toInt ∧ c.toInt ≤ 56319) : (1 : Int32) = hiv (cls c) := by rw [hiv, if_pos (own_k1.mpr h)]
theorem own_lo0 {c : Int32} (h : ¬ (56320 ≤ c.toInt ∧ c.toInt ≤ 57343)) : (0 : Int32) = lov (cls c) := by rw [lov, if_neg fun q => h (own_k2.mp q)]
theorem own_lo1 {c : Int32} (h : 56320 ≤ c.toInt ∧ c.toInt ≤ 57343) : (1 : Int32) = lov (cls c) := by rw [lov, if_pos (own_k2.mpr h)]
theorem own_hvN {k : Fin 4} (h : ¬ (k = 1)) : hiv k = 0 := if_neg h
theorem own_hvY {k : Fin 4} (h : k = 1) : ¬ (hiv k = 0) := by rw [h]; decide
theorem own_lvN {k : Fin 4} (h : ¬ (k = 2)) : lov k = 0 := if_neg h
theorem own_lvY {k : Fin 4} (h : k = 2) : ¬ (lov k = 0) := by rw [h]; decide
theorem own_nhv : ∀ k : Fin 4, nar .boolean (hiv k) = hiv k := by decide
theorem own_nlv : ∀ k : Fin 4, nar .boolean (lov k) = lov k := by decide
theorem own_g0 : ∀ kp k kn : Fin 4, k = 0 → (0 : Int32) = gd kp k kn := by decide
theorem own_g1 : ∀ kp k kn : Fin 4, ¬ k = 0 → ¬ (hiv k = 0) → lov kn = gd kp k kn := by decide
theorem own_g2 : ∀ kp k kn : Fin 4, ¬ k = 0 → hiv k = 0 → ¬ (lov k = 0) → hiv kp = gd kp k kn := by decide
theorem own_g3 : ∀ kp k kn : Fin 4, ¬ k = 0 → hiv k = 0 → lov k = 0 → (1 : Int32) = gd kp k kn := by decide
theorem own_65 : cls (65 : Int32) = 3 := by decide
theorem own_latK {c : Int32} (h : Lat c) : ¬ (cls c = 1) := fun q => by have := own_k1.mp q; have := h.2; omega
theorem own_f1 {c : Int32} (h : cls c = 1) : ¬ (c = 9) ∧ ¬ (c = 13) ∧ ¬ (c = 10) ∧ ¬ (c < 55296) ∧ ¬ (57343 < c) := by
  have := own_k1.mp h
  simp only [← Int32.toInt_inj, Int32.lt_iff_toInt_lt, own_lits]
  omega
theorem own_f3 {c : Int32} (h : cls c = 3) : ¬ (c = 9) ∧ ¬ (c = 13) ∧ ¬ (c = 10) ∧ (¬ (c < 55296) → 57343 < c) := by
  have := own_k3.mp h
  simp only [← Int32.toInt_inj, Int32.lt_iff_toInt_lt, own_lits]
  omega
theorem own_to3 {c : Int32} (h1 : ¬ c = 9) (h2 : ¬ c = 13) (h3 : ¬ c = 10) (h : c < 55296 ∨ 57343 < c) : cls c = 3 := by
  simp only [← Int32.toInt_inj, Int32.lt_iff_toInt_lt, own_lits] at h1 h2 h3 h
  exact own_k3.mpr ⟨⟨h1, h2, h3⟩, h⟩
theorem own_c16 {c : Int32} (h : Chr c) : c < 65536 := by
  obtain ⟨h1, h2⟩ := h
  simp only [Int32.lt_iff_toInt_lt, own_lits]
  omega
theorem own_fD {r t : Int32} (h1 : cls r = 1) (h2 : cls t = 2) : ¬ (own_cp r t = 9) ∧ ¬ (own_cp r t = 13) ∧ ¬ (own_cp r t = 10) ∧ ¬ (own_cp r t < 55296) ∧ 57343 < own_cp r t ∧ ¬ (own_cp r t < 65536) := by
  have a := own_k1.mp h1
  have b := own_k2.mp h2
  have e : 65536 ≤ (own_cp r t).toInt := by
    show 65536 ≤ (((r <<< ((10 : Int32) &&& 31)) + t) + (-56613888 : Int32)).toInt
    have s1 := c_ishl r 10 10 (by decide)
    have r1 := rng32 (r <<< ((10 : Int32) &&& 31))
    have s2 := c_iadd (r <<< ((10 : Int32) &&& 31)) t
    have r2 := rng32 ((r <<< ((10 : Int32) &&& 31)) + t)
    have s3 := c_iadd ((r <<< ((10 : Int32) &&& 31)) + t) (-56613888 : Int32)
    have r3 := rng32 (((r <<< ((10 : Int32) &&& 31)) + t) + (-56613888 : Int32))
    have l1 : (-56613888 : Int32).toInt = -56613888 := by decide
    rw [l1] at s3
    generalize (((r <<< ((10 : Int32) &&& 31)) + t) + (-56613888 : Int32)) = w at *
    generalize ((r <<< ((10 : Int32) &&& 31)) + t) = v at *
    generalize (r <<< ((10 : Int32) &&& 31)) = u at *
    omega
  simp only [← Int32.toInt_inj, Int32.lt_iff_toInt_lt, own_lits]
  omega
theorem own_allC {Z : State} {h : Heap} {a : Addr} {cs : List Int32} (S : StrOf Z h a cs) : ∀ c ∈ cs, Chr c := by
  obtain ⟨b, kb, -, -, R, -⟩ := S
  rcases R with ⟨-, q, -⟩ | ⟨-, q, -⟩
  · exact fun c hc => (q c hc).chr
  · exact q
theorem own_ofN {n : Nat} (h : n ≤ 1000) : (Int32.ofNat n).toInt = n := Int32.toInt_ofNat_of_lt (by omega)
theorem own_ofS1 (pr : List Int32) (c : Int32) : Int32.ofNat pr.length + (1 : Int32) = Int32.ofNat (pr ++ [c]).length := by
  rw [List.length_append, List.length_singleton, Int32.ofNat_add]; rfl
theorem own_ofS2 (pr : List Int32) (c d : Int32) : Int32.ofNat pr.length + (2 : Int32) = Int32.ofNat (pr ++ [c, d]).length := by
  rw [List.length_append, show [c, d].length = 2 from rfl, Int32.ofNat_add]; rfl
theorem own_ixN {xs pr : List Int32} (h : xs = pr ++ []) : ¬ (Int32.ofNat pr.length < Int32.ofNat xs.length) := by
  subst h; rw [List.append_nil]; exact Int32.lt_irrefl
theorem own_ix {xs pr t : List Int32} {c : Int32} (h : xs = pr ++ c :: t) (hn : xs.length ≤ 1000) : ¬ (Int32.ofNat pr.length < (0 : Int32)) ∧ Int32.ofNat pr.length < Int32.ofNat xs.length ∧ xs.getD (Int32.ofNat pr.length).toNatClampNeg 0 = c := by
  have e0 : (0 : Int32).toInt = 0 := by decide
  have l : xs.length = pr.length + (t.length + 1) := by rw [h]; simp
  have a := own_ofN (n := pr.length) (by omega)
  have b := own_ofN (n := xs.length) (by omega)
  simp only [Int32.lt_iff_toInt_lt, a, b, e0]
  refine ⟨by omega, by omega, ?_⟩
  have q : (Int32.ofNat pr.length).toNatClampNeg = pr.length := by simp only [Int32.toNatClampNeg, a]; omega
  rw [q, h]; simp [List.getD_eq_getElem?_getD]
theorem own_ixS {xs pr t : List Int32} {c d : Int32} (h : xs = pr ++ c :: d :: t) (hn : xs.length ≤ 1000) : ¬ (Int32.ofNat pr.length + (1 : Int32) < (0 : Int32)) ∧ Int32.ofNat pr.length + (1 : Int32) < Int32.ofNat xs.length ∧ xs.getD (Int32.ofNat pr.length + (1 : Int32)).toNatClampNeg 0 = d := by
  rw [own_ofS1 pr c]; exact own_ix (t := t) (by rw [h]; simp) hn
theorem own_ixE {xs pr : List Int32} {c : Int32} (h : xs = pr ++ [c]) (hn : xs.length ≤ 1000) : ¬ (Int32.ofNat pr.length + (1 : Int32) < Int32.ofNat xs.length) := by
  rw [own_ofS1 pr c, h]; exact Int32.lt_irrefl
theorem own_st2 {a : Addr} {j v : Int32} {u : Slot} (hu : u = .unset ∨ ∃ w, u = vi w) : storeLocals #[vr a, vi j, u] 2 (.int v) = some #[vr a, vi j, vi v] := by
  rcases hu with rfl | ⟨w, rfl⟩ <;> rfl
theorem own_chrI (x : Int32) : Chr (x.toUInt32.toUInt16.toUInt32.toInt32) := by
  have h := c_i2c x
  exact ⟨by omega, by omega⟩
theorem own_lt5 (y : Int32) : ((y &&& (7 : Int32)) % (5 : Int32)) = 0 ∨ ((y &&& (7 : Int32)) % (5 : Int32)) = 1 ∨ ((y &&& (7 : Int32)) % (5 : Int32)) = 2 ∨ ((y &&& (7 : Int32)) % (5 : Int32)) = 3 ∨ ((y &&& (7 : Int32)) % (5 : Int32)) = 4 := by
  have h := c_and y 7 (by decide)
  have h2 := (c_irem (y &&& (7 : Int32)) 5 5 (by decide)).1 h.1
  generalize ((y &&& (7 : Int32)) % (5 : Int32)) = r at *
  generalize (y &&& (7 : Int32)) = z at *
  have e0 : (0 : Int32).toInt = 0 := by decide
  have e1 : (1 : Int32).toInt = 1 := by decide
  have e2 : (2 : Int32).toInt = 2 := by decide
  have e3 : (3 : Int32).toInt = 3 := by decide
  have e4 : (4 : Int32).toInt = 4 := by decide
  simp only [← Int32.toInt_inj, e0, e1, e2, e3, e4]
  omega
abbrev kc0 := jdk_41_method_11_code
abbrev kc1 := jdk_42_method_149_code
abbrev kc2 := jdk_42_method_152_code
abbrev kc3 := jdk_42_method_154_code
abbrev kc4 := jdk_42_method_155_code
abbrev kc5 := jdk_42_method_3_code
abbrev kc6 := jdk_42_method_54_code
abbrev kc7 := jdk_42_method_57_code
abbrev kc8 := jdk_52_method_14_code
abbrev kc9 := jdk_52_method_15_code
abbrev kc10 := jdk_52_method_16_code
abbrev kc11 := jdk_52_method_21_code
abbrev kc12 := jdk_52_method_2_code
abbrev kc13 := jdk_52_method_3_code
abbrev kc14 := jdk_52_method_4_code
abbrev kc15 := jdk_52_method_5_code
abbrev kc16 := jdk_52_method_7_code
abbrev kc17 := jdk_52_method_8_code
abbrev kc18 := jdk_89_method_14_code
abbrev kc19 := jdk_89_method_15_code
abbrev kc20 := jdk_89_method_18_code
abbrev kc21 := jdk_89_method_19_code
abbrev kc22 := prog_20_method_4_code
theorem d0_0 : decode kc2 0 = .ok (.getstatic 38, 3) := by decide +kernel
theorem d0_3 : decode kc2 3 = .ok (.ifCond .eq 10, 3) := by decide +kernel
theorem d0_6 : decode kc2 6 = .ok (.aload_n 0, 1) := by decide +kernel
theorem d0_7 : decode kc2 7 = .ok (.getfield 15, 3) := by decide +kernel
theorem d0_10 : decode kc2 10 = .ok (.goto 4, 3) := by decide +kernel
theorem d0_14 : decode kc2 14 = .ok (.ireturn, 1) := by decide +kernel
theorem own_pn0 : plainName "java/lang/String" = true := by first | (simp [plainName, overriddenIn]; done) | decide +kernel
theorem own_ef_rs_coder0 (m : MethodId) (x0 : Addr) : entryFrame m #[(.ref x0)] 1 = mkF m 0 #[vr x0] [] := by first | (simp [entryFrame, mkF, argsToLocals, Value.category]; done) | rfl
def Q_rs_coder0 (Z : State) (a : Addr) (cz : Int32) (h0 : Heap) (n0 : Nat) (v : Option Value) (h : Heap) (L : List Loc) : Prop := v = some (.int 0) ∧ Fr n0 L ∧ h = h0
set_option maxRecDepth 65536 in
set_option maxHeartbeats 40000000 in
theorem rs_coder0 (l : Launch) (Z : State) (a0 : Array Value) (hw : HW a0 Z) (ws : List Jvm.Cond) (a : Addr) (cz : Int32) (h0 : Heap) (n0 : Nat) (Z0 : n0 ≤ h0.size) (F_coder_a : Fld Z h0 a "java/lang/String" "coder" "B" (.int 0)) (sgC : Sta Z h0 "java/lang/String" "COMPACT_STRINGS" "Z" (.int cz)) (hcz : ¬ (cz = 0)) :
  Met l Z mN0 jdk_42_method_152_code 1 (some .byte) ({ frames := 0, cells := 0, slots := 0, locals := 0 } : Room) ws #[(.ref a)] h0 (Q_rs_coder0 Z a cz h0 n0) := by
 refine own_met (plainFor_of_name own_pn0) ?_
 intro p e s m below meth c s₁ hret hx hby hlk hml hown hnm X0 e0 hZ hh
 have N0 := Fr.nil n0
 refine Gz (castTop (own_ef_rs_coder0 m a)) ?_
 show Goes _ _ _ _ _ (fT s₁ m 0 #[vr a] [])
 obtain ⟨T1, X1, e1, st1⟩ := getS2 X0 hx hZ hown (host := "") (Or.inl (gw hw 51 rfl)) Via.refl e0 sgC (g := (mkF m 0 #[vr a] [])) rfl (hb hby d0_0)
 refine Gs st1 ?_
 show Goes _ _ _ _ _ (fT T1 m 3 #[vr a] [(.int cz)])
 refine Gz (XS.ifNo X1.here hx rfl (hb hby d0_3) rfl ((if0 _ _).trans (feq hcz).1)) ?_
 refine gA X1 hx hby d0_6 rfl rfl rfl ?_
 obtain ⟨T2, X2, e2, st2⟩ := getF X1 hx hZ hown (host := "") (Or.inl (gw hw 26 rfl)) Via.refl e1 F_coder_a (g := (mkF m 7 #[vr a] [(.ref a)])) rfl rfl (hb hby d0_7)
 refine Gs st2 ?_
 show Goes _ _ _ _ _ (fT T2 m 10 #[vr a] [(.int 0)])
 refine Gz (XS.goto X2.here hx rfl (pc0 := 10) (pc' := 14) rfl (hb hby d0_10) (by decide) (by decide)) ?_
 refine Goes.ret X2 (some (.int 0)) (fun h => by rw [hret] at h; cases h) hlk (by decide) (by decide) ?_ (fun fs hr => ?_)
 ·exact ⟨rfl, N0, e2⟩
 ·exact own_retN X2 hx (t := .byte) hret (by simp) rfl (hb hby d0_14) hr
theorem d1_0 : decode kc3 0 = .ok (.getstatic 38, 3) := by decide +kernel
theorem d1_3 : decode kc3 3 = .ok (.ifCond .eq 14, 3) := by decide +kernel
theorem d1_6 : decode kc3 6 = .ok (.aload_n 0, 1) := by decide +kernel
theorem d1_7 : decode kc3 7 = .ok (.getfield 15, 3) := by decide +kernel
theorem d1_10 : decode kc3 10 = .ok (.ifCond .ne 7, 3) := by decide +kernel
theorem d1_13 : decode kc3 13 = .ok (.iconst 1, 1) := by decide +kernel
theorem d1_14 : decode kc3 14 = .ok (.goto 4, 3) := by decide +kernel
theorem d1_18 : decode kc3 18 = .ok (.ireturn, 1) := by decide +kernel
theorem own_ef_rs_isl0 (m : MethodId) (x0 : Addr) : entryFrame m #[(.ref x0)] 1 = mkF m 0 #[vr x0] [] := by first | (simp [entryFrame, mkF, argsToLocals, Value.category]; done) | rfl
def Q_rs_isl0 (Z : State) (a : Addr) (cz : Int32) (h0 : Heap) (n0 : Nat) (v : Option Value) (h : Heap) (L : List Loc) : Prop := v = some (.int 1) ∧ Fr n0 L ∧ h = h0
set_option maxRecDepth 65536 in
set_option maxHeartbeats 40000000 in
theorem rs_isl0 (l : Launch) (Z : State) (a0 : Array Value) (hw : HW a0 Z) (ws : List Jvm.Cond) (a : Addr) (cz : Int32) (h0 : Heap) (n0 : Nat) (Z0 : n0 ≤ h0.size) (F_coder_a : Fld Z h0 a "java/lang/String" "coder" "B" (.int 0)) (sgC : Sta Z h0 "java/lang/String" "COMPACT_STRINGS" "Z" (.int cz)) (hcz : ¬ (cz = 0)) :
  Met l Z mN1 jdk_42_method_154_code 1 (some .boolean) ({ frames := 0, cells := 0, slots := 0, locals := 0 } : Room) ws #[(.ref a)] h0 (Q_rs_isl0 Z a cz h0 n0) := by
 refine own_met (plainFor_of_name own_pn0) ?_
 intro p e s m below meth c s₁ hret hx hby hlk hml hown hnm X0 e0 hZ hh
 have N0 := Fr.nil n0
 refine Gz (castTop (own_ef_rs_isl0 m a)) ?_
 show Goes _ _ _ _ _ (fT s₁ m 0 #[vr a] [])
 obtain ⟨T1, X1, e1, st1⟩ := getS2 X0 hx hZ hown (host := "") (Or.inl (gw hw 51 rfl)) Via.refl e0 sgC (g := (mkF m 0 #[vr a] [])) rfl (hb hby d1_0)
 refine Gs st1 ?_
 show Goes _ _ _ _ _ (fT T1 m 3 #[vr a] [(.int cz)])
 refine Gz (XS.ifNo X1.here hx rfl (hb hby d1_3) rfl ((if0 _ _).trans (feq hcz).1)) ?_
 refine gA X1 hx hby d1_6 rfl rfl rfl ?_
 obtain ⟨T2, X2, e2, st2⟩ := getF X1 hx hZ hown (host := "") (Or.inl (gw hw 26 rfl)) Via.refl e1 F_coder_a (g := (mkF m 7 #[vr a] [(.ref a)])) rfl rfl (hb hby d1_7)
 refine Gs st2 ?_
 show Goes _ _ _ _ _ (fT T2 m 10 #[vr a] [(.int 0)])
 refine Gz (XS.ifNo X2.here hx rfl (hb hby d1_10) rfl ((if0 _ _).trans (teq (by decide : ((0 : Int32) = (0 : Int32)))).2)) ?_
 refine Gz (XS.iconst X2.here hx rfl (hb hby d1_13)) ?_
 refine Gz (XS.goto X2.here hx rfl (pc0 := 14) (pc' := 18) rfl (hb hby d1_14) (by decide) (by decide)) ?_
 refine Goes.ret X2 (some (.int 1)) (fun h => by rw [hret] at h; cases h) hlk (by decide) (by decide) ?_ (fun fs hr => ?_)
 ·exact ⟨rfl, N0, e2⟩
 ·exact own_retN X2 hx (t := .boolean) hret (by simp) rfl (hb hby d1_18) hr
theorem own_ef_rs_coder1 (m : MethodId) (x0 : Addr) : entryFrame m #[(.ref x0)] 1 = mkF m 0 #[vr x0] [] := by first | (simp [entryFrame, mkF, argsToLocals, Value.category]; done) | rfl
def Q_rs_coder1 (Z : State) (a : Addr) (cz : Int32) (h0 : Heap) (n0 : Nat) (v : Option Value) (h : Heap) (L : List Loc) : Prop := v = some (.int 1) ∧ Fr n0 L ∧ h = h0
set_option maxRecDepth 65536 in
set_option maxHeartbeats 40000000 in
theorem rs_coder1 (l : Launch) (Z : State) (a0 : Array Value) (hw : HW a0 Z) (ws : List Jvm.Cond) (a : Addr) (cz : Int32) (h0 : Heap) (n0 : Nat) (Z0 : n0 ≤ h0.size) (F_coder_a : Fld Z h0 a "java/lang/String" "coder" "B" (.int 1)) (sgC : Sta Z h0 "java/lang/String" "COMPACT_STRINGS" "Z" (.int cz)) (hcz : ¬ (cz = 0)) :
  Met l Z mN0 jdk_42_method_152_code 1 (some .byte) ({ frames := 0, cells := 0, slots := 0, locals := 0 } : Room) ws #[(.ref a)] h0 (Q_rs_coder1 Z a cz h0 n0) := by
 refine own_met (plainFor_of_name own_pn0) ?_
 intro p e s m below meth c s₁ hret hx hby hlk hml hown hnm X0 e0 hZ hh
 have N0 := Fr.nil n0
 refine Gz (castTop (own_ef_rs_coder1 m a)) ?_
 show Goes _ _ _ _ _ (fT s₁ m 0 #[vr a] [])
 obtain ⟨T1, X1, e1, st1⟩ := getS2 X0 hx hZ hown (host := "") (Or.inl (gw hw 51 rfl)) Via.refl e0 sgC (g := (mkF m 0 #[vr a] [])) rfl (hb hby d0_0)
 refine Gs st1 ?_
 show Goes _ _ _ _ _ (fT T1 m 3 #[vr a] [(.int cz)])
 refine Gz (XS.ifNo X1.here hx rfl (hb hby d0_3) rfl ((if0 _ _).trans (feq hcz).1)) ?_
 refine gA X1 hx hby d0_6 rfl rfl rfl ?_
 obtain ⟨T2, X2, e2, st2⟩ := getF X1 hx hZ hown (host := "") (Or.inl (gw hw 26 rfl)) Via.refl e1 F_coder_a (g := (mkF m 7 #[vr a] [(.ref a)])) rfl rfl (hb hby d0_7)
 refine Gs st2 ?_
 show Goes _ _ _ _ _ (fT T2 m 10 #[vr a] [(.int 1)])
 refine Gz (XS.goto X2.here hx rfl (pc0 := 10) (pc' := 14) rfl (hb hby d0_10) (by decide) (by decide)) ?_
 refine Goes.ret X2 (some (.int 1)) (fun h => by rw [hret] at h; cases h) hlk (by decide) (by decide) ?_ (fun fs hr => ?_)
 ·exact ⟨rfl, N0, e2⟩
 ·exact own_retN X2 hx (t := .byte) hret (by simp) rfl (hb hby d0_14) hr
theorem d1_17 : decode kc3 17 = .ok (.iconst 0, 1) := by decide +kernel
theorem own_ef_rs_isl1 (m : MethodId) (x0 : Addr) : entryFrame m #[(.ref x0)] 1 = mkF m 0 #[vr x0] [] := by first | (simp [entryFrame, mkF, argsToLocals, Value.category]; done) | rfl
def Q_rs_isl1 (Z : State) (a : Addr) (cz : Int32) (h0 : Heap) (n0 : Nat) (v : Option Value) (h : Heap) (L : List Loc) : Prop := v = some (.int 0) ∧ Fr n0 L ∧ h = h0
set_option maxRecDepth 65536 in
set_option maxHeartbeats 40000000 in
theorem rs_isl1 (l : Launch) (Z : State) (a0 : Array Value) (hw : HW a0 Z) (ws : List Jvm.Cond) (a : Addr) (cz : Int32) (h0 : Heap) (n0 : Nat) (Z0 : n0 ≤ h0.size) (F_coder_a : Fld Z h0 a "java/lang/String" "coder" "B" (.int 1)) (sgC : Sta Z h0 "java/lang/String" "COMPACT_STRINGS" "Z" (.int cz)) (hcz : ¬ (cz = 0)) :
  Met l Z mN1 jdk_42_method_154_code 1 (some .boolean) ({ frames := 0, cells := 0, slots := 0, locals := 0 } : Room) ws #[(.ref a)] h0 (Q_rs_isl1 Z a cz h0 n0) := by
 refine own_met (plainFor_of_name own_pn0) ?_
 intro p e s m below meth c s₁ hret hx hby hlk hml hown hnm X0 e0 hZ hh
 have N0 := Fr.nil n0
 refine Gz (castTop (own_ef_rs_isl1 m a)) ?_
 show Goes _ _ _ _ _ (fT s₁ m 0 #[vr a] [])
 obtain ⟨T1, X1, e1, st1⟩ := getS2 X0 hx hZ hown (host := "") (Or.inl (gw hw 51 rfl)) Via.refl e0 sgC (g := (mkF m 0 #[vr a] [])) rfl (hb hby d1_0)
 refine Gs st1 ?_
 show Goes _ _ _ _ _ (fT T1 m 3 #[vr a] [(.int cz)])
 refine Gz (XS.ifNo X1.here hx rfl (hb hby d1_3) rfl ((if0 _ _).trans (feq hcz).1)) ?_
 refine gA X1 hx hby d1_6 rfl rfl rfl ?_
 obtain ⟨T2, X2, e2, st2⟩ := getF X1 hx hZ hown (host := "") (Or.inl (gw hw 26 rfl)) Via.refl e1 F_coder_a (g := (mkF m 7 #[vr a] [(.ref a)])) rfl rfl (hb hby d1_7)
 refine Gs st2 ?_
 show Goes _ _ _ _ _ (fT T2 m 10 #[vr a] [(.int 1)])
 refine Gz (XS.ifYes X2.here hx rfl (pc0 := 10) (pc' := 17) rfl (hb hby d1_10) rfl ((if0 _ _).trans (feq (by decide : ¬ ((1 : Int32) = (0 : Int32)))).2) (by decide) (by decide)) ?_
 refine Gz (XS.iconst X2.here hx rfl (hb hby d1_17)) ?_
 refine Goes.ret X2 (some (.int 0)) (fun h => by rw [hret] at h; cases h) hlk (by decide) (by decide) ?_ (fun fs hr => ?_)
 ·exact ⟨rfl, N0, e2⟩
 ·exact own_retN X2 hx (t := .boolean) hret (by simp) rfl (hb hby d1_18) hr
theorem d2_0 : decode kc6 0 = .ok (.aload_n 0, 1) := by decide +kernel
theorem d2_1 : decode kc6 1 = .ok (.getfield 9, 3) := by decide +kernel
theorem d2_4 : decode kc6 4 = .ok (.arraylength, 1) := by decide +kernel
theorem d2_5 : decode kc6 5 = .ok (.aload_n 0, 1) := by decide +kernel
theorem d2_6 : decode kc6 6 = .ok (.invokevirtual 335, 3) := by decide +kernel
theorem own_pd0 : parseMethodDescriptor "()B" = some ⟨[], some .byte⟩ := by decide +kernel
theorem d2_9 : decode kc6 9 = .ok (.ishr, 1) := by decide +kernel
theorem d2_10 : decode kc6 10 = .ok (.ireturn, 1) := by decide +kernel
theorem own_ef_rs_len (m : MethodId) (x0 : Addr) : entryFrame m #[(.ref x0)] 1 = mkF m 0 #[vr x0] [] := by first | (simp [entryFrame, mkF, argsToLocals, Value.category]; done) | rfl
def Q_rs_len (Z : State) (a : Addr) (xs : List Int32) (cz : Int32) (h0 : Heap) (n0 : Nat) (v : Option Value) (h : Heap) (L : List Loc) : Prop := v = some (.int (Int32.ofNat xs.length)) ∧ Fr n0 L ∧ h = h0
set_option maxRecDepth 65536 in
set_option maxHeartbeats 40000000 in
theorem rs_len (l : Launch) (Z : State) (a0 : Array Value) (hw : HW a0 Z) (ws : List Jvm.Cond) (a : Addr) (xs : List Int32) (cz : Int32) (h0 : Heap) (n0 : Nat) (Z0 : n0 ≤ h0.size) (T_a : StrOf Z h0 a xs) (sgC : Sta Z h0 "java/lang/String" "COMPACT_STRINGS" "Z" (.int cz)) (hcz : ¬ (cz = 0)) :
  Met l Z mN2 jdk_42_method_54_code 1 (some .int) ({ frames := 1, cells := 0, slots := 0, locals := 13 } : Room) ws #[(.ref a)] h0 (Q_rs_len Z a xs cz h0 n0) := by
 refine own_met (plainFor_of_name own_pn0) ?_
 intro p e s m below meth c s₁ hret hx hby hlk hml hown hnm X0 e0 hZ hh
 have N0 := Fr.nil n0
 refine Gz (castTop (own_ef_rs_len m a)) ?_
 show Goes _ _ _ _ _ (fT s₁ m 0 #[vr a] [])
 obtain ⟨vb, kb, A_a, F_value_a, hrep, hlen⟩ := id T_a
 rcases hrep with ⟨F_coder_a, hall, V_vb⟩ | ⟨F_coder_a, hall, V_vb⟩
 ·show Goes _ _ _ _ _ (fT s₁ m 0 #[vr a] [])
  refine gA X0 hx hby d2_0 rfl rfl rfl ?_
  obtain ⟨T1, X1, e1, st1⟩ := getF X0 hx hZ hown (host := "") (Or.inl (gw hw 25 rfl)) Via.refl e0 F_value_a (g := (mkF m 1 #[vr a] [(.ref a)])) rfl rfl (hb hby d2_1)
  refine Gs st1 ?_
  show Goes _ _ _ _ _ (fT T1 m 4 #[vr a] [(.ref vb)])
  obtain ⟨cl2, Ar2, -, S2, N2z, -, -⟩ := id V_vb
  refine Gs (fun _ tk => X1.arraylength hx (by rw [e1]; exact Ar2.1) (State.isArrayOf_alike hZ.alike Ar2.2.1) (g := (mkF m 4 #[vr a] [(.ref vb)])) rfl rfl (hb hby d2_4) _ tk) ?_
  rw [len_of S2 N2z]
  show Goes _ _ _ _ _ (fT T1 m 5 #[vr a] [(.int (Int32.ofNat xs.length))])
  refine gA X1 hx hby d2_5 rfl rfl rfl ?_
  obtain ⟨cq3, kq3, q3a, q3b, q3c⟩ := isOf hZ e1 T_a.exa
  obtain ⟨_, _, ⟨T3, L3, k3, n3⟩, -, X3, ⟨Lc3, hQ3, l3, y3, z3⟩, st3⟩ := X1.virtualBack hx (y := mN0) (z := mN0) hown (gz hZ hw 46 rfl) (gz hZ hw 47 rfl) (notFace_of_selects (args := #[]) (gz hZ hw 49 rfl)) (gz hZ hw 49 rfl) (gz hZ hw 48 rfl) (by decide) (backOf (W := 1) (rs_coder0 l Z a0 hw [] a cz h0 n0 Z0 F_coder_a sgC (by first | assumption | decide)) hZ (gw hw 50 rfl) (gw hw 8 rfl) (by decide) (by decide)) q3a q3c (g := (mkF m 6 #[vr a] [(.ref a), (.int (Int32.ofNat xs.length))])) rfl hml.symm (Steps.refl _) (argsL := []) (rest := [(.int (Int32.ofNat xs.length))]) (lenOf own_pd0 rfl) rfl (wz rfl) (hb hby d2_6) (fun _ _ => ⟨rfl, e1, z0, z0⟩)
  dsimp only [Pt.U, Pt.locs, Pt.cells, Pt.slots] at X3 l3 y3 z3 st3 hQ3
  subst l3 y3 z3
  obtain ⟨rfl, N3q, e3⟩ := hQ3
  have N3 := Fr.app N0 N3q
  refine Gs (fun _ tk => st3.trans tk) ?_
  show Goes _ _ _ _ _ (fT T3 m 9 #[vr a] [(.int 0), (.int (Int32.ofNat xs.length))])
  refine Gz (XS.ishr X3.here hx rfl (hb hby d2_9) rfl) ?_
  show Goes _ _ _ _ _ (fT T3 m 10 #[vr a] [(.int ((Int32.ofNat xs.length) >>> ((0 : Int32) &&& 31)))])
  refine Goes.ret X3 (some (.int ((Int32.ofNat xs.length) >>> ((0 : Int32) &&& 31)))) (fun h => by rw [hret] at h; cases h) hlk (by decide) (by decide) ?_ (fun fs hr => ?_)
  ·exact ⟨(by rw [own_shr0]), N3, e3⟩
  ·exact retI X3 hx hret (hb hby d2_10) hr
 ·show Goes _ _ _ _ _ (fT s₁ m 0 #[vr a] [])
  refine gA X0 hx hby d2_0 rfl rfl rfl ?_
  obtain ⟨T4, X4, e4, st4⟩ := getF X0 hx hZ hown (host := "") (Or.inl (gw hw 25 rfl)) Via.refl e0 F_value_a (g := (mkF m 1 #[vr a] [(.ref a)])) rfl rfl (hb hby d2_1)
  refine Gs st4 ?_
  show Goes _ _ _ _ _ (fT T4 m 4 #[vr a] [(.ref vb)])
  obtain ⟨cl5, Ar5, -, S5, N5z, -, -⟩ := id V_vb
  refine Gs (fun _ tk => X4.arraylength hx (by rw [e4]; exact Ar5.1) (State.isArrayOf_alike hZ.alike Ar5.2.1) (g := (mkF m 4 #[vr a] [(.ref vb)])) rfl rfl (hb hby d2_4) _ tk) ?_
  rw [len_of S5 N5z]
  show Goes _ _ _ _ _ (fT T4 m 5 #[vr a] [(.int (Int32.ofNat (2 * xs.length)))])
  refine gA X4 hx hby d2_5 rfl rfl rfl ?_
  obtain ⟨cq6, kq6, q6a, q6b, q6c⟩ := isOf hZ e4 T_a.exa
  obtain ⟨_, _, ⟨T6, L6, k6, n6⟩, -, X6, ⟨Lc6, hQ6, l6, y6, z6⟩, st6⟩ := X4.virtualBack hx (y := mN0) (z := mN0) hown (gz hZ hw 46 rfl) (gz hZ hw 47 rfl) (notFace_of_selects (args := #[]) (gz hZ hw 49 rfl)) (gz hZ hw 49 rfl) (gz hZ hw 48 rfl) (by decide) (backOf (W := 1) (rs_coder1 l Z a0 hw [] a cz h0 n0 Z0 F_coder_a sgC (by first | assumption | decide)) hZ (gw hw 50 rfl) (gw hw 8 rfl) (by decide) (by decide)) q6a q6c (g := (mkF m 6 #[vr a] [(.ref a), (.int (Int32.ofNat (2 * xs.length)))])) rfl hml.symm (Steps.refl _) (argsL := []) (rest := [(.int (Int32.ofNat (2 * xs.length)))]) (lenOf own_pd0 rfl) rfl (wz rfl) (hb hby d2_6) (fun _ _ => ⟨rfl, e4, z0, z0⟩)
  dsimp only [Pt.U, Pt.locs, Pt.cells, Pt.slots] at X6 l6 y6 z6 st6 hQ6
  subst l6 y6 z6
  obtain ⟨rfl, N6q, e6⟩ := hQ6
  have N6 := Fr.app N0 N6q
  refine Gs (fun _ tk => st6.trans tk) ?_
  show Goes _ _ _ _ _ (fT T6 m 9 #[vr a] [(.int 1), (.int (Int32.ofNat (2 * xs.length)))])
  refine Gz (XS.ishr X6.here hx rfl (hb hby d2_9) rfl) ?_
  show Goes _ _ _ _ _ (fT T6 m 10 #[vr a] [(.int ((Int32.ofNat (2 * xs.length)) >>> ((1 : Int32) &&& 31)))])
  refine Goes.ret X6 (some (.int ((Int32.ofNat (2 * xs.length)) >>> ((1 : Int32) &&& 31)))) (fun h => by rw [hret] at h; cases h) hlk (by decide) (by decide) ?_ (fun fs hr => ?_)
  ·exact ⟨(by rw [own_shr1 hlen]), N6, e6⟩
  ·exact retI X6 hx hret (hb hby d2_10) hr
theorem d3_0 : decode kc0 0 = .ok (.iload_n 0, 1) := by decide +kernel
theorem d3_1 : decode kc0 1 = .ok (.ifCond .lt 8, 3) := by decide +kernel
theorem d3_4 : decode kc0 4 = .ok (.iload_n 0, 1) := by decide +kernel
theorem d3_5 : decode kc0 5 = .ok (.iload_n 1, 1) := by decide +kernel
theorem d3_6 : decode kc0 6 = .ok (.if_icmp .lt 10, 3) := by decide +kernel
theorem d3_16 : decode kc0 16 = .ok (.iload_n 0, 1) := by decide +kernel
theorem d3_17 : decode kc0 17 = .ok (.ireturn, 1) := by decide +kernel
theorem own_pn1 : plainName "jdk/internal/util/Preconditions" = true := by first | (simp [plainName, overriddenIn]; done) | decide +kernel
theorem own_ef_rs_pci (m : MethodId) (x0 : Int32) (x1 : Int32) (x2 : Value) (hx2 : x2.isRef = true) : entryFrame m #[(.int x0), (.int x1), x2] 3 = mkF m 0 #[vi x0, vi x1, .val x2] [] := by first | (simp [entryFrame, mkF, argsToLocals, Value.category]; done) | rfl | (rcases Jvm.Free.XT.refc hx2 with rfl | ⟨r, rfl⟩ <;> rfl)
def Q_rs_pci (Z : State) (j : Int32) (z : Int32) (fo : Value) (h0 : Heap) (n0 : Nat) (v : Option Value) (h : Heap) (L : List Loc) : Prop := v = some (.int j) ∧ Fr n0 L ∧ h = h0
set_option maxRecDepth 65536 in
set_option maxHeartbeats 40000000 in
theorem rs_pci (l : Launch) (Z : State) (a0 : Array Value) (hw : HW a0 Z) (ws : List Jvm.Cond) (j : Int32) (z : Int32) (fo : Value) (h0 : Heap) (n0 : Nat) (Z0 : n0 ≤ h0.size) (hj0 : ¬ (j < 0)) (hj1 : j < z) (r_fo : fo.isRef = true) :
  Met l Z mN3 jdk_41_method_11_code 3 (some .int) ({ frames := 0, cells := 0, slots := 0, locals := 0 } : Room) ws #[(.int j), (.int z), fo] h0 (Q_rs_pci Z j z fo h0 n0) := by
 refine own_met (plainFor_of_name own_pn1) ?_
 intro p e s m below meth c s₁ hret hx hby hlk hml hown hnm X0 e0 hZ hh
 have N0 := Fr.nil n0
 refine Gz (castTop (own_ef_rs_pci m j z fo r_fo)) ?_
 show Goes _ _ _ _ _ (fT s₁ m 0 #[vi j, vi z, .val fo] [])
 refine gN X0 hx hby d3_0 rfl rfl ?_
 refine Gz (XS.ifNo X0.here hx rfl (hb hby d3_1) rfl ((if0 _ _).trans (flt hj0).1)) ?_
 refine gN X0 hx hby d3_4 rfl rfl ?_
 refine gN X0 hx hby d3_5 rfl rfl ?_
 refine Gz (XS.icmpYes X0.here hx rfl (pc0 := 6) (pc' := 16) rfl (hb hby d3_6) rfl (tlt hj1).1 (by decide) (by decide)) ?_
 refine gN X0 hx hby d3_16 rfl rfl ?_
 show Goes _ _ _ _ _ (fT s₁ m 17 #[vi j, vi z, .val fo] [(.int j)])
 refine Goes.ret X0 (some (.int j)) (fun h => by rw [hret] at h; cases h) hlk (by decide) (by decide) ?_ (fun fs hr => ?_)
 ·exact ⟨rfl, N0, e0⟩
 ·exact retI X0 hx hret (hb hby d3_17) hr
theorem d4_0 : decode kc4 0 = .ok (.iload_n 0, 1) := by decide +kernel
theorem d4_1 : decode kc4 1 = .ok (.iload_n 1, 1) := by decide +kernel
theorem d4_2 : decode kc4 2 = .ok (.getstatic 1053, 3) := by decide +kernel
theorem d4_5 : decode kc4 5 = .ok (.invokestatic 1059, 3) := by decide +kernel
theorem own_pd1 : parseMethodDescriptor "(IILjava/util/function/BiFunction;)I" = some ⟨[.int, .int, (.object "java/util/function/BiFunction")], some .int⟩ := by decide +kernel
theorem d4_8 : decode kc4 8 = .ok (.pop, 1) := by decide +kernel
theorem d4_9 : decode kc4 9 = .ok (.return_, 1) := by decide +kernel
theorem own_ef_rs_sci (m : MethodId) (x0 : Int32) (x1 : Int32) : entryFrame m #[(.int x0), (.int x1)] 2 = mkF m 0 #[vi x0, vi x1] [] := by first | (simp [entryFrame, mkF, argsToLocals, Value.category]; done) | rfl
def Q_rs_sci (Z : State) (j : Int32) (z : Int32) (fo : Value) (h0 : Heap) (n0 : Nat) (v : Option Value) (h : Heap) (L : List Loc) : Prop := v = none ∧ Fr n0 L ∧ h = h0
set_option maxRecDepth 65536 in
set_option maxHeartbeats 40000000 in
theorem rs_sci (l : Launch) (Z : State) (a0 : Array Value) (hw : HW a0 Z) (ws : List Jvm.Cond) (j : Int32) (z : Int32) (fo : Value) (h0 : Heap) (n0 : Nat) (Z0 : n0 ≤ h0.size) (hj0 : ¬ (j < 0)) (hj1 : j < z) (sgF : Sta Z h0 "jdk/internal/util/Preconditions" "SIOOBE_FORMATTER" "Ljava/util/function/BiFunction;" fo) (r_fo : fo.isRef = true) :
  Met l Z mN4 jdk_42_method_155_code 2 none ({ frames := 1, cells := 0, slots := 0, locals := 14 } : Room) ws #[(.int j), (.int z)] h0 (Q_rs_sci Z j z fo h0 n0) := by
 refine own_met (plainFor_of_name own_pn0) ?_
 intro p e s m below meth c s₁ hret hx hby hlk hml hown hnm X0 e0 hZ hh
 have N0 := Fr.nil n0
 refine Gz (castTop (own_ef_rs_sci m j z)) ?_
 show Goes _ _ _ _ _ (fT s₁ m 0 #[vi j, vi z] [])
 refine gN X0 hx hby d4_0 rfl rfl ?_
 refine gN X0 hx hby d4_1 rfl rfl ?_
 obtain ⟨T1, X1, e1, st1⟩ := getS2 X0 hx hZ hown (host := "") (Or.inl (gw hw 97 rfl)) Via.refl e0 sgF (g := (mkF m 2 #[vi j, vi z] [(.int z), (.int j)])) rfl (hb hby d4_2)
 refine Gs st1 ?_
 show Goes _ _ _ _ _ (fT T1 m 5 #[vi j, vi z] [fo, (.int z), (.int j)])
 obtain ⟨_, _, ⟨T2, L2, k2, n2⟩, -, X2, ⟨Lc2, hQ2, l2, y2, z2⟩, st2⟩ := Jvm.LawKit.callS X1 hx (y := mN3) hown (gz hZ hw 99 rfl) (gz hZ hw 100 rfl) (gz hZ hw 98 rfl) (gz hZ hw 101 rfl) (by decide) (backOf (W := 0) (rs_pci l Z a0 hw [] j z fo h0 n0 Z0 (by first | assumption | decide) (by first | assumption | decide) (by first | assumption | decide)) hZ (gw hw 101 rfl) (gw hw 98 rfl) (by decide) (by decide)) (g := (mkF m 5 #[vi j, vi z] [fo, (.int z), (.int j)])) rfl hml.symm (argsL := [(.int j), (.int z), fo]) (rest := []) (lenOf own_pd1 rfl) rfl (wz rfl) (hb hby d4_5) (fun _ _ => ⟨rfl, e1, z0, z0⟩)
 dsimp only [Pt.U, Pt.locs, Pt.cells, Pt.slots] at X2 l2 y2 z2 st2 hQ2
 subst l2 y2 z2
 obtain ⟨rfl, N2q, e2⟩ := hQ2
 have N2 := Fr.app N0 N2q
 refine Gs st2 ?_
 show Goes _ _ _ _ _ (fT T2 m 8 #[vi j, vi z] [(.int j)])
 refine Gz (XS.pop X2.here hx rfl (hb hby d4_8) rfl rfl) ?_
 refine Goes.ret X2 none (fun _ => rfl) hlk (by decide) (by decide) ?_ (fun fs hr => ?_)
 ·exact ⟨rfl, N2, e2⟩
 ·exact X2.returnOut hx hret (hb hby d4_9) hr
theorem d5_0 : decode kc15 0 = .ok (.getstatic 44, 3) := by decide +kernel
theorem d5_3 : decode kc15 3 = .ok (.ifCond .ne 25, 3) := by decide +kernel
theorem d5_28 : decode kc15 28 = .ok (.iload_n 1, 1) := by decide +kernel
theorem d5_29 : decode kc15 29 = .ok (.iconst 1, 1) := by decide +kernel
theorem d5_30 : decode kc15 30 = .ok (.ishl, 1) := by decide +kernel
theorem d5_31 : decode kc15 31 = .ok (.istore_n 1, 1) := by decide +kernel
theorem d5_32 : decode kc15 32 = .ok (.aload_n 0, 1) := by decide +kernel
theorem d5_33 : decode kc15 33 = .ok (.iload_n 1, 1) := by decide +kernel
theorem d5_34 : decode kc15 34 = .ok (.iinc 1 1, 3) := by decide +kernel
theorem d5_37 : decode kc15 37 = .ok (.baload, 1) := by decide +kernel
theorem d5_38 : decode kc15 38 = .ok (.sipush 255, 3) := by decide +kernel
theorem d5_41 : decode kc15 41 = .ok (.iand, 1) := by decide +kernel
theorem d5_42 : decode kc15 42 = .ok (.getstatic 59, 3) := by decide +kernel
theorem d5_45 : decode kc15 45 = .ok (.ishl, 1) := by decide +kernel
theorem d5_46 : decode kc15 46 = .ok (.aload_n 0, 1) := by decide +kernel
theorem d5_47 : decode kc15 47 = .ok (.iload_n 1, 1) := by decide +kernel
theorem d5_48 : decode kc15 48 = .ok (.baload, 1) := by decide +kernel
theorem d5_49 : decode kc15 49 = .ok (.sipush 255, 3) := by decide +kernel
theorem d5_52 : decode kc15 52 = .ok (.iand, 1) := by decide +kernel
theorem d5_53 : decode kc15 53 = .ok (.getstatic 63, 3) := by decide +kernel
theorem d5_56 : decode kc15 56 = .ok (.ishl, 1) := by decide +kernel
theorem d5_57 : decode kc15 57 = .ok (.ior, 1) := by decide +kernel
theorem d5_58 : decode kc15 58 = .ok (.i2c, 1) := by decide +kernel
theorem d5_59 : decode kc15 59 = .ok (.ireturn, 1) := by decide +kernel
theorem own_pn2 : plainName "java/lang/StringUTF16" = true := by first | (simp [plainName, overriddenIn]; done) | decide +kernel
theorem own_ef_rs_gch (m : MethodId) (x0 : Addr) (x1 : Int32) : entryFrame m #[(.ref x0), (.int x1)] 2 = mkF m 0 #[vr x0, vi x1] [] := by first | (simp [entryFrame, mkF, argsToLocals, Value.category]; done) | rfl
def Q_rs_gch (Z : State) (b : Addr) (kb : ClassId) (xs : List Int32) (j : Int32) (r : Int32) (h0 : Heap) (n0 : Nat) (v : Option Value) (h : Heap) (L : List Loc) : Prop := v = some (.int r) ∧ Fr n0 L ∧ h = h0
set_option maxRecDepth 65536 in
set_option maxHeartbeats 40000000 in
theorem rs_gch (l : Launch) (Z : State) (a0 : Array Value) (hw : HW a0 Z) (ws : List Jvm.Cond) (b : Addr) (kb : ClassId) (xs : List Int32) (j : Int32) (r : Int32) (h0 : Heap) (n0 : Nat) (Z0 : n0 ≤ h0.size) (V_b : Arv Z h0 b kb .byte (Int32.ofNat (2 * xs.length)) (utfV xs) (.int 0)) (hj0 : ¬ (j < 0)) (hj1 : j < Int32.ofNat xs.length) (hr : xs.getD j.toNatClampNeg 0 = r) (hlen : xs.length ≤ 1000) (hCr : Chr r) (sgA : Sta Z h0 "java/lang/StringUTF16" "$assertionsDisabled" "Z" (.int 1)) (sgH : Sta Z h0 "java/lang/StringUTF16" "HI_BYTE_SHIFT" "I" (.int 0)) (sgL : Sta Z h0 "java/lang/StringUTF16" "LO_BYTE_SHIFT" "I" (.int 8)) :
  Met l Z mN5 jdk_52_method_5_code 2 (some .char) ({ frames := 0, cells := 0, slots := 0, locals := 0 } : Room) ws #[(.ref b), (.int j)] h0 (Q_rs_gch Z b kb xs j r h0 n0) := by
 refine own_met (plainFor_of_name own_pn2) ?_
 intro p e s m below meth c s₁ hret hx hby hlk hml hown hnm X0 e0 hZ hh
 have N0 := Fr.nil n0
 refine Gz (castTop (own_ef_rs_gch m b j)) ?_
 show Goes _ _ _ _ _ (fT s₁ m 0 #[vr b, vi j] [])
 obtain ⟨T1, X1, e1, st1⟩ := getS2 X0 hx hZ hown (host := "") (Or.inl (gw hw 73 rfl)) Via.refl e0 sgA (g := (mkF m 0 #[vr b, vi j] [])) rfl (hb hby d5_0)
 refine Gs st1 ?_
 show Goes _ _ _ _ _ (fT T1 m 3 #[vr b, vi j] [(.int 1)])
 refine Gz (XS.ifYes X1.here hx rfl (pc0 := 3) (pc' := 28) rfl (hb hby d5_3) rfl ((if0 _ _).trans (feq (by decide : ¬ ((1 : Int32) = (0 : Int32)))).2) (by decide) (by decide)) ?_
 refine gN X1 hx hby d5_28 rfl rfl ?_
 refine Gz (XS.iconst X1.here hx rfl (hb hby d5_29)) ?_
 show Goes _ _ _ _ _ (fT T1 m 30 #[vr b, vi j] [(.int 1), (.int j)])
 refine Gz (XS.ishl X1.here hx rfl (hb hby d5_30) rfl) ?_
 show Goes _ _ _ _ _ (fT T1 m 31 #[vr b, vi j] [(.int (j <<< ((1 : Int32) &&& 31)))])
 refine Gz (XS.istoreN X1.here hx rfl (hb hby d5_31) rfl (l' := #[vr b, vi (j <<< ((1 : Int32) &&& 31))]) rfl) ?_
 refine gA X1 hx hby d5_32 rfl rfl rfl ?_
 refine gN X1 hx hby d5_33 rfl rfl ?_
 show Goes _ _ _ _ _ (fT T1 m 34 #[vr b, vi (j <<< ((1 : Int32) &&& 31))] [(.int (j <<< ((1 : Int32) &&& 31))), (.ref b)])
 refine Gz (XS.iinc X1.here hx rfl (hb hby d5_34) rfl (l' := #[vr b, vi ((j <<< ((1 : Int32) &&& 31)) + 1)]) rfl) ?_
 show Goes _ _ _ _ _ (fT T1 m 37 #[vr b, vi ((j <<< ((1 : Int32) &&& 31)) + 1)] [(.int (j <<< ((1 : Int32) &&& 31))), (.ref b)])
 obtain ⟨cl2, Ar2, -, S2, N2z, H2, -⟩ := id V_b
 have hin2 : ¬ ((j <<< ((1 : Int32) &&& 31)) < 0 ∨ cl2.slots.size ≤ ((j <<< ((1 : Int32) &&& 31))).toNatClampNeg) := inb_of S2 (own_ub0 hj0 hj1 hlen)
 have hat2 : cl2.slots[((j <<< ((1 : Int32) &&& 31))).toNatClampNeg]? = some (.int (lo8 r)) := Has.at H2 hin2 (own_ug0 hj0 hj1 hlen hr)
 refine Gs (fun _ tk => X1.baloadBytes hx (j := (j <<< ((1 : Int32) &&& 31))) (v := (.int (lo8 r))) (by rw [e1]; exact Ar2.1) (State.isArrayOf_alike hZ.alike Ar2.2.1) Ar2.2.2 hin2 hat2 (g := (mkF m 37 #[vr b, vi ((j <<< ((1 : Int32) &&& 31)) + 1)] [(.int (j <<< ((1 : Int32) &&& 31))), (.ref b)])) rfl rfl (hb hby d5_37) _ tk) ?_
 show Goes _ _ _ _ _ (fT T1 m 38 #[vr b, vi ((j <<< ((1 : Int32) &&& 31)) + 1)] [(.int (lo8 r))])
 refine Gz (XS.sipush X1.here hx rfl (hb hby d5_38)) ?_
 show Goes _ _ _ _ _ (fT T1 m 41 #[vr b, vi ((j <<< ((1 : Int32) &&& 31)) + 1)] [(.int 255), (.int (lo8 r))])
 refine Gz (XS.iand X1.here hx rfl (hb hby d5_41) rfl) ?_
 show Goes _ _ _ _ _ (fT T1 m 42 #[vr b, vi ((j <<< ((1 : Int32) &&& 31)) + 1)] [(.int ((lo8 r) &&& 255))])
 obtain ⟨T3, X3, e3, st3⟩ := getS2 X1 hx hZ hown (host := "") (Or.inl (gw hw 74 rfl)) Via.refl e1 sgH (g := (mkF m 42 #[vr b, vi ((j <<< ((1 : Int32) &&& 31)) + 1)] [(.int ((lo8 r) &&& 255))])) rfl (hb hby d5_42)
 refine Gs st3 ?_
 show Goes _ _ _ _ _ (fT T3 m 45 #[vr b, vi ((j <<< ((1 : Int32) &&& 31)) + 1)] [(.int 0), (.int ((lo8 r) &&& 255))])
 refine Gz (XS.ishl X3.here hx rfl (hb hby d5_45) rfl) ?_
 show Goes _ _ _ _ _ (fT T3 m 46 #[vr b, vi ((j <<< ((1 : Int32) &&& 31)) + 1)] [(.int (((lo8 r) &&& 255) <<< ((0 : Int32) &&& 31)))])
 refine gA X3 hx hby d5_46 rfl rfl rfl ?_
 refine gN X3 hx hby d5_47 rfl rfl ?_
 obtain ⟨cl4, Ar4, -, S4, N4z, H4, -⟩ := id V_b
 have hin4 : ¬ (((j <<< ((1 : Int32) &&& 31)) + 1) < 0 ∨ cl4.slots.size ≤ (((j <<< ((1 : Int32) &&& 31)) + 1)).toNatClampNeg) := inb_of S4 (own_ub1 hj0 hj1 hlen)
 have hat4 : cl4.slots[(((j <<< ((1 : Int32) &&& 31)) + 1)).toNatClampNeg]? = some (.int (hi8 r)) := Has.at H4 hin4 (own_ug1 hj0 hj1 hlen hr)
 refine Gs (fun _ tk => X3.baloadBytes hx (j := ((j <<< ((1 : Int32) &&& 31)) + 1)) (v := (.int (hi8 r))) (by rw [e3]; exact Ar4.1) (State.isArrayOf_alike hZ.alike Ar4.2.1) Ar4.2.2 hin4 hat4 (g := (mkF m 48 #[vr b, vi ((j <<< ((1 : Int32) &&& 31)) + 1)] [(.int ((j <<< ((1 : Int32) &&& 31)) + 1)), (.ref b), (.int (((lo8 r) &&& 255) <<< ((0 : Int32) &&& 31)))])) rfl rfl (hb hby d5_48) _ tk) ?_
 show Goes _ _ _ _ _ (fT T3 m 49 #[vr b, vi ((j <<< ((1 : Int32) &&& 31)) + 1)] [(.int (hi8 r)), (.int (((lo8 r) &&& 255) <<< ((0 : Int32) &&& 31)))])
 refine Gz (XS.sipush X3.here hx rfl (hb hby d5_49)) ?_
 show Goes _ _ _ _ _ (fT T3 m 52 #[vr b, vi ((j <<< ((1 : Int32) &&& 31)) + 1)] [(.int 255), (.int (hi8 r)), (.int (((lo8 r) &&& 255) <<< ((0 : Int32) &&& 31)))])
 refine Gz (XS.iand X3.here hx rfl (hb hby d5_52) rfl) ?_
 show Goes _ _ _ _ _ (fT T3 m 53 #[vr b, vi ((j <<< ((1 : Int32) &&& 31)) + 1)] [(.int ((hi8 r) &&& 255)), (.int (((lo8 r) &&& 255) <<< ((0 : Int32) &&& 31)))])
 obtain ⟨T5, X5, e5, st5⟩ := getS2 X3 hx hZ hown (host := "") (Or.inl (gw hw 75 rfl)) Via.refl e3 sgL (g := (mkF m 53 #[vr b, vi ((j <<< ((1 : Int32) &&& 31)) + 1)] [(.int ((hi8 r) &&& 255)), (.int (((lo8 r) &&& 255) <<< ((0 : Int32) &&& 31)))])) rfl (hb hby d5_53)
 refine Gs st5 ?_
 show Goes _ _ _ _ _ (fT T5 m 56 #[vr b, vi ((j <<< ((1 : Int32) &&& 31)) + 1)] [(.int 8), (.int ((hi8 r) &&& 255)), (.int (((lo8 r) &&& 255) <<< ((0 : Int32) &&& 31)))])
 refine Gz (XS.ishl X5.here hx rfl (hb hby d5_56) rfl) ?_
 show Goes _ _ _ _ _ (fT T5 m 57 #[vr b, vi ((j <<< ((1 : Int32) &&& 31)) + 1)] [(.int (((hi8 r) &&& 255) <<< ((8 : Int32) &&& 31))), (.int (((lo8 r) &&& 255) <<< ((0 : Int32) &&& 31)))])
 refine Gz (XS.ior X5.here hx rfl (hb hby d5_57) rfl) ?_
 show Goes _ _ _ _ _ (fT T5 m 58 #[vr b, vi ((j <<< ((1 : Int32) &&& 31)) + 1)] [(.int ((((lo8 r) &&& 255) <<< ((0 : Int32) &&& 31)) ||| (((hi8 r) &&& 255) <<< ((8 : Int32) &&& 31))))])
 refine Gz (XS.i2c X5.here hx rfl (hb hby d5_58) rfl) ?_
 show Goes _ _ _ _ _ (fT T5 m 59 #[vr b, vi ((j <<< ((1 : Int32) &&& 31)) + 1)] [(.int (((((lo8 r) &&& 255) <<< ((0 : Int32) &&& 31)) ||| (((hi8 r) &&& 255) <<< ((8 : Int32) &&& 31))).toUInt32.toUInt16.toUInt32.toInt32))])
 rw [own_backU hCr]
 show Goes _ _ _ _ _ (fT T5 m 59 #[vr b, vi ((j <<< ((1 : Int32) &&& 31)) + 1)] [(.int r)])
 refine Goes.ret X5 (some (.int r)) (fun h => by rw [hret] at h; cases h) hlk (by decide) (by decide) ?_ (fun fs hr => ?_)
 ·exact ⟨rfl, N0, e5⟩
 ·exact own_retN X5 hx (t := .char) hret (by simp) (own_nc hCr) (hb hby d5_59) hr
theorem d6_0 : decode kc18 0 = .ok (.iload_n 0, 1) := by decide +kernel
theorem d6_1 : decode kc18 1 = .ok (.ldc 75, 2) := by decide +kernel
theorem d6_3 : decode kc18 3 = .ok (.if_icmp .lt 13, 3) := by decide +kernel
theorem d6_16 : decode kc18 16 = .ok (.iconst 0, 1) := by decide +kernel
theorem d6_17 : decode kc18 17 = .ok (.ireturn, 1) := by decide +kernel
theorem d6_6 : decode kc18 6 = .ok (.iload_n 0, 1) := by decide +kernel
theorem d6_7 : decode kc18 7 = .ok (.ldc 76, 2) := by decide +kernel
theorem d6_9 : decode kc18 9 = .ok (.if_icmp .ge 7, 3) := by decide +kernel
theorem d6_12 : decode kc18 12 = .ok (.iconst 1, 1) := by decide +kernel
theorem d6_13 : decode kc18 13 = .ok (.goto 4, 3) := by decide +kernel
theorem own_pn3 : plainName "java/lang/Character" = true := by first | (simp [plainName, overriddenIn]; done) | decide +kernel
theorem own_ef_rs_ihs (m : MethodId) (x0 : Int32) : entryFrame m #[(.int x0)] 1 = mkF m 0 #[vi x0] [] := by first | (simp [entryFrame, mkF, argsToLocals, Value.category]; done) | rfl
def Q_rs_ihs (Z : State) (r : Int32) (h0 : Heap) (n0 : Nat) (v : Option Value) (h : Heap) (L : List Loc) : Prop := v = some (.int (hiv (cls r))) ∧ Fr n0 L ∧ h = h0
set_option maxRecDepth 65536 in
set_option maxHeartbeats 40000000 in
theorem rs_ihs (l : Launch) (Z : State) (a0 : Array Value) (hw : HW a0 Z) (ws : List Jvm.Cond) (r : Int32) (h0 : Heap) (n0 : Nat) (Z0 : n0 ≤ h0.size) :
  Met l Z mN6 jdk_89_method_14_code 1 (some .boolean) ({ frames := 0, cells := 0, slots := 0, locals := 0 } : Room) ws #[(.int r)] h0 (Q_rs_ihs Z r h0 n0) := by
 refine own_met (plainFor_of_name own_pn3) ?_
 intro p e s m below meth c s₁ hret hx hby hlk hml hown hnm X0 e0 hZ hh
 have N0 := Fr.nil n0
 refine Gz (castTop (own_ef_rs_ihs m r)) ?_
 show Goes _ _ _ _ _ (fT s₁ m 0 #[vi r] [])
 refine gN X0 hx hby d6_0 rfl rfl ?_
 refine Gz (Jvm.Stand.ldcI X0 hx hown (gz hZ hw 112 rfl) rfl (hb hby d6_1)) ?_
 show Goes _ _ _ _ _ (fT s₁ m 3 #[vi r] [(.int 55296), (.int r)])
 by_cases hc3_1 : r < 55296
 ·refine Gz (XS.icmpYes X0.here hx rfl (pc0 := 3) (pc' := 16) rfl (hb hby d6_3) rfl (tlt hc3_1).1 (by decide) (by decide)) ?_
  refine Gz (XS.iconst X0.here hx rfl (hb hby d6_16)) ?_
  refine Goes.ret X0 (some (.int 0)) (fun h => by rw [hret] at h; cases h) hlk (by decide) (by decide) ?_ (fun fs hr => ?_)
  ·exact ⟨(congrArg (fun z => some (Value.int z)) (own_hi0 (by have q0 := hc3_1; simp only [Int32.lt_iff_toInt_lt, own_lits] at q0; omega))), N0, e0⟩
  ·exact own_retN X0 hx (t := .boolean) hret (by simp) rfl (hb hby d6_17) hr
 ·refine Gz (XS.icmpNo X0.here hx rfl (hb hby d6_3) rfl (flt hc3_1).1) ?_
  refine gN X0 hx hby d6_6 rfl rfl ?_
  refine Gz (Jvm.Stand.ldcI X0 hx hown (gz hZ hw 113 rfl) rfl (hb hby d6_7)) ?_
  show Goes _ _ _ _ _ (fT s₁ m 9 #[vi r] [(.int 56320), (.int r)])
  by_cases hc9_2 : r < 56320
  ·refine Gz (XS.icmpNo X0.here hx rfl (hb hby d6_9) rfl (tlt hc9_2).2.1) ?_
   refine Gz (XS.iconst X0.here hx rfl (hb hby d6_12)) ?_
   refine Gz (XS.goto X0.here hx rfl (pc0 := 13) (pc' := 17) rfl (hb hby d6_13) (by decide) (by decide)) ?_
   refine Goes.ret X0 (some (.int 1)) (fun h => by rw [hret] at h; cases h) hlk (by decide) (by decide) ?_ (fun fs hr => ?_)
   ·exact ⟨(congrArg (fun z => some (Value.int z)) (own_hi1 (by have q0 := hc3_1; have q1 := hc9_2; simp only [Int32.lt_iff_toInt_lt, own_lits] at q0 q1; omega))), N0, e0⟩
   ·exact own_retN X0 hx (t := .boolean) hret (by simp) rfl (hb hby d6_17) hr
  ·refine Gz (XS.icmpYes X0.here hx rfl (pc0 := 9) (pc' := 16) rfl (hb hby d6_9) rfl (flt hc9_2).2.1 (by decide) (by decide)) ?_
   refine Gz (XS.iconst X0.here hx rfl (hb hby d6_16)) ?_
   refine Goes.ret X0 (some (.int 0)) (fun h => by rw [hret] at h; cases h) hlk (by decide) (by decide) ?_ (fun fs hr => ?_)
   ·exact ⟨(congrArg (fun z => some (Value.int z)) (own_hi0 (by have q0 := hc3_1; have q1 := hc9_2; simp only [Int32.lt_iff_toInt_lt, own_lits] at q0 q1; omega))), N0, e0⟩
   ·exact own_retN X0 hx (t := .boolean) hret (by simp) rfl (hb hby d6_17) hr
theorem d7_0 : decode kc19 0 = .ok (.iload_n 0, 1) := by decide +kernel
theorem d7_1 : decode kc19 1 = .ok (.ldc 76, 2) := by decide +kernel
theorem d7_3 : decode kc19 3 = .ok (.if_icmp .lt 13, 3) := by decide +kernel
theorem d7_16 : decode kc19 16 = .ok (.iconst 0, 1) := by decide +kernel
theorem d7_17 : decode kc19 17 = .ok (.ireturn, 1) := by decide +kernel
theorem d7_6 : decode kc19 6 = .ok (.iload_n 0, 1) := by decide +kernel
theorem d7_7 : decode kc19 7 = .ok (.ldc 77, 2) := by decide +kernel
theorem d7_9 : decode kc19 9 = .ok (.if_icmp .ge 7, 3) := by decide +kernel
theorem d7_12 : decode kc19 12 = .ok (.iconst 1, 1) := by decide +kernel
theorem d7_13 : decode kc19 13 = .ok (.goto 4, 3) := by decide +kernel
theorem own_ef_rs_ils (m : MethodId) (x0 : Int32) : entryFrame m #[(.int x0)] 1 = mkF m 0 #[vi x0] [] := by first | (simp [entryFrame, mkF, argsToLocals, Value.category]; done) | rfl
def Q_rs_ils (Z : State) (r : Int32) (h0 : Heap) (n0 : Nat) (v : Option Value) (h : Heap) (L : List Loc) : Prop := v = some (.int (lov (cls r))) ∧ Fr n0 L ∧ h = h0
set_option maxRecDepth 65536 in
set_option maxHeartbeats 40000000 in
theorem rs_ils (l : Launch) (Z : State) (a0 : Array Value) (hw : HW a0 Z) (ws : List Jvm.Cond) (r : Int32) (h0 : Heap) (n0 : Nat) (Z0 : n0 ≤ h0.size) :
  Met l Z mN7 jdk_89_method_15_code 1 (some .boolean) ({ frames := 0, cells := 0, slots := 0, locals := 0 } : Room) ws #[(.int r)] h0 (Q_rs_ils Z r h0 n0) := by
 refine own_met (plainFor_of_name own_pn3) ?_
 intro p e s m below meth c s₁ hret hx hby hlk hml hown hnm X0 e0 hZ hh
 have N0 := Fr.nil n0
 refine Gz (castTop (own_ef_rs_ils m r)) ?_
 show Goes _ _ _ _ _ (fT s₁ m 0 #[vi r] [])
 refine gN X0 hx hby d7_0 rfl rfl ?_
 refine Gz (Jvm.Stand.ldcI X0 hx hown (gz hZ hw 113 rfl) rfl (hb hby d7_1)) ?_
 show Goes _ _ _ _ _ (fT s₁ m 3 #[vi r] [(.int 56320), (.int r)])
 by_cases hc3_1 : r < 56320
 ·refine Gz (XS.icmpYes X0.here hx rfl (pc0 := 3) (pc' := 16) rfl (hb hby d7_3) rfl (tlt hc3_1).1 (by decide) (by decide)) ?_
  refine Gz (XS.iconst X0.here hx rfl (hb hby d7_16)) ?_
  refine Goes.ret X0 (some (.int 0)) (fun h => by rw [hret] at h; cases h) hlk (by decide) (by decide) ?_ (fun fs hr => ?_)
  ·exact ⟨(congrArg (fun z => some (Value.int z)) (own_lo0 (by have q0 := hc3_1; simp only [Int32.lt_iff_toInt_lt, own_lits] at q0; omega))), N0, e0⟩
  ·exact own_retN X0 hx (t := .boolean) hret (by simp) rfl (hb hby d7_17) hr
 ·refine Gz (XS.icmpNo X0.here hx rfl (hb hby d7_3) rfl (flt hc3_1).1) ?_
  refine gN X0 hx hby d7_6 rfl rfl ?_
  refine Gz (Jvm.Stand.ldcI X0 hx hown (gz hZ hw 123 rfl) rfl (hb hby d7_7)) ?_
  show Goes _ _ _ _ _ (fT s₁ m 9 #[vi r] [(.int 57344), (.int r)])
  by_cases hc9_2 : r < 57344
  ·refine Gz (XS.icmpNo X0.here hx rfl (hb hby d7_9) rfl (tlt hc9_2).2.1) ?_
   refine Gz (XS.iconst X0.here hx rfl (hb hby d7_12)) ?_
   refine Gz (XS.goto X0.here hx rfl (pc0 := 13) (pc' := 17) rfl (hb hby d7_13) (by decide) (by decide)) ?_
   refine Goes.ret X0 (some (.int 1)) (fun h => by rw [hret] at h; cases h) hlk (by decide) (by decide) ?_ (fun fs hr => ?_)
   ·exact ⟨(congrArg (fun z => some (Value.int z)) (own_lo1 (by have q0 := hc3_1; have q1 := hc9_2; simp only [Int32.lt_iff_toInt_lt, own_lits] at q0 q1; omega))), N0, e0⟩
   ·exact own_retN X0 hx (t := .boolean) hret (by simp) rfl (hb hby d7_17) hr
  ·refine Gz (XS.icmpYes X0.here hx rfl (pc0 := 9) (pc' := 16) rfl (hb hby d7_9) rfl (flt hc9_2).2.1 (by decide) (by decide)) ?_
   refine Gz (XS.iconst X0.here hx rfl (hb hby d7_16)) ?_
   refine Goes.ret X0 (some (.int 0)) (fun h => by rw [hret] at h; cases h) hlk (by decide) (by decide) ?_ (fun fs hr => ?_)
   ·exact ⟨(congrArg (fun z => some (Value.int z)) (own_lo0 (by have q0 := hc3_1; have q1 := hc9_2; simp only [Int32.lt_iff_toInt_lt, own_lits] at q0 q1; omega))), N0, e0⟩
   ·exact own_retN X0 hx (t := .boolean) hret (by simp) rfl (hb hby d7_17) hr
theorem d8_0 : decode kc21 0 = .ok (.iload_n 0, 1) := by decide +kernel
theorem d8_1 : decode kc21 1 = .ok (.bipush 10, 2) := by decide +kernel
theorem d8_3 : decode kc21 3 = .ok (.ishl, 1) := by decide +kernel
theorem d8_4 : decode kc21 4 = .ok (.iload_n 1, 1) := by decide +kernel
theorem d8_5 : decode kc21 5 = .ok (.iadd, 1) := by decide +kernel
theorem d8_6 : decode kc21 6 = .ok (.ldc 85, 2) := by decide +kernel
theorem d8_8 : decode kc21 8 = .ok (.iadd, 1) := by decide +kernel
theorem d8_9 : decode kc21 9 = .ok (.ireturn, 1) := by decide +kernel
theorem own_ef_rs_tcp (m : MethodId) (x0 : Int32) (x1 : Int32) : entryFrame m #[(.int x0), (.int x1)] 2 = mkF m 0 #[vi x0, vi x1] [] := by first | (simp [entryFrame, mkF, argsToLocals, Value.category]; done) | rfl
def Q_rs_tcp (Z : State) (r : Int32) (t : Int32) (h0 : Heap) (n0 : Nat) (v : Option Value) (h : Heap) (L : List Loc) : Prop := v = some (.int (own_cp r t)) ∧ Fr n0 L ∧ h = h0
set_option maxRecDepth 65536 in
set_option maxHeartbeats 40000000 in
theorem rs_tcp (l : Launch) (Z : State) (a0 : Array Value) (hw : HW a0 Z) (ws : List Jvm.Cond) (r : Int32) (t : Int32) (h0 : Heap) (n0 : Nat) (Z0 : n0 ≤ h0.size) :
  Met l Z mN8 jdk_89_method_19_code 2 (some .int) ({ frames := 0, cells := 0, slots := 0, locals := 0 } : Room) ws #[(.int r), (.int t)] h0 (Q_rs_tcp Z r t h0 n0) := by
 refine own_met (plainFor_of_name own_pn3) ?_
 intro p e s m below meth c s₁ hret hx hby hlk hml hown hnm X0 e0 hZ hh
 have N0 := Fr.nil n0
 refine Gz (castTop (own_ef_rs_tcp m r t)) ?_
 show Goes _ _ _ _ _ (fT s₁ m 0 #[vi r, vi t] [])
 refine gN X0 hx hby d8_0 rfl rfl ?_
 refine Gz (XS.bipush X0.here hx rfl (hb hby d8_1)) ?_
 show Goes _ _ _ _ _ (fT s₁ m 3 #[vi r, vi t] [(.int 10), (.int r)])
 refine Gz (XS.ishl X0.here hx rfl (hb hby d8_3) rfl) ?_
 show Goes _ _ _ _ _ (fT s₁ m 4 #[vi r, vi t] [(.int (r <<< ((10 : Int32) &&& 31)))])
 refine gN X0 hx hby d8_4 rfl rfl ?_
 show Goes _ _ _ _ _ (fT s₁ m 5 #[vi r, vi t] [(.int t), (.int (r <<< ((10 : Int32) &&& 31)))])
 refine Gz (XS.iadd X0.here hx rfl (hb hby d8_5) rfl) ?_
 show Goes _ _ _ _ _ (fT s₁ m 6 #[vi r, vi t] [(.int ((r <<< ((10 : Int32) &&& 31)) + t))])
 refine Gz (Jvm.Stand.ldcI X0 hx hown (gz hZ hw 127 rfl) rfl (hb hby d8_6)) ?_
 show Goes _ _ _ _ _ (fT s₁ m 8 #[vi r, vi t] [(.int (-56613888 : Int32)), (.int ((r <<< ((10 : Int32) &&& 31)) + t))])
 refine Gz (XS.iadd X0.here hx rfl (hb hby d8_8) rfl) ?_
 show Goes _ _ _ _ _ (fT s₁ m 9 #[vi r, vi t] [(.int (((r <<< ((10 : Int32) &&& 31)) + t) + (-56613888 : Int32)))])
 refine Goes.ret X0 (some (.int (((r <<< ((10 : Int32) &&& 31)) + t) + (-56613888 : Int32)))) (fun h => by rw [hret] at h; cases h) hlk (by decide) (by decide) ?_ (fun fs hr => ?_)
 ·exact ⟨rfl, N0, e0⟩
 ·exact retI X0 hx hret (hb hby d8_9) hr
theorem d9_0 : decode kc16 0 = .ok (.getstatic 44, 3) := by decide +kernel
theorem d9_3 : decode kc16 3 = .ok (.ifCond .ne 16, 3) := by decide +kernel
theorem d9_19 : decode kc16 19 = .ok (.iload_n 3, 1) := by decide +kernel
theorem d9_20 : decode kc16 20 = .ok (.ifCond .eq 8, 3) := by decide +kernel
theorem d9_28 : decode kc16 28 = .ok (.aload_n 0, 1) := by decide +kernel
theorem d9_29 : decode kc16 29 = .ok (.iload_n 1, 1) := by decide +kernel
theorem d9_30 : decode kc16 30 = .ok (.invokestatic 71, 3) := by decide +kernel
theorem own_pd2 : parseMethodDescriptor "([BI)C" = some ⟨[(.array .byte), .int], some .char⟩ := by decide +kernel
theorem d9_33 : decode kc16 33 = .ok (.istore 4, 2) := by decide +kernel
theorem d9_35 : decode kc16 35 = .ok (.iload 4, 2) := by decide +kernel
theorem d9_37 : decode kc16 37 = .ok (.invokestatic 75, 3) := by decide +kernel
theorem own_pd3 : parseMethodDescriptor "(C)Z" = some ⟨[.char], some .boolean⟩ := by decide +kernel
theorem d9_40 : decode kc16 40 = .ok (.ifCond .eq 43, 3) := by decide +kernel
theorem d9_83 : decode kc16 83 = .ok (.iload 4, 2) := by decide +kernel
theorem d9_85 : decode kc16 85 = .ok (.ireturn, 1) := by decide +kernel
theorem own_ef_rs_cp4A (m : MethodId) (x0 : Addr) (x1 : Int32) (x2 : Int32) : entryFrame m #[(.ref x0), (.int x1), (.int x2), (.int 0)] 6 = mkF m 0 #[vr x0, vi x1, vi x2, vi 0, vu, vu] [] := by first | (simp [entryFrame, mkF, argsToLocals, Value.category]; done) | rfl
def Q_rs_cp4A (Z : State) (b : Addr) (kb : ClassId) (xs : List Int32) (j : Int32) (r : Int32) (h0 : Heap) (n0 : Nat) (v : Option Value) (h : Heap) (L : List Loc) : Prop := v = some (.int r) ∧ Fr n0 L ∧ h = h0
set_option maxRecDepth 65536 in
set_option maxHeartbeats 40000000 in
theorem rs_cp4A (l : Launch) (Z : State) (a0 : Array Value) (hw : HW a0 Z) (ws : List Jvm.Cond) (b : Addr) (kb : ClassId) (xs : List Int32) (j : Int32) (r : Int32) (h0 : Heap) (n0 : Nat) (Z0 : n0 ≤ h0.size) (V_b : Arv Z h0 b kb .byte (Int32.ofNat (2 * xs.length)) (utfV xs) (.int 0)) (hj0 : ¬ (j < 0)) (hj1 : j < Int32.ofNat xs.length) (hr : xs.getD j.toNatClampNeg 0 = r) (hlen : xs.length ≤ 1000) (hCr : Chr r) (hk : ¬ (cls r = 1)) (sgA : Sta Z h0 "java/lang/StringUTF16" "$assertionsDisabled" "Z" (.int 1)) (sgH : Sta Z h0 "java/lang/StringUTF16" "HI_BYTE_SHIFT" "I" (.int 0)) (sgL : Sta Z h0 "java/lang/StringUTF16" "LO_BYTE_SHIFT" "I" (.int 8)) :
  Met l Z mN9 jdk_52_method_7_code 6 (some .int) ({ frames := 1, cells := 0, slots := 0, locals := 13 } : Room) ws #[(.ref b), (.int j), (.int (Int32.ofNat xs.length)), (.int 0)] h0 (Q_rs_cp4A Z b kb xs j r h0 n0) := by
 refine own_met (plainFor_of_name own_pn2) ?_
 intro p e s m below meth c s₁ hret hx hby hlk hml hown hnm X0 e0 hZ hh
 have N0 := Fr.nil n0
 refine Gz (castTop (own_ef_rs_cp4A m b j (Int32.ofNat xs.length))) ?_
 show Goes _ _ _ _ _ (fT s₁ m 0 #[vr b, vi j, vi (Int32.ofNat xs.length), vi 0, vu, vu] [])
 have hv : (hiv (cls r)) = 0 := own_hvN hk
 obtain ⟨T1, X1, e1, st1⟩ := getS2 X0 hx hZ hown (host := "") (Or.inl (gw hw 73 rfl)) Via.refl e0 sgA (g := (mkF m 0 #[vr b, vi j, vi (Int32.ofNat xs.length), vi 0, vu, vu] [])) rfl (hb hby d9_0)
 refine Gs st1 ?_
 show Goes _ _ _ _ _ (fT T1 m 3 #[vr b, vi j, vi (Int32.ofNat xs.length), vi 0, vu, vu] [(.int 1)])
 refine Gz (XS.ifYes X1.here hx rfl (pc0 := 3) (pc' := 19) rfl (hb hby d9_3) rfl ((if0 _ _).trans (feq (by decide : ¬ ((1 : Int32) = (0 : Int32)))).2) (by decide) (by decide)) ?_
 refine gN X1 hx hby d9_19 rfl rfl ?_
 refine Gz (XS.ifYes X1.here hx rfl (pc0 := 20) (pc' := 28) rfl (hb hby d9_20) rfl ((if0 _ _).trans (teq (by decide : ((0 : Int32) = (0 : Int32)))).1) (by decide) (by decide)) ?_
 refine gA X1 hx hby d9_28 rfl rfl rfl ?_
 refine gN X1 hx hby d9_29 rfl rfl ?_
 obtain ⟨_, _, ⟨T2, L2, k2, n2⟩, -, X2, ⟨Lc2, hQ2, l2, y2, z2⟩, st2⟩ := Jvm.LawKit.callS X1 hx (y := mN5) hown (gz hZ hw 76 rfl) (gz hZ hw 77 rfl) (gz hZ hw 55 rfl) (gz hZ hw 78 rfl) (by decide) (backOf (W := 0) (rs_gch l Z a0 hw [] b kb xs j r h0 n0 Z0 V_b (by first | assumption | decide) (by first | assumption | decide) (by first | assumption | decide) (by first | assumption | decide) (by first | assumption | decide) sgA sgH sgL) hZ (gw hw 78 rfl) (gw hw 55 rfl) (by decide) (by decide)) (g := (mkF m 30 #[vr b, vi j, vi (Int32.ofNat xs.length), vi 0, vu, vu] [(.int j), (.ref b)])) rfl hml.symm (argsL := [(.ref b), (.int j)]) (rest := []) (lenOf own_pd2 rfl) rfl (wz rfl) (hb hby d9_30) (fun _ _ => ⟨rfl, e1, z0, z0⟩)
 dsimp only [Pt.U, Pt.locs, Pt.cells, Pt.slots] at X2 l2 y2 z2 st2 hQ2
 subst l2 y2 z2
 obtain ⟨rfl, N2q, e2⟩ := hQ2
 have N2 := Fr.app N0 N2q
 refine Gs st2 ?_
 show Goes _ _ _ _ _ (fT T2 m 33 #[vr b, vi j, vi (Int32.ofNat xs.length), vi 0, vu, vu] [(.int r)])
 refine Gz (XS.istore X2.here hx rfl (hb hby d9_33) rfl (l' := #[vr b, vi j, vi (Int32.ofNat xs.length), vi 0, vi r, vu]) rfl) ?_
 refine gI X2 hx hby d9_35 rfl rfl ?_
 obtain ⟨_, _, ⟨T3, L3, k3, n3⟩, -, X3, ⟨Lc3, hQ3, l3, y3, z3⟩, st3⟩ := Jvm.LawKit.callS X2 hx (y := mN6) hown (gz hZ hw 108 rfl) (gz hZ hw 109 rfl) (gz hZ hw 110 rfl) (gz hZ hw 111 rfl) (by decide) (backOf (W := 0) (rs_ihs l Z a0 hw [] r h0 n0 Z0) hZ (gw hw 111 rfl) (gw hw 110 rfl) (by decide) (by decide)) (g := (mkF m 37 #[vr b, vi j, vi (Int32.ofNat xs.length), vi 0, vi r, vu] [(.int r)])) rfl hml.symm (argsL := [(.int r)]) (rest := []) (lenOf own_pd3 rfl) rfl (wz rfl) (hb hby d9_37) (fun _ _ => ⟨rfl, e2, z0, z0⟩)
 dsimp only [Pt.U, Pt.locs, Pt.cells, Pt.slots] at X3 l3 y3 z3 st3 hQ3
 subst l3 y3 z3
 obtain ⟨rfl, N3q, e3⟩ := hQ3
 have N3 := Fr.app N2 N3q
 refine Gs st3 ?_
 show Goes _ _ _ _ _ (fT T3 m 40 #[vr b, vi j, vi (Int32.ofNat xs.length), vi 0, vi r, vu] [(.int (hiv (cls r)))])
 refine Gz (XS.ifYes X3.here hx rfl (pc0 := 40) (pc' := 83) rfl (hb hby d9_40) rfl ((if0 _ _).trans (teq hv).1) (by decide) (by decide)) ?_
 refine gI X3 hx hby d9_83 rfl rfl ?_
 refine Goes.ret X3 (some (.int r)) (fun h => by rw [hret] at h; cases h) hlk (by decide) (by decide) ?_ (fun fs hr => ?_)
 ·exact ⟨rfl, N3, e3⟩
 ·exact retI X3 hx hret (hb hby d9_85) hr
theorem d10_0 : decode kc17 0 = .ok (.aload_n 0, 1) := by decide +kernel
theorem d10_1 : decode kc17 1 = .ok (.iload_n 1, 1) := by decide +kernel
theorem d10_2 : decode kc17 2 = .ok (.iload_n 2, 1) := by decide +kernel
theorem d10_3 : decode kc17 3 = .ok (.iconst 0, 1) := by decide +kernel
theorem d10_4 : decode kc17 4 = .ok (.invokestatic 88, 3) := by decide +kernel
theorem own_pd4 : parseMethodDescriptor "([BIIZ)I" = some ⟨[(.array .byte), .int, .int, .boolean], some .int⟩ := by decide +kernel
theorem d10_7 : decode kc17 7 = .ok (.ireturn, 1) := by decide +kernel
theorem own_ef_rs_cp3A (m : MethodId) (x0 : Addr) (x1 : Int32) (x2 : Int32) : entryFrame m #[(.ref x0), (.int x1), (.int x2)] 3 = mkF m 0 #[vr x0, vi x1, vi x2] [] := by first | (simp [entryFrame, mkF, argsToLocals, Value.category]; done) | rfl
def Q_rs_cp3A (Z : State) (b : Addr) (kb : ClassId) (xs : List Int32) (j : Int32) (r : Int32) (h0 : Heap) (n0 : Nat) (v : Option Value) (h : Heap) (L : List Loc) : Prop := v = some (.int r) ∧ Fr n0 L ∧ h = h0
set_option maxRecDepth 65536 in
set_option maxHeartbeats 40000000 in
theorem rs_cp3A (l : Launch) (Z : State) (a0 : Array Value) (hw : HW a0 Z) (ws : List Jvm.Cond) (b : Addr) (kb : ClassId) (xs : List Int32) (j : Int32) (r : Int32) (h0 : Heap) (n0 : Nat) (Z0 : n0 ≤ h0.size) (V_b : Arv Z h0 b kb .byte (Int32.ofNat (2 * xs.length)) (utfV xs) (.int 0)) (hj0 : ¬ (j < 0)) (hj1 : j < Int32.ofNat xs.length) (hr : xs.getD j.toNatClampNeg 0 = r) (hlen : xs.length ≤ 1000) (hCr : Chr r) (hk : ¬ (cls r = 1)) (sgA : Sta Z h0 "java/lang/StringUTF16" "$assertionsDisabled" "Z" (.int 1)) (sgH : Sta Z h0 "java/lang/StringUTF16" "HI_BYTE_SHIFT" "I" (.int 0)) (sgL : Sta Z h0 "java/lang/StringUTF16" "LO_BYTE_SHIFT" "I" (.int 8)) :
  Met l Z mN10 jdk_52_method_8_code 3 (some .int) ({ frames := 2, cells := 0, slots := 0, locals := 30 } : Room) ws #[(.ref b), (.int j), (.int (Int32.ofNat xs.length))] h0 (Q_rs_cp3A Z b kb xs j r h0 n0) := by
 refine own_met (plainFor_of_name own_pn2) ?_
 intro p e s m below meth c s₁ hret hx hby hlk hml hown hnm X0 e0 hZ hh
 have N0 := Fr.nil n0
 refine Gz (castTop (own_ef_rs_cp3A m b j (Int32.ofNat xs.length))) ?_
 show Goes _ _ _ _ _ (fT s₁ m 0 #[vr b, vi j, vi (Int32.ofNat xs.length)] [])
 refine gA X0 hx hby d10_0 rfl rfl rfl ?_
 refine gN X0 hx hby d10_1 rfl rfl ?_
 refine gN X0 hx hby d10_2 rfl rfl ?_
 refine Gz (XS.iconst X0.here hx rfl (hb hby d10_3)) ?_
 obtain ⟨_, _, ⟨T1, L1, k1, n1⟩, -, X1, ⟨Lc1, hQ1, l1, y1, z1⟩, st1⟩ := Jvm.LawKit.callS X0 hx (y := mN9) hown (gz hZ hw 105 rfl) (gz hZ hw 106 rfl) (gz hZ hw 55 rfl) (gz hZ hw 107 rfl) (by decide) (backOf (W := 0) (rs_cp4A l Z a0 hw [] b kb xs j r h0 n0 Z0 V_b (by first | assumption | decide) (by first | assumption | decide) (by first | assumption | decide) (by first | assumption | decide) (by first | assumption | decide) (by first | assumption | decide) sgA sgH sgL) hZ (gw hw 107 rfl) (gw hw 55 rfl) (by decide) (by decide)) (g := (mkF m 4 #[vr b, vi j, vi (Int32.ofNat xs.length)] [(.int 0), (.int (Int32.ofNat xs.length)), (.int j), (.ref b)])) rfl hml.symm (argsL := [(.ref b), (.int j), (.int (Int32.ofNat xs.length)), (.int 0)]) (rest := []) (lenOf own_pd4 rfl) rfl (wz rfl) (hb hby d10_4) (fun _ _ => ⟨rfl, e0, z0, z0⟩)
 dsimp only [Pt.U, Pt.locs, Pt.cells, Pt.slots] at X1 l1 y1 z1 st1 hQ1
 subst l1 y1 z1
 obtain ⟨rfl, N1q, e1⟩ := hQ1
 have N1 := Fr.app N0 N1q
 refine Gs st1 ?_
 show Goes _ _ _ _ _ (fT T1 m 7 #[vr b, vi j, vi (Int32.ofNat xs.length)] [(.int r)])
 refine Goes.ret X1 (some (.int r)) (fun h => by rw [hret] at h; cases h) hlk (by decide) (by decide) ?_ (fun fs hr => ?_)
 ·exact ⟨rfl, N1, e1⟩
 ·exact retI X1 hx hret (hb hby d10_7) hr
theorem d11_0 : decode kc7 0 = .ok (.aload_n 0, 1) := by decide +kernel
theorem d11_1 : decode kc7 1 = .ok (.invokevirtual 492, 3) := by decide +kernel
theorem own_pd5 : parseMethodDescriptor "()Z" = some ⟨[], some .boolean⟩ := by decide +kernel
theorem d11_4 : decode kc7 4 = .ok (.ifCond .eq 23, 3) := by decide +kernel
theorem d11_7 : decode kc7 7 = .ok (.iload_n 1, 1) := by decide +kernel
theorem d11_8 : decode kc7 8 = .ok (.aload_n 0, 1) := by decide +kernel
theorem d11_9 : decode kc7 9 = .ok (.getfield 9, 3) := by decide +kernel
theorem d11_12 : decode kc7 12 = .ok (.arraylength, 1) := by decide +kernel
theorem d11_13 : decode kc7 13 = .ok (.invokestatic 499, 3) := by decide +kernel
theorem own_pd6 : parseMethodDescriptor "(II)V" = some ⟨[.int, .int], none⟩ := by decide +kernel
theorem d11_16 : decode kc7 16 = .ok (.aload_n 0, 1) := by decide +kernel
theorem d11_17 : decode kc7 17 = .ok (.getfield 9, 3) := by decide +kernel
theorem d11_20 : decode kc7 20 = .ok (.iload_n 1, 1) := by decide +kernel
theorem d11_21 : decode kc7 21 = .ok (.baload, 1) := by decide +kernel
theorem d11_22 : decode kc7 22 = .ok (.sipush 255, 3) := by decide +kernel
theorem d11_25 : decode kc7 25 = .ok (.iand, 1) := by decide +kernel
theorem d11_26 : decode kc7 26 = .ok (.ireturn, 1) := by decide +kernel
theorem d11_27 : decode kc7 27 = .ok (.aload_n 0, 1) := by decide +kernel
theorem d11_28 : decode kc7 28 = .ok (.getfield 9, 3) := by decide +kernel
theorem d11_31 : decode kc7 31 = .ok (.arraylength, 1) := by decide +kernel
theorem d11_32 : decode kc7 32 = .ok (.iconst 1, 1) := by decide +kernel
theorem d11_33 : decode kc7 33 = .ok (.ishr, 1) := by decide +kernel
theorem d11_34 : decode kc7 34 = .ok (.istore_n 2, 1) := by decide +kernel
theorem d11_35 : decode kc7 35 = .ok (.iload_n 1, 1) := by decide +kernel
theorem d11_36 : decode kc7 36 = .ok (.iload_n 2, 1) := by decide +kernel
theorem d11_37 : decode kc7 37 = .ok (.invokestatic 499, 3) := by decide +kernel
theorem d11_40 : decode kc7 40 = .ok (.aload_n 0, 1) := by decide +kernel
theorem d11_41 : decode kc7 41 = .ok (.getfield 9, 3) := by decide +kernel
theorem d11_44 : decode kc7 44 = .ok (.iload_n 1, 1) := by decide +kernel
theorem d11_45 : decode kc7 45 = .ok (.iload_n 2, 1) := by decide +kernel
theorem d11_46 : decode kc7 46 = .ok (.invokestatic 502, 3) := by decide +kernel
theorem own_pd7 : parseMethodDescriptor "([BII)I" = some ⟨[(.array .byte), .int, .int], some .int⟩ := by decide +kernel
theorem d11_49 : decode kc7 49 = .ok (.ireturn, 1) := by decide +kernel
theorem own_ef_rs_cpsA (m : MethodId) (x0 : Addr) (x1 : Int32) : entryFrame m #[(.ref x0), (.int x1)] 3 = mkF m 0 #[vr x0, vi x1, vu] [] := by first | (simp [entryFrame, mkF, argsToLocals, Value.category]; done) | rfl
def Q_rs_cpsA (Z : State) (a : Addr) (xs : List Int32) (j : Int32) (r : Int32) (cz : Int32) (fo : Value) (h0 : Heap) (n0 : Nat) (v : Option Value) (h : Heap) (L : List Loc) : Prop := v = some (.int r) ∧ Fr n0 L ∧ h = h0
set_option maxRecDepth 65536 in
set_option maxHeartbeats 40000000 in
theorem rs_cpsA (l : Launch) (Z : State) (a0 : Array Value) (hw : HW a0 Z) (ws : List Jvm.Cond) (a : Addr) (xs : List Int32) (j : Int32) (r : Int32) (cz : Int32) (fo : Value) (h0 : Heap) (n0 : Nat) (Z0 : n0 ≤ h0.size) (T_a : StrOf Z h0 a xs) (sgC : Sta Z h0 "java/lang/String" "COMPACT_STRINGS" "Z" (.int cz)) (hcz : ¬ (cz = 0)) (hj0 : ¬ (j < 0)) (hj1 : j < Int32.ofNat xs.length) (hr : xs.getD j.toNatClampNeg 0 = r) (hk : ¬ (cls r = 1)) (sgF : Sta Z h0 "jdk/internal/util/Preconditions" "SIOOBE_FORMATTER" "Ljava/util/function/BiFunction;" fo) (r_fo : fo.isRef = true) (sgA : Sta Z h0 "java/lang/StringUTF16" "$assertionsDisabled" "Z" (.int 1)) (sgH : Sta Z h0 "java/lang/StringUTF16" "HI_BYTE_SHIFT" "I" (.int 0)) (sgL : Sta Z h0 "java/lang/StringUTF16" "LO_BYTE_SHIFT" "I" (.int 8)) :
  Met l Z mN11 jdk_42_method_57_code 3 (some .int) ({ frames := 3, cells := 0, slots := 0, locals := 44 } : Room) ws #[(.ref a), (.int j)] h0 (Q_rs_cpsA Z a xs j r cz fo h0 n0) := by
 refine own_met (plainFor_of_name own_pn0) ?_
 intro p e s m below meth c s₁ hret hx hby hlk hml hown hnm X0 e0 hZ hh
 have N0 := Fr.nil n0
 refine Gz (castTop (own_ef_rs_cpsA m a j)) ?_
 show Goes _ _ _ _ _ (fT s₁ m 0 #[vr a, vi j, vu] [])
 obtain ⟨vb, kb, A_a, F_value_a, hrep, hlen⟩ := id T_a
 rcases hrep with ⟨F_coder_a, hall, V_vb⟩ | ⟨F_coder_a, hall, V_vb⟩
 ·show Goes _ _ _ _ _ (fT s₁ m 0 #[vr a, vi j, vu] [])
  have hmem : r ∈ xs := own_mem hj0 hj1 hlen hr
  have hLr : Lat r := hall r hmem
  refine gA X0 hx hby d11_0 rfl rfl rfl ?_
  obtain ⟨cq1, kq1, q1a, q1b, q1c⟩ := isOf hZ e0 T_a.exa
  obtain ⟨_, _, ⟨T1, L1, k1, n1⟩, -, X1, ⟨Lc1, hQ1, l1, y1, z1⟩, st1⟩ := X0.virtualBack hx (y := mN1) (z := mN1) hown (gz hZ hw 89 rfl) (gz hZ hw 90 rfl) (notFace_of_selects (args := #[]) (gz hZ hw 92 rfl)) (gz hZ hw 92 rfl) (gz hZ hw 91 rfl) (by decide) (backOf (W := 0) (rs_isl0 l Z a0 hw [] a cz h0 n0 Z0 F_coder_a sgC (by first | assumption | decide)) hZ (gw hw 93 rfl) (gw hw 8 rfl) (by decide) (by decide)) q1a q1c (g := (mkF m 1 #[vr a, vi j, vu] [(.ref a)])) rfl hml.symm (Steps.refl _) (argsL := []) (rest := []) (lenOf own_pd5 rfl) rfl (wz rfl) (hb hby d11_1) (fun _ _ => ⟨rfl, e0, z0, z0⟩)
  dsimp only [Pt.U, Pt.locs, Pt.cells, Pt.slots] at X1 l1 y1 z1 st1 hQ1
  subst l1 y1 z1
  obtain ⟨rfl, N1q, e1⟩ := hQ1
  have N1 := Fr.app N0 N1q
  refine Gs (fun _ tk => st1.trans tk) ?_
  show Goes _ _ _ _ _ (fT T1 m 4 #[vr a, vi j, vu] [(.int 1)])
  refine Gz (XS.ifNo X1.here hx rfl (hb hby d11_4) rfl ((if0 _ _).trans (feq (by decide : ¬ ((1 : Int32) = (0 : Int32)))).1)) ?_
  refine gN X1 hx hby d11_7 rfl rfl ?_
  refine gA X1 hx hby d11_8 rfl rfl rfl ?_
  obtain ⟨T2, X2, e2, st2⟩ := getF X1 hx hZ hown (host := "") (Or.inl (gw hw 25 rfl)) Via.refl e1 F_value_a (g := (mkF m 9 #[vr a, vi j, vu] [(.ref a), (.int j)])) rfl rfl (hb hby d11_9)
  refine Gs st2 ?_
  show Goes _ _ _ _ _ (fT T2 m 12 #[vr a, vi j, vu] [(.ref vb), (.int j)])
  obtain ⟨cl3, Ar3, -, S3, N3z, -, -⟩ := id V_vb
  refine Gs (fun _ tk => X2.arraylength hx (by rw [e2]; exact Ar3.1) (State.isArrayOf_alike hZ.alike Ar3.2.1) (g := (mkF m 12 #[vr a, vi j, vu] [(.ref vb), (.int j)])) rfl rfl (hb hby d11_12) _ tk) ?_
  rw [len_of S3 N3z]
  show Goes _ _ _ _ _ (fT T2 m 13 #[vr a, vi j, vu] [(.int (Int32.ofNat xs.length)), (.int j)])
  obtain ⟨_, _, ⟨T4, L4, k4, n4⟩, -, X4, ⟨Lc4, hQ4, l4, y4, z4⟩, st4⟩ := Jvm.LawKit.callS X2 hx (y := mN4) hown (gz hZ hw 94 rfl) (gz hZ hw 95 rfl) (gz hZ hw 8 rfl) (gz hZ hw 96 rfl) (by decide) (backOf (W := 0) (rs_sci l Z a0 hw [] j (Int32.ofNat xs.length) fo h0 n0 Z0 (by first | assumption | decide) (by first | assumption | decide) sgF (by first | assumption | decide)) hZ (gw hw 96 rfl) (gw hw 8 rfl) (by decide) (by decide)) (g := (mkF m 13 #[vr a, vi j, vu] [(.int (Int32.ofNat xs.length)), (.int j)])) rfl hml.symm (argsL := [(.int j), (.int (Int32.ofNat xs.length))]) (rest := []) (lenOf own_pd6 rfl) rfl (wz rfl) (hb hby d11_13) (fun _ _ => ⟨rfl, e2, z0, z0⟩)
  dsimp only [Pt.U, Pt.locs, Pt.cells, Pt.slots] at X4 l4 y4 z4 st4 hQ4
  subst l4 y4 z4
  obtain ⟨rfl, N4q, e4⟩ := hQ4
  have N4 := Fr.app N1 N4q
  refine Gs st4 ?_
  show Goes _ _ _ _ _ (fT T4 m 16 #[vr a, vi j, vu] [])
  refine gA X4 hx hby d11_16 rfl rfl rfl ?_
  obtain ⟨T5, X5, e5, st5⟩ := getF X4 hx hZ hown (host := "") (Or.inl (gw hw 25 rfl)) Via.refl e4 F_value_a (g := (mkF m 17 #[vr a, vi j, vu] [(.ref a)])) rfl rfl (hb hby d11_17)
  refine Gs st5 ?_
  show Goes _ _ _ _ _ (fT T5 m 20 #[vr a, vi j, vu] [(.ref vb)])
  refine gN X5 hx hby d11_20 rfl rfl ?_
  obtain ⟨cl6, Ar6, -, S6, N6z, H6, -⟩ := id V_vb
  have hin6 : ¬ (j < 0 ∨ cl6.slots.size ≤ (j).toNatClampNeg) := inb_of S6 ⟨hj0, hj1⟩
  have hat6 : cl6.slots[(j).toNatClampNeg]? = some (.int (lo8 r)) := Has.at H6 hin6 (own_latGet hj0 hj1 hlen hr)
  refine Gs (fun _ tk => X5.baloadBytes hx (j := j) (v := (.int (lo8 r))) (by rw [e5]; exact Ar6.1) (State.isArrayOf_alike hZ.alike Ar6.2.1) Ar6.2.2 hin6 hat6 (g := (mkF m 21 #[vr a, vi j, vu] [(.int j), (.ref vb)])) rfl rfl (hb hby d11_21) _ tk) ?_
  show Goes _ _ _ _ _ (fT T5 m 22 #[vr a, vi j, vu] [(.int (lo8 r))])
  refine Gz (XS.sipush X5.here hx rfl (hb hby d11_22)) ?_
  show Goes _ _ _ _ _ (fT T5 m 25 #[vr a, vi j, vu] [(.int 255), (.int (lo8 r))])
  refine Gz (XS.iand X5.here hx rfl (hb hby d11_25) rfl) ?_
  show Goes _ _ _ _ _ (fT T5 m 26 #[vr a, vi j, vu] [(.int ((lo8 r) &&& 255))])
  rw [own_backL hLr]
  show Goes _ _ _ _ _ (fT T5 m 26 #[vr a, vi j, vu] [(.int r)])
  refine Goes.ret X5 (some (.int r)) (fun h => by rw [hret] at h; cases h) hlk (by decide) (by decide) ?_ (fun fs hr => ?_)
  ·exact ⟨rfl, N4, e5⟩
  ·exact retI X5 hx hret (hb hby d11_26) hr
 ·show Goes _ _ _ _ _ (fT s₁ m 0 #[vr a, vi j, vu] [])
  have hmem : r ∈ xs := own_mem hj0 hj1 hlen hr
  have hCr : Chr r := hall r hmem
  refine gA X0 hx hby d11_0 rfl rfl rfl ?_
  obtain ⟨cq7, kq7, q7a, q7b, q7c⟩ := isOf hZ e0 T_a.exa
  obtain ⟨_, _, ⟨T7, L7, k7, n7⟩, -, X7, ⟨Lc7, hQ7, l7, y7, z7⟩, st7⟩ := X0.virtualBack hx (y := mN1) (z := mN1) hown (gz hZ hw 89 rfl) (gz hZ hw 90 rfl) (notFace_of_selects (args := #[]) (gz hZ hw 92 rfl)) (gz hZ hw 92 rfl) (gz hZ hw 91 rfl) (by decide) (backOf (W := 0) (rs_isl1 l Z a0 hw [] a cz h0 n0 Z0 F_coder_a sgC (by first | assumption | decide)) hZ (gw hw 93 rfl) (gw hw 8 rfl) (by decide) (by decide)) q7a q7c (g := (mkF m 1 #[vr a, vi j, vu] [(.ref a)])) rfl hml.symm (Steps.refl _) (argsL := []) (rest := []) (lenOf own_pd5 rfl) rfl (wz rfl) (hb hby d11_1) (fun _ _ => ⟨rfl, e0, z0, z0⟩)
  dsimp only [Pt.U, Pt.locs, Pt.cells, Pt.slots] at X7 l7 y7 z7 st7 hQ7
  subst l7 y7 z7
  obtain ⟨rfl, N7q, e7⟩ := hQ7
  have N7 := Fr.app N0 N7q
  refine Gs (fun _ tk => st7.trans tk) ?_
  show Goes _ _ _ _ _ (fT T7 m 4 #[vr a, vi j, vu] [(.int 0)])
  refine Gz (XS.ifYes X7.here hx rfl (pc0 := 4) (pc' := 27) rfl (hb hby d11_4) rfl ((if0 _ _).trans (teq (by decide : ((0 : Int32) = (0 : Int32)))).1) (by decide) (by decide)) ?_
  refine gA X7 hx hby d11_27 rfl rfl rfl ?_
  obtain ⟨T8, X8, e8, st8⟩ := getF X7 hx hZ hown (host := "") (Or.inl (gw hw 25 rfl)) Via.refl e7 F_value_a (g := (mkF m 28 #[vr a, vi j, vu] [(.ref a)])) rfl rfl (hb hby d11_28)
  refine Gs st8 ?_
  show Goes _ _ _ _ _ (fT T8 m 31 #[vr a, vi j, vu] [(.ref vb)])
  obtain ⟨cl9, Ar9, -, S9, N9z, -, -⟩ := id V_vb
  refine Gs (fun _ tk => X8.arraylength hx (by rw [e8]; exact Ar9.1) (State.isArrayOf_alike hZ.alike Ar9.2.1) (g := (mkF m 31 #[vr a, vi j, vu] [(.ref vb)])) rfl rfl (hb hby d11_31) _ tk) ?_
  rw [len_of S9 N9z]
  show Goes _ _ _ _ _ (fT T8 m 32 #[vr a, vi j, vu] [(.int (Int32.ofNat (2 * xs.length)))])
  refine Gz (XS.iconst X8.here hx rfl (hb hby d11_32)) ?_
  show Goes _ _ _ _ _ (fT T8 m 33 #[vr a, vi j, vu] [(.int 1), (.int (Int32.ofNat (2 * xs.length)))])
  refine Gz (XS.ishr X8.here hx rfl (hb hby d11_33) rfl) ?_
  show Goes _ _ _ _ _ (fT T8 m 34 #[vr a, vi j, vu] [(.int ((Int32.ofNat (2 * xs.length)) >>> ((1 : Int32) &&& 31)))])
  rw [own_shr1 hlen]
  show Goes _ _ _ _ _ (fT T8 m 34 #[vr a, vi j, vu] [(.int (Int32.ofNat xs.length))])
  refine Gz (XS.istoreN X8.here hx rfl (hb hby d11_34) rfl (l' := #[vr a, vi j, vi (Int32.ofNat xs.length)]) rfl) ?_
  refine gN X8 hx hby d11_35 rfl rfl ?_
  refine gN X8 hx hby d11_36 rfl rfl ?_
  obtain ⟨_, _, ⟨T10, L10, k10, n10⟩, -, X10, ⟨Lc10, hQ10, l10, y10, z10⟩, st10⟩ := Jvm.LawKit.callS X8 hx (y := mN4) hown (gz hZ hw 94 rfl) (gz hZ hw 95 rfl) (gz hZ hw 8 rfl) (gz hZ hw 96 rfl) (by decide) (backOf (W := 0) (rs_sci l Z a0 hw [] j (Int32.ofNat xs.length) fo h0 n0 Z0 (by first | assumption | decide) (by first | assumption | decide) sgF (by first | assumption | decide)) hZ (gw hw 96 rfl) (gw hw 8 rfl) (by decide) (by decide)) (g := (mkF m 37 #[vr a, vi j, vi (Int32.ofNat xs.length)] [(.int (Int32.ofNat xs.length)), (.int j)])) rfl hml.symm (argsL := [(.int j), (.int (Int32.ofNat xs.length))]) (rest := []) (lenOf own_pd6 rfl) rfl (wz rfl) (hb hby d11_37) (fun _ _ => ⟨rfl, e8, z0, z0⟩)
  dsimp only [Pt.U, Pt.locs, Pt.cells, Pt.slots] at X10 l10 y10 z10 st10 hQ10
  subst l10 y10 z10
  obtain ⟨rfl, N10q, e10⟩ := hQ10
  have N10 := Fr.app N7 N10q
  refine Gs st10 ?_
  show Goes _ _ _ _ _ (fT T10 m 40 #[vr a, vi j, vi (Int32.ofNat xs.length)] [])
  refine gA X10 hx hby d11_40 rfl rfl rfl ?_
  obtain ⟨T11, X11, e11, st11⟩ := getF X10 hx hZ hown (host := "") (Or.inl (gw hw 25 rfl)) Via.refl e10 F_value_a (g := (mkF m 41 #[vr a, vi j, vi (Int32.ofNat xs.length)] [(.ref a)])) rfl rfl (hb hby d11_41)
  refine Gs st11 ?_
  show Goes _ _ _ _ _ (fT T11 m 44 #[vr a, vi j, vi (Int32.ofNat xs.length)] [(.ref vb)])
  refine gN X11 hx hby d11_44 rfl rfl ?_
  refine gN X11 hx hby d11_45 rfl rfl ?_
  obtain ⟨_, _, ⟨T12, L12, k12, n12⟩, -, X12, ⟨Lc12, hQ12, l12, y12, z12⟩, st12⟩ := Jvm.LawKit.callS X11 hx (y := mN10) hown (gz hZ hw 102 rfl) (gz hZ hw 103 rfl) (gz hZ hw 55 rfl) (gz hZ hw 104 rfl) (by decide) (backOf (W := 0) (rs_cp3A l Z a0 hw [] vb kb xs j r h0 n0 Z0 V_vb (by first | assumption | decide) (by first | assumption | decide) (by first | assumption | decide) (by first | assumption | decide) (by first | assumption | decide) (by first | assumption | decide) sgA sgH sgL) hZ (gw hw 104 rfl) (gw hw 55 rfl) (by decide) (by decide)) (g := (mkF m 46 #[vr a, vi j, vi (Int32.ofNat xs.length)] [(.int (Int32.ofNat xs.length)), (.int j), (.ref vb)])) rfl hml.symm (argsL := [(.ref vb), (.int j), (.int (Int32.ofNat xs.length))]) (rest := []) (lenOf own_pd7 rfl) rfl (wz rfl) (hb hby d11_46) (fun _ _ => ⟨rfl, e11, z0, z0⟩)
  dsimp only [Pt.U, Pt.locs, Pt.cells, Pt.slots] at X12 l12 y12 z12 st12 hQ12
  subst l12 y12 z12
  obtain ⟨rfl, N12q, e12⟩ := hQ12
  have N12 := Fr.app N10 N12q
  refine Gs st12 ?_
  show Goes _ _ _ _ _ (fT T12 m 49 #[vr a, vi j, vi (Int32.ofNat xs.length)] [(.int r)])
  refine Goes.ret X12 (some (.int r)) (fun h => by rw [hret] at h; cases h) hlk (by decide) (by decide) ?_ (fun fs hr => ?_)
  ·exact ⟨rfl, N12, e12⟩
  ·exact retI X12 hx hret (hb hby d11_49) hr
theorem d9_43 : decode kc16 43 = .ok (.iinc 1 1, 3) := by decide +kernel
theorem d9_46 : decode kc16 46 = .ok (.iload_n 1, 1) := by decide +kernel
theorem d9_47 : decode kc16 47 = .ok (.iload_n 2, 1) := by decide +kernel
theorem d9_48 : decode kc16 48 = .ok (.if_icmp .ge 35, 3) := by decide +kernel
theorem own_ef_rs_cp4B (m : MethodId) (x0 : Addr) (x1 : Int32) (x2 : Int32) : entryFrame m #[(.ref x0), (.int x1), (.int x2), (.int 0)] 6 = mkF m 0 #[vr x0, vi x1, vi x2, vi 0, vu, vu] [] := by first | (simp [entryFrame, mkF, argsToLocals, Value.category]; done) | rfl
def Q_rs_cp4B (Z : State) (b : Addr) (kb : ClassId) (xs : List Int32) (j : Int32) (r : Int32) (h0 : Heap) (n0 : Nat) (v : Option Value) (h : Heap) (L : List Loc) : Prop := v = some (.int r) ∧ Fr n0 L ∧ h = h0
set_option maxRecDepth 65536 in
set_option maxHeartbeats 40000000 in
theorem rs_cp4B (l : Launch) (Z : State) (a0 : Array Value) (hw : HW a0 Z) (ws : List Jvm.Cond) (b : Addr) (kb : ClassId) (xs : List Int32) (j : Int32) (r : Int32) (h0 : Heap) (n0 : Nat) (Z0 : n0 ≤ h0.size) (V_b : Arv Z h0 b kb .byte (Int32.ofNat (2 * xs.length)) (utfV xs) (.int 0)) (hj0 : ¬ (j < 0)) (hj1 : j < Int32.ofNat xs.length) (hr : xs.getD j.toNatClampNeg 0 = r) (hlen : xs.length ≤ 1000) (hCr : Chr r) (hk : cls r = 1) (hnx : ¬ ((j + 1) < Int32.ofNat xs.length)) (sgA : Sta Z h0 "java/lang/StringUTF16" "$assertionsDisabled" "Z" (.int 1)) (sgH : Sta Z h0 "java/lang/StringUTF16" "HI_BYTE_SHIFT" "I" (.int 0)) (sgL : Sta Z h0 "java/lang/StringUTF16" "LO_BYTE_SHIFT" "I" (.int 8)) :
  Met l Z mN9 jdk_52_method_7_code 6 (some .int) ({ frames := 1, cells := 0, slots := 0, locals := 13 } : Room) ws #[(.ref b), (.int j), (.int (Int32.ofNat xs.length)), (.int 0)] h0 (Q_rs_cp4B Z b kb xs j r h0 n0) := by
 refine own_met (plainFor_of_name own_pn2) ?_
 intro p e s m below meth c s₁ hret hx hby hlk hml hown hnm X0 e0 hZ hh
 have N0 := Fr.nil n0
 refine Gz (castTop (own_ef_rs_cp4B m b j (Int32.ofNat xs.length))) ?_
 show Goes _ _ _ _ _ (fT s₁ m 0 #[vr b, vi j, vi (Int32.ofNat xs.length), vi 0, vu, vu] [])
 have hv : ¬ ((hiv (cls r)) = 0) := own_hvY hk
 obtain ⟨T1, X1, e1, st1⟩ := getS2 X0 hx hZ hown (host := "") (Or.inl (gw hw 73 rfl)) Via.refl e0 sgA (g := (mkF m 0 #[vr b, vi j, vi (Int32.ofNat xs.length), vi 0, vu, vu] [])) rfl (hb hby d9_0)
 refine Gs st1 ?_
 show Goes _ _ _ _ _ (fT T1 m 3 #[vr b, vi j, vi (Int32.ofNat xs.length), vi 0, vu, vu] [(.int 1)])
 refine Gz (XS.ifYes X1.here hx rfl (pc0 := 3) (pc' := 19) rfl (hb hby d9_3) rfl ((if0 _ _).trans (feq (by decide : ¬ ((1 : Int32) = (0 : Int32)))).2) (by decide) (by decide)) ?_
 refine gN X1 hx hby d9_19 rfl rfl ?_
 refine Gz (XS.ifYes X1.here hx rfl (pc0 := 20) (pc' := 28) rfl (hb hby d9_20) rfl ((if0 _ _).trans (teq (by decide : ((0 : Int32) = (0 : Int32)))).1) (by decide) (by decide)) ?_
 refine gA X1 hx hby d9_28 rfl rfl rfl ?_
 refine gN X1 hx hby d9_29 rfl rfl ?_
 obtain ⟨_, _, ⟨T2, L2, k2, n2⟩, -, X2, ⟨Lc2, hQ2, l2, y2, z2⟩, st2⟩ := Jvm.LawKit.callS X1 hx (y := mN5) hown (gz hZ hw 76 rfl) (gz hZ hw 77 rfl) (gz hZ hw 55 rfl) (gz hZ hw 78 rfl) (by decide) (backOf (W := 0) (rs_gch l Z a0 hw [] b kb xs j r h0 n0 Z0 V_b (by first | assumption | decide) (by first | assumption | decide) (by first | assumption | decide) (by first | assumption | decide) (by first | assumption | decide) sgA sgH sgL) hZ (gw hw 78 rfl) (gw hw 55 rfl) (by decide) (by decide)) (g := (mkF m 30 #[vr b, vi j, vi (Int32.ofNat xs.length), vi 0, vu, vu] [(.int j), (.ref b)])) rfl hml.symm (argsL := [(.ref b), (.int j)]) (rest := []) (lenOf own_pd2 rfl) rfl (wz rfl) (hb hby d9_30) (fun _ _ => ⟨rfl, e1, z0, z0⟩)
 dsimp only [Pt.U, Pt.locs, Pt.cells, Pt.slots] at X2 l2 y2 z2 st2 hQ2
 subst l2 y2 z2
 obtain ⟨rfl, N2q, e2⟩ := hQ2
 have N2 := Fr.app N0 N2q
 refine Gs st2 ?_
 show Goes _ _ _ _ _ (fT T2 m 33 #[vr b, vi j, vi (Int32.ofNat xs.length), vi 0, vu, vu] [(.int r)])
 refine Gz (XS.istore X2.here hx rfl (hb hby d9_33) rfl (l' := #[vr b, vi j, vi (Int32.ofNat xs.length), vi 0, vi r, vu]) rfl) ?_
 refine gI X2 hx hby d9_35 rfl rfl ?_
 obtain ⟨_, _, ⟨T3, L3, k3, n3⟩, -, X3, ⟨Lc3, hQ3, l3, y3, z3⟩, st3⟩ := Jvm.LawKit.callS X2 hx (y := mN6) hown (gz hZ hw 108 rfl) (gz hZ hw 109 rfl) (gz hZ hw 110 rfl) (gz hZ hw 111 rfl) (by decide) (backOf (W := 0) (rs_ihs l Z a0 hw [] r h0 n0 Z0) hZ (gw hw 111 rfl) (gw hw 110 rfl) (by decide) (by decide)) (g := (mkF m 37 #[vr b, vi j, vi (Int32.ofNat xs.length), vi 0, vi r, vu] [(.int r)])) rfl hml.symm (argsL := [(.int r)]) (rest := []) (lenOf own_pd3 rfl) rfl (wz rfl) (hb hby d9_37) (fun _ _ => ⟨rfl, e2, z0, z0⟩)
 dsimp only [Pt.U, Pt.locs, Pt.cells, Pt.slots] at X3 l3 y3 z3 st3 hQ3
 subst l3 y3 z3
 obtain ⟨rfl, N3q, e3⟩ := hQ3
 have N3 := Fr.app N2 N3q
 refine Gs st3 ?_
 show Goes _ _ _ _ _ (fT T3 m 40 #[vr b, vi j, vi (Int32.ofNat xs.length), vi 0, vi r, vu] [(.int (hiv (cls r)))])
 refine Gz (XS.ifNo X3.here hx rfl (hb hby d9_40) rfl ((if0 _ _).trans (feq hv).1)) ?_
 show Goes _ _ _ _ _ (fT T3 m 43 #[vr b, vi j, vi (Int32.ofNat xs.length), vi 0, vi r, vu] [])
 refine Gz (XS.iinc X3.here hx rfl (hb hby d9_43) rfl (l' := #[vr b, vi (j + 1), vi (Int32.ofNat xs.length), vi 0, vi r, vu]) rfl) ?_
 show Goes _ _ _ _ _ (fT T3 m 46 #[vr b, vi (j + 1), vi (Int32.ofNat xs.length), vi 0, vi r, vu] [])
 refine gN X3 hx hby d9_46 rfl rfl ?_
 refine gN X3 hx hby d9_47 rfl rfl ?_
 refine Gz (XS.icmpYes X3.here hx rfl (pc0 := 48) (pc' := 83) rfl (hb hby d9_48) rfl (flt hnx).2.1 (by decide) (by decide)) ?_
 refine gI X3 hx hby d9_83 rfl rfl ?_
 refine Goes.ret X3 (some (.int r)) (fun h => by rw [hret] at h; cases h) hlk (by decide) (by decide) ?_ (fun fs hr => ?_)
 ·exact ⟨rfl, N3, e3⟩
 ·exact retI X3 hx hret (hb hby d9_85) hr
theorem own_ef_rs_cp3B (m : MethodId) (x0 : Addr) (x1 : Int32) (x2 : Int32) : entryFrame m #[(.ref x0), (.int x1), (.int x2)] 3 = mkF m 0 #[vr x0, vi x1, vi x2] [] := by first | (simp [entryFrame, mkF, argsToLocals, Value.category]; done) | rfl
def Q_rs_cp3B (Z : State) (b : Addr) (kb : ClassId) (xs : List Int32) (j : Int32) (r : Int32) (h0 : Heap) (n0 : Nat) (v : Option Value) (h : Heap) (L : List Loc) : Prop := v = some (.int r) ∧ Fr n0 L ∧ h = h0
set_option maxRecDepth 65536 in
set_option maxHeartbeats 40000000 in
theorem rs_cp3B (l : Launch) (Z : State) (a0 : Array Value) (hw : HW a0 Z) (ws : List Jvm.Cond) (b : Addr) (kb : ClassId) (xs : List Int32) (j : Int32) (r : Int32) (h0 : Heap) (n0 : Nat) (Z0 : n0 ≤ h0.size) (V_b : Arv Z h0 b kb .byte (Int32.ofNat (2 * xs.length)) (utfV xs) (.int 0)) (hj0 : ¬ (j < 0)) (hj1 : j < Int32.ofNat xs.length) (hr : xs.getD j.toNatClampNeg 0 = r) (hlen : xs.length ≤ 1000) (hCr : Chr r) (hk : cls r = 1) (hnx : ¬ ((j + 1) < Int32.ofNat xs.length)) (sgA : Sta Z h0 "java/lang/StringUTF16" "$assertionsDisabled" "Z" (.int 1)) (sgH : Sta Z h0 "java/lang/StringUTF16" "HI_BYTE_SHIFT" "I" (.int 0)) (sgL : Sta Z h0 "java/lang/StringUTF16" "LO_BYTE_SHIFT" "I" (.int 8)) :
  Met l Z mN10 jdk_52_method_8_code 3 (some .int) ({ frames := 2, cells := 0, slots := 0, locals := 30 } : Room) ws #[(.ref b), (.int j), (.int (Int32.ofNat xs.length))] h0 (Q_rs_cp3B Z b kb xs j r h0 n0) := by
 refine own_met (plainFor_of_name own_pn2) ?_
 intro p e s m below meth c s₁ hret hx hby hlk hml hown hnm X0 e0 hZ hh
 have N0 := Fr.nil n0
 refine Gz (castTop (own_ef_rs_cp3B m b j (Int32.ofNat xs.length))) ?_
 show Goes _ _ _ _ _ (fT s₁ m 0 #[vr b, vi j, vi (Int32.ofNat xs.length)] [])
 refine gA X0 hx hby d10_0 rfl rfl rfl ?_
 refine gN X0 hx hby d10_1 rfl rfl ?_
 refine gN X0 hx hby d10_2 rfl rfl ?_
 refine Gz (XS.iconst X0.here hx rfl (hb hby d10_3)) ?_
 obtain ⟨_, _, ⟨T1, L1, k1, n1⟩, -, X1, ⟨Lc1, hQ1, l1, y1, z1⟩, st1⟩ := Jvm.LawKit.callS X0 hx (y := mN9) hown (gz hZ hw 105 rfl) (gz hZ hw 106 rfl) (gz hZ hw 55 rfl) (gz hZ hw 107 rfl) (by decide) (backOf (W := 0) (rs_cp4B l Z a0 hw [] b kb xs j r h0 n0 Z0 V_b (by first | assumption | decide) (by first | assumption | decide) (by first | assumption | decide) (by first | assumption | decide) (by first | assumption | decide) (by first | assumption | decide) (by first | assumption | decide) sgA sgH sgL) hZ (gw hw 107 rfl) (gw hw 55 rfl) (by decide) (by decide)) (g := (mkF m 4 #[vr b, vi j, vi (Int32.ofNat xs.length)] [(.int 0), (.int (Int32.ofNat xs.length)), (.int j), (.ref b)])) rfl hml.symm (argsL := [(.ref b), (.int j), (.int (Int32.ofNat xs.length)), (.int 0)]) (rest := []) (lenOf own_pd4 rfl) rfl (wz rfl) (hb hby d10_4) (fun _ _ => ⟨rfl, e0, z0, z0⟩)
 dsimp only [Pt.U, Pt.locs, Pt.cells, Pt.slots] at X1 l1 y1 z1 st1 hQ1
 subst l1 y1 z1
 obtain ⟨rfl, N1q, e1⟩ := hQ1
 have N1 := Fr.app N0 N1q
 refine Gs st1 ?_
 show Goes _ _ _ _ _ (fT T1 m 7 #[vr b, vi j, vi (Int32.ofNat xs.length)] [(.int r)])
 refine Goes.ret X1 (some (.int r)) (fun h => by rw [hret] at h; cases h) hlk (by decide) (by decide) ?_ (fun fs hr => ?_)
 ·exact ⟨rfl, N1, e1⟩
 ·exact retI X1 hx hret (hb hby d10_7) hr
theorem own_ef_rs_cpsB (m : MethodId) (x0 : Addr) (x1 : Int32) : entryFrame m #[(.ref x0), (.int x1)] 3 = mkF m 0 #[vr x0, vi x1, vu] [] := by first | (simp [entryFrame, mkF, argsToLocals, Value.category]; done) | rfl
def Q_rs_cpsB (Z : State) (a : Addr) (xs : List Int32) (j : Int32) (r : Int32) (cz : Int32) (fo : Value) (h0 : Heap) (n0 : Nat) (v : Option Value) (h : Heap) (L : List Loc) : Prop := v = some (.int r) ∧ Fr n0 L ∧ h = h0
set_option maxRecDepth 65536 in
set_option maxHeartbeats 40000000 in
theorem rs_cpsB (l : Launch) (Z : State) (a0 : Array Value) (hw : HW a0 Z) (ws : List Jvm.Cond) (a : Addr) (xs : List Int32) (j : Int32) (r : Int32) (cz : Int32) (fo : Value) (h0 : Heap) (n0 : Nat) (Z0 : n0 ≤ h0.size) (T_a : StrOf Z h0 a xs) (sgC : Sta Z h0 "java/lang/String" "COMPACT_STRINGS" "Z" (.int cz)) (hcz : ¬ (cz = 0)) (hj0 : ¬ (j < 0)) (hj1 : j < Int32.ofNat xs.length) (hr : xs.getD j.toNatClampNeg 0 = r) (hk : cls r = 1) (hnx : ¬ ((j + 1) < Int32.ofNat xs.length)) (sgF : Sta Z h0 "jdk/internal/util/Preconditions" "SIOOBE_FORMATTER" "Ljava/util/function/BiFunction;" fo) (r_fo : fo.isRef = true) (sgA : Sta Z h0 "java/lang/StringUTF16" "$assertionsDisabled" "Z" (.int 1)) (sgH : Sta Z h0 "java/lang/StringUTF16" "HI_BYTE_SHIFT" "I" (.int 0)) (sgL : Sta Z h0 "java/lang/StringUTF16" "LO_BYTE_SHIFT" "I" (.int 8)) :
  Met l Z mN11 jdk_42_method_57_code 3 (some .int) ({ frames := 3, cells := 0, slots := 0, locals := 44 } : Room) ws #[(.ref a), (.int j)] h0 (Q_rs_cpsB Z a xs j r cz fo h0 n0) := by
 refine own_met (plainFor_of_name own_pn0) ?_
 intro p e s m below meth c s₁ hret hx hby hlk hml hown hnm X0 e0 hZ hh
 have N0 := Fr.nil n0
 refine Gz (castTop (own_ef_rs_cpsB m a j)) ?_
 show Goes _ _ _ _ _ (fT s₁ m 0 #[vr a, vi j, vu] [])
 obtain ⟨vb, kb, A_a, F_value_a, hrep, hlen⟩ := id T_a
 rcases hrep with ⟨F_coder_a, hall, V_vb⟩ | ⟨F_coder_a, hall, V_vb⟩
 ·show Goes _ _ _ _ _ (fT s₁ m 0 #[vr a, vi j, vu] [])
  have hmem : r ∈ xs := own_mem hj0 hj1 hlen hr
  have hLr : Lat r := hall r hmem
  exact absurd hk (own_latK hLr)
 ·show Goes _ _ _ _ _ (fT s₁ m 0 #[vr a, vi j, vu] [])
  have hmem : r ∈ xs := own_mem hj0 hj1 hlen hr
  have hCr : Chr r := hall r hmem
  refine gA X0 hx hby d11_0 rfl rfl rfl ?_
  obtain ⟨cq1, kq1, q1a, q1b, q1c⟩ := isOf hZ e0 T_a.exa
  obtain ⟨_, _, ⟨T1, L1, k1, n1⟩, -, X1, ⟨Lc1, hQ1, l1, y1, z1⟩, st1⟩ := X0.virtualBack hx (y := mN1) (z := mN1) hown (gz hZ hw 89 rfl) (gz hZ hw 90 rfl) (notFace_of_selects (args := #[]) (gz hZ hw 92 rfl)) (gz hZ hw 92 rfl) (gz hZ hw 91 rfl) (by decide) (backOf (W := 0) (rs_isl1 l Z a0 hw [] a cz h0 n0 Z0 F_coder_a sgC (by first | assumption | decide)) hZ (gw hw 93 rfl) (gw hw 8 rfl) (by decide) (by decide)) q1a q1c (g := (mkF m 1 #[vr a, vi j, vu] [(.ref a)])) rfl hml.symm (Steps.refl _) (argsL := []) (rest := []) (lenOf own_pd5 rfl) rfl (wz rfl) (hb hby d11_1) (fun _ _ => ⟨rfl, e0, z0, z0⟩)
  dsimp only [Pt.U, Pt.locs, Pt.cells, Pt.slots] at X1 l1 y1 z1 st1 hQ1
  subst l1 y1 z1
  obtain ⟨rfl, N1q, e1⟩ := hQ1
  have N1 := Fr.app N0 N1q
  refine Gs (fun _ tk => st1.trans tk) ?_
  show Goes _ _ _ _ _ (fT T1 m 4 #[vr a, vi j, vu] [(.int 0)])
  refine Gz (XS.ifYes X1.here hx rfl (pc0 := 4) (pc' := 27) rfl (hb hby d11_4) rfl ((if0 _ _).trans (teq (by decide : ((0 : Int32) = (0 : Int32)))).1) (by decide) (by decide)) ?_
  refine gA X1 hx hby d11_27 rfl rfl rfl ?_
  obtain ⟨T2, X2, e2, st2⟩ := getF X1 hx hZ hown (host := "") (Or.inl (gw hw 25 rfl)) Via.refl e1 F_value_a (g := (mkF m 28 #[vr a, vi j, vu] [(.ref a)])) rfl rfl (hb hby d11_28)
  refine Gs st2 ?_
  show Goes _ _ _ _ _ (fT T2 m 31 #[vr a, vi j, vu] [(.ref vb)])
  obtain ⟨cl3, Ar3, -, S3, N3z, -, -⟩ := id V_vb
  refine Gs (fun _ tk => X2.arraylength hx (by rw [e2]; exact Ar3.1) (State.isArrayOf_alike hZ.alike Ar3.2.1) (g := (mkF m 31 #[vr a, vi j, vu] [(.ref vb)])) rfl rfl (hb hby d11_31) _ tk) ?_
  rw [len_of S3 N3z]
  show Goes _ _ _ _ _ (fT T2 m 32 #[vr a, vi j, vu] [(.int (Int32.ofNat (2 * xs.length)))])
  refine Gz (XS.iconst X2.here hx rfl (hb hby d11_32)) ?_
  show Goes _ _ _ _ _ (fT T2 m 33 #[vr a, vi j, vu] [(.int 1), (.int (Int32.ofNat (2 * xs.length)))])
  refine Gz (XS.ishr X2.here hx rfl (hb hby d11_33) rfl) ?_
  show Goes _ _ _ _ _ (fT T2 m 34 #[vr a, vi j, vu] [(.int ((Int32.ofNat (2 * xs.length)) >>> ((1 : Int32) &&& 31)))])
  rw [own_shr1 hlen]
  show Goes _ _ _ _ _ (fT T2 m 34 #[vr a, vi j, vu] [(.int (Int32.ofNat xs.length))])
  refine Gz (XS.istoreN X2.here hx rfl (hb hby d11_34) rfl (l' := #[vr a, vi j, vi (Int32.ofNat xs.length)]) rfl) ?_
  refine gN X2 hx hby d11_35 rfl rfl ?_
  refine gN X2 hx hby d11_36 rfl rfl ?_
  obtain ⟨_, _, ⟨T4, L4, k4, n4⟩, -, X4, ⟨Lc4, hQ4, l4, y4, z4⟩, st4⟩ := Jvm.LawKit.callS X2 hx (y := mN4) hown (gz hZ hw 94 rfl) (gz hZ hw 95 rfl) (gz hZ hw 8 rfl) (gz hZ hw 96 rfl) (by decide) (backOf (W := 0) (rs_sci l Z a0 hw [] j (Int32.ofNat xs.length) fo h0 n0 Z0 (by first | assumption | decide) (by first | assumption | decide) sgF (by first | assumption | decide)) hZ (gw hw 96 rfl) (gw hw 8 rfl) (by decide) (by decide)) (g := (mkF m 37 #[vr a, vi j, vi (Int32.ofNat xs.length)] [(.int (Int32.ofNat xs.length)), (.int j)])) rfl hml.symm (argsL := [(.int j), (.int (Int32.ofNat xs.length))]) (rest := []) (lenOf own_pd6 rfl) rfl (wz rfl) (hb hby d11_37) (fun _ _ => ⟨rfl, e2, z0, z0⟩)
  dsimp only [Pt.U, Pt.locs, Pt.cells, Pt.slots] at X4 l4 y4 z4 st4 hQ4
  subst l4 y4 z4
  obtain ⟨rfl, N4q, e4⟩ := hQ4
  have N4 := Fr.app N1 N4q
  refine Gs st4 ?_
  show Goes _ _ _ _ _ (fT T4 m 40 #[vr a, vi j, vi (Int32.ofNat xs.length)] [])
  refine gA X4 hx hby d11_40 rfl rfl rfl ?_
  obtain ⟨T5, X5, e5, st5⟩ := getF X4 hx hZ hown (host := "") (Or.inl (gw hw 25 rfl)) Via.refl e4 F_value_a (g := (mkF m 41 #[vr a, vi j, vi (Int32.ofNat xs.length)] [(.ref a)])) rfl rfl (hb hby d11_41)
  refine Gs st5 ?_
  show Goes _ _ _ _ _ (fT T5 m 44 #[vr a, vi j, vi (Int32.ofNat xs.length)] [(.ref vb)])
  refine gN X5 hx hby d11_44 rfl rfl ?_
  refine gN X5 hx hby d11_45 rfl rfl ?_
  obtain ⟨_, _, ⟨T6, L6, k6, n6⟩, -, X6, ⟨Lc6, hQ6, l6, y6, z6⟩, st6⟩ := Jvm.LawKit.callS X5 hx (y := mN10) hown (gz hZ hw 102 rfl) (gz hZ hw 103 rfl) (gz hZ hw 55 rfl) (gz hZ hw 104 rfl) (by decide) (backOf (W := 0) (rs_cp3B l Z a0 hw [] vb kb xs j r h0 n0 Z0 V_vb (by first | assumption | decide) (by first | assumption | decide) (by first | assumption | decide) (by first | assumption | decide) (by first | assumption | decide) (by first | assumption | decide) (by first | assumption | decide) sgA sgH sgL) hZ (gw hw 104 rfl) (gw hw 55 rfl) (by decide) (by decide)) (g := (mkF m 46 #[vr a, vi j, vi (Int32.ofNat xs.length)] [(.int (Int32.ofNat xs.length)), (.int j), (.ref vb)])) rfl hml.symm (argsL := [(.ref vb), (.int j), (.int (Int32.ofNat xs.length))]) (rest := []) (lenOf own_pd7 rfl) rfl (wz rfl) (hb hby d11_46) (fun _ _ => ⟨rfl, e5, z0, z0⟩)
  dsimp only [Pt.U, Pt.locs, Pt.cells, Pt.slots] at X6 l6 y6 z6 st6 hQ6
  subst l6 y6 z6
  obtain ⟨rfl, N6q, e6⟩ := hQ6
  have N6 := Fr.app N4 N6q
  refine Gs st6 ?_
  show Goes _ _ _ _ _ (fT T6 m 49 #[vr a, vi j, vi (Int32.ofNat xs.length)] [(.int r)])
  refine Goes.ret X6 (some (.int r)) (fun h => by rw [hret] at h; cases h) hlk (by decide) (by decide) ?_ (fun fs hr => ?_)
  ·exact ⟨rfl, N6, e6⟩
  ·exact retI X6 hx hret (hb hby d11_49) hr
theorem d9_51 : decode kc16 51 = .ok (.iload_n 3, 1) := by decide +kernel
theorem d9_52 : decode kc16 52 = .ok (.ifCond .eq 8, 3) := by decide +kernel
theorem d9_60 : decode kc16 60 = .ok (.aload_n 0, 1) := by decide +kernel
theorem d9_61 : decode kc16 61 = .ok (.iload_n 1, 1) := by decide +kernel
theorem d9_62 : decode kc16 62 = .ok (.invokestatic 71, 3) := by decide +kernel
theorem d9_65 : decode kc16 65 = .ok (.istore 5, 2) := by decide +kernel
theorem d9_67 : decode kc16 67 = .ok (.iload 5, 2) := by decide +kernel
theorem d9_69 : decode kc16 69 = .ok (.invokestatic 81, 3) := by decide +kernel
theorem d9_72 : decode kc16 72 = .ok (.ifCond .eq 11, 3) := by decide +kernel
theorem own_ef_rs_cp4C (m : MethodId) (x0 : Addr) (x1 : Int32) (x2 : Int32) : entryFrame m #[(.ref x0), (.int x1), (.int x2), (.int 0)] 6 = mkF m 0 #[vr x0, vi x1, vi x2, vi 0, vu, vu] [] := by first | (simp [entryFrame, mkF, argsToLocals, Value.category]; done) | rfl
def Q_rs_cp4C (Z : State) (b : Addr) (kb : ClassId) (xs : List Int32) (j : Int32) (r : Int32) (t : Int32) (h0 : Heap) (n0 : Nat) (v : Option Value) (h : Heap) (L : List Loc) : Prop := v = some (.int r) ∧ Fr n0 L ∧ h = h0
set_option maxRecDepth 65536 in
set_option maxHeartbeats 40000000 in
theorem rs_cp4C (l : Launch) (Z : State) (a0 : Array Value) (hw : HW a0 Z) (ws : List Jvm.Cond) (b : Addr) (kb : ClassId) (xs : List Int32) (j : Int32) (r : Int32) (t : Int32) (h0 : Heap) (n0 : Nat) (Z0 : n0 ≤ h0.size) (V_b : Arv Z h0 b kb .byte (Int32.ofNat (2 * xs.length)) (utfV xs) (.int 0)) (hj0 : ¬ (j < 0)) (hj1 : j < Int32.ofNat xs.length) (hr : xs.getD j.toNatClampNeg 0 = r) (hlen : xs.length ≤ 1000) (hCr : Chr r) (hk : cls r = 1) (hj1b : (j + 1) < Int32.ofNat xs.length) (hj0b : ¬ ((j + 1) < 0)) (hrb : xs.getD (j + 1).toNatClampNeg 0 = t) (hl : ¬ (cls t = 2)) (hCt : Chr t) (sgA : Sta Z h0 "java/lang/StringUTF16" "$assertionsDisabled" "Z" (.int 1)) (sgH : Sta Z h0 "java/lang/StringUTF16" "HI_BYTE_SHIFT" "I" (.int 0)) (sgL : Sta Z h0 "java/lang/StringUTF16" "LO_BYTE_SHIFT" "I" (.int 8)) :
  Met l Z mN9 jdk_52_method_7_code 6 (some .int) ({ frames := 1, cells := 0, slots := 0, locals := 13 } : Room) ws #[(.ref b), (.int j), (.int (Int32.ofNat xs.length)), (.int 0)] h0 (Q_rs_cp4C Z b kb xs j r t h0 n0) := by
 refine own_met (plainFor_of_name own_pn2) ?_
 intro p e s m below meth c s₁ hret hx hby hlk hml hown hnm X0 e0 hZ hh
 have N0 := Fr.nil n0
 refine Gz (castTop (own_ef_rs_cp4C m b j (Int32.ofNat xs.length))) ?_
 show Goes _ _ _ _ _ (fT s₁ m 0 #[vr b, vi j, vi (Int32.ofNat xs.length), vi 0, vu, vu] [])
 have hv : ¬ ((hiv (cls r)) = 0) := own_hvY hk
 have hu : (lov (cls t)) = 0 := own_lvN hl
 obtain ⟨T1, X1, e1, st1⟩ := getS2 X0 hx hZ hown (host := "") (Or.inl (gw hw 73 rfl)) Via.refl e0 sgA (g := (mkF m 0 #[vr b, vi j, vi (Int32.ofNat xs.length), vi 0, vu, vu] [])) rfl (hb hby d9_0)
 refine Gs st1 ?_
 show Goes _ _ _ _ _ (fT T1 m 3 #[vr b, vi j, vi (Int32.ofNat xs.length), vi 0, vu, vu] [(.int 1)])
 refine Gz (XS.ifYes X1.here hx rfl (pc0 := 3) (pc' := 19) rfl (hb hby d9_3) rfl ((if0 _ _).trans (feq (by decide : ¬ ((1 : Int32) = (0 : Int32)))).2) (by decide) (by decide)) ?_
 refine gN X1 hx hby d9_19 rfl rfl ?_
 refine Gz (XS.ifYes X1.here hx rfl (pc0 := 20) (pc' := 28) rfl (hb hby d9_20) rfl ((if0 _ _).trans (teq (by decide : ((0 : Int32) = (0 : Int32)))).1) (by decide) (by decide)) ?_
 refine gA X1 hx hby d9_28 rfl rfl rfl ?_
 refine gN X1 hx hby d9_29 rfl rfl ?_
 obtain ⟨_, _, ⟨T2, L2, k2, n2⟩, -, X2, ⟨Lc2, hQ2, l2, y2, z2⟩, st2⟩ := Jvm.LawKit.callS X1 hx (y := mN5) hown (gz hZ hw 76 rfl) (gz hZ hw 77 rfl) (gz hZ hw 55 rfl) (gz hZ hw 78 rfl) (by decide) (backOf (W := 0) (rs_gch l Z a0 hw [] b kb xs j r h0 n0 Z0 V_b (by first | assumption | decide) (by first | assumption | decide) (by first | assumption | decide) (by first | assumption | decide) (by first | assumption | decide) sgA sgH sgL) hZ (gw hw 78 rfl) (gw hw 55 rfl) (by decide) (by decide)) (g := (mkF m 30 #[vr b, vi j, vi (Int32.ofNat xs.length), vi 0, vu, vu] [(.int j), (.ref b)])) rfl hml.symm (argsL := [(.ref b), (.int j)]) (rest := []) (lenOf own_pd2 rfl) rfl (wz rfl) (hb hby d9_30) (fun _ _ => ⟨rfl, e1, z0, z0⟩)
 dsimp only [Pt.U, Pt.locs, Pt.cells, Pt.slots] at X2 l2 y2 z2 st2 hQ2
 subst l2 y2 z2
 obtain ⟨rfl, N2q, e2⟩ := hQ2
 have N2 := Fr.app N0 N2q
 refine Gs st2 ?_
 show Goes _ _ _ _ _ (fT T2 m 33 #[vr b, vi j, vi (Int32.ofNat xs.length), vi 0, vu, vu] [(.int r)])
 refine Gz (XS.istore X2.here hx rfl (hb hby d9_33) rfl (l' := #[vr b, vi j, vi (Int32.ofNat xs.length), vi 0, vi r, vu]) rfl) ?_
 refine gI X2 hx hby d9_35 rfl rfl ?_
 obtain ⟨_, _, ⟨T3, L3, k3, n3⟩, -, X3, ⟨Lc3, hQ3, l3, y3, z3⟩, st3⟩ := Jvm.LawKit.callS X2 hx (y := mN6) hown (gz hZ hw 108 rfl) (gz hZ hw 109 rfl) (gz hZ hw 110 rfl) (gz hZ hw 111 rfl) (by decide) (backOf (W := 0) (rs_ihs l Z a0 hw [] r h0 n0 Z0) hZ (gw hw 111 rfl) (gw hw 110 rfl) (by decide) (by decide)) (g := (mkF m 37 #[vr b, vi j, vi (Int32.ofNat xs.length), vi 0, vi r, vu] [(.int r)])) rfl hml.symm (argsL := [(.int r)]) (rest := []) (lenOf own_pd3 rfl) rfl (wz rfl) (hb hby d9_37) (fun _ _ => ⟨rfl, e2, z0, z0⟩)
 dsimp only [Pt.U, Pt.locs, Pt.cells, Pt.slots] at X3 l3 y3 z3 st3 hQ3
 subst l3 y3 z3
 obtain ⟨rfl, N3q, e3⟩ := hQ3
 have N3 := Fr.app N2 N3q
 refine Gs st3 ?_
 show Goes _ _ _ _ _ (fT T3 m 40 #[vr b, vi j, vi (Int32.ofNat xs.length), vi 0, vi r, vu] [(.int (hiv (cls r)))])
 refine Gz (XS.ifNo X3.here hx rfl (hb hby d9_40) rfl ((if0 _ _).trans (feq hv).1)) ?_
 show Goes _ _ _ _ _ (fT T3 m 43 #[vr b, vi j, vi (Int32.ofNat xs.length), vi 0, vi r, vu] [])
 refine Gz (XS.iinc X3.here hx rfl (hb hby d9_43) rfl (l' := #[vr b, vi (j + 1), vi (Int32.ofNat xs.length), vi 0, vi r, vu]) rfl) ?_
 show Goes _ _ _ _ _ (fT T3 m 46 #[vr b, vi (j + 1), vi (Int32.ofNat xs.length), vi 0, vi r, vu] [])
 refine gN X3 hx hby d9_46 rfl rfl ?_
 refine gN X3 hx hby d9_47 rfl rfl ?_
 refine Gz (XS.icmpNo X3.here hx rfl (hb hby d9_48) rfl (tlt hj1b).2.1) ?_
 refine gN X3 hx hby d9_51 rfl rfl ?_
 refine Gz (XS.ifYes X3.here hx rfl (pc0 := 52) (pc' := 60) rfl (hb hby d9_52) rfl ((if0 _ _).trans (teq (by decide : ((0 : Int32) = (0 : Int32)))).1) (by decide) (by decide)) ?_
 refine gA X3 hx hby d9_60 rfl rfl rfl ?_
 show Goes _ _ _ _ _ (fT T3 m 61 #[vr b, vi (j + 1), vi (Int32.ofNat xs.length), vi 0, vi r, vu] [(.ref b)])
 refine gN X3 hx hby d9_61 rfl rfl ?_
 obtain ⟨_, _, ⟨T4, L4, k4, n4⟩, -, X4, ⟨Lc4, hQ4, l4, y4, z4⟩, st4⟩ := Jvm.LawKit.callS X3 hx (y := mN5) hown (gz hZ hw 76 rfl) (gz hZ hw 77 rfl) (gz hZ hw 55 rfl) (gz hZ hw 78 rfl) (by decide) (backOf (W := 0) (rs_gch l Z a0 hw [] b kb xs (j + 1) t h0 n0 Z0 V_b (by first | assumption | decide) (by first | assumption | decide) (by first | assumption | decide) (by first | assumption | decide) (by first | assumption | decide) sgA sgH sgL) hZ (gw hw 78 rfl) (gw hw 55 rfl) (by decide) (by decide)) (g := (mkF m 62 #[vr b, vi (j + 1), vi (Int32.ofNat xs.length), vi 0, vi r, vu] [(.int (j + 1)), (.ref b)])) rfl hml.symm (argsL := [(.ref b), (.int (j + 1))]) (rest := []) (lenOf own_pd2 rfl) rfl (wz rfl) (hb hby d9_62) (fun _ _ => ⟨rfl, e3, z0, z0⟩)
 dsimp only [Pt.U, Pt.locs, Pt.cells, Pt.slots] at X4 l4 y4 z4 st4 hQ4
 subst l4 y4 z4
 obtain ⟨rfl, N4q, e4⟩ := hQ4
 have N4 := Fr.app N3 N4q
 refine Gs st4 ?_
 show Goes _ _ _ _ _ (fT T4 m 65 #[vr b, vi (j + 1), vi (Int32.ofNat xs.length), vi 0, vi r, vu] [(.int t)])
 refine Gz (XS.istore X4.here hx rfl (hb hby d9_65) rfl (l' := #[vr b, vi (j + 1), vi (Int32.ofNat xs.length), vi 0, vi r, vi t]) rfl) ?_
 refine gI X4 hx hby d9_67 rfl rfl ?_
 obtain ⟨_, _, ⟨T5, L5, k5, n5⟩, -, X5, ⟨Lc5, hQ5, l5, y5, z5⟩, st5⟩ := Jvm.LawKit.callS X4 hx (y := mN7) hown (gz hZ hw 120 rfl) (gz hZ hw 121 rfl) (gz hZ hw 110 rfl) (gz hZ hw 122 rfl) (by decide) (backOf (W := 0) (rs_ils l Z a0 hw [] t h0 n0 Z0) hZ (gw hw 122 rfl) (gw hw 110 rfl) (by decide) (by decide)) (g := (mkF m 69 #[vr b, vi (j + 1), vi (Int32.ofNat xs.length), vi 0, vi r, vi t] [(.int t)])) rfl hml.symm (argsL := [(.int t)]) (rest := []) (lenOf own_pd3 rfl) rfl (wz rfl) (hb hby d9_69) (fun _ _ => ⟨rfl, e4, z0, z0⟩)
 dsimp only [Pt.U, Pt.locs, Pt.cells, Pt.slots] at X5 l5 y5 z5 st5 hQ5
 subst l5 y5 z5
 obtain ⟨rfl, N5q, e5⟩ := hQ5
 have N5 := Fr.app N4 N5q
 refine Gs st5 ?_
 show Goes _ _ _ _ _ (fT T5 m 72 #[vr b, vi (j + 1), vi (Int32.ofNat xs.length), vi 0, vi r, vi t] [(.int (lov (cls t)))])
 refine Gz (XS.ifYes X5.here hx rfl (pc0 := 72) (pc' := 83) rfl (hb hby d9_72) rfl ((if0 _ _).trans (teq hu).1) (by decide) (by decide)) ?_
 refine gI X5 hx hby d9_83 rfl rfl ?_
 refine Goes.ret X5 (some (.int r)) (fun h => by rw [hret] at h; cases h) hlk (by decide) (by decide) ?_ (fun fs hr => ?_)
 ·exact ⟨rfl, N5, e5⟩
 ·exact retI X5 hx hret (hb hby d9_85) hr
theorem own_ef_rs_cp3C (m : MethodId) (x0 : Addr) (x1 : Int32) (x2 : Int32) : entryFrame m #[(.ref x0), (.int x1), (.int x2)] 3 = mkF m 0 #[vr x0, vi x1, vi x2] [] := by first | (simp [entryFrame, mkF, argsToLocals, Value.category]; done) | rfl
def Q_rs_cp3C (Z : State) (b : Addr) (kb : ClassId) (xs : List Int32) (j : Int32) (r : Int32) (t : Int32) (h0 : Heap) (n0 : Nat) (v : Option Value) (h : Heap) (L : List Loc) : Prop := v = some (.int r) ∧ Fr n0 L ∧ h = h0
set_option maxRecDepth 65536 in
set_option maxHeartbeats 40000000 in
theorem rs_cp3C (l : Launch) (Z : State) (a0 : Array Value) (hw : HW a0 Z) (ws : List Jvm.Cond) (b : Addr) (kb : ClassId) (xs : List Int32) (j : Int32) (r : Int32) (t : Int32) (h0 : Heap) (n0 : Nat) (Z0 : n0 ≤ h0.size) (V_b : Arv Z h0 b kb .byte (Int32.ofNat (2 * xs.length)) (utfV xs) (.int 0)) (hj0 : ¬ (j < 0)) (hj1 : j < Int32.ofNat xs.length) (hr : xs.getD j.toNatClampNeg 0 = r) (hlen : xs.length ≤ 1000) (hCr : Chr r) (hk : cls r = 1) (hj1b : (j + 1) < Int32.ofNat xs.length) (hj0b : ¬ ((j + 1) < 0)) (hrb : xs.getD (j + 1).toNatClampNeg 0 = t) (hl : ¬ (cls t = 2)) (hCt : Chr t) (sgA : Sta Z h0 "java/lang/StringUTF16" "$assertionsDisabled" "Z" (.int 1)) (sgH : Sta Z h0 "java/lang/StringUTF16" "HI_BYTE_SHIFT" "I" (.int 0)) (sgL : Sta Z h0 "java/lang/StringUTF16" "LO_BYTE_SHIFT" "I" (.int 8)) :
  Met l Z mN10 jdk_52_method_8_code 3 (some .int) ({ frames := 2, cells := 0, slots := 0, locals := 30 } : Room) ws #[(.ref b), (.int j), (.int (Int32.ofNat xs.length))] h0 (Q_rs_cp3C Z b kb xs j r t h0 n0) := by
 refine own_met (plainFor_of_name own_pn2) ?_
 intro p e s m below meth c s₁ hret hx hby hlk hml hown hnm X0 e0 hZ hh
 have N0 := Fr.nil n0
 refine Gz (castTop (own_ef_rs_cp3C m b j (Int32.ofNat xs.length))) ?_
 show Goes _ _ _ _ _ (fT s₁ m 0 #[vr b, vi j, vi (Int32.ofNat xs.length)] [])
 refine gA X0 hx hby d10_0 rfl rfl rfl ?_
 refine gN X0 hx hby d10_1 rfl rfl ?_
 refine gN X0 hx hby d10_2 rfl rfl ?_
 refine Gz (XS.iconst X0.here hx rfl (hb hby d10_3)) ?_
 obtain ⟨_, _, ⟨T1, L1, k1, n1⟩, -, X1, ⟨Lc1, hQ1, l1, y1, z1⟩, st1⟩ := Jvm.LawKit.callS X0 hx (y := mN9) hown (gz hZ hw 105 rfl) (gz hZ hw 106 rfl) (gz hZ hw 55 rfl) (gz hZ hw 107 rfl) (by decide) (backOf (W := 0) (rs_cp4C l Z a0 hw [] b kb xs j r t h0 n0 Z0 V_b (by first | assumption | decide) (by first | assumption | decide) (by first | assumption | decide) (by first | assumption | decide) (by first | assumption | decide) (by first | assumption | decide) (by first | assumption | decide) (by first | assumption | decide) (by first | assumption | decide) (by first | assumption | decide) (by first | assumption | decide) sgA sgH sgL) hZ (gw hw 107 rfl) (gw hw 55 rfl) (by decide) (by decide)) (g := (mkF m 4 #[vr b, vi j, vi (Int32.ofNat xs.length)] [(.int 0), (.int (Int32.ofNat xs.length)), (.int j), (.ref b)])) rfl hml.symm (argsL := [(.ref b), (.int j), (.int (Int32.ofNat xs.length)), (.int 0)]) (rest := []) (lenOf own_pd4 rfl) rfl (wz rfl) (hb hby d10_4) (fun _ _ => ⟨rfl, e0, z0, z0⟩)
 dsimp only [Pt.U, Pt.locs, Pt.cells, Pt.slots] at X1 l1 y1 z1 st1 hQ1
 subst l1 y1 z1
 obtain ⟨rfl, N1q, e1⟩ := hQ1
 have N1 := Fr.app N0 N1q
 refine Gs st1 ?_
 show Goes _ _ _ _ _ (fT T1 m 7 #[vr b, vi j, vi (Int32.ofNat xs.length)] [(.int r)])
 refine Goes.ret X1 (some (.int r)) (fun h => by rw [hret] at h; cases h) hlk (by decide) (by decide) ?_ (fun fs hr => ?_)
 ·exact ⟨rfl, N1, e1⟩
 ·exact retI X1 hx hret (hb hby d10_7) hr
theorem own_ef_rs_cpsC (m : MethodId) (x0 : Addr) (x1 : Int32) : entryFrame m #[(.ref x0), (.int x1)] 3 = mkF m 0 #[vr x0, vi x1, vu] [] := by first | (simp [entryFrame, mkF, argsToLocals, Value.category]; done) | rfl
def Q_rs_cpsC (Z : State) (a : Addr) (xs : List Int32) (j : Int32) (r : Int32) (t : Int32) (cz : Int32) (fo : Value) (h0 : Heap) (n0 : Nat) (v : Option Value) (h : Heap) (L : List Loc) : Prop := v = some (.int r) ∧ Fr n0 L ∧ h = h0
set_option maxRecDepth 65536 in
set_option maxHeartbeats 40000000 in
theorem rs_cpsC (l : Launch) (Z : State) (a0 : Array Value) (hw : HW a0 Z) (ws : List Jvm.Cond) (a : Addr) (xs : List Int32) (j : Int32) (r : Int32) (t : Int32) (cz : Int32) (fo : Value) (h0 : Heap) (n0 : Nat) (Z0 : n0 ≤ h0.size) (T_a : StrOf Z h0 a xs) (sgC : Sta Z h0 "java/lang/String" "COMPACT_STRINGS" "Z" (.int cz)) (hcz : ¬ (cz = 0)) (hj0 : ¬ (j < 0)) (hj1 : j < Int32.ofNat xs.length) (hr : xs.getD j.toNatClampNeg 0 = r) (hk : cls r = 1) (hj1b : (j + 1) < Int32.ofNat xs.length) (hj0b : ¬ ((j + 1) < 0)) (hrb : xs.getD (j + 1).toNatClampNeg 0 = t) (hl : ¬ (cls t = 2)) (sgF : Sta Z h0 "jdk/internal/util/Preconditions" "SIOOBE_FORMATTER" "Ljava/util/function/BiFunction;" fo) (r_fo : fo.isRef = true) (sgA : Sta Z h0 "java/lang/StringUTF16" "$assertionsDisabled" "Z" (.int 1)) (sgH : Sta Z h0 "java/lang/StringUTF16" "HI_BYTE_SHIFT" "I" (.int 0)) (sgL : Sta Z h0 "java/lang/StringUTF16" "LO_BYTE_SHIFT" "I" (.int 8)) :
  Met l Z mN11 jdk_42_method_57_code 3 (some .int) ({ frames := 3, cells := 0, slots := 0, locals := 44 } : Room) ws #[(.ref a), (.int j)] h0 (Q_rs_cpsC Z a xs j r t cz fo h0 n0) := by
 refine own_met (plainFor_of_name own_pn0) ?_
 intro p e s m below meth c s₁ hret hx hby hlk hml hown hnm X0 e0 hZ hh
 have N0 := Fr.nil n0
 refine Gz (castTop (own_ef_rs_cpsC m a j)) ?_
 show Goes _ _ _ _ _ (fT s₁ m 0 #[vr a, vi j, vu] [])
 obtain ⟨vb, kb, A_a, F_value_a, hrep, hlen⟩ := id T_a
 rcases hrep with ⟨F_coder_a, hall, V_vb⟩ | ⟨F_coder_a, hall, V_vb⟩
 ·show Goes _ _ _ _ _ (fT s₁ m 0 #[vr a, vi j, vu] [])
  have hmem : r ∈ xs := own_mem hj0 hj1 hlen hr
  have hLr : Lat r := hall r hmem
  exact absurd hk (own_latK hLr)
 ·show Goes _ _ _ _ _ (fT s₁ m 0 #[vr a, vi j, vu] [])
  have hmem : r ∈ xs := own_mem hj0 hj1 hlen hr
  have hCr : Chr r := hall r hmem
  have hCt : Chr t := hall t (own_mem hj0b hj1b hlen hrb)
  refine gA X0 hx hby d11_0 rfl rfl rfl ?_
  obtain ⟨cq1, kq1, q1a, q1b, q1c⟩ := isOf hZ e0 T_a.exa
  obtain ⟨_, _, ⟨T1, L1, k1, n1⟩, -, X1, ⟨Lc1, hQ1, l1, y1, z1⟩, st1⟩ := X0.virtualBack hx (y := mN1) (z := mN1) hown (gz hZ hw 89 rfl) (gz hZ hw 90 rfl) (notFace_of_selects (args := #[]) (gz hZ hw 92 rfl)) (gz hZ hw 92 rfl) (gz hZ hw 91 rfl) (by decide) (backOf (W := 0) (rs_isl1 l Z a0 hw [] a cz h0 n0 Z0 F_coder_a sgC (by first | assumption | decide)) hZ (gw hw 93 rfl) (gw hw 8 rfl) (by decide) (by decide)) q1a q1c (g := (mkF m 1 #[vr a, vi j, vu] [(.ref a)])) rfl hml.symm (Steps.refl _) (argsL := []) (rest := []) (lenOf own_pd5 rfl) rfl (wz rfl) (hb hby d11_1) (fun _ _ => ⟨rfl, e0, z0, z0⟩)
  dsimp only [Pt.U, Pt.locs, Pt.cells, Pt.slots] at X1 l1 y1 z1 st1 hQ1
  subst l1 y1 z1
  obtain ⟨rfl, N1q, e1⟩ := hQ1
  have N1 := Fr.app N0 N1q
  refine Gs (fun _ tk => st1.trans tk) ?_
  show Goes _ _ _ _ _ (fT T1 m 4 #[vr a, vi j, vu] [(.int 0)])
  refine Gz (XS.ifYes X1.here hx rfl (pc0 := 4) (pc' := 27) rfl (hb hby d11_4) rfl ((if0 _ _).trans (teq (by decide : ((0 : Int32) = (0 : Int32)))).1) (by decide) (by decide)) ?_
  refine gA X1 hx hby d11_27 rfl rfl rfl ?_
  obtain ⟨T2, X2, e2, st2⟩ := getF X1 hx hZ hown (host := "") (Or.inl (gw hw 25 rfl)) Via.refl e1 F_value_a (g := (mkF m 28 #[vr a, vi j, vu] [(.ref a)])) rfl rfl (hb hby d11_28)
  refine Gs st2 ?_
  show Goes _ _ _ _ _ (fT T2 m 31 #[vr a, vi j, vu] [(.ref vb)])
  obtain ⟨cl3, Ar3, -, S3, N3z, -, -⟩ := id V_vb
  refine Gs (fun _ tk => X2.arraylength hx (by rw [e2]; exact Ar3.1) (State.isArrayOf_alike hZ.alike Ar3.2.1) (g := (mkF m 31 #[vr a, vi j, vu] [(.ref vb)])) rfl rfl (hb hby d11_31) _ tk) ?_
  rw [len_of S3 N3z]
  show Goes _ _ _ _ _ (fT T2 m 32 #[vr a, vi j, vu] [(.int (Int32.ofNat (2 * xs.length)))])
  refine Gz (XS.iconst X2.here hx rfl (hb hby d11_32)) ?_
  show Goes _ _ _ _ _ (fT T2 m 33 #[vr a, vi j, vu] [(.int 1), (.int (Int32.ofNat (2 * xs.length)))])
  refine Gz (XS.ishr X2.here hx rfl (hb hby d11_33) rfl) ?_
  show Goes _ _ _ _ _ (fT T2 m 34 #[vr a, vi j, vu] [(.int ((Int32.ofNat (2 * xs.length)) >>> ((1 : Int32) &&& 31)))])
  rw [own_shr1 hlen]
  show Goes _ _ _ _ _ (fT T2 m 34 #[vr a, vi j, vu] [(.int (Int32.ofNat xs.length))])
  refine Gz (XS.istoreN X2.here hx rfl (hb hby d11_34) rfl (l' := #[vr a, vi j, vi (Int32.ofNat xs.length)]) rfl) ?_
  refine gN X2 hx hby d11_35 rfl rfl ?_
  refine gN X2 hx hby d11_36 rfl rfl ?_
  obtain ⟨_, _, ⟨T4, L4, k4, n4⟩, -, X4, ⟨Lc4, hQ4, l4, y4, z4⟩, st4⟩ := Jvm.LawKit.callS X2 hx (y := mN4) hown (gz hZ hw 94 rfl) (gz hZ hw 95 rfl) (gz hZ hw 8 rfl) (gz hZ hw 96 rfl) (by decide) (backOf (W := 0) (rs_sci l Z a0 hw [] j (Int32.ofNat xs.length) fo h0 n0 Z0 (by first | assumption | decide) (by first | assumption | decide) sgF (by first | assumption | decide)) hZ (gw hw 96 rfl) (gw hw 8 rfl) (by decide) (by decide)) (g := (mkF m 37 #[vr a, vi j, vi (Int32.ofNat xs.length)] [(.int (Int32.ofNat xs.length)), (.int j)])) rfl hml.symm (argsL := [(.int j), (.int (Int32.ofNat xs.length))]) (rest := []) (lenOf own_pd6 rfl) rfl (wz rfl) (hb hby d11_37) (fun _ _ => ⟨rfl, e2, z0, z0⟩)
  dsimp only [Pt.U, Pt.locs, Pt.cells, Pt.slots] at X4 l4 y4 z4 st4 hQ4
  subst l4 y4 z4
  obtain ⟨rfl, N4q, e4⟩ := hQ4
  have N4 := Fr.app N1 N4q
  refine Gs st4 ?_
  show Goes _ _ _ _ _ (fT T4 m 40 #[vr a, vi j, vi (Int32.ofNat xs.length)] [])
  refine gA X4 hx hby d11_40 rfl rfl rfl ?_
  obtain ⟨T5, X5, e5, st5⟩ := getF X4 hx hZ hown (host := "") (Or.inl (gw hw 25 rfl)) Via.refl e4 F_value_a (g := (mkF m 41 #[vr a, vi j, vi (Int32.ofNat xs.length)] [(.ref a)])) rfl rfl (hb hby d11_41)
  refine Gs st5 ?_
  show Goes _ _ _ _ _ (fT T5 m 44 #[vr a, vi j, vi (Int32.ofNat xs.length)] [(.ref vb)])
  refine gN X5 hx hby d11_44 rfl rfl ?_
  refine gN X5 hx hby d11_45 rfl rfl ?_
  obtain ⟨_, _, ⟨T6, L6, k6, n6⟩, -, X6, ⟨Lc6, hQ6, l6, y6, z6⟩, st6⟩ := Jvm.LawKit.callS X5 hx (y := mN10) hown (gz hZ hw 102 rfl) (gz hZ hw 103 rfl) (gz hZ hw 55 rfl) (gz hZ hw 104 rfl) (by decide) (backOf (W := 0) (rs_cp3C l Z a0 hw [] vb kb xs j r t h0 n0 Z0 V_vb (by first | assumption | decide) (by first | assumption | decide) (by first | assumption | decide) (by first | assumption | decide) (by first | assumption | decide) (by first | assumption | decide) (by first | assumption | decide) (by first | assumption | decide) (by first | assumption | decide) (by first | assumption | decide) (by first | assumption | decide) sgA sgH sgL) hZ (gw hw 104 rfl) (gw hw 55 rfl) (by decide) (by decide)) (g := (mkF m 46 #[vr a, vi j, vi (Int32.ofNat xs.length)] [(.int (Int32.ofNat xs.length)), (.int j), (.ref vb)])) rfl hml.symm (argsL := [(.ref vb), (.int j), (.int (Int32.ofNat xs.length))]) (rest := []) (lenOf own_pd7 rfl) rfl (wz rfl) (hb hby d11_46) (fun _ _ => ⟨rfl, e5, z0, z0⟩)
  dsimp only [Pt.U, Pt.locs, Pt.cells, Pt.slots] at X6 l6 y6 z6 st6 hQ6
  subst l6 y6 z6
  obtain ⟨rfl, N6q, e6⟩ := hQ6
  have N6 := Fr.app N4 N6q
  refine Gs st6 ?_
  show Goes _ _ _ _ _ (fT T6 m 49 #[vr a, vi j, vi (Int32.ofNat xs.length)] [(.int r)])
  refine Goes.ret X6 (some (.int r)) (fun h => by rw [hret] at h; cases h) hlk (by decide) (by decide) ?_ (fun fs hr => ?_)
  ·exact ⟨rfl, N6, e6⟩
  ·exact retI X6 hx hret (hb hby d11_49) hr
theorem d9_75 : decode kc16 75 = .ok (.iload 4, 2) := by decide +kernel
theorem d9_77 : decode kc16 77 = .ok (.iload 5, 2) := by decide +kernel
theorem d9_79 : decode kc16 79 = .ok (.invokestatic 84, 3) := by decide +kernel
theorem own_pd8 : parseMethodDescriptor "(CC)I" = some ⟨[.char, .char], some .int⟩ := by decide +kernel
theorem d9_82 : decode kc16 82 = .ok (.ireturn, 1) := by decide +kernel
theorem own_ef_rs_cp4D (m : MethodId) (x0 : Addr) (x1 : Int32) (x2 : Int32) : entryFrame m #[(.ref x0), (.int x1), (.int x2), (.int 0)] 6 = mkF m 0 #[vr x0, vi x1, vi x2, vi 0, vu, vu] [] := by first | (simp [entryFrame, mkF, argsToLocals, Value.category]; done) | rfl
def Q_rs_cp4D (Z : State) (b : Addr) (kb : ClassId) (xs : List Int32) (j : Int32) (r : Int32) (t : Int32) (h0 : Heap) (n0 : Nat) (v : Option Value) (h : Heap) (L : List Loc) : Prop := v = some (.int (own_cp r t)) ∧ Fr n0 L ∧ h = h0
set_option maxRecDepth 65536 in
set_option maxHeartbeats 40000000 in
theorem rs_cp4D (l : Launch) (Z : State) (a0 : Array Value) (hw : HW a0 Z) (ws : List Jvm.Cond) (b : Addr) (kb : ClassId) (xs : List Int32) (j : Int32) (r : Int32) (t : Int32) (h0 : Heap) (n0 : Nat) (Z0 : n0 ≤ h0.size) (V_b : Arv Z h0 b kb .byte (Int32.ofNat (2 * xs.length)) (utfV xs) (.int 0)) (hj0 : ¬ (j < 0)) (hj1 : j < Int32.ofNat xs.length) (hr : xs.getD j.toNatClampNeg 0 = r) (hlen : xs.length ≤ 1000) (hCr : Chr r) (hk : cls r = 1) (hj1b : (j + 1) < Int32.ofNat xs.length) (hj0b : ¬ ((j + 1) < 0)) (hrb : xs.getD (j + 1).toNatClampNeg 0 = t) (hl : cls t = 2) (hCt : Chr t) (sgA : Sta Z h0 "java/lang/StringUTF16" "$assertionsDisabled" "Z" (.int 1)) (sgH : Sta Z h0 "java/lang/StringUTF16" "HI_BYTE_SHIFT" "I" (.int 0)) (sgL : Sta Z h0 "java/lang/StringUTF16" "LO_BYTE_SHIFT" "I" (.int 8)) :
  Met l Z mN9 jdk_52_method_7_code 6 (some .int) ({ frames := 1, cells := 0, slots := 0, locals := 13 } : Room) ws #[(.ref b), (.int j), (.int (Int32.ofNat xs.length)), (.int 0)] h0 (Q_rs_cp4D Z b kb xs j r t h0 n0) := by
 refine own_met (plainFor_of_name own_pn2) ?_
 intro p e s m below meth c s₁ hret hx hby hlk hml hown hnm X0 e0 hZ hh
 have N0 := Fr.nil n0
 refine Gz (castTop (own_ef_rs_cp4D m b j (Int32.ofNat xs.length))) ?_
 show Goes _ _ _ _ _ (fT s₁ m 0 #[vr b, vi j, vi (Int32.ofNat xs.length), vi 0, vu, vu] [])
 have hv : ¬ ((hiv (cls r)) = 0) := own_hvY hk
 have hu : ¬ ((lov (cls t)) = 0) := own_lvY hl
 obtain ⟨T1, X1, e1, st1⟩ := getS2 X0 hx hZ hown (host := "") (Or.inl (gw hw 73 rfl)) Via.refl e0 sgA (g := (mkF m 0 #[vr b, vi j, vi (Int32.ofNat xs.length), vi 0, vu, vu] [])) rfl (hb hby d9_0)
 refine Gs st1 ?_
 show Goes _ _ _ _ _ (fT T1 m 3 #[vr b, vi j, vi (Int32.ofNat xs.length), vi 0, vu, vu] [(.int 1)])
 refine Gz (XS.ifYes X1.here hx rfl (pc0 := 3) (pc' := 19) rfl (hb hby d9_3) rfl ((if0 _ _).trans (feq (by decide : ¬ ((1 : Int32) = (0 : Int32)))).2) (by decide) (by decide)) ?_
 refine gN X1 hx hby d9_19 rfl rfl ?_
 refine Gz (XS.ifYes X1.here hx rfl (pc0 := 20) (pc' := 28) rfl (hb hby d9_20) rfl ((if0 _ _).trans (teq (by decide : ((0 : Int32) = (0 : Int32)))).1) (by decide) (by decide)) ?_
 refine gA X1 hx hby d9_28 rfl rfl rfl ?_
 refine gN X1 hx hby d9_29 rfl rfl ?_
 obtain ⟨_, _, ⟨T2, L2, k2, n2⟩, -, X2, ⟨Lc2, hQ2, l2, y2, z2⟩, st2⟩ := Jvm.LawKit.callS X1 hx (y := mN5) hown (gz hZ hw 76 rfl) (gz hZ hw 77 rfl) (gz hZ hw 55 rfl) (gz hZ hw 78 rfl) (by decide) (backOf (W := 0) (rs_gch l Z a0 hw [] b kb xs j r h0 n0 Z0 V_b (by first | assumption | decide) (by first | assumption | decide) (by first | assumption | decide) (by first | assumption | decide) (by first | assumption | decide) sgA sgH sgL) hZ (gw hw 78 rfl) (gw hw 55 rfl) (by decide) (by decide)) (g := (mkF m 30 #[vr b, vi j, vi (Int32.ofNat xs.length), vi 0, vu, vu] [(.int j), (.ref b)])) rfl hml.symm (argsL := [(.ref b), (.int j)]) (rest := []) (lenOf own_pd2 rfl) rfl (wz rfl) (hb hby d9_30) (fun _ _ => ⟨rfl, e1, z0, z0⟩)
 dsimp only [Pt.U, Pt.locs, Pt.cells, Pt.slots] at X2 l2 y2 z2 st2 hQ2
 subst l2 y2 z2
 obtain ⟨rfl, N2q, e2⟩ := hQ2
 have N2 := Fr.app N0 N2q
 refine Gs st2 ?_
 show Goes _ _ _ _ _ (fT T2 m 33 #[vr b, vi j, vi (Int32.ofNat xs.length), vi 0, vu, vu] [(.int r)])
 refine Gz (XS.istore X2.here hx rfl (hb hby d9_33) rfl (l' := #[vr b, vi j, vi (Int32.ofNat xs.length), vi 0, vi r, vu]) rfl) ?_
 refine gI X2 hx hby d9_35 rfl rfl ?_
 obtain ⟨_, _, ⟨T3, L3, k3, n3⟩, -, X3, ⟨Lc3, hQ3, l3, y3, z3⟩, st3⟩ := Jvm.LawKit.callS X2 hx (y := mN6) hown (gz hZ hw 108 rfl) (gz hZ hw 109 rfl) (gz hZ hw 110 rfl) (gz hZ hw 111 rfl) (by decide) (backOf (W := 0) (rs_ihs l Z a0 hw [] r h0 n0 Z0) hZ (gw hw 111 rfl) (gw hw 110 rfl) (by decide) (by decide)) (g := (mkF m 37 #[vr b, vi j, vi (Int32.ofNat xs.length), vi 0, vi r, vu] [(.int r)])) rfl hml.symm (argsL := [(.int r)]) (rest := []) (lenOf own_pd3 rfl) rfl (wz rfl) (hb hby d9_37) (fun _ _ => ⟨rfl, e2, z0, z0⟩)
 dsimp only [Pt.U, Pt.locs, Pt.cells, Pt.slots] at X3 l3 y3 z3 st3 hQ3
 subst l3 y3 z3
 obtain ⟨rfl, N3q, e3⟩ := hQ3
 have N3 := Fr.app N2 N3q
 refine Gs st3 ?_
 show Goes _ _ _ _ _ (fT T3 m 40 #[vr b, vi j, vi (Int32.ofNat xs.length), vi 0, vi r, vu] [(.int (hiv (cls r)))])
 refine Gz (XS.ifNo X3.here hx rfl (hb hby d9_40) rfl ((if0 _ _).trans (feq hv).1)) ?_
 show Goes _ _ _ _ _ (fT T3 m 43 #[vr b, vi j, vi (Int32.ofNat xs.length), vi 0, vi r, vu] [])
 refine Gz (XS.iinc X3.here hx rfl (hb hby d9_43) rfl (l' := #[vr b, vi (j + 1), vi (Int32.ofNat xs.length), vi 0, vi r, vu]) rfl) ?_
 show Goes _ _ _ _ _ (fT T3 m 46 #[vr b, vi (j + 1), vi (Int32.ofNat xs.length), vi 0, vi r, vu] [])
 refine gN X3 hx hby d9_46 rfl rfl ?_
 refine gN X3 hx hby d9_47 rfl rfl ?_
 refine Gz (XS.icmpNo X3.here hx rfl (hb hby d9_48) rfl (tlt hj1b).2.1) ?_
 refine gN X3 hx hby d9_51 rfl rfl ?_
 refine Gz (XS.ifYes X3.here hx rfl (pc0 := 52) (pc' := 60) rfl (hb hby d9_52) rfl ((if0 _ _).trans (teq (by decide : ((0 : Int32) = (0 : Int32)))).1) (by decide) (by decide)) ?_
 refine gA X3 hx hby d9_60 rfl rfl rfl ?_
 show Goes _ _ _ _ _ (fT T3 m 61 #[vr b, vi (j + 1), vi (Int32.ofNat xs.length), vi 0, vi r, vu] [(.ref b)])
 refine gN X3 hx hby d9_61 rfl rfl ?_
 obtain ⟨_, _, ⟨T4, L4, k4, n4⟩, -, X4, ⟨Lc4, hQ4, l4, y4, z4⟩, st4⟩ := Jvm.LawKit.callS X3 hx (y := mN5) hown (gz hZ hw 76 rfl) (gz hZ hw 77 rfl) (gz hZ hw 55 rfl) (gz hZ hw 78 rfl) (by decide) (backOf (W := 0) (rs_gch l Z a0 hw [] b kb xs (j + 1) t h0 n0 Z0 V_b (by first | assumption | decide) (by first | assumption | decide) (by first | assumption | decide) (by first | assumption | decide) (by first | assumption | decide) sgA sgH sgL) hZ (gw hw 78 rfl) (gw hw 55 rfl) (by decide) (by decide)) (g := (mkF m 62 #[vr b, vi (j + 1), vi (Int32.ofNat xs.length), vi 0, vi r, vu] [(.int (j + 1)), (.ref b)])) rfl hml.symm (argsL := [(.ref b), (.int (j + 1))]) (rest := []) (lenOf own_pd2 rfl) rfl (wz rfl) (hb hby d9_62) (fun _ _ => ⟨rfl, e3, z0, z0⟩)
 dsimp only [Pt.U, Pt.locs, Pt.cells, Pt.slots] at X4 l4 y4 z4 st4 hQ4
 subst l4 y4 z4
 obtain ⟨rfl, N4q, e4⟩ := hQ4
 have N4 := Fr.app N3 N4q
 refine Gs st4 ?_
 show Goes _ _ _ _ _ (fT T4 m 65 #[vr b, vi (j + 1), vi (Int32.ofNat xs.length), vi 0, vi r, vu] [(.int t)])
 refine Gz (XS.istore X4.here hx rfl (hb hby d9_65) rfl (l' := #[vr b, vi (j + 1), vi (Int32.ofNat xs.length), vi 0, vi r, vi t]) rfl) ?_
 refine gI X4 hx hby d9_67 rfl rfl ?_
 obtain ⟨_, _, ⟨T5, L5, k5, n5⟩, -, X5, ⟨Lc5, hQ5, l5, y5, z5⟩, st5⟩ := Jvm.LawKit.callS X4 hx (y := mN7) hown (gz hZ hw 120 rfl) (gz hZ hw 121 rfl) (gz hZ hw 110 rfl) (gz hZ hw 122 rfl) (by decide) (backOf (W := 0) (rs_ils l Z a0 hw [] t h0 n0 Z0) hZ (gw hw 122 rfl) (gw hw 110 rfl) (by decide) (by decide)) (g := (mkF m 69 #[vr b, vi (j + 1), vi (Int32.ofNat xs.length), vi 0, vi r, vi t] [(.int t)])) rfl hml.symm (argsL := [(.int t)]) (rest := []) (lenOf own_pd3 rfl) rfl (wz rfl) (hb hby d9_69) (fun _ _ => ⟨rfl, e4, z0, z0⟩)
 dsimp only [Pt.U, Pt.locs, Pt.cells, Pt.slots] at X5 l5 y5 z5 st5 hQ5
 subst l5 y5 z5
 obtain ⟨rfl, N5q, e5⟩ := hQ5
 have N5 := Fr.app N4 N5q
 refine Gs st5 ?_
 show Goes _ _ _ _ _ (fT T5 m 72 #[vr b, vi (j + 1), vi (Int32.ofNat xs.length), vi 0, vi r, vi t] [(.int (lov (cls t)))])
 refine Gz (XS.ifNo X5.here hx rfl (hb hby d9_72) rfl ((if0 _ _).trans (feq hu).1)) ?_
 refine gI X5 hx hby d9_75 rfl rfl ?_
 refine gI X5 hx hby d9_77 rfl rfl ?_
 obtain ⟨_, _, ⟨T6, L6, k6, n6⟩, -, X6, ⟨Lc6, hQ6, l6, y6, z6⟩, st6⟩ := Jvm.LawKit.callS X5 hx (y := mN8) hown (gz hZ hw 124 rfl) (gz hZ hw 125 rfl) (gz hZ hw 110 rfl) (gz hZ hw 126 rfl) (by decide) (backOf (W := 0) (rs_tcp l Z a0 hw [] r t h0 n0 Z0) hZ (gw hw 126 rfl) (gw hw 110 rfl) (by decide) (by decide)) (g := (mkF m 79 #[vr b, vi (j + 1), vi (Int32.ofNat xs.length), vi 0, vi r, vi t] [(.int t), (.int r)])) rfl hml.symm (argsL := [(.int r), (.int t)]) (rest := []) (lenOf own_pd8 rfl) rfl (wz rfl) (hb hby d9_79) (fun _ _ => ⟨rfl, e5, z0, z0⟩)
 dsimp only [Pt.U, Pt.locs, Pt.cells, Pt.slots] at X6 l6 y6 z6 st6 hQ6
 subst l6 y6 z6
 obtain ⟨rfl, N6q, e6⟩ := hQ6
 have N6 := Fr.app N5 N6q
 refine Gs st6 ?_
 show Goes _ _ _ _ _ (fT T6 m 82 #[vr b, vi (j + 1), vi (Int32.ofNat xs.length), vi 0, vi r, vi t] [(.int (own_cp r t))])
 refine Goes.ret X6 (some (.int (own_cp r t))) (fun h => by rw [hret] at h; cases h) hlk (by decide) (by decide) ?_ (fun fs hr => ?_)
 ·exact ⟨rfl, N6, e6⟩
 ·exact retI X6 hx hret (hb hby d9_82) hr
theorem own_ef_rs_cp3D (m : MethodId) (x0 : Addr) (x1 : Int32) (x2 : Int32) : entryFrame m #[(.ref x0), (.int x1), (.int x2)] 3 = mkF m 0 #[vr x0, vi x1, vi x2] [] := by first | (simp [entryFrame, mkF, argsToLocals, Value.category]; done) | rfl
def Q_rs_cp3D (Z : State) (b : Addr) (kb : ClassId) (xs : List Int32) (j : Int32) (r : Int32) (t : Int32) (h0 : Heap) (n0 : Nat) (v : Option Value) (h : Heap) (L : List Loc) : Prop := v = some (.int (own_cp r t)) ∧ Fr n0 L ∧ h = h0
set_option maxRecDepth 65536 in
set_option maxHeartbeats 40000000 in
theorem rs_cp3D (l : Launch) (Z : State) (a0 : Array Value) (hw : HW a0 Z) (ws : List Jvm.Cond) (b : Addr) (kb : ClassId) (xs : List Int32) (j : Int32) (r : Int32) (t : Int32) (h0 : Heap) (n0 : Nat) (Z0 : n0 ≤ h0.size) (V_b : Arv Z h0 b kb .byte (Int32.ofNat (2 * xs.length)) (utfV xs) (.int 0)) (hj0 : ¬ (j < 0)) (hj1 : j < Int32.ofNat xs.length) (hr : xs.getD j.toNatClampNeg 0 = r) (hlen : xs.length ≤ 1000) (hCr : Chr r) (hk : cls r = 1) (hj1b : (j + 1) < Int32.ofNat xs.length) (hj0b : ¬ ((j + 1) < 0)) (hrb : xs.getD (j + 1).toNatClampNeg 0 = t) (hl : cls t = 2) (hCt : Chr t) (sgA : Sta Z h0 "java/lang/StringUTF16" "$assertionsDisabled" "Z" (.int 1)) (sgH : Sta Z h0 "java/lang/StringUTF16" "HI_BYTE_SHIFT" "I" (.int 0)) (sgL : Sta Z h0 "java/lang/StringUTF16" "LO_BYTE_SHIFT" "I" (.int 8)) :
  Met l Z mN10 jdk_52_method_8_code 3 (some .int) ({ frames := 2, cells := 0, slots := 0, locals := 30 } : Room) ws #[(.ref b), (.int j), (.int (Int32.ofNat xs.length))] h0 (Q_rs_cp3D Z b kb xs j r t h0 n0) := by
 refine own_met (plainFor_of_name own_pn2) ?_
 intro p e s m below meth c s₁ hret hx hby hlk hml hown hnm X0 e0 hZ hh
 have N0 := Fr.nil n0
 refine Gz (castTop (own_ef_rs_cp3D m b j (Int32.ofNat xs.length))) ?_
 show Goes _ _ _ _ _ (fT s₁ m 0 #[vr b, vi j, vi (Int32.ofNat xs.length)] [])
 refine gA X0 hx hby d10_0 rfl rfl rfl ?_
 refine gN X0 hx hby d10_1 rfl rfl ?_
 refine gN X0 hx hby d10_2 rfl rfl ?_
 refine Gz (XS.iconst X0.here hx rfl (hb hby d10_3)) ?_
 obtain ⟨_, _, ⟨T1, L1, k1, n1⟩, -, X1, ⟨Lc1, hQ1, l1, y1, z1⟩, st1⟩ := Jvm.LawKit.callS X0 hx (y := mN9) hown (gz hZ hw 105 rfl) (gz hZ hw 106 rfl) (gz hZ hw 55 rfl) (gz hZ hw 107 rfl) (by decide) (backOf (W := 0) (rs_cp4D l Z a0 hw [] b kb xs j r t h0 n0 Z0 V_b (by first | assumption | decide) (by first | assumption | decide) (by first | assumption | decide) (by first | assumption | decide) (by first | assumption | decide) (by first | assumption | decide) (by first | assumption | decide) (by first | assumption | decide) (by first | assumption | decide) (by first | assumption | decide) (by first | assumption | decide) sgA sgH sgL) hZ (gw hw 107 rfl) (gw hw 55 rfl) (by decide) (by decide)) (g := (mkF m 4 #[vr b, vi j, vi (Int32.ofNat xs.length)] [(.int 0), (.int (Int32.ofNat xs.length)), (.int j), (.ref b)])) rfl hml.symm (argsL := [(.ref b), (.int j), (.int (Int32.ofNat xs.length)), (.int 0)]) (rest := []) (lenOf own_pd4 rfl) rfl (wz rfl) (hb hby d10_4) (fun _ _ => ⟨rfl, e0, z0, z0⟩)
 dsimp only [Pt.U, Pt.locs, Pt.cells, Pt.slots] at X1 l1 y1 z1 st1 hQ1
 subst l1 y1 z1
 obtain ⟨rfl, N1q, e1⟩ := hQ1
 have N1 := Fr.app N0 N1q
 refine Gs st1 ?_
 show Goes _ _ _ _ _ (fT T1 m 7 #[vr b, vi j, vi (Int32.ofNat xs.length)] [(.int (own_cp r t))])
 refine Goes.ret X1 (some (.int (own_cp r t))) (fun h => by rw [hret] at h; cases h) hlk (by decide) (by decide) ?_ (fun fs hr => ?_)
 ·exact ⟨rfl, N1, e1⟩
 ·exact retI X1 hx hret (hb hby d10_7) hr
theorem own_ef_rs_cpsD (m : MethodId) (x0 : Addr) (x1 : Int32) : entryFrame m #[(.ref x0), (.int x1)] 3 = mkF m 0 #[vr x0, vi x1, vu] [] := by first | (simp [entryFrame, mkF, argsToLocals, Value.category]; done) | rfl
def Q_rs_cpsD (Z : State) (a : Addr) (xs : List Int32) (j : Int32) (r : Int32) (t : Int32) (cz : Int32) (fo : Value) (h0 : Heap) (n0 : Nat) (v : Option Value) (h : Heap) (L : List Loc) : Prop := v = some (.int (own_cp r t)) ∧ Fr n0 L ∧ h = h0
set_option maxRecDepth 65536 in
set_option maxHeartbeats 40000000 in
theorem rs_cpsD (l : Launch) (Z : State) (a0 : Array Value) (hw : HW a0 Z) (ws : List Jvm.Cond) (a : Addr) (xs : List Int32) (j : Int32) (r : Int32) (t : Int32) (cz : Int32) (fo : Value) (h0 : Heap) (n0 : Nat) (Z0 : n0 ≤ h0.size) (T_a : StrOf Z h0 a xs) (sgC : Sta Z h0 "java/lang/String" "COMPACT_STRINGS" "Z" (.int cz)) (hcz : ¬ (cz = 0)) (hj0 : ¬ (j < 0)) (hj1 : j < Int32.ofNat xs.length) (hr : xs.getD j.toNatClampNeg 0 = r) (hk : cls r = 1) (hj1b : (j + 1) < Int32.ofNat xs.length) (hj0b : ¬ ((j + 1) < 0)) (hrb : xs.getD (j + 1).toNatClampNeg 0 = t) (hl : cls t = 2) (sgF : Sta Z h0 "jdk/internal/util/Preconditions" "SIOOBE_FORMATTER" "Ljava/util/function/BiFunction;" fo) (r_fo : fo.isRef = true) (sgA : Sta Z h0 "java/lang/StringUTF16" "$assertionsDisabled" "Z" (.int 1)) (sgH : Sta Z h0 "java/lang/StringUTF16" "HI_BYTE_SHIFT" "I" (.int 0)) (sgL : Sta Z h0 "java/lang/StringUTF16" "LO_BYTE_SHIFT" "I" (.int 8)) :
  Met l Z mN11 jdk_42_method_57_code 3 (some .int) ({ frames := 3, cells := 0, slots := 0, locals := 44 } : Room) ws #[(.ref a), (.int j)] h0 (Q_rs_cpsD Z a xs j r t cz fo h0 n0) := by
 refine own_met (plainFor_of_name own_pn0) ?_
 intro p e s m below meth c s₁ hret hx hby hlk hml hown hnm X0 e0 hZ hh
 have N0 := Fr.nil n0
 refine Gz (castTop (own_ef_rs_cpsD m a j)) ?_
 show Goes _ _ _ _ _ (fT s₁ m 0 #[vr a, vi j, vu] [])
 obtain ⟨vb, kb, A_a, F_value_a, hrep, hlen⟩ := id T_a
 rcases hrep with ⟨F_coder_a, hall, V_vb⟩ | ⟨F_coder_a, hall, V_vb⟩
 ·show Goes _ _ _ _ _ (fT s₁ m 0 #[vr a, vi j, vu] [])
  have hmem : r ∈ xs := own_mem hj0 hj1 hlen hr
  have hLr : Lat r := hall r hmem
  exact absurd hk (own_latK hLr)
 ·show Goes _ _ _ _ _ (fT s₁ m 0 #[vr a, vi j, vu] [])
  have hmem : r ∈ xs := own_mem hj0 hj1 hlen hr
  have hCr : Chr r := hall r hmem
  have hCt : Chr t := hall t (own_mem hj0b hj1b hlen hrb)
  refine gA X0 hx hby d11_0 rfl rfl rfl ?_
  obtain ⟨cq1, kq1, q1a, q1b, q1c⟩ := isOf hZ e0 T_a.exa
  obtain ⟨_, _, ⟨T1, L1, k1, n1⟩, -, X1, ⟨Lc1, hQ1, l1, y1, z1⟩, st1⟩ := X0.virtualBack hx (y := mN1) (z := mN1) hown (gz hZ hw 89 rfl) (gz hZ hw 90 rfl) (notFace_of_selects (args := #[]) (gz hZ hw 92 rfl)) (gz hZ hw 92 rfl) (gz hZ hw 91 rfl) (by decide) (backOf (W := 0) (rs_isl1 l Z a0 hw [] a cz h0 n0 Z0 F_coder_a sgC (by first | assumption | decide)) hZ (gw hw 93 rfl) (gw hw 8 rfl) (by decide) (by decide)) q1a q1c (g := (mkF m 1 #[vr a, vi j, vu] [(.ref a)])) rfl hml.symm (Steps.refl _) (argsL := []) (rest := []) (lenOf own_pd5 rfl) rfl (wz rfl) (hb hby d11_1) (fun _ _ => ⟨rfl, e0, z0, z0⟩)
  dsimp only [Pt.U, Pt.locs, Pt.cells, Pt.slots] at X1 l1 y1 z1 st1 hQ1
  subst l1 y1 z1
  obtain ⟨rfl, N1q, e1⟩ := hQ1
  have N1 := Fr.app N0 N1q
  refine Gs (fun _ tk => st1.trans tk) ?_
  show Goes _ _ _ _ _ (fT T1 m 4 #[vr a, vi j, vu] [(.int 0)])
  refine Gz (XS.ifYes X1.here hx rfl (pc0 := 4) (pc' := 27) rfl (hb hby d11_4) rfl ((if0 _ _).trans (teq (by decide : ((0 : Int32) = (0 : Int32)))).1) (by decide) (by decide)) ?_
  refine gA X1 hx hby d11_27 rfl rfl rfl ?_
  obtain ⟨T2, X2, e2, st2⟩ := getF X1 hx hZ hown (host := "") (Or.inl (gw hw 25 rfl)) Via.refl e1 F_value_a (g := (mkF m 28 #[vr a, vi j, vu] [(.ref a)])) rfl rfl (hb hby d11_28)
  refine Gs st2 ?_
  show Goes _ _ _ _ _ (fT T2 m 31 #[vr a, vi j, vu] [(.ref vb)])
  obtain ⟨cl3, Ar3, -, S3, N3z, -, -⟩ := id V_vb
  refine Gs (fun _ tk => X2.arraylength hx (by rw [e2]; exact Ar3.1) (State.isArrayOf_alike hZ.alike Ar3.2.1) (g := (mkF m 31 #[vr a, vi j, vu] [(.ref vb)])) rfl rfl (hb hby d11_31) _ tk) ?_
  rw [len_of S3 N3z]
  show Goes _ _ _ _ _ (fT T2 m 32 #[vr a, vi j, vu] [(.int (Int32.ofNat (2 * xs.length)))])
  refine Gz (XS.iconst X2.here hx rfl (hb hby d11_32)) ?_
  show Goes _ _ _ _ _ (fT T2 m 33 #[vr a, vi j, vu] [(.int 1), (.int (Int32.ofNat (2 * xs.length)))])
  refine Gz (XS.ishr X2.here hx rfl (hb hby d11_33) rfl) ?_
  show Goes _ _ _ _ _ (fT T2 m 34 #[vr a, vi j, vu] [(.int ((Int32.ofNat (2 * xs.length)) >>> ((1 : Int32) &&& 31)))])
  rw [own_shr1 hlen]
  show Goes _ _ _ _ _ (fT T2 m 34 #[vr a, vi j, vu] [(.int (Int32.ofNat xs.length))])
  refine Gz (XS.istoreN X2.here hx rfl (hb hby d11_34) rfl (l' := #[vr a, vi j, vi (Int32.ofNat xs.length)]) rfl) ?_
  refine gN X2 hx hby d11_35 rfl rfl ?_
  refine gN X2 hx hby d11_36 rfl rfl ?_
  obtain ⟨_, _, ⟨T4, L4, k4, n4⟩, -, X4, ⟨Lc4, hQ4, l4, y4, z4⟩, st4⟩ := Jvm.LawKit.callS X2 hx (y := mN4) hown (gz hZ hw 94 rfl) (gz hZ hw 95 rfl) (gz hZ hw 8 rfl) (gz hZ hw 96 rfl) (by decide) (backOf (W := 0) (rs_sci l Z a0 hw [] j (Int32.ofNat xs.length) fo h0 n0 Z0 (by first | assumption | decide) (by first | assumption | decide) sgF (by first | assumption | decide)) hZ (gw hw 96 rfl) (gw hw 8 rfl) (by decide) (by decide)) (g := (mkF m 37 #[vr a, vi j, vi (Int32.ofNat xs.length)] [(.int (Int32.ofNat xs.length)), (.int j)])) rfl hml.symm (argsL := [(.int j), (.int (Int32.ofNat xs.length))]) (rest := []) (lenOf own_pd6 rfl) rfl (wz rfl) (hb hby d11_37) (fun _ _ => ⟨rfl, e2, z0, z0⟩)
  dsimp only [Pt.U, Pt.locs, Pt.cells, Pt.slots] at X4 l4 y4 z4 st4 hQ4
  subst l4 y4 z4
  obtain ⟨rfl, N4q, e4⟩ := hQ4
  have N4 := Fr.app N1 N4q
  refine Gs st4 ?_
  show Goes _ _ _ _ _ (fT T4 m 40 #[vr a, vi j, vi (Int32.ofNat xs.length)] [])
  refine gA X4 hx hby d11_40 rfl rfl rfl ?_
  obtain ⟨T5, X5, e5, st5⟩ := getF X4 hx hZ hown (host := "") (Or.inl (gw hw 25 rfl)) Via.refl e4 F_value_a (g := (mkF m 41 #[vr a, vi j, vi (Int32.ofNat xs.length)] [(.ref a)])) rfl rfl (hb hby d11_41)
  refine Gs st5 ?_
  show Goes _ _ _ _ _ (fT T5 m 44 #[vr a, vi j, vi (Int32.ofNat xs.length)] [(.ref vb)])
  refine gN X5 hx hby d11_44 rfl rfl ?_
  refine gN X5 hx hby d11_45 rfl rfl ?_
  obtain ⟨_, _, ⟨T6, L6, k6, n6⟩, -, X6, ⟨Lc6, hQ6, l6, y6, z6⟩, st6⟩ := Jvm.LawKit.callS X5 hx (y := mN10) hown (gz hZ hw 102 rfl) (gz hZ hw 103 rfl) (gz hZ hw 55 rfl) (gz hZ hw 104 rfl) (by decide) (backOf (W := 0) (rs_cp3D l Z a0 hw [] vb kb xs j r t h0 n0 Z0 V_vb (by first | assumption | decide) (by first | assumption | decide) (by first | assumption | decide) (by first | assumption | decide) (by first | assumption | decide) (by first | assumption | decide) (by first | assumption | decide) (by first | assumption | decide) (by first | assumption | decide) (by first | assumption | decide) (by first | assumption | decide) sgA sgH sgL) hZ (gw hw 104 rfl) (gw hw 55 rfl) (by decide) (by decide)) (g := (mkF m 46 #[vr a, vi j, vi (Int32.ofNat xs.length)] [(.int (Int32.ofNat xs.length)), (.int j), (.ref vb)])) rfl hml.symm (argsL := [(.ref vb), (.int j), (.int (Int32.ofNat xs.length))]) (rest := []) (lenOf own_pd7 rfl) rfl (wz rfl) (hb hby d11_46) (fun _ _ => ⟨rfl, e5, z0, z0⟩)
  dsimp only [Pt.U, Pt.locs, Pt.cells, Pt.slots] at X6 l6 y6 z6 st6 hQ6
  subst l6 y6 z6
  obtain ⟨rfl, N6q, e6⟩ := hQ6
  have N6 := Fr.app N4 N6q
  refine Gs st6 ?_
  show Goes _ _ _ _ _ (fT T6 m 49 #[vr a, vi j, vi (Int32.ofNat xs.length)] [(.int (own_cp r t))])
  refine Goes.ret X6 (some (.int (own_cp r t))) (fun h => by rw [hret] at h; cases h) hlk (by decide) (by decide) ?_ (fun fs hr => ?_)
  ·exact ⟨rfl, N6, e6⟩
  ·exact retI X6 hx hret (hb hby d11_49) hr
theorem d12_0 : decode kc1 0 = .ok (.aload_n 0, 1) := by decide +kernel
theorem d12_1 : decode kc1 1 = .ok (.invokespecial 1, 3) := by decide +kernel
theorem d12_4 : decode kc1 4 = .ok (.iload_n 3, 1) := by decide +kernel
theorem d12_5 : decode kc1 5 = .ok (.ifCond .ne 22, 3) := by decide +kernel
theorem d12_8 : decode kc1 8 = .ok (.aload_n 0, 1) := by decide +kernel
theorem d12_9 : decode kc1 9 = .ok (.ldc 7, 2) := by decide +kernel
theorem own_strW {a0 : Array Value} {Z : State} (hw : HW a0 Z) : ∀ a ∈ Bundle.stringAtoms, a.before a0 Z = true := by
 intro a ha
 simp only [Bundle.stringAtoms, List.mem_cons, List.not_mem_nil, or_false] at ha
 rcases ha with rfl | rfl | rfl | rfl | rfl | rfl | rfl
 ·exact (gw hw 8 rfl)
 ·exact (gw hw 7 rfl)
 ·exact (gw hw 20 rfl)
 ·exact (gw hw 21 rfl)
 ·exact (gw hw 22 rfl)
 ·exact (gw hw 23 rfl)
 ·exact (gw hw 24 rfl)
theorem own_EW {a0 : Array Value} {Z : State} (hw : HW a0 Z) : EW Z a0 consts_1 := (EW.cons (gw hw 19 rfl) (by decide) EW.nil)
theorem d12_11 : decode kc1 11 = .ok (.getfield 9, 3) := by decide +kernel
theorem d12_14 : decode kc1 14 = .ok (.putfield 9, 3) := by decide +kernel
theorem d12_17 : decode kc1 17 = .ok (.aload_n 0, 1) := by decide +kernel
theorem d12_18 : decode kc1 18 = .ok (.ldc 7, 2) := by decide +kernel
theorem d12_20 : decode kc1 20 = .ok (.getfield 15, 3) := by decide +kernel
theorem d12_23 : decode kc1 23 = .ok (.putfield 15, 3) := by decide +kernel
theorem d12_26 : decode kc1 26 = .ok (.return_, 1) := by decide +kernel
theorem own_ef_rs_i4_0 (m : MethodId) (x0 : Addr) (x1 : Addr) : entryFrame m #[(.ref x0), (.ref x1), (.int 0), (.int 0), .null] 6 = mkF m 0 #[vr x0, vr x1, vi 0, vi 0, .val .null, vu] [] := by first | (simp [entryFrame, mkF, argsToLocals, Value.category]; done) | rfl
def Q_rs_i4_0 (Z : State) (a : Addr) (x : Addr) (kx : ClassId) (h0 : Heap) (n0 : Nat) (v : Option Value) (h : Heap) (L : List Loc) : Prop := v = none ∧ Fr n0 L ∧ Keep h0 h [a] ∧ StrOf Z h a []
set_option maxRecDepth 65536 in
set_option maxHeartbeats 40000000 in
theorem rs_i4_0 (l : Launch) (Z : State) (a0 : Array Value) (hw : HW a0 Z) (ws : List Jvm.Cond) (a : Addr) (x : Addr) (kx : ClassId) (h0 : Heap) (n0 : Nat) (Z0 : n0 ≤ h0.size) (A_a : Exa Z h0 a "java/lang/String") (F_value_a : Fld Z h0 a "java/lang/String" "value" "[B" .null) (F_coder_a : Fld Z h0 a "java/lang/String" "coder" "B" (.int 0)) (V_x : Arv Z h0 x kx .char 0 [] (.int 0)) (g_a : n0 ≤ a) (ne_x_a : x ≠ a) :
  MetH l Z mN12 jdk_42_method_149_code 6 none ({ frames := 1, cells := 4, slots := 8, locals := 12 } : Room) ws #[(.ref a), (.ref x), (.int 0), (.int 0), .null] h0 (Q_rs_i4_0 Z a x kx h0 n0) := by
 refine own_metH (plainFor_of_name own_pn0) ?_
 intro p e s m below meth c s₁ hret hx hby hlk hml hown hnm X0 e0 hZ hh hC0
 have N0 := Fr.nil n0
 have hS : s.Since s.vm h0.size := (State.WarmedH.refl s).since _
 have hk : h0.size ≤ h0.size := Nat.le_refl _
 replace hZ : Z.Warmed39 (s.setVm s.vm).vm := hZ
 have hR : CHr Z consts_1 s.vm h0 s.vm h0 := CHr.refl hC0
 refine Gz (castTop (own_ef_rs_i4_0 m a x)) ?_
 have KP : Keep h0 h0 [a] := Keep.refl _ _
 show Goes _ _ _ _ _ (fT s₁ m 0 #[vr a, vr x, vi 0, vi 0, .val .null, vu] [])
 have Sf_a : Safe Z consts_1 s.vm h0 a := own_safeNew hZ.alike A_a F_value_a
 show Goes _ _ _ _ _ (fT s₁ m 0 #[vr a, vr x, vi 0, vi 0, .val .null, vu] [])
 refine gA X0 hx hby d12_0 rfl rfl rfl ?_
 obtain ⟨T1, X1, e1, st1⟩ := initO X0 hx hZ hown (gw hw 16 rfl) (gw hw 17 rfl) (gw hw 18 rfl) e0 (g := (mkF m 1 #[vr a, vr x, vi 0, vi 0, .val .null, vu] [(.ref a)])) rfl hml.symm rfl (hb hby d12_1) (by decide) (W := 0) (wz rfl) (by decide)
 refine Gs st1 ?_
 show Goes _ _ _ _ _ (fT T1 m 4 #[vr a, vr x, vi 0, vi 0, .val .null, vu] [])
 refine gN X1 hx hby d12_4 rfl rfl ?_
 refine Gz (XS.ifNo X1.here hx rfl (hb hby d12_5) rfl ((if0 _ _).trans (teq (by decide : ((0 : Int32) = (0 : Int32)))).2)) ?_
 refine gA X1 hx hby d12_8 rfl rfl rfl ?_
 have lt_a : a < h0.size := A_a.lt
 obtain ⟨c2, T2, h2, kk2, cb2, kc2, X2, e2, E2, hS, hk2, hZ, hown, A_c2, F_coder_c2, F_value_c2, V_cb2, -, -, hC2, hL2, hsf2, st2⟩ := ldcCH X1 hx hZ hown (gw hw 19 rfl) (own_strW hw) e1 hS hk (own_EW hw) (List.mem_of_getElem? (i := 0) rfl) hR.1 (vs := []) (z := (0 : Int32)) ⟨by decide, by decide⟩ (by decide) (by decide) (g := (mkF m 9 #[vr a, vr x, vi 0, vi 0, .val .null, vu] [(.ref a)])) rfl (hb hby d12_9) (n := 0) (by decide) (by decide) (by decide) (by decide)
 replace A_a := A_a.ext E2
 replace F_value_a := F_value_a.ext E2
 replace F_coder_a := F_coder_a.ext E2
 replace KP := KP.ext E2
 replace Sf_a := hC2.safe lt_a Sf_a
 replace hR := hR.trans hC2
 replace Z0 : n0 ≤ h2.size := Nat.le_trans Z0 E2.1
 replace hk := hk2
 have ne_a_cb2 : a ≠ cb2 := (hsf2 _ Sf_a).2
 refine Gs st2 ?_
 show Goes _ _ _ _ _ (fT T2 m 11 #[vr a, vr x, vi 0, vi 0, .val .null, vu] [(.ref c2), (.ref a)])
 obtain ⟨T3, X3, e3, st3⟩ := getF X2 hx hZ hown (host := "") (Or.inl (gw hw 25 rfl)) Via.refl e2 F_value_c2 (g := (mkF m 11 #[vr a, vr x, vi 0, vi 0, .val .null, vu] [(.ref c2), (.ref a)])) rfl rfl (hb hby d12_11)
 refine Gs st3 ?_
 show Goes _ _ _ _ _ (fT T3 m 14 #[vr a, vr x, vi 0, vi 0, .val .null, vu] [(.ref cb2), (.ref a)])
 obtain ⟨T4, h4, X4, e4, W4, st4⟩ := putF X3 hx hZ hown (host := "") (Or.inl (gw hw 25 rfl)) Via.refl e3 F_value_a A_a (Or.inr ⟨(gw hw 21 rfl), rfl, hnm⟩) (gw hw 7 rfl) (ty := (.array .byte)) (by decide) rfl rfl (g := (mkF m 14 #[vr a, vr x, vi 0, vi 0, .val .null, vu] [(.ref cb2), (.ref a)])) rfl rfl (hb hby d12_14)
 have N4 := Fr.snoc X4 N0 g_a
 have Sf_a' := Safe.wr W4 Sf_a hR.1 Sf_a
 replace hR := hR.trans (CHr.wr W4 Sf_a hR.1)
 replace Sf_a := Sf_a'
 replace A_a := A_a.wr W4
 replace F_coder_a := F_coder_a.other W4 (Or.inr (slot_ne (Or.inr (gw hw 22 rfl)) (Or.inr (gw hw 21 rfl)) (by decide) (t := .byte) (t' := (.array .byte)) (by decide) (by decide)))
 replace V_cb2 := V_cb2.other W4 (Ne.symm ne_a_cb2)
 replace KP := KP.wr W4 (Or.inl (List.mem_of_getElem? (i := 0) rfl))
 replace F_value_a := F_value_a.same W4
 replace Z0 : n0 ≤ h4.size := by rw [W4.size]; exact Z0
 replace hk := Nat.le_trans hk (Nat.le_of_eq W4.size.symm)
 refine Gs st4 ?_
 show Goes _ _ _ _ _ (fT T4 m 17 #[vr a, vr x, vi 0, vi 0, .val .null, vu] [])
 refine gA X4 hx hby d12_17 rfl rfl rfl ?_
 have lt_a : a < h4.size := A_a.lt
 obtain ⟨c5, T5, h5, kk5, cb5, kc5, X5, e5, E5, hS, hk5, hZ, hown, A_c5, F_coder_c5, F_value_c5, V_cb5, -, -, hC5, hL5, hsf5, st5⟩ := ldcCH X4 hx hZ hown (gw hw 19 rfl) (own_strW hw) e4 hS hk (own_EW hw) (List.mem_of_getElem? (i := 0) rfl) hR.1 (vs := []) (z := (0 : Int32)) ⟨by decide, by decide⟩ (by decide) (by decide) (g := (mkF m 18 #[vr a, vr x, vi 0, vi 0, .val .null, vu] [(.ref a)])) rfl (hb hby d12_18) (n := 0) (by decide) (by decide) (by decide) (by decide)
 replace A_a := A_a.ext E5
 replace F_value_a := F_value_a.ext E5
 replace F_coder_a := F_coder_a.ext E5
 replace V_cb2 := V_cb2.ext E5
 replace KP := KP.ext E5
 replace Sf_a := hC5.safe lt_a Sf_a
 replace hR := hR.trans hC5
 replace Z0 : n0 ≤ h5.size := Nat.le_trans Z0 E5.1
 replace hk := hk5
 refine Gs st5 ?_
 show Goes _ _ _ _ _ (fT T5 m 20 #[vr a, vr x, vi 0, vi 0, .val .null, vu] [(.ref c5), (.ref a)])
 obtain ⟨T6, X6, e6, st6⟩ := getF X5 hx hZ hown (host := "") (Or.inl (gw hw 26 rfl)) Via.refl e5 F_coder_c5 (g := (mkF m 20 #[vr a, vr x, vi 0, vi 0, .val .null, vu] [(.ref c5), (.ref a)])) rfl rfl (hb hby d12_20)
 refine Gs st6 ?_
 show Goes _ _ _ _ _ (fT T6 m 23 #[vr a, vr x, vi 0, vi 0, .val .null, vu] [(.int 0), (.ref a)])
 obtain ⟨T7, h7, X7, e7, W7, st7⟩ := putFN X6 hx hZ hown (gw hw 26 rfl) Via.refl e6 F_coder_a A_a (Or.inr ⟨(gw hw 22 rfl), rfl, hnm⟩) (gw hw 7 rfl) (ty := .byte) (v' := .int 0) (by decide) rfl rfl (g := (mkF m 23 #[vr a, vr x, vi 0, vi 0, .val .null, vu] [(.int 0), (.ref a)])) rfl rfl (hb hby d12_23)
 have N7 := Fr.snoc X7 N4 g_a
 replace hR := hR.trans (CHr.wr W7 Sf_a hR.1)
 replace A_a := A_a.wr W7
 replace F_value_a := F_value_a.other W7 (Or.inr (slot_ne (Or.inr (gw hw 21 rfl)) (Or.inr (gw hw 22 rfl)) (by decide) (t := (.array .byte)) (t' := .byte) (by decide) (by decide)))
 replace V_cb2 := V_cb2.other W7 (Ne.symm ne_a_cb2)
 replace KP := KP.wr W7 (Or.inl (List.mem_of_getElem? (i := 0) rfl))
 replace F_coder_a := F_coder_a.same W7
 replace Z0 : n0 ≤ h7.size := by rw [W7.size]; exact Z0
 replace hk := Nat.le_trans hk (Nat.le_of_eq W7.size.symm)
 refine Gs st7 ?_
 show Goes _ _ _ _ _ (fT T7 m 26 #[vr a, vr x, vi 0, vi 0, .val .null, vu] [])
 have T_a : StrOf Z h7 a [] := StrOf.latin A_a F_value_a F_coder_a V_cb2 (by simp) rfl rfl (Nat.le_of_ble_eq_true rfl)
 refine Goes.retH X7 hS e7 hk hZ (own_EW hw) hh hR none (fun _ => rfl) hlk (by decide) (by decide) ?_ (fun fs hr => ?_)
 ·rw [e7]; exact ⟨rfl, N7, KP, T_a⟩
 ·exact X7.returnOut hx hret (hb hby d12_26) hr
theorem d13_0 : decode kc5 0 = .ok (.aload_n 0, 1) := by decide +kernel
theorem d13_1 : decode kc5 1 = .ok (.aload_n 1, 1) := by decide +kernel
theorem d13_2 : decode kc5 2 = .ok (.iconst 0, 1) := by decide +kernel
theorem d13_3 : decode kc5 3 = .ok (.aload_n 1, 1) := by decide +kernel
theorem d13_4 : decode kc5 4 = .ok (.arraylength, 1) := by decide +kernel
theorem d13_5 : decode kc5 5 = .ok (.aconst_null, 1) := by decide +kernel
theorem d13_6 : decode kc5 6 = .ok (.invokespecial 27, 3) := by decide +kernel
theorem own_pd9 : parseMethodDescriptor "([CIILjava/lang/Void;)V" = some ⟨[(.array .char), .int, .int, (.object "java/lang/Void")], none⟩ := by decide +kernel
theorem d13_9 : decode kc5 9 = .ok (.return_, 1) := by decide +kernel
theorem own_ef_rs_i1_0 (m : MethodId) (x0 : Addr) (x1 : Addr) : entryFrame m #[(.ref x0), (.ref x1)] 2 = mkF m 0 #[vr x0, vr x1] [] := by first | (simp [entryFrame, mkF, argsToLocals, Value.category]; done) | rfl
def Q_rs_i1_0 (Z : State) (a : Addr) (x : Addr) (kx : ClassId) (h0 : Heap) (n0 : Nat) (v : Option Value) (h : Heap) (L : List Loc) : Prop := v = none ∧ Fr n0 L ∧ Keep h0 h [a] ∧ StrOf Z h a []
set_option maxRecDepth 65536 in
set_option maxHeartbeats 40000000 in
theorem rs_i1_0 (l : Launch) (Z : State) (a0 : Array Value) (hw : HW a0 Z) (ws : List Jvm.Cond) (a : Addr) (x : Addr) (kx : ClassId) (h0 : Heap) (n0 : Nat) (Z0 : n0 ≤ h0.size) (A_a : Exa Z h0 a "java/lang/String") (F_value_a : Fld Z h0 a "java/lang/String" "value" "[B" .null) (F_coder_a : Fld Z h0 a "java/lang/String" "coder" "B" (.int 0)) (V_x : Arv Z h0 x kx .char 0 [] (.int 0)) (g_a : n0 ≤ a) (ne_x_a : x ≠ a) :
  MetH l Z mN13 jdk_42_method_3_code 2 none ({ frames := 2, cells := 4, slots := 8, locals := 29 } : Room) ws #[(.ref a), (.ref x)] h0 (Q_rs_i1_0 Z a x kx h0 n0) := by
 refine own_metH (plainFor_of_name own_pn0) ?_
 intro p e s m below meth c s₁ hret hx hby hlk hml hown hnm X0 e0 hZ hh hC0
 have N0 := Fr.nil n0
 have hS : s.Since s.vm h0.size := (State.WarmedH.refl s).since _
 have hk : h0.size ≤ h0.size := Nat.le_refl _
 replace hZ : Z.Warmed39 (s.setVm s.vm).vm := hZ
 have hR : CHr Z consts_1 s.vm h0 s.vm h0 := CHr.refl hC0
 refine Gz (castTop (own_ef_rs_i1_0 m a x)) ?_
 have KP : Keep h0 h0 [a] := Keep.refl _ _
 show Goes _ _ _ _ _ (fT s₁ m 0 #[vr a, vr x] [])
 refine gA X0 hx hby d13_0 rfl rfl rfl ?_
 refine gA X0 hx hby d13_1 rfl rfl rfl ?_
 refine Gz (XS.iconst X0.here hx rfl (hb hby d13_2)) ?_
 refine gA X0 hx hby d13_3 rfl rfl rfl ?_
 obtain ⟨cl1, Ar1, -, S1, N1z, -, -⟩ := id V_x
 refine Gs (fun _ tk => X0.arraylength hx (by rw [e0]; exact Ar1.1) (State.isArrayOf_alike hZ.alike Ar1.2.1) (g := (mkF m 4 #[vr a, vr x] [(.ref x), (.int 0), (.ref x), (.ref a)])) rfl rfl (hb hby d13_4) _ tk) ?_
 rw [len_of S1 N1z]
 show Goes _ _ _ _ _ (fT s₁ m 5 #[vr a, vr x] [(.int 0), (.int 0), (.ref x), (.ref a)])
 refine Gz (XS.aconstNull X0.here hx rfl (hb hby d13_5)) ?_
 obtain ⟨_, _, ⟨T2, L2, k2, n2⟩, -, X2, hS2, gr2, ⟨Lc2, hQ2, l2, y2, z2, hC2⟩, st2⟩ := X0.specialBackS hx (y := mN12) rfl hown (gz hZ hw 12 rfl) (gz hZ hw 13 rfl) (gz hZ hw 15 rfl) (by decide) (backOfSH (W := 0) (rs_i4_0 l Z a0 hw [] a x kx h0 n0 Z0 A_a F_value_a F_coder_a V_x g_a ne_x_a) hZ (gw hw 15 rfl) (gw hw 8 rfl) (by decide) (by decide) (own_EW hw) hR.1) (g := (mkF m 6 #[vr a, vr x] [.null, (.int 0), (.int 0), (.ref x), (.ref a)])) rfl hml.symm (Steps.refl _) (a := a) (argsL := [(.ref x), (.int 0), (.int 0), .null]) (rest := []) (lenOf own_pd9 rfl) rfl (wz rfl) (hb hby d13_6) (fun _ _ => ⟨rfl, e0, (by decide : 0 + 4 ≤ _), (by decide : 0 + 8 ≤ _)⟩)
 dsimp only [Pt.U, Pt.locs, Pt.cells, Pt.slots] at X2 l2 y2 z2 st2 hQ2 hS2 gr2 hC2
 subst l2 y2 z2
 obtain ⟨X2, hS, hZ, hown⟩ := rebS hS hk X2 hS2 (by have q := gr2; rw [e0] at q; exact q) hZ hown
 replace hk : T2.heap.size ≤ T2.heap.size := Nat.le_refl _
 obtain ⟨rfl, N2q, K2, T_a_2'⟩ := hQ2
 have N2 := Fr.app N0 N2q
 replace hR := hR.trans hC2
 replace KP := KP.trans K2 (allS (Or.inl (List.mem_of_getElem? (i := 0) rfl)) all0)
 replace Z0 := Nat.le_trans Z0 K2.1
 have T_a := T_a_2'
 refine Gs (fun _ tk => st2.trans tk) ?_
 show Goes _ _ _ _ _ (fT T2 m 9 #[vr a, vr x] [])
 refine Goes.retH X2 hS rfl hk hZ (own_EW hw) hh hR none (fun _ => rfl) hlk (by decide) (by decide) ?_ (fun fs hr => ?_)
 ·exact ⟨rfl, N2, KP, T_a⟩
 ·exact X2.returnOut hx hret (hb hby d13_9) hr
theorem d14_0 : decode kc14 0 = .ok (.getstatic 44, 3) := by decide +kernel
theorem d14_3 : decode kc14 3 = .ok (.ifCond .ne 25, 3) := by decide +kernel
theorem d14_28 : decode kc14 28 = .ok (.iload_n 1, 1) := by decide +kernel
theorem d14_29 : decode kc14 29 = .ok (.iconst 1, 1) := by decide +kernel
theorem d14_30 : decode kc14 30 = .ok (.ishl, 1) := by decide +kernel
theorem d14_31 : decode kc14 31 = .ok (.istore_n 1, 1) := by decide +kernel
theorem d14_32 : decode kc14 32 = .ok (.aload_n 0, 1) := by decide +kernel
theorem d14_33 : decode kc14 33 = .ok (.iload_n 1, 1) := by decide +kernel
theorem d14_34 : decode kc14 34 = .ok (.iinc 1 1, 3) := by decide +kernel
theorem d14_37 : decode kc14 37 = .ok (.iload_n 2, 1) := by decide +kernel
theorem d14_38 : decode kc14 38 = .ok (.getstatic 59, 3) := by decide +kernel
theorem d14_41 : decode kc14 41 = .ok (.ishr, 1) := by decide +kernel
theorem d14_42 : decode kc14 42 = .ok (.i2b, 1) := by decide +kernel
theorem d14_43 : decode kc14 43 = .ok (.bastore, 1) := by decide +kernel
theorem d14_44 : decode kc14 44 = .ok (.aload_n 0, 1) := by decide +kernel
theorem d14_45 : decode kc14 45 = .ok (.iload_n 1, 1) := by decide +kernel
theorem d14_46 : decode kc14 46 = .ok (.iload_n 2, 1) := by decide +kernel
theorem d14_47 : decode kc14 47 = .ok (.getstatic 63, 3) := by decide +kernel
theorem d14_50 : decode kc14 50 = .ok (.ishr, 1) := by decide +kernel
theorem d14_51 : decode kc14 51 = .ok (.i2b, 1) := by decide +kernel
theorem d14_52 : decode kc14 52 = .ok (.bastore, 1) := by decide +kernel
theorem d14_53 : decode kc14 53 = .ok (.return_, 1) := by decide +kernel
theorem own_ef_rs_pc_1_0 (m : MethodId) (x0 : Addr) (x2 : Int32) : entryFrame m #[(.ref x0), (.int 0), (.int x2)] 3 = mkF m 0 #[vr x0, vi 0, vi x2] [] := by first | (simp [entryFrame, mkF, argsToLocals, Value.category]; done) | rfl
def Q_rs_pc_1_0 (Z : State) (y : Addr) (ky : ClassId) (c0 : Int32) (h0 : Heap) (n0 : Nat) (v : Option Value) (h : Heap) (L : List Loc) : Prop := v = none ∧ Fr n0 L ∧ Keep h0 h [y] ∧ Arv Z h y ky .byte 2 [(.int (lo8 c0)), (.int (hi8 c0))] (.int 0)
set_option maxRecDepth 65536 in
set_option maxHeartbeats 40000000 in
theorem rs_pc_1_0 (l : Launch) (Z : State) (a0 : Array Value) (hw : HW a0 Z) (ws : List Jvm.Cond) (y : Addr) (ky : ClassId) (c0 : Int32) (h0 : Heap) (n0 : Nat) (Z0 : n0 ≤ h0.size) (V_y : Arv Z h0 y ky .byte 2 [(.int 0), (.int 0)] (.int 0)) (g_y : n0 ≤ y) (sgA : Sta Z h0 "java/lang/StringUTF16" "$assertionsDisabled" "Z" (.int 1)) (sgH : Sta Z h0 "java/lang/StringUTF16" "HI_BYTE_SHIFT" "I" (.int 0)) (sgL : Sta Z h0 "java/lang/StringUTF16" "LO_BYTE_SHIFT" "I" (.int 8)) :
  Met l Z mN14 jdk_52_method_4_code 3 none ({ frames := 0, cells := 0, slots := 0, locals := 0 } : Room) ws #[(.ref y), (.int 0), (.int c0)] h0 (Q_rs_pc_1_0 Z y ky c0 h0 n0) := by
 refine own_met (plainFor_of_name own_pn2) ?_
 intro p e s m below meth c s₁ hret hx hby hlk hml hown hnm X0 e0 hZ hh
 have N0 := Fr.nil n0
 refine Gz (castTop (own_ef_rs_pc_1_0 m y c0)) ?_
 have KP : Keep h0 h0 [y] := Keep.refl _ _
 show Goes _ _ _ _ _ (fT s₁ m 0 #[vr y, vi 0, vi c0] [])
 obtain ⟨T1, X1, e1, st1⟩ := getS2 X0 hx hZ hown (host := "") (Or.inl (gw hw 73 rfl)) Via.refl e0 sgA (g := (mkF m 0 #[vr y, vi 0, vi c0] [])) rfl (hb hby d14_0)
 refine Gs st1 ?_
 show Goes _ _ _ _ _ (fT T1 m 3 #[vr y, vi 0, vi c0] [(.int 1)])
 refine Gz (XS.ifYes X1.here hx rfl (pc0 := 3) (pc' := 28) rfl (hb hby d14_3) rfl ((if0 _ _).trans (feq (by decide : ¬ ((1 : Int32) = (0 : Int32)))).2) (by decide) (by decide)) ?_
 refine gN X1 hx hby d14_28 rfl rfl ?_
 refine Gz (XS.iconst X1.here hx rfl (hb hby d14_29)) ?_
 show Goes _ _ _ _ _ (fT T1 m 30 #[vr y, vi 0, vi c0] [(.int 1), (.int 0)])
 refine Gz (XS.ishl X1.here hx rfl (hb hby d14_30) rfl) ?_
 rw [show ((0 : Int32) <<< ((1 : Int32) &&& 31)) = 0 from by decide]
 show Goes _ _ _ _ _ (fT T1 m 31 #[vr y, vi 0, vi c0] [(.int 0)])
 refine Gz (XS.istoreN X1.here hx rfl (hb hby d14_31) rfl (l' := #[vr y, vi 0, vi c0]) rfl) ?_
 refine gA X1 hx hby d14_32 rfl rfl rfl ?_
 refine gN X1 hx hby d14_33 rfl rfl ?_
 show Goes _ _ _ _ _ (fT T1 m 34 #[vr y, vi 0, vi c0] [(.int 0), (.ref y)])
 refine Gz (XS.iinc X1.here hx rfl (hb hby d14_34) rfl (l' := #[vr y, vi ((0 : Int32) + (1 : Int32)), vi c0]) rfl) ?_
 rw [show ((0 : Int32) + (1 : Int32)) = 1 from by decide]
 show Goes _ _ _ _ _ (fT T1 m 37 #[vr y, vi 1, vi c0] [(.int 0), (.ref y)])
 refine gN X1 hx hby d14_37 rfl rfl ?_
 obtain ⟨T2, X2, e2, st2⟩ := getS2 X1 hx hZ hown (host := "") (Or.inl (gw hw 74 rfl)) Via.refl e1 sgH (g := (mkF m 38 #[vr y, vi 1, vi c0] [(.int c0), (.int 0), (.ref y)])) rfl (hb hby d14_38)
 refine Gs st2 ?_
 show Goes _ _ _ _ _ (fT T2 m 41 #[vr y, vi 1, vi c0] [(.int 0), (.int c0), (.int 0), (.ref y)])
 refine Gz (XS.ishr X2.here hx rfl (hb hby d14_41) rfl) ?_
 show Goes _ _ _ _ _ (fT T2 m 42 #[vr y, vi 1, vi c0] [(.int (c0 >>> ((0 : Int32) &&& 31))), (.int 0), (.ref y)])
 rw [own_shr0]
 show Goes _ _ _ _ _ (fT T2 m 42 #[vr y, vi 1, vi c0] [(.int c0), (.int 0), (.ref y)])
 refine Gz (XS.i2b X2.here hx rfl (hb hby d14_42) rfl) ?_
 show Goes _ _ _ _ _ (fT T2 m 43 #[vr y, vi 1, vi c0] [(.int (c0.toInt8.toInt32)), (.int 0), (.ref y)])
 obtain ⟨cl3, Ar3, q3, S3, N3z, H3, G3⟩ := V_y
 have hin3 : ¬ ((0 : Int32) < 0 ∨ cl3.slots.size ≤ ((0 : Int32)).toNatClampNeg) := inb_of S3 ⟨by decide, by decide⟩
 obtain ⟨T3, h3, X3, e3, W3, st3⟩ := stB X2 hx hZ e2 Ar3 (j := (0 : Int32)) hin3 (g := (mkF m 43 #[vr y, vi 1, vi c0] [(.int (c0.toInt8.toInt32)), (.int 0), (.ref y)])) rfl rfl (hb hby d14_43)
 have Vn3 := Arv.set Ar3 q3 S3 N3z H3 G3 (fits_nar_byte _) W3 0 rfl (Nat.le_of_ble_eq_true rfl)
 have N3 := Fr.snoc X3 N0 g_y
 replace sgL := sgL.wr W3
 replace KP := KP.wr W3 (Or.inl (List.mem_of_getElem? (i := 0) rfl))
 have V_y : Arv Z h3 y ky .byte 2 [(.int (lo8 c0)), (.int 0)] (.int 0) := by have q := Vn3; rw [own_nb2] at q; exact q
 replace Z0 : n0 ≤ h3.size := by rw [W3.size]; exact Z0
 refine Gs st3 ?_
 show Goes _ _ _ _ _ (fT T3 m 44 #[vr y, vi 1, vi c0] [])
 refine gA X3 hx hby d14_44 rfl rfl rfl ?_
 refine gN X3 hx hby d14_45 rfl rfl ?_
 refine gN X3 hx hby d14_46 rfl rfl ?_
 obtain ⟨T4, X4, e4, st4⟩ := getS2 X3 hx hZ hown (host := "") (Or.inl (gw hw 75 rfl)) Via.refl e3 sgL (g := (mkF m 47 #[vr y, vi 1, vi c0] [(.int c0), (.int 1), (.ref y)])) rfl (hb hby d14_47)
 refine Gs st4 ?_
 show Goes _ _ _ _ _ (fT T4 m 50 #[vr y, vi 1, vi c0] [(.int 8), (.int c0), (.int 1), (.ref y)])
 refine Gz (XS.ishr X4.here hx rfl (hb hby d14_50) rfl) ?_
 show Goes _ _ _ _ _ (fT T4 m 51 #[vr y, vi 1, vi c0] [(.int (c0 >>> ((8 : Int32) &&& 31))), (.int 1), (.ref y)])
 refine Gz (XS.i2b X4.here hx rfl (hb hby d14_51) rfl) ?_
 show Goes _ _ _ _ _ (fT T4 m 52 #[vr y, vi 1, vi c0] [(.int ((c0 >>> ((8 : Int32) &&& 31)).toInt8.toInt32)), (.int 1), (.ref y)])
 obtain ⟨cl5, Ar5, q5, S5, N5z, H5, G5⟩ := V_y
 have hin5 : ¬ ((1 : Int32) < 0 ∨ cl5.slots.size ≤ ((1 : Int32)).toNatClampNeg) := inb_of S5 ⟨by decide, by decide⟩
 obtain ⟨T5, h5, X5, e5, W5, st5⟩ := stB X4 hx hZ e4 Ar5 (j := (1 : Int32)) hin5 (g := (mkF m 52 #[vr y, vi 1, vi c0] [(.int ((c0 >>> ((8 : Int32) &&& 31)).toInt8.toInt32)), (.int 1), (.ref y)])) rfl rfl (hb hby d14_52)
 have Vn5 := Arv.set Ar5 q5 S5 N5z H5 G5 (fits_nar_byte _) W5 1 rfl (Nat.le_of_ble_eq_true rfl)
 have N5 := Fr.snoc X5 N3 g_y
 replace KP := KP.wr W5 (Or.inl (List.mem_of_getElem? (i := 0) rfl))
 have V_y : Arv Z h5 y ky .byte 2 [(.int (lo8 c0)), (.int (hi8 c0))] (.int 0) := by have q := Vn5; rw [own_nbh2] at q; exact q
 replace Z0 : n0 ≤ h5.size := by rw [W5.size]; exact Z0
 refine Gs st5 ?_
 show Goes _ _ _ _ _ (fT T5 m 53 #[vr y, vi 1, vi c0] [])
 refine Goes.ret X5 none (fun _ => rfl) hlk (by decide) (by decide) ?_ (fun fs hr => ?_)
 ·rw [e5]; exact ⟨rfl, N5, KP, V_y⟩
 ·exact X5.returnOut hx hret (hb hby d14_53) hr
theorem d15_0 : decode kc13 0 = .ok (.iload_n 0, 1) := by decide +kernel
theorem d15_1 : decode kc13 1 = .ok (.ifCond .ge 11, 3) := by decide +kernel
theorem d15_12 : decode kc13 12 = .ok (.iload_n 0, 1) := by decide +kernel
theorem d15_13 : decode kc13 13 = .ok (.ldc 20, 2) := by decide +kernel
theorem d15_15 : decode kc13 15 = .ok (.if_icmp .lt 40, 3) := by decide +kernel
theorem d15_55 : decode kc13 55 = .ok (.iload_n 0, 1) := by decide +kernel
theorem d15_56 : decode kc13 56 = .ok (.iconst 1, 1) := by decide +kernel
theorem d15_57 : decode kc13 57 = .ok (.ishl, 1) := by decide +kernel
theorem d15_58 : decode kc13 58 = .ok (.ireturn, 1) := by decide +kernel
theorem own_ef_rs_nbl_1 (m : MethodId)  : entryFrame m #[(.int 1)] 1 = mkF m 0 #[vi 1] [] := by first | (simp [entryFrame, mkF, argsToLocals, Value.category]; done) | rfl
def Q_rs_nbl_1 (Z : State)  (h0 : Heap) (n0 : Nat) (v : Option Value) (h : Heap) (L : List Loc) : Prop := v = some (.int 2) ∧ Fr n0 L ∧ h = h0
set_option maxRecDepth 65536 in
set_option maxHeartbeats 40000000 in
theorem rs_nbl_1 (l : Launch) (Z : State) (a0 : Array Value) (hw : HW a0 Z) (ws : List Jvm.Cond)  (h0 : Heap) (n0 : Nat) (Z0 : n0 ≤ h0.size) :
  Met l Z mN15 jdk_52_method_3_code 1 (some .int) ({ frames := 0, cells := 0, slots := 0, locals := 0 } : Room) ws #[(.int 1)] h0 (Q_rs_nbl_1 Z  h0 n0) := by
 refine own_met (plainFor_of_name own_pn2) ?_
 intro p e s m below meth c s₁ hret hx hby hlk hml hown hnm X0 e0 hZ hh
 have N0 := Fr.nil n0
 refine Gz (castTop (own_ef_rs_nbl_1 m )) ?_
 show Goes _ _ _ _ _ (fT s₁ m 0 #[vi 1] [])
 refine gN X0 hx hby d15_0 rfl rfl ?_
 refine Gz (XS.ifYes X0.here hx rfl (pc0 := 1) (pc' := 12) rfl (hb hby d15_1) rfl ((if0 _ _).trans (flt (by decide : ¬ ((1 : Int32) < (0 : Int32)))).2.1) (by decide) (by decide)) ?_
 refine gN X0 hx hby d15_12 rfl rfl ?_
 refine Gz (Jvm.Stand.ldcI X0 hx hown (gz hZ hw 69 rfl) rfl (hb hby d15_13)) ?_
 show Goes _ _ _ _ _ (fT s₁ m 15 #[vi 1] [(.int 1073741823), (.int 1)])
 refine Gz (XS.icmpYes X0.here hx rfl (pc0 := 15) (pc' := 55) rfl (hb hby d15_15) rfl (tlt (by decide : ((1 : Int32) < (1073741823 : Int32)))).1 (by decide) (by decide)) ?_
 refine gN X0 hx hby d15_55 rfl rfl ?_
 refine Gz (XS.iconst X0.here hx rfl (hb hby d15_56)) ?_
 show Goes _ _ _ _ _ (fT s₁ m 57 #[vi 1] [(.int 1), (.int 1)])
 refine Gz (XS.ishl X0.here hx rfl (hb hby d15_57) rfl) ?_
 rw [show ((1 : Int32) <<< ((1 : Int32) &&& 31)) = 2 from by decide]
 show Goes _ _ _ _ _ (fT s₁ m 58 #[vi 1] [(.int 2)])
 refine Goes.ret X0 (some (.int 2)) (fun h => by rw [hret] at h; cases h) hlk (by decide) (by decide) ?_ (fun fs hr => ?_)
 ·exact ⟨rfl, N0, e0⟩
 ·exact retI X0 hx hret (hb hby d15_58) hr
theorem d16_0 : decode kc12 0 = .ok (.iload_n 0, 1) := by decide +kernel
theorem d16_1 : decode kc12 1 = .ok (.invokestatic 11, 3) := by decide +kernel
theorem own_pd10 : parseMethodDescriptor "(I)I" = some ⟨[.int], some .int⟩ := by decide +kernel
theorem d16_4 : decode kc12 4 = .ok (.newarray .byte, 2) := by decide +kernel
theorem d16_6 : decode kc12 6 = .ok (.areturn, 1) := by decide +kernel
theorem own_ef_rs_nbf_1 (m : MethodId)  : entryFrame m #[(.int 1)] 1 = mkF m 0 #[vi 1] [] := by first | (simp [entryFrame, mkF, argsToLocals, Value.category]; done) | rfl
def Q_rs_nbf_1 (Z : State)  (h0 : Heap) (n0 : Nat) (v : Option Value) (h : Heap) (L : List Loc) : Prop := ∃ y : Addr, ∃ ky : ClassId, v = some (.ref y) ∧ Fr n0 L ∧ Keep h0 h [] ∧ Arv Z h y ky .byte 2 [(.int 0), (.int 0)] (.int 0) ∧ n0 ≤ y ∧ h0.size ≤ y
set_option maxRecDepth 65536 in
set_option maxHeartbeats 40000000 in
theorem rs_nbf_1 (l : Launch) (Z : State) (a0 : Array Value) (hw : HW a0 Z) (ws : List Jvm.Cond)  (h0 : Heap) (n0 : Nat) (Z0 : n0 ≤ h0.size) :
  Met l Z mN16 jdk_52_method_2_code 1 (some (.array .byte)) ({ frames := 1, cells := 1, slots := 2, locals := 12 } : Room) ws #[(.int 1)] h0 (Q_rs_nbf_1 Z  h0 n0) := by
 refine own_met (plainFor_of_name own_pn2) ?_
 intro p e s m below meth c s₁ hret hx hby hlk hml hown hnm X0 e0 hZ hh
 have N0 := Fr.nil n0
 refine Gz (castTop (own_ef_rs_nbf_1 m )) ?_
 have KP : Keep h0 h0 [] := Keep.refl _ _
 show Goes _ _ _ _ _ (fT s₁ m 0 #[vi 1] [])
 refine gN X0 hx hby d16_0 rfl rfl ?_
 obtain ⟨_, _, ⟨T1, L1, k1, n1⟩, -, X1, ⟨Lc1, hQ1, l1, y1, z1⟩, st1⟩ := Jvm.LawKit.callS X0 hx (y := mN15) hown (gz hZ hw 66 rfl) (gz hZ hw 67 rfl) (gz hZ hw 55 rfl) (gz hZ hw 68 rfl) (by decide) (backOf (W := 0) (rs_nbl_1 l Z a0 hw []  h0 n0 Z0) hZ (gw hw 68 rfl) (gw hw 55 rfl) (by decide) (by decide)) (g := (mkF m 1 #[vi 1] [(.int 1)])) rfl hml.symm (argsL := [(.int 1)]) (rest := []) (lenOf own_pd10 rfl) rfl (wz rfl) (hb hby d16_1) (fun _ _ => ⟨rfl, e0, z0, z0⟩)
 dsimp only [Pt.U, Pt.locs, Pt.cells, Pt.slots] at X1 l1 y1 z1 st1 hQ1
 subst l1 y1 z1
 obtain ⟨rfl, N1q, e1⟩ := hQ1
 have N1 := Fr.app N0 N1q
 refine Gs st1 ?_
 show Goes _ _ _ _ _ (fT T1 m 4 #[vi 1] [(.int 2)])
 obtain ⟨T2, h2, k2, X2, e2, E2, A2, st2⟩ := newP X1 hx hZ (gw hw 20 rfl) e1 (g := (mkF m 4 #[vi 1] [(.int 2)])) rfl (hb hby d16_4) rfl (by decide) (cap := 2) (by decide) (by decide) (by decide) (by decide)
 obtain ⟨b2, gq2⟩ : ∃ z, z = h0.size := ⟨_, rfl⟩
 rw [← gq2] at A2 st2
 have g_b2 : n0 ≤ b2 := by rw [gq2]; exact Z0
 have sz_b2 : h0.size ≤ b2 := by rw [gq2]; exact KP.1
 replace KP := KP.ext E2
 replace Z0 : n0 ≤ h2.size := Nat.le_trans Z0 E2.1
 have V_b2 : Arv Z h2 b2 k2 .byte 2 [(.int 0), (.int 0)] (.int 0) := (Arv.new A2 (by decide)).pad (pad_rep [] (.int 0) 2)
 refine Gs st2 ?_
 show Goes _ _ _ _ _ (fT T2 m 6 #[vi 1] [(.ref b2)])
 refine Goes.ret X2 (some (.ref b2)) (fun h => by rw [hret] at h; cases h) hlk (by decide) (by decide) ?_ (fun fs hr => ?_)
 ·rw [e2]; exact ⟨b2, k2, rfl, N1, KP, V_b2, g_b2, sz_b2⟩
 ·exact own_retA X2 hx hret rfl rfl (hb hby d16_6) hr
theorem d17_0 : decode kc8 0 = .ok (.iload_n 2, 1) := by decide +kernel
theorem d17_1 : decode kc8 1 = .ok (.invokestatic 107, 3) := by decide +kernel
theorem own_pd11 : parseMethodDescriptor "(I)[B" = some ⟨[.int], some (.array .byte)⟩ := by decide +kernel
theorem d17_4 : decode kc8 4 = .ok (.astore_n 3, 1) := by decide +kernel
theorem d17_5 : decode kc8 5 = .ok (.iconst 0, 1) := by decide +kernel
theorem d17_6 : decode kc8 6 = .ok (.istore 4, 2) := by decide +kernel
theorem d17_8 : decode kc8 8 = .ok (.iload 4, 2) := by decide +kernel
theorem d17_10 : decode kc8 10 = .ok (.iload_n 2, 1) := by decide +kernel
theorem d17_11 : decode kc8 11 = .ok (.if_icmp .ge 21, 3) := by decide +kernel
theorem d17_14 : decode kc8 14 = .ok (.aload_n 3, 1) := by decide +kernel
theorem d17_15 : decode kc8 15 = .ok (.iload 4, 2) := by decide +kernel
theorem d17_17 : decode kc8 17 = .ok (.aload_n 0, 1) := by decide +kernel
theorem d17_18 : decode kc8 18 = .ok (.iload_n 1, 1) := by decide +kernel
theorem d17_19 : decode kc8 19 = .ok (.caload, 1) := by decide +kernel
theorem d17_20 : decode kc8 20 = .ok (.invokestatic 111, 3) := by decide +kernel
theorem own_pd12 : parseMethodDescriptor "([BII)V" = some ⟨[(.array .byte), .int, .int], none⟩ := by decide +kernel
theorem d17_23 : decode kc8 23 = .ok (.iinc 1 1, 3) := by decide +kernel
theorem d17_26 : decode kc8 26 = .ok (.iinc 4 1, 3) := by decide +kernel
theorem d17_29 : decode kc8 29 = .ok (.goto (-21), 3) := by decide +kernel
theorem d17_32 : decode kc8 32 = .ok (.aload_n 3, 1) := by decide +kernel
theorem d17_33 : decode kc8 33 = .ok (.areturn, 1) := by decide +kernel
theorem own_ef_rs_tb_1 (m : MethodId) (x0 : Addr) : entryFrame m #[(.ref x0), (.int 0), (.int 1)] 5 = mkF m 0 #[vr x0, vi 0, vi 1, vu, vu] [] := by first | (simp [entryFrame, mkF, argsToLocals, Value.category]; done) | rfl
def Q_rs_tb_1 (Z : State) (x : Addr) (kx : ClassId) (c0 : Int32) (h0 : Heap) (n0 : Nat) (v : Option Value) (h : Heap) (L : List Loc) : Prop := ∃ y : Addr, ∃ ky : ClassId, v = some (.ref y) ∧ Fr n0 L ∧ Keep h0 h [] ∧ Arv Z h y ky .byte 2 [(.int (lo8 c0)), (.int (hi8 c0))] (.int 0) ∧ n0 ≤ y ∧ h0.size ≤ y
set_option maxRecDepth 65536 in
set_option maxHeartbeats 40000000 in
theorem rs_tb_1 (l : Launch) (Z : State) (a0 : Array Value) (hw : HW a0 Z) (ws : List Jvm.Cond) (x : Addr) (kx : ClassId) (c0 : Int32) (h0 : Heap) (n0 : Nat) (Z0 : n0 ≤ h0.size) (V_x : Arv Z h0 x kx .char 1 [(.int c0)] (.int 0)) (sgA : Sta Z h0 "java/lang/StringUTF16" "$assertionsDisabled" "Z" (.int 1)) (sgH : Sta Z h0 "java/lang/StringUTF16" "HI_BYTE_SHIFT" "I" (.int 0)) (sgL : Sta Z h0 "java/lang/StringUTF16" "LO_BYTE_SHIFT" "I" (.int 8)) :
  Met l Z mN17 jdk_52_method_14_code 5 (some (.array .byte)) ({ frames := 2, cells := 1, slots := 2, locals := 24 } : Room) ws #[(.ref x), (.int 0), (.int 1)] h0 (Q_rs_tb_1 Z x kx c0 h0 n0) := by
 refine own_met (plainFor_of_name own_pn2) ?_
 intro p e s m below meth c s₁ hret hx hby hlk hml hown hnm X0 e0 hZ hh
 have N0 := Fr.nil n0
 refine Gz (castTop (own_ef_rs_tb_1 m x)) ?_
 have KP : Keep h0 h0 [] := Keep.refl _ _
 show Goes _ _ _ _ _ (fT s₁ m 0 #[vr x, vi 0, vi 1, vu, vu] [])
 refine gN X0 hx hby d17_0 rfl rfl ?_
 have szs1 : h0.size ≤ h0.size := KP.1
 obtain ⟨_, _, ⟨T1, L1, k1, n1⟩, -, X1, ⟨Lc1, hQ1, l1, y1, z1⟩, st1⟩ := Jvm.LawKit.callS X0 hx (y := mN16) hown (gz hZ hw 63 rfl) (gz hZ hw 64 rfl) (gz hZ hw 55 rfl) (gz hZ hw 65 rfl) (by decide) (backOf (W := 0) (rs_nbf_1 l Z a0 hw []  h0 n0 Z0) hZ (gw hw 65 rfl) (gw hw 55 rfl) (by decide) (by decide)) (g := (mkF m 1 #[vr x, vi 0, vi 1, vu, vu] [(.int 1)])) rfl hml.symm (argsL := [(.int 1)]) (rest := []) (lenOf own_pd11 rfl) rfl (wz rfl) (hb hby d17_1) (fun _ _ => ⟨rfl, e0, (by decide : 0 + 1 ≤ _), (by decide : 0 + 2 ≤ _)⟩)
 dsimp only [Pt.U, Pt.locs, Pt.cells, Pt.slots] at X1 l1 y1 z1 st1 hQ1
 subst l1 y1 z1
 obtain ⟨y1, ky1, rfl, N1q, K1, V_y1_1', g_y1_1', sz_y1_1'⟩ := hQ1
 have N1 := Fr.app N0 N1q
 replace sgA := own_staK sgA K1 all0
 replace sgH := own_staK sgH K1 all0
 replace sgL := own_staK sgL K1 all0
 replace V_x := V_x.keep K1 nin0
 replace KP := KP.trans K1 all0
 replace Z0 := Nat.le_trans Z0 K1.1
 have V_y1 := V_y1_1'
 have g_y1 := g_y1_1'
 have szc_y1 := sz_y1_1'
 have sz_y1 : h0.size ≤ y1 := Nat.le_trans szs1 szc_y1
 refine Gs st1 ?_
 show Goes _ _ _ _ _ (fT T1 m 4 #[vr x, vi 0, vi 1, vu, vu] [(.ref y1)])
 refine Gz (XS.astoreN X1.here hx rfl (hb hby d17_4) rfl rfl (l' := #[vr x, vi 0, vi 1, vr y1, vu]) rfl) ?_
 refine Gz (XS.iconst X1.here hx rfl (hb hby d17_5)) ?_
 refine Gz (XS.istore X1.here hx rfl (hb hby d17_6) rfl (l' := #[vr x, vi 0, vi 1, vr y1, vi 0]) rfl) ?_
 refine gI X1 hx hby d17_8 rfl rfl ?_
 refine gN X1 hx hby d17_10 rfl rfl ?_
 refine Gz (XS.icmpNo X1.here hx rfl (hb hby d17_11) rfl (tlt (by decide : ((0 : Int32) < (1 : Int32)))).2.1) ?_
 show Goes _ _ _ _ _ (fT T1 m 14 #[vr x, vi 0, vi 1, vr y1, vi 0] [])
 refine gA X1 hx hby d17_14 rfl rfl rfl ?_
 refine gI X1 hx hby d17_15 rfl rfl ?_
 refine gA X1 hx hby d17_17 rfl rfl rfl ?_
 refine gN X1 hx hby d17_18 rfl rfl ?_
 obtain ⟨cl2, Ar2, -, S2, N2z, H2, -⟩ := id V_x
 have hin2 : ¬ ((0 : Int32) < 0 ∨ cl2.slots.size ≤ ((0 : Int32)).toNatClampNeg) := inb_of S2 ⟨by decide, by decide⟩
 have hat2 : cl2.slots[((0 : Int32)).toNatClampNeg]? = some (.int c0) := Has.at H2 hin2 rfl
 refine Gs (fun _ tk => X1.caload hx (j := (0 : Int32)) (v := (.int c0)) Ar2.1 (State.isArrayOf_alike hZ.alike Ar2.2.1) Ar2.2.2 hin2 hat2 (g := (mkF m 19 #[vr x, vi 0, vi 1, vr y1, vi 0] [(.int 0), (.ref x), (.int 0), (.ref y1)])) rfl rfl (hb hby d17_19) _ tk) ?_
 show Goes _ _ _ _ _ (fT T1 m 20 #[vr x, vi 0, vi 1, vr y1, vi 0] [(.int c0), (.int 0), (.ref y1)])
 obtain ⟨_, _, ⟨T3, L3, k3, n3⟩, -, X3, ⟨Lc3, hQ3, l3, y3, z3⟩, st3⟩ := Jvm.LawKit.callS X1 hx (y := mN14) hown (gz hZ hw 70 rfl) (gz hZ hw 71 rfl) (gz hZ hw 55 rfl) (gz hZ hw 72 rfl) (by decide) (backOf (W := 0) (rs_pc_1_0 l Z a0 hw [] y1 ky1 c0 T1.heap n0 Z0 V_y1 g_y1 sgA sgH sgL) hZ (gw hw 72 rfl) (gw hw 55 rfl) (by decide) (by decide)) (g := (mkF m 20 #[vr x, vi 0, vi 1, vr y1, vi 0] [(.int c0), (.int 0), (.ref y1)])) rfl hml.symm (argsL := [(.ref y1), (.int 0), (.int c0)]) (rest := []) (lenOf own_pd12 rfl) rfl (wz rfl) (hb hby d17_20) (fun _ _ => ⟨rfl, rfl, (by decide : 1 + 0 ≤ _), (by decide : 2 + 0 ≤ _)⟩)
 dsimp only [Pt.U, Pt.locs, Pt.cells, Pt.slots] at X3 l3 y3 z3 st3 hQ3
 subst l3 y3 z3
 obtain ⟨rfl, N3q, K3, V_y1_3'⟩ := hQ3
 have N3 := Fr.app N1 N3q
 replace KP := KP.trans K3 (allS (Or.inr sz_y1) all0)
 replace Z0 := Nat.le_trans Z0 K3.1
 have V_y1 := V_y1_3'
 refine Gs st3 ?_
 show Goes _ _ _ _ _ (fT T3 m 23 #[vr x, vi 0, vi 1, vr y1, vi 0] [])
 refine Gz (XS.iinc X3.here hx rfl (hb hby d17_23) rfl (l' := #[vr x, vi ((0 : Int32) + (1 : Int32)), vi 1, vr y1, vi 0]) rfl) ?_
 rw [show ((0 : Int32) + (1 : Int32)) = 1 from by decide]
 show Goes _ _ _ _ _ (fT T3 m 26 #[vr x, vi 1, vi 1, vr y1, vi 0] [])
 refine Gz (XS.iinc X3.here hx rfl (hb hby d17_26) rfl (l' := #[vr x, vi 1, vi 1, vr y1, vi ((0 : Int32) + (1 : Int32))]) rfl) ?_
 rw [show ((0 : Int32) + (1 : Int32)) = 1 from by decide]
 show Goes _ _ _ _ _ (fT T3 m 29 #[vr x, vi 1, vi 1, vr y1, vi 1] [])
 refine Gz (XS.goto X3.here hx rfl (pc0 := 29) (pc' := 8) rfl (hb hby d17_29) (by decide) (by decide)) ?_
 refine gI X3 hx hby d17_8 rfl rfl ?_
 refine gN X3 hx hby d17_10 rfl rfl ?_
 refine Gz (XS.icmpYes X3.here hx rfl (pc0 := 11) (pc' := 32) rfl (hb hby d17_11) rfl (flt (by decide : ¬ ((1 : Int32) < (1 : Int32)))).2.1 (by decide) (by decide)) ?_
 refine gA X3 hx hby d17_32 rfl rfl rfl ?_
 refine Goes.ret X3 (some (.ref y1)) (fun h => by rw [hret] at h; cases h) hlk (by decide) (by decide) ?_ (fun fs hr => ?_)
 ·exact ⟨y1, ky1, rfl, N3, KP, V_y1, g_y1, sz_y1⟩
 ·exact own_retA X3 hx hret rfl rfl (hb hby d17_33) hr
theorem d18_0 : decode kc11 0 = .ok (.iconst 0, 1) := by decide +kernel
theorem d18_1 : decode kc11 1 = .ok (.istore 5, 2) := by decide +kernel
theorem d18_3 : decode kc11 3 = .ok (.iload 5, 2) := by decide +kernel
theorem d18_5 : decode kc11 5 = .ok (.iload 4, 2) := by decide +kernel
theorem d18_7 : decode kc11 7 = .ok (.if_icmp .ge 37, 3) := by decide +kernel
theorem d18_10 : decode kc11 10 = .ok (.aload_n 0, 1) := by decide +kernel
theorem d18_11 : decode kc11 11 = .ok (.iload_n 1, 1) := by decide +kernel
theorem d18_12 : decode kc11 12 = .ok (.caload, 1) := by decide +kernel
theorem d18_13 : decode kc11 13 = .ok (.istore 6, 2) := by decide +kernel
theorem d18_15 : decode kc11 15 = .ok (.iload 6, 2) := by decide +kernel
theorem d18_17 : decode kc11 17 = .ok (.sipush 255, 3) := by decide +kernel
theorem d18_20 : decode kc11 20 = .ok (.if_icmp .le 6, 3) := by decide +kernel
theorem d18_23 : decode kc11 23 = .ok (.iload 5, 2) := by decide +kernel
theorem d18_25 : decode kc11 25 = .ok (.ireturn, 1) := by decide +kernel
theorem own_ef_rs_c5_1_0 (m : MethodId) (x0 : Addr) (x2 : Addr) : entryFrame m #[(.ref x0), (.int 0), (.ref x2), (.int 0), (.int 1)] 7 = mkF m 0 #[vr x0, vi 0, vr x2, vi 0, vi 1, vu, vu] [] := by first | (simp [entryFrame, mkF, argsToLocals, Value.category]; done) | rfl
def Q_rs_c5_1_0 (Z : State) (x : Addr) (kx : ClassId) (y : Addr) (ky : ClassId) (c0 : Int32) (h0 : Heap) (n0 : Nat) (v : Option Value) (h : Heap) (L : List Loc) : Prop := v = some (.int 0) ∧ Fr n0 L ∧ Keep h0 h [y] ∧ Arv Z h y ky .byte 1 [(.int 0)] (.int 0)
set_option maxRecDepth 65536 in
set_option maxHeartbeats 40000000 in
theorem rs_c5_1_0 (l : Launch) (Z : State) (a0 : Array Value) (hw : HW a0 Z) (ws : List Jvm.Cond) (x : Addr) (kx : ClassId) (y : Addr) (ky : ClassId) (c0 : Int32) (h0 : Heap) (n0 : Nat) (Z0 : n0 ≤ h0.size) (V_x : Arv Z h0 x kx .char 1 [(.int c0)] (.int 0)) (V_y : Arv Z h0 y ky .byte 1 [(.int 0)] (.int 0)) (g_y : n0 ≤ y) (ne_x_y : x ≠ y) (hn_c0 : (255 : Int32) < c0) :
  Met l Z mN18 jdk_52_method_21_code 7 (some .int) ({ frames := 0, cells := 0, slots := 0, locals := 0 } : Room) ws #[(.ref x), (.int 0), (.ref y), (.int 0), (.int 1)] h0 (Q_rs_c5_1_0 Z x kx y ky c0 h0 n0) := by
 refine own_met (plainFor_of_name own_pn2) ?_
 intro p e s m below meth c s₁ hret hx hby hlk hml hown hnm X0 e0 hZ hh
 have N0 := Fr.nil n0
 refine Gz (castTop (own_ef_rs_c5_1_0 m x y)) ?_
 have KP : Keep h0 h0 [y] := Keep.refl _ _
 show Goes _ _ _ _ _ (fT s₁ m 0 #[vr x, vi 0, vr y, vi 0, vi 1, vu, vu] [])
 refine Gz (XS.iconst X0.here hx rfl (hb hby d18_0)) ?_
 refine Gz (XS.istore X0.here hx rfl (hb hby d18_1) rfl (l' := #[vr x, vi 0, vr y, vi 0, vi 1, vi 0, vu]) rfl) ?_
 refine gI X0 hx hby d18_3 rfl rfl ?_
 refine gI X0 hx hby d18_5 rfl rfl ?_
 refine Gz (XS.icmpNo X0.here hx rfl (hb hby d18_7) rfl (tlt (by decide : ((0 : Int32) < (1 : Int32)))).2.1) ?_
 refine gA X0 hx hby d18_10 rfl rfl rfl ?_
 show Goes _ _ _ _ _ (fT s₁ m 11 #[vr x, vi 0, vr y, vi 0, vi 1, vi 0, vu] [(.ref x)])
 refine gN X0 hx hby d18_11 rfl rfl ?_
 obtain ⟨cl1, Ar1, -, S1, N1z, H1, -⟩ := id V_x
 have hin1 : ¬ ((0 : Int32) < 0 ∨ cl1.slots.size ≤ ((0 : Int32)).toNatClampNeg) := inb_of S1 ⟨by decide, by decide⟩
 have hat1 : cl1.slots[((0 : Int32)).toNatClampNeg]? = some (.int c0) := Has.at H1 hin1 rfl
 refine Gs (fun _ tk => X0.caload hx (j := (0 : Int32)) (v := (.int c0)) (by rw [e0]; exact Ar1.1) (State.isArrayOf_alike hZ.alike Ar1.2.1) Ar1.2.2 hin1 hat1 (g := (mkF m 12 #[vr x, vi 0, vr y, vi 0, vi 1, vi 0, vu] [(.int 0), (.ref x)])) rfl rfl (hb hby d18_12) _ tk) ?_
 show Goes _ _ _ _ _ (fT s₁ m 13 #[vr x, vi 0, vr y, vi 0, vi 1, vi 0, vu] [(.int c0)])
 refine Gz (XS.istore X0.here hx rfl (hb hby d18_13) rfl (l' := #[vr x, vi 0, vr y, vi 0, vi 1, vi 0, vi c0]) rfl) ?_
 refine gI X0 hx hby d18_15 rfl rfl ?_
 refine Gz (XS.sipush X0.here hx rfl (hb hby d18_17)) ?_
 refine Gz (XS.icmpNo X0.here hx rfl (hb hby d18_20) rfl (tlt hn_c0).2.2.2) ?_
 refine gI X0 hx hby d18_23 rfl rfl ?_
 refine Goes.ret X0 (some (.int 0)) (fun h => by rw [hret] at h; cases h) hlk (by decide) (by decide) ?_ (fun fs hr => ?_)
 ·rw [e0]; exact ⟨rfl, N0, KP, V_y⟩
 ·exact retI X0 hx hret (hb hby d18_25) hr
theorem d19_0 : decode kc10 0 = .ok (.iload_n 2, 1) := by decide +kernel
theorem d19_1 : decode kc10 1 = .ok (.newarray .byte, 2) := by decide +kernel
theorem d19_3 : decode kc10 3 = .ok (.astore_n 3, 1) := by decide +kernel
theorem d19_4 : decode kc10 4 = .ok (.aload_n 0, 1) := by decide +kernel
theorem d19_5 : decode kc10 5 = .ok (.iload_n 1, 1) := by decide +kernel
theorem d19_6 : decode kc10 6 = .ok (.aload_n 3, 1) := by decide +kernel
theorem d19_7 : decode kc10 7 = .ok (.iconst 0, 1) := by decide +kernel
theorem d19_8 : decode kc10 8 = .ok (.iload_n 2, 1) := by decide +kernel
theorem d19_9 : decode kc10 9 = .ok (.invokestatic 115, 3) := by decide +kernel
theorem own_pd13 : parseMethodDescriptor "([CI[BII)I" = some ⟨[(.array .char), .int, (.array .byte), .int, .int], some .int⟩ := by decide +kernel
theorem d19_12 : decode kc10 12 = .ok (.istore 4, 2) := by decide +kernel
theorem d19_14 : decode kc10 14 = .ok (.iload 4, 2) := by decide +kernel
theorem d19_16 : decode kc10 16 = .ok (.iload_n 2, 1) := by decide +kernel
theorem d19_17 : decode kc10 17 = .ok (.if_icmp .eq 40, 3) := by decide +kernel
theorem d19_20 : decode kc10 20 = .ok (.aload_n 0, 1) := by decide +kernel
theorem d19_21 : decode kc10 21 = .ok (.iload_n 1, 1) := by decide +kernel
theorem d19_22 : decode kc10 22 = .ok (.iload_n 2, 1) := by decide +kernel
theorem d19_23 : decode kc10 23 = .ok (.invokestatic 119, 3) := by decide +kernel
theorem own_pd14 : parseMethodDescriptor "([CII)[B" = some ⟨[(.array .char), .int, .int], some (.array .byte)⟩ := by decide +kernel
theorem d19_26 : decode kc10 26 = .ok (.astore 5, 2) := by decide +kernel
theorem d19_28 : decode kc10 28 = .ok (.aload 5, 2) := by decide +kernel
theorem d19_30 : decode kc10 30 = .ok (.iload 4, 2) := by decide +kernel
theorem d19_32 : decode kc10 32 = .ok (.invokestatic 71, 3) := by decide +kernel
theorem d19_35 : decode kc10 35 = .ok (.sipush 255, 3) := by decide +kernel
theorem d19_38 : decode kc10 38 = .ok (.if_icmp .gt 16, 3) := by decide +kernel
theorem d19_54 : decode kc10 54 = .ok (.aload 5, 2) := by decide +kernel
theorem d19_56 : decode kc10 56 = .ok (.areturn, 1) := by decide +kernel
theorem own_ef_rs_c3_1_0 (m : MethodId) (x0 : Addr) : entryFrame m #[(.ref x0), (.int 0), (.int 1)] 6 = mkF m 0 #[vr x0, vi 0, vi 1, vu, vu, vu] [] := by first | (simp [entryFrame, mkF, argsToLocals, Value.category]; done) | rfl
def Q_rs_c3_1_0 (Z : State) (x : Addr) (kx : ClassId) (c0 : Int32) (h0 : Heap) (n0 : Nat) (v : Option Value) (h : Heap) (L : List Loc) : Prop := ∃ y : Addr, ∃ ky : ClassId, v = some (.ref y) ∧ Fr n0 L ∧ Keep h0 h [] ∧ Arv Z h y ky .byte 2 [(.int (lo8 c0)), (.int (hi8 c0))] (.int 0) ∧ n0 ≤ y ∧ h0.size ≤ y
set_option maxRecDepth 65536 in
set_option maxHeartbeats 40000000 in
theorem rs_c3_1_0 (l : Launch) (Z : State) (a0 : Array Value) (hw : HW a0 Z) (ws : List Jvm.Cond) (x : Addr) (kx : ClassId) (c0 : Int32) (h0 : Heap) (n0 : Nat) (Z0 : n0 ≤ h0.size) (V_x : Arv Z h0 x kx .char 1 [(.int c0)] (.int 0)) (hn_c0 : (255 : Int32) < c0) (hC_c0 : Chr c0) (sgA : Sta Z h0 "java/lang/StringUTF16" "$assertionsDisabled" "Z" (.int 1)) (sgH : Sta Z h0 "java/lang/StringUTF16" "HI_BYTE_SHIFT" "I" (.int 0)) (sgL : Sta Z h0 "java/lang/StringUTF16" "LO_BYTE_SHIFT" "I" (.int 8)) :
  Met l Z mN19 jdk_52_method_16_code 6 (some (.array .byte)) ({ frames := 3, cells := 2, slots := 3, locals := 40 } : Room) ws #[(.ref x), (.int 0), (.int 1)] h0 (Q_rs_c3_1_0 Z x kx c0 h0 n0) := by
 refine own_met (plainFor_of_name own_pn2) ?_
 intro p e s m below meth c s₁ hret hx hby hlk hml hown hnm X0 e0 hZ hh
 have N0 := Fr.nil n0
 refine Gz (castTop (own_ef_rs_c3_1_0 m x)) ?_
 have KP : Keep h0 h0 [] := Keep.refl _ _
 show Goes _ _ _ _ _ (fT s₁ m 0 #[vr x, vi 0, vi 1, vu, vu, vu] [])
 refine gN X0 hx hby d19_0 rfl rfl ?_
 obtain ⟨T1, h1, k1, X1, e1, E1, A1, st1⟩ := newP X0 hx hZ (gw hw 20 rfl) e0 (g := (mkF m 1 #[vr x, vi 0, vi 1, vu, vu, vu] [(.int 1)])) rfl (hb hby d19_1) rfl (by decide) (cap := 1) (by decide) (by decide) (by decide) (by decide)
 obtain ⟨b1, gq1⟩ : ∃ z, z = h0.size := ⟨_, rfl⟩
 rw [← gq1] at A1 st1
 have g_b1 : n0 ≤ b1 := by rw [gq1]; exact Z0
 have sz_b1 : h0.size ≤ b1 := by rw [gq1]; exact KP.1
 have ne_x_b1 : x ≠ b1 := by rw [gq1]; exact Nat.ne_of_lt V_x.lt
 replace V_x := V_x.ext E1
 replace sgA := sgA.ext E1
 replace sgH := sgH.ext E1
 replace sgL := sgL.ext E1
 replace KP := KP.ext E1
 replace Z0 : n0 ≤ h1.size := Nat.le_trans Z0 E1.1
 have V_b1 : Arv Z h1 b1 k1 .byte 1 [(.int 0)] (.int 0) := (Arv.new A1 (by decide)).pad (pad_rep [] (.int 0) 1)
 refine Gs st1 ?_
 show Goes _ _ _ _ _ (fT T1 m 3 #[vr x, vi 0, vi 1, vu, vu, vu] [(.ref b1)])
 refine Gz (XS.astoreN X1.here hx rfl (hb hby d19_3) rfl rfl (l' := #[vr x, vi 0, vi 1, vr b1, vu, vu]) rfl) ?_
 refine gA X1 hx hby d19_4 rfl rfl rfl ?_
 refine gN X1 hx hby d19_5 rfl rfl ?_
 refine gA X1 hx hby d19_6 rfl rfl rfl ?_
 refine Gz (XS.iconst X1.here hx rfl (hb hby d19_7)) ?_
 refine gN X1 hx hby d19_8 rfl rfl ?_
 show Goes _ _ _ _ _ (fT T1 m 9 #[vr x, vi 0, vi 1, vr b1, vu, vu] [(.int 1), (.int 0), (.ref b1), (.int 0), (.ref x)])
 obtain ⟨_, _, ⟨T2, L2, k2, n2⟩, -, X2, ⟨Lc2, hQ2, l2, y2, z2⟩, st2⟩ := Jvm.LawKit.callS X1 hx (y := mN18) hown (gz hZ hw 57 rfl) (gz hZ hw 58 rfl) (gz hZ hw 55 rfl) (gz hZ hw 59 rfl) (by decide) (backOf (W := 0) (rs_c5_1_0 l Z a0 hw [] x kx b1 k1 c0 h1 n0 Z0 V_x V_b1 g_b1 ne_x_b1 (by first | assumption | decide)) hZ (gw hw 59 rfl) (gw hw 55 rfl) (by decide) (by decide)) (g := (mkF m 9 #[vr x, vi 0, vi 1, vr b1, vu, vu] [(.int 1), (.int 0), (.ref b1), (.int 0), (.ref x)])) rfl hml.symm (argsL := [(.ref x), (.int 0), (.ref b1), (.int 0), (.int 1)]) (rest := []) (lenOf own_pd13 rfl) rfl (wz rfl) (hb hby d19_9) (fun _ _ => ⟨rfl, e1, (by decide : 1 + 0 ≤ _), (by decide : 1 + 0 ≤ _)⟩)
 dsimp only [Pt.U, Pt.locs, Pt.cells, Pt.slots] at X2 l2 y2 z2 st2 hQ2
 subst l2 y2 z2
 obtain ⟨rfl, N2q, K2, V_b1_2'⟩ := hQ2
 have N2 := Fr.app N0 N2q
 replace sgA := own_staK sgA K2 (allS (own_obA V_b1) all0)
 replace sgH := own_staK sgH K2 (allS (own_obA V_b1) all0)
 replace sgL := own_staK sgL K2 (allS (own_obA V_b1) all0)
 replace V_x := V_x.keep K2 (ninS ne_x_b1 nin0)
 replace KP := KP.trans K2 (allS (Or.inr sz_b1) all0)
 replace Z0 := Nat.le_trans Z0 K2.1
 have V_b1 := V_b1_2'
 refine Gs st2 ?_
 show Goes _ _ _ _ _ (fT T2 m 12 #[vr x, vi 0, vi 1, vr b1, vu, vu] [(.int 0)])
 refine Gz (XS.istore X2.here hx rfl (hb hby d19_12) rfl (l' := #[vr x, vi 0, vi 1, vr b1, vi 0, vu]) rfl) ?_
 refine gI X2 hx hby d19_14 rfl rfl ?_
 refine gN X2 hx hby d19_16 rfl rfl ?_
 refine Gz (XS.icmpNo X2.here hx rfl (hb hby d19_17) rfl (feq (by decide : ¬ ((0 : Int32) = (1 : Int32)))).1) ?_
 refine gA X2 hx hby d19_20 rfl rfl rfl ?_
 refine gN X2 hx hby d19_21 rfl rfl ?_
 show Goes _ _ _ _ _ (fT T2 m 22 #[vr x, vi 0, vi 1, vr b1, vi 0, vu] [(.int 0), (.ref x)])
 refine gN X2 hx hby d19_22 rfl rfl ?_
 have ltc3_x : x < T2.heap.size := V_x.lt
 have ltc3_b1 : b1 < T2.heap.size := V_b1.lt
 have szs3 : h0.size ≤ T2.heap.size := KP.1
 obtain ⟨_, _, ⟨T3, L3, k3, n3⟩, -, X3, ⟨Lc3, hQ3, l3, y3, z3⟩, st3⟩ := Jvm.LawKit.callS X2 hx (y := mN17) hown (gz hZ hw 60 rfl) (gz hZ hw 61 rfl) (gz hZ hw 55 rfl) (gz hZ hw 62 rfl) (by decide) (backOf (W := 0) (rs_tb_1 l Z a0 hw [] x kx c0 T2.heap n0 Z0 V_x sgA sgH sgL) hZ (gw hw 62 rfl) (gw hw 55 rfl) (by decide) (by decide)) (g := (mkF m 23 #[vr x, vi 0, vi 1, vr b1, vi 0, vu] [(.int 1), (.int 0), (.ref x)])) rfl hml.symm (argsL := [(.ref x), (.int 0), (.int 1)]) (rest := []) (lenOf own_pd14 rfl) rfl (wz rfl) (hb hby d19_23) (fun _ _ => ⟨rfl, rfl, (by decide : 1 + 1 ≤ _), (by decide : 1 + 2 ≤ _)⟩)
 dsimp only [Pt.U, Pt.locs, Pt.cells, Pt.slots] at X3 l3 y3 z3 st3 hQ3
 subst l3 y3 z3
 obtain ⟨y3, ky3, rfl, N3q, K3, V_y3_3', g_y3_3', sz_y3_3'⟩ := hQ3
 have N3 := Fr.app N2 N3q
 replace sgA := own_staK sgA K3 all0
 replace sgH := own_staK sgH K3 all0
 replace sgL := own_staK sgL K3 all0
 replace KP := KP.trans K3 all0
 replace Z0 := Nat.le_trans Z0 K3.1
 have V_y3 := V_y3_3'
 have g_y3 := g_y3_3'
 have szc_y3 := sz_y3_3'
 have ne_x_y3 : x ≠ y3 := Nat.ne_of_lt (Nat.lt_of_lt_of_le ltc3_x szc_y3)
 have ne_b1_y3 : b1 ≠ y3 := Nat.ne_of_lt (Nat.lt_of_lt_of_le ltc3_b1 szc_y3)
 have sz_y3 : h0.size ≤ y3 := Nat.le_trans szs3 szc_y3
 refine Gs st3 ?_
 show Goes _ _ _ _ _ (fT T3 m 26 #[vr x, vi 0, vi 1, vr b1, vi 0, vu] [(.ref y3)])
 refine Gz (XS.astore X3.here hx rfl (hb hby d19_26) rfl rfl (l' := #[vr x, vi 0, vi 1, vr b1, vi 0, vr y3]) rfl) ?_
 refine Gz (XS.aload X3.here hx rfl (hb hby d19_28) rfl rfl) ?_
 refine gI X3 hx hby d19_30 rfl rfl ?_
 obtain ⟨_, _, ⟨T4, L4, k4, n4⟩, -, X4, ⟨Lc4, hQ4, l4, y4, z4⟩, st4⟩ := Jvm.LawKit.callS X3 hx (y := mN5) hown (gz hZ hw 76 rfl) (gz hZ hw 77 rfl) (gz hZ hw 55 rfl) (gz hZ hw 78 rfl) (by decide) (backOf (W := 0) (rs_gch l Z a0 hw [] y3 ky3 [c0] (0 : Int32) c0 T3.heap n0 Z0 V_y3 (by first | assumption | decide) (own_il 0 _ (by decide) (by simp) (Nat.le_of_ble_eq_true rfl)) rfl (Nat.le_of_ble_eq_true rfl) hC_c0 sgA sgH sgL) hZ (gw hw 78 rfl) (gw hw 55 rfl) (by decide) (by decide)) (g := (mkF m 32 #[vr x, vi 0, vi 1, vr b1, vi 0, vr y3] [(.int 0), (.ref y3)])) rfl hml.symm (argsL := [(.ref y3), (.int 0)]) (rest := []) (lenOf own_pd2 rfl) rfl (wz rfl) (hb hby d19_32) (fun _ _ => ⟨rfl, rfl, (by decide : 2 + 0 ≤ _), (by decide : 3 + 0 ≤ _)⟩)
 dsimp only [Pt.U, Pt.locs, Pt.cells, Pt.slots] at X4 l4 y4 z4 st4 hQ4
 subst l4 y4 z4
 obtain ⟨rfl, N4q, e4⟩ := hQ4
 have N4 := Fr.app N3 N4q
 refine Gs st4 ?_
 show Goes _ _ _ _ _ (fT T4 m 35 #[vr x, vi 0, vi 1, vr b1, vi 0, vr y3] [(.int c0)])
 refine Gz (XS.sipush X4.here hx rfl (hb hby d19_35)) ?_
 refine Gz (XS.icmpYes X4.here hx rfl (pc0 := 38) (pc' := 54) rfl (hb hby d19_38) rfl (tlt hn_c0).2.2.1 (by decide) (by decide)) ?_
 refine Gz (XS.aload X4.here hx rfl (hb hby d19_54) rfl rfl) ?_
 refine Goes.ret X4 (some (.ref y3)) (fun h => by rw [hret] at h; cases h) hlk (by decide) (by decide) ?_ (fun fs hr => ?_)
 ·rw [e4]; exact ⟨y3, ky3, rfl, N4, KP, V_y3, g_y3, sz_y3⟩
 ·exact own_retA X4 hx hret rfl rfl (hb hby d19_56) hr
theorem d18_26 : decode kc11 26 = .ok (.aload_n 2, 1) := by decide +kernel
theorem d18_27 : decode kc11 27 = .ok (.iload_n 3, 1) := by decide +kernel
theorem d18_28 : decode kc11 28 = .ok (.iload 6, 2) := by decide +kernel
theorem d18_30 : decode kc11 30 = .ok (.i2b, 1) := by decide +kernel
theorem d18_31 : decode kc11 31 = .ok (.bastore, 1) := by decide +kernel
theorem d18_32 : decode kc11 32 = .ok (.iinc 1 1, 3) := by decide +kernel
theorem d18_35 : decode kc11 35 = .ok (.iinc 3 1, 3) := by decide +kernel
theorem d18_38 : decode kc11 38 = .ok (.iinc 5 1, 3) := by decide +kernel
theorem d18_41 : decode kc11 41 = .ok (.goto (-38), 3) := by decide +kernel
theorem d18_44 : decode kc11 44 = .ok (.iload 4, 2) := by decide +kernel
theorem d18_46 : decode kc11 46 = .ok (.ireturn, 1) := by decide +kernel
theorem own_ef_rs_c5_1_1 (m : MethodId) (x0 : Addr) (x2 : Addr) : entryFrame m #[(.ref x0), (.int 0), (.ref x2), (.int 0), (.int 1)] 7 = mkF m 0 #[vr x0, vi 0, vr x2, vi 0, vi 1, vu, vu] [] := by first | (simp [entryFrame, mkF, argsToLocals, Value.category]; done) | rfl
def Q_rs_c5_1_1 (Z : State) (x : Addr) (kx : ClassId) (y : Addr) (ky : ClassId) (c0 : Int32) (h0 : Heap) (n0 : Nat) (v : Option Value) (h : Heap) (L : List Loc) : Prop := v = some (.int 1) ∧ Fr n0 L ∧ Keep h0 h [y] ∧ Arv Z h y ky .byte 1 [(.int (lo8 c0))] (.int 0)
set_option maxRecDepth 65536 in
set_option maxHeartbeats 40000000 in
theorem rs_c5_1_1 (l : Launch) (Z : State) (a0 : Array Value) (hw : HW a0 Z) (ws : List Jvm.Cond) (x : Addr) (kx : ClassId) (y : Addr) (ky : ClassId) (c0 : Int32) (h0 : Heap) (n0 : Nat) (Z0 : n0 ≤ h0.size) (V_x : Arv Z h0 x kx .char 1 [(.int c0)] (.int 0)) (V_y : Arv Z h0 y ky .byte 1 [(.int 0)] (.int 0)) (g_y : n0 ≤ y) (ne_x_y : x ≠ y) (hn_c0 : ¬ ((255 : Int32) < c0)) :
  Met l Z mN18 jdk_52_method_21_code 7 (some .int) ({ frames := 0, cells := 0, slots := 0, locals := 0 } : Room) ws #[(.ref x), (.int 0), (.ref y), (.int 0), (.int 1)] h0 (Q_rs_c5_1_1 Z x kx y ky c0 h0 n0) := by
 refine own_met (plainFor_of_name own_pn2) ?_
 intro p e s m below meth c s₁ hret hx hby hlk hml hown hnm X0 e0 hZ hh
 have N0 := Fr.nil n0
 refine Gz (castTop (own_ef_rs_c5_1_1 m x y)) ?_
 have KP : Keep h0 h0 [y] := Keep.refl _ _
 show Goes _ _ _ _ _ (fT s₁ m 0 #[vr x, vi 0, vr y, vi 0, vi 1, vu, vu] [])
 refine Gz (XS.iconst X0.here hx rfl (hb hby d18_0)) ?_
 refine Gz (XS.istore X0.here hx rfl (hb hby d18_1) rfl (l' := #[vr x, vi 0, vr y, vi 0, vi 1, vi 0, vu]) rfl) ?_
 refine gI X0 hx hby d18_3 rfl rfl ?_
 refine gI X0 hx hby d18_5 rfl rfl ?_
 refine Gz (XS.icmpNo X0.here hx rfl (hb hby d18_7) rfl (tlt (by decide : ((0 : Int32) < (1 : Int32)))).2.1) ?_
 refine gA X0 hx hby d18_10 rfl rfl rfl ?_
 show Goes _ _ _ _ _ (fT s₁ m 11 #[vr x, vi 0, vr y, vi 0, vi 1, vi 0, vu] [(.ref x)])
 refine gN X0 hx hby d18_11 rfl rfl ?_
 obtain ⟨cl1, Ar1, -, S1, N1z, H1, -⟩ := id V_x
 have hin1 : ¬ ((0 : Int32) < 0 ∨ cl1.slots.size ≤ ((0 : Int32)).toNatClampNeg) := inb_of S1 ⟨by decide, by decide⟩
 have hat1 : cl1.slots[((0 : Int32)).toNatClampNeg]? = some (.int c0) := Has.at H1 hin1 rfl
 refine Gs (fun _ tk => X0.caload hx (j := (0 : Int32)) (v := (.int c0)) (by rw [e0]; exact Ar1.1) (State.isArrayOf_alike hZ.alike Ar1.2.1) Ar1.2.2 hin1 hat1 (g := (mkF m 12 #[vr x, vi 0, vr y, vi 0, vi 1, vi 0, vu] [(.int 0), (.ref x)])) rfl rfl (hb hby d18_12) _ tk) ?_
 show Goes _ _ _ _ _ (fT s₁ m 13 #[vr x, vi 0, vr y, vi 0, vi 1, vi 0, vu] [(.int c0)])
 refine Gz (XS.istore X0.here hx rfl (hb hby d18_13) rfl (l' := #[vr x, vi 0, vr y, vi 0, vi 1, vi 0, vi c0]) rfl) ?_
 refine gI X0 hx hby d18_15 rfl rfl ?_
 refine Gz (XS.sipush X0.here hx rfl (hb hby d18_17)) ?_
 refine Gz (XS.icmpYes X0.here hx rfl (pc0 := 20) (pc' := 26) rfl (hb hby d18_20) rfl (flt hn_c0).2.2.2 (by decide) (by decide)) ?_
 refine gA X0 hx hby d18_26 rfl rfl rfl ?_
 refine gN X0 hx hby d18_27 rfl rfl ?_
 show Goes _ _ _ _ _ (fT s₁ m 28 #[vr x, vi 0, vr y, vi 0, vi 1, vi 0, vi c0] [(.int 0), (.ref y)])
 refine gI X0 hx hby d18_28 rfl rfl ?_
 show Goes _ _ _ _ _ (fT s₁ m 30 #[vr x, vi 0, vr y, vi 0, vi 1, vi 0, vi c0] [(.int c0), (.int 0), (.ref y)])
 refine Gz (XS.i2b X0.here hx rfl (hb hby d18_30) rfl) ?_
 show Goes _ _ _ _ _ (fT s₁ m 31 #[vr x, vi 0, vr y, vi 0, vi 1, vi 0, vi c0] [(.int (c0.toInt8.toInt32)), (.int 0), (.ref y)])
 obtain ⟨cl2, Ar2, q2, S2, N2z, H2, G2⟩ := V_y
 have hin2 : ¬ ((0 : Int32) < 0 ∨ cl2.slots.size ≤ ((0 : Int32)).toNatClampNeg) := inb_of S2 ⟨by decide, by decide⟩
 obtain ⟨T2, h2, X2, e2, W2, st2⟩ := stB X0 hx hZ e0 Ar2 (j := (0 : Int32)) hin2 (g := (mkF m 31 #[vr x, vi 0, vr y, vi 0, vi 1, vi 0, vi c0] [(.int (c0.toInt8.toInt32)), (.int 0), (.ref y)])) rfl rfl (hb hby d18_31)
 have Vn2 := Arv.set Ar2 q2 S2 N2z H2 G2 (fits_nar_byte _) W2 0 rfl (Nat.le_of_ble_eq_true rfl)
 have N2 := Fr.snoc X2 N0 g_y
 replace KP := KP.wr W2 (Or.inl (List.mem_of_getElem? (i := 0) rfl))
 have V_y : Arv Z h2 y ky .byte 1 [(.int (lo8 c0))] (.int 0) := by have q := Vn2; rw [own_nb2] at q; exact q
 replace Z0 : n0 ≤ h2.size := by rw [W2.size]; exact Z0
 refine Gs st2 ?_
 show Goes _ _ _ _ _ (fT T2 m 32 #[vr x, vi 0, vr y, vi 0, vi 1, vi 0, vi c0] [])
 refine Gz (XS.iinc X2.here hx rfl (hb hby d18_32) rfl (l' := #[vr x, vi ((0 : Int32) + (1 : Int32)), vr y, vi 0, vi 1, vi 0, vi c0]) rfl) ?_
 rw [show ((0 : Int32) + (1 : Int32)) = 1 from by decide]
 show Goes _ _ _ _ _ (fT T2 m 35 #[vr x, vi 1, vr y, vi 0, vi 1, vi 0, vi c0] [])
 refine Gz (XS.iinc X2.here hx rfl (hb hby d18_35) rfl (l' := #[vr x, vi 1, vr y, vi ((0 : Int32) + (1 : Int32)), vi 1, vi 0, vi c0]) rfl) ?_
 rw [show ((0 : Int32) + (1 : Int32)) = 1 from by decide]
 show Goes _ _ _ _ _ (fT T2 m 38 #[vr x, vi 1, vr y, vi 1, vi 1, vi 0, vi c0] [])
 refine Gz (XS.iinc X2.here hx rfl (hb hby d18_38) rfl (l' := #[vr x, vi 1, vr y, vi 1, vi 1, vi ((0 : Int32) + (1 : Int32)), vi c0]) rfl) ?_
 rw [show ((0 : Int32) + (1 : Int32)) = 1 from by decide]
 show Goes _ _ _ _ _ (fT T2 m 41 #[vr x, vi 1, vr y, vi 1, vi 1, vi 1, vi c0] [])
 refine Gz (XS.goto X2.here hx rfl (pc0 := 41) (pc' := 3) rfl (hb hby d18_41) (by decide) (by decide)) ?_
 refine gI X2 hx hby d18_3 rfl rfl ?_
 refine gI X2 hx hby d18_5 rfl rfl ?_
 refine Gz (XS.icmpYes X2.here hx rfl (pc0 := 7) (pc' := 44) rfl (hb hby d18_7) rfl (flt (by decide : ¬ ((1 : Int32) < (1 : Int32)))).2.1 (by decide) (by decide)) ?_
 refine gI X2 hx hby d18_44 rfl rfl ?_
 refine Goes.ret X2 (some (.int 1)) (fun h => by rw [hret] at h; cases h) hlk (by decide) (by decide) ?_ (fun fs hr => ?_)
 ·rw [e2]; exact ⟨rfl, N2, KP, V_y⟩
 ·exact retI X2 hx hret (hb hby d18_46) hr
theorem d19_57 : decode kc10 57 = .ok (.aload_n 3, 1) := by decide +kernel
theorem d19_58 : decode kc10 58 = .ok (.areturn, 1) := by decide +kernel
theorem own_ef_rs_c3_1_1 (m : MethodId) (x0 : Addr) : entryFrame m #[(.ref x0), (.int 0), (.int 1)] 6 = mkF m 0 #[vr x0, vi 0, vi 1, vu, vu, vu] [] := by first | (simp [entryFrame, mkF, argsToLocals, Value.category]; done) | rfl
def Q_rs_c3_1_1 (Z : State) (x : Addr) (kx : ClassId) (c0 : Int32) (h0 : Heap) (n0 : Nat) (v : Option Value) (h : Heap) (L : List Loc) : Prop := ∃ y : Addr, ∃ ky : ClassId, v = some (.ref y) ∧ Fr n0 L ∧ Keep h0 h [] ∧ Arv Z h y ky .byte 1 [(.int (lo8 c0))] (.int 0) ∧ n0 ≤ y ∧ h0.size ≤ y
set_option maxRecDepth 65536 in
set_option maxHeartbeats 40000000 in
theorem rs_c3_1_1 (l : Launch) (Z : State) (a0 : Array Value) (hw : HW a0 Z) (ws : List Jvm.Cond) (x : Addr) (kx : ClassId) (c0 : Int32) (h0 : Heap) (n0 : Nat) (Z0 : n0 ≤ h0.size) (V_x : Arv Z h0 x kx .char 1 [(.int c0)] (.int 0)) (hn_c0 : ¬ ((255 : Int32) < c0)) :
  Met l Z mN19 jdk_52_method_16_code 6 (some (.array .byte)) ({ frames := 1, cells := 1, slots := 1, locals := 18 } : Room) ws #[(.ref x), (.int 0), (.int 1)] h0 (Q_rs_c3_1_1 Z x kx c0 h0 n0) := by
 refine own_met (plainFor_of_name own_pn2) ?_
 intro p e s m below meth c s₁ hret hx hby hlk hml hown hnm X0 e0 hZ hh
 have N0 := Fr.nil n0
 refine Gz (castTop (own_ef_rs_c3_1_1 m x)) ?_
 have KP : Keep h0 h0 [] := Keep.refl _ _
 show Goes _ _ _ _ _ (fT s₁ m 0 #[vr x, vi 0, vi 1, vu, vu, vu] [])
 refine gN X0 hx hby d19_0 rfl rfl ?_
 obtain ⟨T1, h1, k1, X1, e1, E1, A1, st1⟩ := newP X0 hx hZ (gw hw 20 rfl) e0 (g := (mkF m 1 #[vr x, vi 0, vi 1, vu, vu, vu] [(.int 1)])) rfl (hb hby d19_1) rfl (by decide) (cap := 1) (by decide) (by decide) (by decide) (by decide)
 obtain ⟨b1, gq1⟩ : ∃ z, z = h0.size := ⟨_, rfl⟩
 rw [← gq1] at A1 st1
 have g_b1 : n0 ≤ b1 := by rw [gq1]; exact Z0
 have sz_b1 : h0.size ≤ b1 := by rw [gq1]; exact KP.1
 have ne_x_b1 : x ≠ b1 := by rw [gq1]; exact Nat.ne_of_lt V_x.lt
 replace V_x := V_x.ext E1
 replace KP := KP.ext E1
 replace Z0 : n0 ≤ h1.size := Nat.le_trans Z0 E1.1
 have V_b1 : Arv Z h1 b1 k1 .byte 1 [(.int 0)] (.int 0) := (Arv.new A1 (by decide)).pad (pad_rep [] (.int 0) 1)
 refine Gs st1 ?_
 show Goes _ _ _ _ _ (fT T1 m 3 #[vr x, vi 0, vi 1, vu, vu, vu] [(.ref b1)])
 refine Gz (XS.astoreN X1.here hx rfl (hb hby d19_3) rfl rfl (l' := #[vr x, vi 0, vi 1, vr b1, vu, vu]) rfl) ?_
 refine gA X1 hx hby d19_4 rfl rfl rfl ?_
 refine gN X1 hx hby d19_5 rfl rfl ?_
 refine gA X1 hx hby d19_6 rfl rfl rfl ?_
 refine Gz (XS.iconst X1.here hx rfl (hb hby d19_7)) ?_
 refine gN X1 hx hby d19_8 rfl rfl ?_
 show Goes _ _ _ _ _ (fT T1 m 9 #[vr x, vi 0, vi 1, vr b1, vu, vu] [(.int 1), (.int 0), (.ref b1), (.int 0), (.ref x)])
 obtain ⟨_, _, ⟨T2, L2, k2, n2⟩, -, X2, ⟨Lc2, hQ2, l2, y2, z2⟩, st2⟩ := Jvm.LawKit.callS X1 hx (y := mN18) hown (gz hZ hw 57 rfl) (gz hZ hw 58 rfl) (gz hZ hw 55 rfl) (gz hZ hw 59 rfl) (by decide) (backOf (W := 0) (rs_c5_1_1 l Z a0 hw [] x kx b1 k1 c0 h1 n0 Z0 V_x V_b1 g_b1 ne_x_b1 (by first | assumption | decide)) hZ (gw hw 59 rfl) (gw hw 55 rfl) (by decide) (by decide)) (g := (mkF m 9 #[vr x, vi 0, vi 1, vr b1, vu, vu] [(.int 1), (.int 0), (.ref b1), (.int 0), (.ref x)])) rfl hml.symm (argsL := [(.ref x), (.int 0), (.ref b1), (.int 0), (.int 1)]) (rest := []) (lenOf own_pd13 rfl) rfl (wz rfl) (hb hby d19_9) (fun _ _ => ⟨rfl, e1, (by decide : 1 + 0 ≤ _), (by decide : 1 + 0 ≤ _)⟩)
 dsimp only [Pt.U, Pt.locs, Pt.cells, Pt.slots] at X2 l2 y2 z2 st2 hQ2
 subst l2 y2 z2
 obtain ⟨rfl, N2q, K2, V_b1_2'⟩ := hQ2
 have N2 := Fr.app N0 N2q
 replace KP := KP.trans K2 (allS (Or.inr sz_b1) all0)
 replace Z0 := Nat.le_trans Z0 K2.1
 have V_b1 := V_b1_2'
 refine Gs st2 ?_
 show Goes _ _ _ _ _ (fT T2 m 12 #[vr x, vi 0, vi 1, vr b1, vu, vu] [(.int 1)])
 refine Gz (XS.istore X2.here hx rfl (hb hby d19_12) rfl (l' := #[vr x, vi 0, vi 1, vr b1, vi 1, vu]) rfl) ?_
 refine gI X2 hx hby d19_14 rfl rfl ?_
 refine gN X2 hx hby d19_16 rfl rfl ?_
 refine Gz (XS.icmpYes X2.here hx rfl (pc0 := 17) (pc' := 57) rfl (hb hby d19_17) rfl (teq (by decide : ((1 : Int32) = (1 : Int32)))).1 (by decide) (by decide)) ?_
 refine gA X2 hx hby d19_57 rfl rfl rfl ?_
 refine Goes.ret X2 (some (.ref b1)) (fun h => by rw [hret] at h; cases h) hlk (by decide) (by decide) ?_ (fun fs hr => ?_)
 ·exact ⟨b1, k1, rfl, N2, KP, V_b1, g_b1, sz_b1⟩
 ·exact own_retA X2 hx hret rfl rfl (hb hby d19_58) hr
theorem d20_0 : decode kc9 0 = .ok (.iload_n 1, 1) := by decide +kernel
theorem d20_1 : decode kc9 1 = .ok (.aload_n 0, 1) := by decide +kernel
theorem d20_2 : decode kc9 2 = .ok (.arraylength, 1) := by decide +kernel
theorem d20_3 : decode kc9 3 = .ok (.isub, 1) := by decide +kernel
theorem d20_4 : decode kc9 4 = .ok (.bipush 31, 2) := by decide +kernel
theorem d20_6 : decode kc9 6 = .ok (.iushr, 1) := by decide +kernel
theorem d20_7 : decode kc9 7 = .ok (.i2b, 1) := by decide +kernel
theorem d20_8 : decode kc9 8 = .ok (.ireturn, 1) := by decide +kernel
theorem own_ef_rs_cf_1_1 (m : MethodId) (x0 : Addr) : entryFrame m #[(.ref x0), (.int 1)] 2 = mkF m 0 #[vr x0, vi 1] [] := by first | (simp [entryFrame, mkF, argsToLocals, Value.category]; done) | rfl
def Q_rs_cf_1_1 (Z : State) (y : Addr) (ky : ClassId) (vs : List Value) (h0 : Heap) (n0 : Nat) (v : Option Value) (h : Heap) (L : List Loc) : Prop := v = some (.int 0) ∧ Fr n0 L ∧ h = h0
set_option maxRecDepth 65536 in
set_option maxHeartbeats 40000000 in
theorem rs_cf_1_1 (l : Launch) (Z : State) (a0 : Array Value) (hw : HW a0 Z) (ws : List Jvm.Cond) (y : Addr) (ky : ClassId) (vs : List Value) (h0 : Heap) (n0 : Nat) (Z0 : n0 ≤ h0.size) (V_y : Arv Z h0 y ky .byte 1 vs (.int 0)) :
  Met l Z mN20 jdk_52_method_15_code 2 (some .byte) ({ frames := 0, cells := 0, slots := 0, locals := 0 } : Room) ws #[(.ref y), (.int 1)] h0 (Q_rs_cf_1_1 Z y ky vs h0 n0) := by
 refine own_met (plainFor_of_name own_pn2) ?_
 intro p e s m below meth c s₁ hret hx hby hlk hml hown hnm X0 e0 hZ hh
 have N0 := Fr.nil n0
 refine Gz (castTop (own_ef_rs_cf_1_1 m y)) ?_
 show Goes _ _ _ _ _ (fT s₁ m 0 #[vr y, vi 1] [])
 refine gN X0 hx hby d20_0 rfl rfl ?_
 refine gA X0 hx hby d20_1 rfl rfl rfl ?_
 obtain ⟨cl1, Ar1, -, S1, N1z, -, -⟩ := id V_y
 refine Gs (fun _ tk => X0.arraylength hx (by rw [e0]; exact Ar1.1) (State.isArrayOf_alike hZ.alike Ar1.2.1) (g := (mkF m 2 #[vr y, vi 1] [(.ref y), (.int 1)])) rfl rfl (hb hby d20_2) _ tk) ?_
 rw [len_of S1 N1z]
 show Goes _ _ _ _ _ (fT s₁ m 3 #[vr y, vi 1] [(.int 1), (.int 1)])
 refine Gz (XS.isub X0.here hx rfl (hb hby d20_3) rfl) ?_
 rw [show ((1 : Int32) - (1 : Int32)) = 0 from by decide]
 show Goes _ _ _ _ _ (fT s₁ m 4 #[vr y, vi 1] [(.int 0)])
 refine Gz (XS.bipush X0.here hx rfl (hb hby d20_4)) ?_
 show Goes _ _ _ _ _ (fT s₁ m 6 #[vr y, vi 1] [(.int 31), (.int 0)])
 refine Gz (XS.iushr X0.here hx rfl (hb hby d20_6) rfl) ?_
 rw [show (((0 : Int32).toUInt32 >>> ((31 : Int32) &&& 31).toUInt32).toInt32) = (0 : Int32) from by decide]
 show Goes _ _ _ _ _ (fT s₁ m 7 #[vr y, vi 1] [(.int 0)])
 refine Gz (XS.i2b X0.here hx rfl (hb hby d20_7) rfl) ?_
 rw [show ((0 : Int32).toInt8.toInt32) = (0 : Int32) from by decide]
 show Goes _ _ _ _ _ (fT s₁ m 8 #[vr y, vi 1] [(.int 0)])
 refine Goes.ret X0 (some (.int 0)) (fun h => by rw [hret] at h; cases h) hlk (by decide) (by decide) ?_ (fun fs hr => ?_)
 ·exact ⟨rfl, N0, e0⟩
 ·exact own_retN X0 hx (t := .byte) hret (by simp) rfl (hb hby d20_8) hr
theorem own_ef_rs_cf_1_2 (m : MethodId) (x0 : Addr) : entryFrame m #[(.ref x0), (.int 1)] 2 = mkF m 0 #[vr x0, vi 1] [] := by first | (simp [entryFrame, mkF, argsToLocals, Value.category]; done) | rfl
def Q_rs_cf_1_2 (Z : State) (y : Addr) (ky : ClassId) (vs : List Value) (h0 : Heap) (n0 : Nat) (v : Option Value) (h : Heap) (L : List Loc) : Prop := v = some (.int 1) ∧ Fr n0 L ∧ h = h0
set_option maxRecDepth 65536 in
set_option maxHeartbeats 40000000 in
theorem rs_cf_1_2 (l : Launch) (Z : State) (a0 : Array Value) (hw : HW a0 Z) (ws : List Jvm.Cond) (y : Addr) (ky : ClassId) (vs : List Value) (h0 : Heap) (n0 : Nat) (Z0 : n0 ≤ h0.size) (V_y : Arv Z h0 y ky .byte 2 vs (.int 0)) :
  Met l Z mN20 jdk_52_method_15_code 2 (some .byte) ({ frames := 0, cells := 0, slots := 0, locals := 0 } : Room) ws #[(.ref y), (.int 1)] h0 (Q_rs_cf_1_2 Z y ky vs h0 n0) := by
 refine own_met (plainFor_of_name own_pn2) ?_
 intro p e s m below meth c s₁ hret hx hby hlk hml hown hnm X0 e0 hZ hh
 have N0 := Fr.nil n0
 refine Gz (castTop (own_ef_rs_cf_1_2 m y)) ?_
 show Goes _ _ _ _ _ (fT s₁ m 0 #[vr y, vi 1] [])
 refine gN X0 hx hby d20_0 rfl rfl ?_
 refine gA X0 hx hby d20_1 rfl rfl rfl ?_
 obtain ⟨cl1, Ar1, -, S1, N1z, -, -⟩ := id V_y
 refine Gs (fun _ tk => X0.arraylength hx (by rw [e0]; exact Ar1.1) (State.isArrayOf_alike hZ.alike Ar1.2.1) (g := (mkF m 2 #[vr y, vi 1] [(.ref y), (.int 1)])) rfl rfl (hb hby d20_2) _ tk) ?_
 rw [len_of S1 N1z]
 show Goes _ _ _ _ _ (fT s₁ m 3 #[vr y, vi 1] [(.int 2), (.int 1)])
 refine Gz (XS.isub X0.here hx rfl (hb hby d20_3) rfl) ?_
 rw [show ((1 : Int32) - (2 : Int32)) = (-1 : Int32) from by decide]
 show Goes _ _ _ _ _ (fT s₁ m 4 #[vr y, vi 1] [(.int (-1 : Int32))])
 refine Gz (XS.bipush X0.here hx rfl (hb hby d20_4)) ?_
 show Goes _ _ _ _ _ (fT s₁ m 6 #[vr y, vi 1] [(.int 31), (.int (-1 : Int32))])
 refine Gz (XS.iushr X0.here hx rfl (hb hby d20_6) rfl) ?_
 rw [show (((-1 : Int32).toUInt32 >>> ((31 : Int32) &&& 31).toUInt32).toInt32) = (1 : Int32) from by decide]
 show Goes _ _ _ _ _ (fT s₁ m 7 #[vr y, vi 1] [(.int 1)])
 refine Gz (XS.i2b X0.here hx rfl (hb hby d20_7) rfl) ?_
 rw [show ((1 : Int32).toInt8.toInt32) = (1 : Int32) from by decide]
 show Goes _ _ _ _ _ (fT s₁ m 8 #[vr y, vi 1] [(.int 1)])
 refine Goes.ret X0 (some (.int 1)) (fun h => by rw [hret] at h; cases h) hlk (by decide) (by decide) ?_ (fun fs hr => ?_)
 ·exact ⟨rfl, N0, e0⟩
 ·exact own_retN X0 hx (t := .byte) hret (by simp) rfl (hb hby d20_8) hr
theorem d12_27 : decode kc1 27 = .ok (.getstatic 38, 3) := by decide +kernel
theorem d12_30 : decode kc1 30 = .ok (.ifCond .eq 28, 3) := by decide +kernel
theorem d12_33 : decode kc1 33 = .ok (.aload_n 1, 1) := by decide +kernel
theorem d12_34 : decode kc1 34 = .ok (.iload_n 2, 1) := by decide +kernel
theorem d12_35 : decode kc1 35 = .ok (.iload_n 3, 1) := by decide +kernel
theorem d12_36 : decode kc1 36 = .ok (.invokestatic 177, 3) := by decide +kernel
theorem d12_39 : decode kc1 39 = .ok (.astore 5, 2) := by decide +kernel
theorem d12_41 : decode kc1 41 = .ok (.aload_n 0, 1) := by decide +kernel
theorem d12_42 : decode kc1 42 = .ok (.aload 5, 2) := by decide +kernel
theorem d12_44 : decode kc1 44 = .ok (.iload_n 3, 1) := by decide +kernel
theorem d12_45 : decode kc1 45 = .ok (.invokestatic 47, 3) := by decide +kernel
theorem own_pd15 : parseMethodDescriptor "([BI)B" = some ⟨[(.array .byte), .int], some .byte⟩ := by decide +kernel
theorem d12_48 : decode kc1 48 = .ok (.putfield 15, 3) := by decide +kernel
theorem d12_51 : decode kc1 51 = .ok (.aload_n 0, 1) := by decide +kernel
theorem d12_52 : decode kc1 52 = .ok (.aload 5, 2) := by decide +kernel
theorem d12_54 : decode kc1 54 = .ok (.putfield 9, 3) := by decide +kernel
theorem d12_57 : decode kc1 57 = .ok (.return_, 1) := by decide +kernel
theorem own_ef_rs_i4_1 (m : MethodId) (x0 : Addr) (x1 : Addr) : entryFrame m #[(.ref x0), (.ref x1), (.int 0), (.int 1), .null] 6 = mkF m 0 #[vr x0, vr x1, vi 0, vi 1, .val .null, vu] [] := by first | (simp [entryFrame, mkF, argsToLocals, Value.category]; done) | rfl
def Q_rs_i4_1 (Z : State) (a : Addr) (x : Addr) (kx : ClassId) (c0 : Int32) (cz : Int32) (h0 : Heap) (n0 : Nat) (v : Option Value) (h : Heap) (L : List Loc) : Prop := v = none ∧ Fr n0 L ∧ Keep h0 h [a] ∧ StrOf Z h a [c0]
set_option maxRecDepth 65536 in
set_option maxHeartbeats 40000000 in
theorem rs_i4_1 (l : Launch) (Z : State) (a0 : Array Value) (hw : HW a0 Z) (ws : List Jvm.Cond) (a : Addr) (x : Addr) (kx : ClassId) (c0 : Int32) (cz : Int32) (h0 : Heap) (n0 : Nat) (Z0 : n0 ≤ h0.size) (A_a : Exa Z h0 a "java/lang/String") (F_value_a : Fld Z h0 a "java/lang/String" "value" "[B" .null) (F_coder_a : Fld Z h0 a "java/lang/String" "coder" "B" (.int 0)) (V_x : Arv Z h0 x kx .char 1 [(.int c0)] (.int 0)) (g_a : n0 ≤ a) (ne_x_a : x ≠ a) (sgC : Sta Z h0 "java/lang/String" "COMPACT_STRINGS" "Z" (.int cz)) (hcz : ¬ (cz = 0)) (hC_c0 : Chr c0) (sgA : Sta Z h0 "java/lang/StringUTF16" "$assertionsDisabled" "Z" (.int 1)) (sgH : Sta Z h0 "java/lang/StringUTF16" "HI_BYTE_SHIFT" "I" (.int 0)) (sgL : Sta Z h0 "java/lang/StringUTF16" "LO_BYTE_SHIFT" "I" (.int 8)) :
  Met l Z mN12 jdk_42_method_149_code 6 none ({ frames := 4, cells := 2, slots := 3, locals := 57 } : Room) ws #[(.ref a), (.ref x), (.int 0), (.int 1), .null] h0 (Q_rs_i4_1 Z a x kx c0 cz h0 n0) := by
 refine own_met (plainFor_of_name own_pn0) ?_
 intro p e s m below meth c s₁ hret hx hby hlk hml hown hnm X0 e0 hZ hh
 have N0 := Fr.nil n0
 refine Gz (castTop (own_ef_rs_i4_1 m a x)) ?_
 have KP : Keep h0 h0 [a] := Keep.refl _ _
 show Goes _ _ _ _ _ (fT s₁ m 0 #[vr a, vr x, vi 0, vi 1, .val .null, vu] [])
 by_cases hn_c0 : (255 : Int32) < c0
 ·show Goes _ _ _ _ _ (fT s₁ m 0 #[vr a, vr x, vi 0, vi 1, .val .null, vu] [])
  refine gA X0 hx hby d12_0 rfl rfl rfl ?_
  obtain ⟨T1, X1, e1, st1⟩ := initO X0 hx hZ hown (gw hw 16 rfl) (gw hw 17 rfl) (gw hw 18 rfl) e0 (g := (mkF m 1 #[vr a, vr x, vi 0, vi 1, .val .null, vu] [(.ref a)])) rfl hml.symm rfl (hb hby d12_1) (by decide) (W := 0) (wz rfl) (by decide)
  refine Gs st1 ?_
  show Goes _ _ _ _ _ (fT T1 m 4 #[vr a, vr x, vi 0, vi 1, .val .null, vu] [])
  refine gN X1 hx hby d12_4 rfl rfl ?_
  refine Gz (XS.ifYes X1.here hx rfl (pc0 := 5) (pc' := 27) rfl (hb hby d12_5) rfl ((if0 _ _).trans (feq (by decide : ¬ ((1 : Int32) = (0 : Int32)))).2) (by decide) (by decide)) ?_
  obtain ⟨T2, X2, e2, st2⟩ := getS2 X1 hx hZ hown (host := "") (Or.inl (gw hw 51 rfl)) Via.refl e1 sgC (g := (mkF m 27 #[vr a, vr x, vi 0, vi 1, .val .null, vu] [])) rfl (hb hby d12_27)
  refine Gs st2 ?_
  show Goes _ _ _ _ _ (fT T2 m 30 #[vr a, vr x, vi 0, vi 1, .val .null, vu] [(.int cz)])
  refine Gz (XS.ifNo X2.here hx rfl (hb hby d12_30) rfl ((if0 _ _).trans (feq hcz).1)) ?_
  refine gA X2 hx hby d12_33 rfl rfl rfl ?_
  refine gN X2 hx hby d12_34 rfl rfl ?_
  refine gN X2 hx hby d12_35 rfl rfl ?_
  have ltc3_a : a < h0.size := A_a.lt
  have ltc3_x : x < h0.size := V_x.lt
  obtain ⟨_, _, ⟨T3, L3, k3, n3⟩, -, X3, ⟨Lc3, hQ3, l3, y3, z3⟩, st3⟩ := Jvm.LawKit.callS X2 hx (y := mN19) hown (gz hZ hw 53 rfl) (gz hZ hw 54 rfl) (gz hZ hw 55 rfl) (gz hZ hw 56 rfl) (by decide) (backOf (W := 0) (rs_c3_1_0 l Z a0 hw [] x kx c0 h0 n0 Z0 V_x (by first | assumption | decide) (by first | assumption | decide) sgA sgH sgL) hZ (gw hw 56 rfl) (gw hw 55 rfl) (by decide) (by decide)) (g := (mkF m 36 #[vr a, vr x, vi 0, vi 1, .val .null, vu] [(.int 1), (.int 0), (.ref x)])) rfl hml.symm (argsL := [(.ref x), (.int 0), (.int 1)]) (rest := []) (lenOf own_pd14 rfl) rfl (wz rfl) (hb hby d12_36) (fun _ _ => ⟨rfl, e2, (by decide : 0 + 2 ≤ _), (by decide : 0 + 3 ≤ _)⟩)
  dsimp only [Pt.U, Pt.locs, Pt.cells, Pt.slots] at X3 l3 y3 z3 st3 hQ3
  subst l3 y3 z3
  obtain ⟨y3, ky3, rfl, N3q, K3, V_y3_3', g_y3_3', sz_y3_3'⟩ := hQ3
  have N3 := Fr.app N0 N3q
  replace sgC := own_staK sgC K3 all0
  replace A_a := A_a.keep K3
  replace F_value_a := F_value_a.keep K3 nin0
  replace F_coder_a := F_coder_a.keep K3 nin0
  replace V_x := V_x.keep K3 nin0
  replace KP := KP.trans K3 all0
  replace Z0 := Nat.le_trans Z0 K3.1
  have V_y3 := V_y3_3'
  have g_y3 := g_y3_3'
  have szc_y3 := sz_y3_3'
  have ne_a_y3 : a ≠ y3 := Nat.ne_of_lt (Nat.lt_of_lt_of_le ltc3_a szc_y3)
  have ne_x_y3 : x ≠ y3 := Nat.ne_of_lt (Nat.lt_of_lt_of_le ltc3_x szc_y3)
  refine Gs st3 ?_
  show Goes _ _ _ _ _ (fT T3 m 39 #[vr a, vr x, vi 0, vi 1, .val .null, vu] [(.ref y3)])
  refine Gz (XS.astore X3.here hx rfl (hb hby d12_39) rfl rfl (l' := #[vr a, vr x, vi 0, vi 1, .val .null, vr y3]) rfl) ?_
  refine gA X3 hx hby d12_41 rfl rfl rfl ?_
  refine Gz (XS.aload X3.here hx rfl (hb hby d12_42) rfl rfl) ?_
  refine gN X3 hx hby d12_44 rfl rfl ?_
  obtain ⟨_, _, ⟨T4, L4, k4, n4⟩, -, X4, ⟨Lc4, hQ4, l4, y4, z4⟩, st4⟩ := Jvm.LawKit.callS X3 hx (y := mN20) hown (gz hZ hw 79 rfl) (gz hZ hw 80 rfl) (gz hZ hw 55 rfl) (gz hZ hw 81 rfl) (by decide) (backOf (W := 1) (rs_cf_1_2 l Z a0 hw [] y3 ky3 [(.int (lo8 c0)), (.int (hi8 c0))] T3.heap n0 Z0 V_y3) hZ (gw hw 81 rfl) (gw hw 55 rfl) (by decide) (by decide)) (g := (mkF m 45 #[vr a, vr x, vi 0, vi 1, .val .null, vr y3] [(.int 1), (.ref y3), (.ref a)])) rfl hml.symm (argsL := [(.ref y3), (.int 1)]) (rest := [(.ref a)]) (lenOf own_pd15 rfl) rfl (wz rfl) (hb hby d12_45) (fun _ _ => ⟨rfl, rfl, (by decide : 2 + 0 ≤ _), (by decide : 3 + 0 ≤ _)⟩)
  dsimp only [Pt.U, Pt.locs, Pt.cells, Pt.slots] at X4 l4 y4 z4 st4 hQ4
  subst l4 y4 z4
  obtain ⟨rfl, N4q, e4⟩ := hQ4
  have N4 := Fr.app N3 N4q
  refine Gs st4 ?_
  show Goes _ _ _ _ _ (fT T4 m 48 #[vr a, vr x, vi 0, vi 1, .val .null, vr y3] [(.int 1), (.ref a)])
  obtain ⟨T5, h5, X5, e5, W5, st5⟩ := putFN X4 hx hZ hown (gw hw 26 rfl) Via.refl e4 F_coder_a A_a (Or.inr ⟨(gw hw 22 rfl), rfl, hnm⟩) (gw hw 7 rfl) (ty := .byte) (v' := .int 1) (by decide) rfl rfl (g := (mkF m 48 #[vr a, vr x, vi 0, vi 1, .val .null, vr y3] [(.int 1), (.ref a)])) rfl rfl (hb hby d12_48)
  have N5 := Fr.snoc X5 N4 g_a
  replace A_a := A_a.wr W5
  replace F_value_a := F_value_a.other W5 (Or.inr (slot_ne (Or.inr (gw hw 21 rfl)) (Or.inr (gw hw 22 rfl)) (by decide) (t := (.array .byte)) (t' := .byte) (by decide) (by decide)))
  replace V_x := V_x.other W5 ne_x_a
  replace sgC := sgC.wr W5
  replace V_y3 := V_y3.other W5 (Ne.symm ne_a_y3)
  replace KP := KP.wr W5 (Or.inl (List.mem_of_getElem? (i := 0) rfl))
  replace F_coder_a := F_coder_a.same W5
  replace Z0 : n0 ≤ h5.size := by rw [W5.size]; exact Z0
  refine Gs st5 ?_
  show Goes _ _ _ _ _ (fT T5 m 51 #[vr a, vr x, vi 0, vi 1, .val .null, vr y3] [])
  refine gA X5 hx hby d12_51 rfl rfl rfl ?_
  refine Gz (XS.aload X5.here hx rfl (hb hby d12_52) rfl rfl) ?_
  obtain ⟨T6, h6, X6, e6, W6, st6⟩ := putF X5 hx hZ hown (host := "") (Or.inl (gw hw 25 rfl)) Via.refl e5 F_value_a A_a (Or.inr ⟨(gw hw 21 rfl), rfl, hnm⟩) (gw hw 7 rfl) (ty := (.array .byte)) (by decide) rfl rfl (g := (mkF m 54 #[vr a, vr x, vi 0, vi 1, .val .null, vr y3] [(.ref y3), (.ref a)])) rfl rfl (hb hby d12_54)
  have N6 := Fr.snoc X6 N5 g_a
  replace A_a := A_a.wr W6
  replace F_coder_a := F_coder_a.other W6 (Or.inr (slot_ne (Or.inr (gw hw 22 rfl)) (Or.inr (gw hw 21 rfl)) (by decide) (t := .byte) (t' := (.array .byte)) (by decide) (by decide)))
  replace V_x := V_x.other W6 ne_x_a
  replace sgC := sgC.wr W6
  replace V_y3 := V_y3.other W6 (Ne.symm ne_a_y3)
  replace KP := KP.wr W6 (Or.inl (List.mem_of_getElem? (i := 0) rfl))
  replace F_value_a := F_value_a.same W6
  replace Z0 : n0 ≤ h6.size := by rw [W6.size]; exact Z0
  refine Gs st6 ?_
  show Goes _ _ _ _ _ (fT T6 m 57 #[vr a, vr x, vi 0, vi 1, .val .null, vr y3] [])
  have T_a : StrOf Z h6 a [c0] := StrOf.utf A_a F_value_a F_coder_a V_y3 (by intro c hc; simp only [List.mem_cons, List.not_mem_nil, or_false] at hc; rcases hc with rfl <;> first | assumption | (exact own_toLat (by assumption) (by assumption))) rfl rfl (Nat.le_of_ble_eq_true rfl)
  refine Goes.ret X6 none (fun _ => rfl) hlk (by decide) (by decide) ?_ (fun fs hr => ?_)
  ·rw [e6]; exact ⟨rfl, N6, KP, T_a⟩
  ·exact X6.returnOut hx hret (hb hby d12_57) hr
 ·show Goes _ _ _ _ _ (fT s₁ m 0 #[vr a, vr x, vi 0, vi 1, .val .null, vu] [])
  refine gA X0 hx hby d12_0 rfl rfl rfl ?_
  obtain ⟨T7, X7, e7, st7⟩ := initO X0 hx hZ hown (gw hw 16 rfl) (gw hw 17 rfl) (gw hw 18 rfl) e0 (g := (mkF m 1 #[vr a, vr x, vi 0, vi 1, .val .null, vu] [(.ref a)])) rfl hml.symm rfl (hb hby d12_1) (by decide) (W := 0) (wz rfl) (by decide)
  refine Gs st7 ?_
  show Goes _ _ _ _ _ (fT T7 m 4 #[vr a, vr x, vi 0, vi 1, .val .null, vu] [])
  refine gN X7 hx hby d12_4 rfl rfl ?_
  refine Gz (XS.ifYes X7.here hx rfl (pc0 := 5) (pc' := 27) rfl (hb hby d12_5) rfl ((if0 _ _).trans (feq (by decide : ¬ ((1 : Int32) = (0 : Int32)))).2) (by decide) (by decide)) ?_
  obtain ⟨T8, X8, e8, st8⟩ := getS2 X7 hx hZ hown (host := "") (Or.inl (gw hw 51 rfl)) Via.refl e7 sgC (g := (mkF m 27 #[vr a, vr x, vi 0, vi 1, .val .null, vu] [])) rfl (hb hby d12_27)
  refine Gs st8 ?_
  show Goes _ _ _ _ _ (fT T8 m 30 #[vr a, vr x, vi 0, vi 1, .val .null, vu] [(.int cz)])
  refine Gz (XS.ifNo X8.here hx rfl (hb hby d12_30) rfl ((if0 _ _).trans (feq hcz).1)) ?_
  refine gA X8 hx hby d12_33 rfl rfl rfl ?_
  refine gN X8 hx hby d12_34 rfl rfl ?_
  refine gN X8 hx hby d12_35 rfl rfl ?_
  have ltc9_a : a < h0.size := A_a.lt
  have ltc9_x : x < h0.size := V_x.lt
  obtain ⟨_, _, ⟨T9, L9, k9, n9⟩, -, X9, ⟨Lc9, hQ9, l9, y9, z9⟩, st9⟩ := Jvm.LawKit.callS X8 hx (y := mN19) hown (gz hZ hw 53 rfl) (gz hZ hw 54 rfl) (gz hZ hw 55 rfl) (gz hZ hw 56 rfl) (by decide) (backOf (W := 0) (rs_c3_1_1 l Z a0 hw [] x kx c0 h0 n0 Z0 V_x (by first | assumption | decide)) hZ (gw hw 56 rfl) (gw hw 55 rfl) (by decide) (by decide)) (g := (mkF m 36 #[vr a, vr x, vi 0, vi 1, .val .null, vu] [(.int 1), (.int 0), (.ref x)])) rfl hml.symm (argsL := [(.ref x), (.int 0), (.int 1)]) (rest := []) (lenOf own_pd14 rfl) rfl (wz rfl) (hb hby d12_36) (fun _ _ => ⟨rfl, e8, (by decide : 0 + 1 ≤ _), (by decide : 0 + 1 ≤ _)⟩)
  dsimp only [Pt.U, Pt.locs, Pt.cells, Pt.slots] at X9 l9 y9 z9 st9 hQ9
  subst l9 y9 z9
  obtain ⟨y9, ky9, rfl, N9q, K9, V_y9_9', g_y9_9', sz_y9_9'⟩ := hQ9
  have N9 := Fr.app N0 N9q
  replace A_a := A_a.keep K9
  replace F_value_a := F_value_a.keep K9 nin0
  replace F_coder_a := F_coder_a.keep K9 nin0
  replace KP := KP.trans K9 all0
  replace Z0 := Nat.le_trans Z0 K9.1
  have V_y9 := V_y9_9'
  have g_y9 := g_y9_9'
  have szc_y9 := sz_y9_9'
  have ne_a_y9 : a ≠ y9 := Nat.ne_of_lt (Nat.lt_of_lt_of_le ltc9_a szc_y9)
  have ne_x_y9 : x ≠ y9 := Nat.ne_of_lt (Nat.lt_of_lt_of_le ltc9_x szc_y9)
  refine Gs st9 ?_
  show Goes _ _ _ _ _ (fT T9 m 39 #[vr a, vr x, vi 0, vi 1, .val .null, vu] [(.ref y9)])
  refine Gz (XS.astore X9.here hx rfl (hb hby d12_39) rfl rfl (l' := #[vr a, vr x, vi 0, vi 1, .val .null, vr y9]) rfl) ?_
  refine gA X9 hx hby d12_41 rfl rfl rfl ?_
  refine Gz (XS.aload X9.here hx rfl (hb hby d12_42) rfl rfl) ?_
  refine gN X9 hx hby d12_44 rfl rfl ?_
  obtain ⟨_, _, ⟨T10, L10, k10, n10⟩, -, X10, ⟨Lc10, hQ10, l10, y10, z10⟩, st10⟩ := Jvm.LawKit.callS X9 hx (y := mN20) hown (gz hZ hw 79 rfl) (gz hZ hw 80 rfl) (gz hZ hw 55 rfl) (gz hZ hw 81 rfl) (by decide) (backOf (W := 1) (rs_cf_1_1 l Z a0 hw [] y9 ky9 [(.int (lo8 c0))] T9.heap n0 Z0 V_y9) hZ (gw hw 81 rfl) (gw hw 55 rfl) (by decide) (by decide)) (g := (mkF m 45 #[vr a, vr x, vi 0, vi 1, .val .null, vr y9] [(.int 1), (.ref y9), (.ref a)])) rfl hml.symm (argsL := [(.ref y9), (.int 1)]) (rest := [(.ref a)]) (lenOf own_pd15 rfl) rfl (wz rfl) (hb hby d12_45) (fun _ _ => ⟨rfl, rfl, (by decide : 1 + 0 ≤ _), (by decide : 1 + 0 ≤ _)⟩)
  dsimp only [Pt.U, Pt.locs, Pt.cells, Pt.slots] at X10 l10 y10 z10 st10 hQ10
  subst l10 y10 z10
  obtain ⟨rfl, N10q, e10⟩ := hQ10
  have N10 := Fr.app N9 N10q
  refine Gs st10 ?_
  show Goes _ _ _ _ _ (fT T10 m 48 #[vr a, vr x, vi 0, vi 1, .val .null, vr y9] [(.int 0), (.ref a)])
  obtain ⟨T11, h11, X11, e11, W11, st11⟩ := putFN X10 hx hZ hown (gw hw 26 rfl) Via.refl e10 F_coder_a A_a (Or.inr ⟨(gw hw 22 rfl), rfl, hnm⟩) (gw hw 7 rfl) (ty := .byte) (v' := .int 0) (by decide) rfl rfl (g := (mkF m 48 #[vr a, vr x, vi 0, vi 1, .val .null, vr y9] [(.int 0), (.ref a)])) rfl rfl (hb hby d12_48)
  have N11 := Fr.snoc X11 N10 g_a
  replace A_a := A_a.wr W11
  replace F_value_a := F_value_a.other W11 (Or.inr (slot_ne (Or.inr (gw hw 21 rfl)) (Or.inr (gw hw 22 rfl)) (by decide) (t := (.array .byte)) (t' := .byte) (by decide) (by decide)))
  replace V_y9 := V_y9.other W11 (Ne.symm ne_a_y9)
  replace KP := KP.wr W11 (Or.inl (List.mem_of_getElem? (i := 0) rfl))
  replace F_coder_a := F_coder_a.same W11
  replace Z0 : n0 ≤ h11.size := by rw [W11.size]; exact Z0
  refine Gs st11 ?_
  show Goes _ _ _ _ _ (fT T11 m 51 #[vr a, vr x, vi 0, vi 1, .val .null, vr y9] [])
  refine gA X11 hx hby d12_51 rfl rfl rfl ?_
  refine Gz (XS.aload X11.here hx rfl (hb hby d12_52) rfl rfl) ?_
  obtain ⟨T12, h12, X12, e12, W12, st12⟩ := putF X11 hx hZ hown (host := "") (Or.inl (gw hw 25 rfl)) Via.refl e11 F_value_a A_a (Or.inr ⟨(gw hw 21 rfl), rfl, hnm⟩) (gw hw 7 rfl) (ty := (.array .byte)) (by decide) rfl rfl (g := (mkF m 54 #[vr a, vr x, vi 0, vi 1, .val .null, vr y9] [(.ref y9), (.ref a)])) rfl rfl (hb hby d12_54)
  have N12 := Fr.snoc X12 N11 g_a
  replace A_a := A_a.wr W12
  replace F_coder_a := F_coder_a.other W12 (Or.inr (slot_ne (Or.inr (gw hw 22 rfl)) (Or.inr (gw hw 21 rfl)) (by decide) (t := .byte) (t' := (.array .byte)) (by decide) (by decide)))
  replace V_y9 := V_y9.other W12 (Ne.symm ne_a_y9)
  replace KP := KP.wr W12 (Or.inl (List.mem_of_getElem? (i := 0) rfl))
  replace F_value_a := F_value_a.same W12
  replace Z0 : n0 ≤ h12.size := by rw [W12.size]; exact Z0
  refine Gs st12 ?_
  show Goes _ _ _ _ _ (fT T12 m 57 #[vr a, vr x, vi 0, vi 1, .val .null, vr y9] [])
  have T_a : StrOf Z h12 a [c0] := StrOf.latin A_a F_value_a F_coder_a V_y9 (by intro c hc; simp only [List.mem_cons, List.not_mem_nil, or_false] at hc; rcases hc with rfl <;> first | assumption | (exact own_toLat (by assumption) (by assumption))) rfl rfl (Nat.le_of_ble_eq_true rfl)
  refine Goes.ret X12 none (fun _ => rfl) hlk (by decide) (by decide) ?_ (fun fs hr => ?_)
  ·rw [e12]; exact ⟨rfl, N12, KP, T_a⟩
  ·exact X12.returnOut hx hret (hb hby d12_57) hr
theorem own_ef_rs_i1_1 (m : MethodId) (x0 : Addr) (x1 : Addr) : entryFrame m #[(.ref x0), (.ref x1)] 2 = mkF m 0 #[vr x0, vr x1] [] := by first | (simp [entryFrame, mkF, argsToLocals, Value.category]; done) | rfl
def Q_rs_i1_1 (Z : State) (a : Addr) (x : Addr) (kx : ClassId) (c0 : Int32) (cz : Int32) (h0 : Heap) (n0 : Nat) (v : Option Value) (h : Heap) (L : List Loc) : Prop := v = none ∧ Fr n0 L ∧ Keep h0 h [a] ∧ StrOf Z h a [c0]
set_option maxRecDepth 65536 in
set_option maxHeartbeats 40000000 in
theorem rs_i1_1 (l : Launch) (Z : State) (a0 : Array Value) (hw : HW a0 Z) (ws : List Jvm.Cond) (a : Addr) (x : Addr) (kx : ClassId) (c0 : Int32) (cz : Int32) (h0 : Heap) (n0 : Nat) (Z0 : n0 ≤ h0.size) (A_a : Exa Z h0 a "java/lang/String") (F_value_a : Fld Z h0 a "java/lang/String" "value" "[B" .null) (F_coder_a : Fld Z h0 a "java/lang/String" "coder" "B" (.int 0)) (V_x : Arv Z h0 x kx .char 1 [(.int c0)] (.int 0)) (g_a : n0 ≤ a) (ne_x_a : x ≠ a) (sgC : Sta Z h0 "java/lang/String" "COMPACT_STRINGS" "Z" (.int cz)) (hcz : ¬ (cz = 0)) (hC_c0 : Chr c0) (sgA : Sta Z h0 "java/lang/StringUTF16" "$assertionsDisabled" "Z" (.int 1)) (sgH : Sta Z h0 "java/lang/StringUTF16" "HI_BYTE_SHIFT" "I" (.int 0)) (sgL : Sta Z h0 "java/lang/StringUTF16" "LO_BYTE_SHIFT" "I" (.int 8)) :
  Met l Z mN13 jdk_42_method_3_code 2 none ({ frames := 5, cells := 2, slots := 3, locals := 74 } : Room) ws #[(.ref a), (.ref x)] h0 (Q_rs_i1_1 Z a x kx c0 cz h0 n0) := by
 refine own_met (plainFor_of_name own_pn0) ?_
 intro p e s m below meth c s₁ hret hx hby hlk hml hown hnm X0 e0 hZ hh
 have N0 := Fr.nil n0
 refine Gz (castTop (own_ef_rs_i1_1 m a x)) ?_
 have KP : Keep h0 h0 [a] := Keep.refl _ _
 show Goes _ _ _ _ _ (fT s₁ m 0 #[vr a, vr x] [])
 refine gA X0 hx hby d13_0 rfl rfl rfl ?_
 refine gA X0 hx hby d13_1 rfl rfl rfl ?_
 refine Gz (XS.iconst X0.here hx rfl (hb hby d13_2)) ?_
 refine gA X0 hx hby d13_3 rfl rfl rfl ?_
 obtain ⟨cl1, Ar1, -, S1, N1z, -, -⟩ := id V_x
 refine Gs (fun _ tk => X0.arraylength hx (by rw [e0]; exact Ar1.1) (State.isArrayOf_alike hZ.alike Ar1.2.1) (g := (mkF m 4 #[vr a, vr x] [(.ref x), (.int 0), (.ref x), (.ref a)])) rfl rfl (hb hby d13_4) _ tk) ?_
 rw [len_of S1 N1z]
 show Goes _ _ _ _ _ (fT s₁ m 5 #[vr a, vr x] [(.int 1), (.int 0), (.ref x), (.ref a)])
 refine Gz (XS.aconstNull X0.here hx rfl (hb hby d13_5)) ?_
 obtain ⟨_, _, ⟨T2, L2, k2, n2⟩, -, X2, ⟨Lc2, hQ2, l2, y2, z2⟩, st2⟩ := X0.specialBack hx (y := mN12) rfl hown (gz hZ hw 12 rfl) (gz hZ hw 13 rfl) (gz hZ hw 15 rfl) (by decide) (backOf (W := 0) (rs_i4_1 l Z a0 hw [] a x kx c0 cz h0 n0 Z0 A_a F_value_a F_coder_a V_x g_a ne_x_a sgC (by first | assumption | decide) (by first | assumption | decide) sgA sgH sgL) hZ (gw hw 15 rfl) (gw hw 8 rfl) (by decide) (by decide)) (g := (mkF m 6 #[vr a, vr x] [.null, (.int 1), (.int 0), (.ref x), (.ref a)])) rfl hml.symm (Steps.refl _) (a := a) (argsL := [(.ref x), (.int 0), (.int 1), .null]) (rest := []) (lenOf own_pd9 rfl) rfl (wz rfl) (hb hby d13_6) (fun _ _ => ⟨rfl, e0, (by decide : 0 + 2 ≤ _), (by decide : 0 + 3 ≤ _)⟩)
 dsimp only [Pt.U, Pt.locs, Pt.cells, Pt.slots] at X2 l2 y2 z2 st2 hQ2
 subst l2 y2 z2
 obtain ⟨rfl, N2q, K2, T_a_2'⟩ := hQ2
 have N2 := Fr.app N0 N2q
 replace KP := KP.trans K2 (allS (Or.inl (List.mem_of_getElem? (i := 0) rfl)) all0)
 replace Z0 := Nat.le_trans Z0 K2.1
 have T_a := T_a_2'
 refine Gs (fun _ tk => st2.trans tk) ?_
 show Goes _ _ _ _ _ (fT T2 m 9 #[vr a, vr x] [])
 refine Goes.ret X2 none (fun _ => rfl) hlk (by decide) (by decide) ?_ (fun fs hr => ?_)
 ·exact ⟨rfl, N2, KP, T_a⟩
 ·exact X2.returnOut hx hret (hb hby d13_9) hr
theorem own_ef_rs_pc_2_0 (m : MethodId) (x0 : Addr) (x2 : Int32) : entryFrame m #[(.ref x0), (.int 0), (.int x2)] 3 = mkF m 0 #[vr x0, vi 0, vi x2] [] := by first | (simp [entryFrame, mkF, argsToLocals, Value.category]; done) | rfl
def Q_rs_pc_2_0 (Z : State) (y : Addr) (ky : ClassId) (c0 : Int32) (h0 : Heap) (n0 : Nat) (v : Option Value) (h : Heap) (L : List Loc) : Prop := v = none ∧ Fr n0 L ∧ Keep h0 h [y] ∧ Arv Z h y ky .byte 4 [(.int (lo8 c0)), (.int (hi8 c0)), (.int 0), (.int 0)] (.int 0)
set_option maxRecDepth 65536 in
set_option maxHeartbeats 40000000 in
theorem rs_pc_2_0 (l : Launch) (Z : State) (a0 : Array Value) (hw : HW a0 Z) (ws : List Jvm.Cond) (y : Addr) (ky : ClassId) (c0 : Int32) (h0 : Heap) (n0 : Nat) (Z0 : n0 ≤ h0.size) (V_y : Arv Z h0 y ky .byte 4 [(.int 0), (.int 0), (.int 0), (.int 0)] (.int 0)) (g_y : n0 ≤ y) (sgA : Sta Z h0 "java/lang/StringUTF16" "$assertionsDisabled" "Z" (.int 1)) (sgH : Sta Z h0 "java/lang/StringUTF16" "HI_BYTE_SHIFT" "I" (.int 0)) (sgL : Sta Z h0 "java/lang/StringUTF16" "LO_BYTE_SHIFT" "I" (.int 8)) :
  Met l Z mN14 jdk_52_method_4_code 3 none ({ frames := 0, cells := 0, slots := 0, locals := 0 } : Room) ws #[(.ref y), (.int 0), (.int c0)] h0 (Q_rs_pc_2_0 Z y ky c0 h0 n0) := by
 refine own_met (plainFor_of_name own_pn2) ?_
 intro p e s m below meth c s₁ hret hx hby hlk hml hown hnm X0 e0 hZ hh
 have N0 := Fr.nil n0
 refine Gz (castTop (own_ef_rs_pc_2_0 m y c0)) ?_
 have KP : Keep h0 h0 [y] := Keep.refl _ _
 show Goes _ _ _ _ _ (fT s₁ m 0 #[vr y, vi 0, vi c0] [])
 obtain ⟨T1, X1, e1, st1⟩ := getS2 X0 hx hZ hown (host := "") (Or.inl (gw hw 73 rfl)) Via.refl e0 sgA (g := (mkF m 0 #[vr y, vi 0, vi c0] [])) rfl (hb hby d14_0)
 refine Gs st1 ?_
 show Goes _ _ _ _ _ (fT T1 m 3 #[vr y, vi 0, vi c0] [(.int 1)])
 refine Gz (XS.ifYes X1.here hx rfl (pc0 := 3) (pc' := 28) rfl (hb hby d14_3) rfl ((if0 _ _).trans (feq (by decide : ¬ ((1 : Int32) = (0 : Int32)))).2) (by decide) (by decide)) ?_
 refine gN X1 hx hby d14_28 rfl rfl ?_
 refine Gz (XS.iconst X1.here hx rfl (hb hby d14_29)) ?_
 show Goes _ _ _ _ _ (fT T1 m 30 #[vr y, vi 0, vi c0] [(.int 1), (.int 0)])
 refine Gz (XS.ishl X1.here hx rfl (hb hby d14_30) rfl) ?_
 rw [show ((0 : Int32) <<< ((1 : Int32) &&& 31)) = 0 from by decide]
 show Goes _ _ _ _ _ (fT T1 m 31 #[vr y, vi 0, vi c0] [(.int 0)])
 refine Gz (XS.istoreN X1.here hx rfl (hb hby d14_31) rfl (l' := #[vr y, vi 0, vi c0]) rfl) ?_
 refine gA X1 hx hby d14_32 rfl rfl rfl ?_
 refine gN X1 hx hby d14_33 rfl rfl ?_
 show Goes _ _ _ _ _ (fT T1 m 34 #[vr y, vi 0, vi c0] [(.int 0), (.ref y)])
 refine Gz (XS.iinc X1.here hx rfl (hb hby d14_34) rfl (l' := #[vr y, vi ((0 : Int32) + (1 : Int32)), vi c0]) rfl) ?_
 rw [show ((0 : Int32) + (1 : Int32)) = 1 from by decide]
 show Goes _ _ _ _ _ (fT T1 m 37 #[vr y, vi 1, vi c0] [(.int 0), (.ref y)])
 refine gN X1 hx hby d14_37 rfl rfl ?_
 obtain ⟨T2, X2, e2, st2⟩ := getS2 X1 hx hZ hown (host := "") (Or.inl (gw hw 74 rfl)) Via.refl e1 sgH (g := (mkF m 38 #[vr y, vi 1, vi c0] [(.int c0), (.int 0), (.ref y)])) rfl (hb hby d14_38)
 refine Gs st2 ?_
 show Goes _ _ _ _ _ (fT T2 m 41 #[vr y, vi 1, vi c0] [(.int 0), (.int c0), (.int 0), (.ref y)])
 refine Gz (XS.ishr X2.here hx rfl (hb hby d14_41) rfl) ?_
 show Goes _ _ _ _ _ (fT T2 m 42 #[vr y, vi 1, vi c0] [(.int (c0 >>> ((0 : Int32) &&& 31))), (.int 0), (.ref y)])
 rw [own_shr0]
 show Goes _ _ _ _ _ (fT T2 m 42 #[vr y, vi 1, vi c0] [(.int c0), (.int 0), (.ref y)])
 refine Gz (XS.i2b X2.here hx rfl (hb hby d14_42) rfl) ?_
 show Goes _ _ _ _ _ (fT T2 m 43 #[vr y, vi 1, vi c0] [(.int (c0.toInt8.toInt32)), (.int 0), (.ref y)])
 obtain ⟨cl3, Ar3, q3, S3, N3z, H3, G3⟩ := V_y
 have hin3 : ¬ ((0 : Int32) < 0 ∨ cl3.slots.size ≤ ((0 : Int32)).toNatClampNeg) := inb_of S3 ⟨by decide, by decide⟩
 obtain ⟨T3, h3, X3, e3, W3, st3⟩ := stB X2 hx hZ e2 Ar3 (j := (0 : Int32)) hin3 (g := (mkF m 43 #[vr y, vi 1, vi c0] [(.int (c0.toInt8.toInt32)), (.int 0), (.ref y)])) rfl rfl (hb hby d14_43)
 have Vn3 := Arv.set Ar3 q3 S3 N3z H3 G3 (fits_nar_byte _) W3 0 rfl (Nat.le_of_ble_eq_true rfl)
 have N3 := Fr.snoc X3 N0 g_y
 replace sgL := sgL.wr W3
 replace KP := KP.wr W3 (Or.inl (List.mem_of_getElem? (i := 0) rfl))
 have V_y : Arv Z h3 y ky .byte 4 [(.int (lo8 c0)), (.int 0), (.int 0), (.int 0)] (.int 0) := by have q := Vn3; rw [own_nb2] at q; exact q
 replace Z0 : n0 ≤ h3.size := by rw [W3.size]; exact Z0
 refine Gs st3 ?_
 show Goes _ _ _ _ _ (fT T3 m 44 #[vr y, vi 1, vi c0] [])
 refine gA X3 hx hby d14_44 rfl rfl rfl ?_
 refine gN X3 hx hby d14_45 rfl rfl ?_
 refine gN X3 hx hby d14_46 rfl rfl ?_
 obtain ⟨T4, X4, e4, st4⟩ := getS2 X3 hx hZ hown (host := "") (Or.inl (gw hw 75 rfl)) Via.refl e3 sgL (g := (mkF m 47 #[vr y, vi 1, vi c0] [(.int c0), (.int 1), (.ref y)])) rfl (hb hby d14_47)
 refine Gs st4 ?_
 show Goes _ _ _ _ _ (fT T4 m 50 #[vr y, vi 1, vi c0] [(.int 8), (.int c0), (.int 1), (.ref y)])
 refine Gz (XS.ishr X4.here hx rfl (hb hby d14_50) rfl) ?_
 show Goes _ _ _ _ _ (fT T4 m 51 #[vr y, vi 1, vi c0] [(.int (c0 >>> ((8 : Int32) &&& 31))), (.int 1), (.ref y)])
 refine Gz (XS.i2b X4.here hx rfl (hb hby d14_51) rfl) ?_
 show Goes _ _ _ _ _ (fT T4 m 52 #[vr y, vi 1, vi c0] [(.int ((c0 >>> ((8 : Int32) &&& 31)).toInt8.toInt32)), (.int 1), (.ref y)])
 obtain ⟨cl5, Ar5, q5, S5, N5z, H5, G5⟩ := V_y
 have hin5 : ¬ ((1 : Int32) < 0 ∨ cl5.slots.size ≤ ((1 : Int32)).toNatClampNeg) := inb_of S5 ⟨by decide, by decide⟩
 obtain ⟨T5, h5, X5, e5, W5, st5⟩ := stB X4 hx hZ e4 Ar5 (j := (1 : Int32)) hin5 (g := (mkF m 52 #[vr y, vi 1, vi c0] [(.int ((c0 >>> ((8 : Int32) &&& 31)).toInt8.toInt32)), (.int 1), (.ref y)])) rfl rfl (hb hby d14_52)
 have Vn5 := Arv.set Ar5 q5 S5 N5z H5 G5 (fits_nar_byte _) W5 1 rfl (Nat.le_of_ble_eq_true rfl)
 have N5 := Fr.snoc X5 N3 g_y
 replace KP := KP.wr W5 (Or.inl (List.mem_of_getElem? (i := 0) rfl))
 have V_y : Arv Z h5 y ky .byte 4 [(.int (lo8 c0)), (.int (hi8 c0)), (.int 0), (.int 0)] (.int 0) := by have q := Vn5; rw [own_nbh2] at q; exact q
 replace Z0 : n0 ≤ h5.size := by rw [W5.size]; exact Z0
 refine Gs st5 ?_
 show Goes _ _ _ _ _ (fT T5 m 53 #[vr y, vi 1, vi c0] [])
 refine Goes.ret X5 none (fun _ => rfl) hlk (by decide) (by decide) ?_ (fun fs hr => ?_)
 ·rw [e5]; exact ⟨rfl, N5, KP, V_y⟩
 ·exact X5.returnOut hx hret (hb hby d14_53) hr
theorem own_ef_rs_pc_2_1 (m : MethodId) (x0 : Addr) (x2 : Int32) : entryFrame m #[(.ref x0), (.int 1), (.int x2)] 3 = mkF m 0 #[vr x0, vi 1, vi x2] [] := by first | (simp [entryFrame, mkF, argsToLocals, Value.category]; done) | rfl
def Q_rs_pc_2_1 (Z : State) (y : Addr) (ky : ClassId) (c0 : Int32) (c1 : Int32) (h0 : Heap) (n0 : Nat) (v : Option Value) (h : Heap) (L : List Loc) : Prop := v = none ∧ Fr n0 L ∧ Keep h0 h [y] ∧ Arv Z h y ky .byte 4 [(.int (lo8 c0)), (.int (hi8 c0)), (.int (lo8 c1)), (.int (hi8 c1))] (.int 0)
set_option maxRecDepth 65536 in
set_option maxHeartbeats 40000000 in
theorem rs_pc_2_1 (l : Launch) (Z : State) (a0 : Array Value) (hw : HW a0 Z) (ws : List Jvm.Cond) (y : Addr) (ky : ClassId) (c0 : Int32) (c1 : Int32) (h0 : Heap) (n0 : Nat) (Z0 : n0 ≤ h0.size) (V_y : Arv Z h0 y ky .byte 4 [(.int (lo8 c0)), (.int (hi8 c0)), (.int 0), (.int 0)] (.int 0)) (g_y : n0 ≤ y) (sgA : Sta Z h0 "java/lang/StringUTF16" "$assertionsDisabled" "Z" (.int 1)) (sgH : Sta Z h0 "java/lang/StringUTF16" "HI_BYTE_SHIFT" "I" (.int 0)) (sgL : Sta Z h0 "java/lang/StringUTF16" "LO_BYTE_SHIFT" "I" (.int 8)) :
  Met l Z mN14 jdk_52_method_4_code 3 none ({ frames := 0, cells := 0, slots := 0, locals := 0 } : Room) ws #[(.ref y), (.int 1), (.int c1)] h0 (Q_rs_pc_2_1 Z y ky c0 c1 h0 n0) := by
 refine own_met (plainFor_of_name own_pn2) ?_
 intro p e s m below meth c s₁ hret hx hby hlk hml hown hnm X0 e0 hZ hh
 have N0 := Fr.nil n0
 refine Gz (castTop (own_ef_rs_pc_2_1 m y c1)) ?_
 have KP : Keep h0 h0 [y] := Keep.refl _ _
 show Goes _ _ _ _ _ (fT s₁ m 0 #[vr y, vi 1, vi c1] [])
 obtain ⟨T1, X1, e1, st1⟩ := getS2 X0 hx hZ hown (host := "") (Or.inl (gw hw 73 rfl)) Via.refl e0 sgA (g := (mkF m 0 #[vr y, vi 1, vi c1] [])) rfl (hb hby d14_0)
 refine Gs st1 ?_
 show Goes _ _ _ _ _ (fT T1 m 3 #[vr y, vi 1, vi c1] [(.int 1)])
 refine Gz (XS.ifYes X1.here hx rfl (pc0 := 3) (pc' := 28) rfl (hb hby d14_3) rfl ((if0 _ _).trans (feq (by decide : ¬ ((1 : Int32) = (0 : Int32)))).2) (by decide) (by decide)) ?_
 refine gN X1 hx hby d14_28 rfl rfl ?_
 refine Gz (XS.iconst X1.here hx rfl (hb hby d14_29)) ?_
 show Goes _ _ _ _ _ (fT T1 m 30 #[vr y, vi 1, vi c1] [(.int 1), (.int 1)])
 refine Gz (XS.ishl X1.here hx rfl (hb hby d14_30) rfl) ?_
 rw [show ((1 : Int32) <<< ((1 : Int32) &&& 31)) = 2 from by decide]
 show Goes _ _ _ _ _ (fT T1 m 31 #[vr y, vi 1, vi c1] [(.int 2)])
 refine Gz (XS.istoreN X1.here hx rfl (hb hby d14_31) rfl (l' := #[vr y, vi 2, vi c1]) rfl) ?_
 refine gA X1 hx hby d14_32 rfl rfl rfl ?_
 refine gN X1 hx hby d14_33 rfl rfl ?_
 show Goes _ _ _ _ _ (fT T1 m 34 #[vr y, vi 2, vi c1] [(.int 2), (.ref y)])
 refine Gz (XS.iinc X1.here hx rfl (hb hby d14_34) rfl (l' := #[vr y, vi ((2 : Int32) + (1 : Int32)), vi c1]) rfl) ?_
 rw [show ((2 : Int32) + (1 : Int32)) = 3 from by decide]
 show Goes _ _ _ _ _ (fT T1 m 37 #[vr y, vi 3, vi c1] [(.int 2), (.ref y)])
 refine gN X1 hx hby d14_37 rfl rfl ?_
 obtain ⟨T2, X2, e2, st2⟩ := getS2 X1 hx hZ hown (host := "") (Or.inl (gw hw 74 rfl)) Via.refl e1 sgH (g := (mkF m 38 #[vr y, vi 3, vi c1] [(.int c1), (.int 2), (.ref y)])) rfl (hb hby d14_38)
 refine Gs st2 ?_
 show Goes _ _ _ _ _ (fT T2 m 41 #[vr y, vi 3, vi c1] [(.int 0), (.int c1), (.int 2), (.ref y)])
 refine Gz (XS.ishr X2.here hx rfl (hb hby d14_41) rfl) ?_
 show Goes _ _ _ _ _ (fT T2 m 42 #[vr y, vi 3, vi c1] [(.int (c1 >>> ((0 : Int32) &&& 31))), (.int 2), (.ref y)])
 rw [own_shr0]
 show Goes _ _ _ _ _ (fT T2 m 42 #[vr y, vi 3, vi c1] [(.int c1), (.int 2), (.ref y)])
 refine Gz (XS.i2b X2.here hx rfl (hb hby d14_42) rfl) ?_
 show Goes _ _ _ _ _ (fT T2 m 43 #[vr y, vi 3, vi c1] [(.int (c1.toInt8.toInt32)), (.int 2), (.ref y)])
 obtain ⟨cl3, Ar3, q3, S3, N3z, H3, G3⟩ := V_y
 have hin3 : ¬ ((2 : Int32) < 0 ∨ cl3.slots.size ≤ ((2 : Int32)).toNatClampNeg) := inb_of S3 ⟨by decide, by decide⟩
 obtain ⟨T3, h3, X3, e3, W3, st3⟩ := stB X2 hx hZ e2 Ar3 (j := (2 : Int32)) hin3 (g := (mkF m 43 #[vr y, vi 3, vi c1] [(.int (c1.toInt8.toInt32)), (.int 2), (.ref y)])) rfl rfl (hb hby d14_43)
 have Vn3 := Arv.set Ar3 q3 S3 N3z H3 G3 (fits_nar_byte _) W3 2 rfl (Nat.le_of_ble_eq_true rfl)
 have N3 := Fr.snoc X3 N0 g_y
 replace sgL := sgL.wr W3
 replace KP := KP.wr W3 (Or.inl (List.mem_of_getElem? (i := 0) rfl))
 have V_y : Arv Z h3 y ky .byte 4 [(.int (lo8 c0)), (.int (hi8 c0)), (.int (lo8 c1)), (.int 0)] (.int 0) := by have q := Vn3; rw [own_nb2] at q; exact q
 replace Z0 : n0 ≤ h3.size := by rw [W3.size]; exact Z0
 refine Gs st3 ?_
 show Goes _ _ _ _ _ (fT T3 m 44 #[vr y, vi 3, vi c1] [])
 refine gA X3 hx hby d14_44 rfl rfl rfl ?_
 refine gN X3 hx hby d14_45 rfl rfl ?_
 refine gN X3 hx hby d14_46 rfl rfl ?_
 obtain ⟨T4, X4, e4, st4⟩ := getS2 X3 hx hZ hown (host := "") (Or.inl (gw hw 75 rfl)) Via.refl e3 sgL (g := (mkF m 47 #[vr y, vi 3, vi c1] [(.int c1), (.int 3), (.ref y)])) rfl (hb hby d14_47)
 refine Gs st4 ?_
 show Goes _ _ _ _ _ (fT T4 m 50 #[vr y, vi 3, vi c1] [(.int 8), (.int c1), (.int 3), (.ref y)])
 refine Gz (XS.ishr X4.here hx rfl (hb hby d14_50) rfl) ?_
 show Goes _ _ _ _ _ (fT T4 m 51 #[vr y, vi 3, vi c1] [(.int (c1 >>> ((8 : Int32) &&& 31))), (.int 3), (.ref y)])
 refine Gz (XS.i2b X4.here hx rfl (hb hby d14_51) rfl) ?_
 show Goes _ _ _ _ _ (fT T4 m 52 #[vr y, vi 3, vi c1] [(.int ((c1 >>> ((8 : Int32) &&& 31)).toInt8.toInt32)), (.int 3), (.ref y)])
 obtain ⟨cl5, Ar5, q5, S5, N5z, H5, G5⟩ := V_y
 have hin5 : ¬ ((3 : Int32) < 0 ∨ cl5.slots.size ≤ ((3 : Int32)).toNatClampNeg) := inb_of S5 ⟨by decide, by decide⟩
 obtain ⟨T5, h5, X5, e5, W5, st5⟩ := stB X4 hx hZ e4 Ar5 (j := (3 : Int32)) hin5 (g := (mkF m 52 #[vr y, vi 3, vi c1] [(.int ((c1 >>> ((8 : Int32) &&& 31)).toInt8.toInt32)), (.int 3), (.ref y)])) rfl rfl (hb hby d14_52)
 have Vn5 := Arv.set Ar5 q5 S5 N5z H5 G5 (fits_nar_byte _) W5 3 rfl (Nat.le_of_ble_eq_true rfl)
 have N5 := Fr.snoc X5 N3 g_y
 replace KP := KP.wr W5 (Or.inl (List.mem_of_getElem? (i := 0) rfl))
 have V_y : Arv Z h5 y ky .byte 4 [(.int (lo8 c0)), (.int (hi8 c0)), (.int (lo8 c1)), (.int (hi8 c1))] (.int 0) := by have q := Vn5; rw [own_nbh2] at q; exact q
 replace Z0 : n0 ≤ h5.size := by rw [W5.size]; exact Z0
 refine Gs st5 ?_
 show Goes _ _ _ _ _ (fT T5 m 53 #[vr y, vi 3, vi c1] [])
 refine Goes.ret X5 none (fun _ => rfl) hlk (by decide) (by decide) ?_ (fun fs hr => ?_)
 ·rw [e5]; exact ⟨rfl, N5, KP, V_y⟩
 ·exact X5.returnOut hx hret (hb hby d14_53) hr
theorem own_ef_rs_nbl_2 (m : MethodId)  : entryFrame m #[(.int 2)] 1 = mkF m 0 #[vi 2] [] := by first | (simp [entryFrame, mkF, argsToLocals, Value.category]; done) | rfl
def Q_rs_nbl_2 (Z : State)  (h0 : Heap) (n0 : Nat) (v : Option Value) (h : Heap) (L : List Loc) : Prop := v = some (.int 4) ∧ Fr n0 L ∧ h = h0
set_option maxRecDepth 65536 in
set_option maxHeartbeats 40000000 in
theorem rs_nbl_2 (l : Launch) (Z : State) (a0 : Array Value) (hw : HW a0 Z) (ws : List Jvm.Cond)  (h0 : Heap) (n0 : Nat) (Z0 : n0 ≤ h0.size) :
  Met l Z mN15 jdk_52_method_3_code 1 (some .int) ({ frames := 0, cells := 0, slots := 0, locals := 0 } : Room) ws #[(.int 2)] h0 (Q_rs_nbl_2 Z  h0 n0) := by
 refine own_met (plainFor_of_name own_pn2) ?_
 intro p e s m below meth c s₁ hret hx hby hlk hml hown hnm X0 e0 hZ hh
 have N0 := Fr.nil n0
 refine Gz (castTop (own_ef_rs_nbl_2 m )) ?_
 show Goes _ _ _ _ _ (fT s₁ m 0 #[vi 2] [])
 refine gN X0 hx hby d15_0 rfl rfl ?_
 refine Gz (XS.ifYes X0.here hx rfl (pc0 := 1) (pc' := 12) rfl (hb hby d15_1) rfl ((if0 _ _).trans (flt (by decide : ¬ ((2 : Int32) < (0 : Int32)))).2.1) (by decide) (by decide)) ?_
 refine gN X0 hx hby d15_12 rfl rfl ?_
 refine Gz (Jvm.Stand.ldcI X0 hx hown (gz hZ hw 69 rfl) rfl (hb hby d15_13)) ?_
 show Goes _ _ _ _ _ (fT s₁ m 15 #[vi 2] [(.int 1073741823), (.int 2)])
 refine Gz (XS.icmpYes X0.here hx rfl (pc0 := 15) (pc' := 55) rfl (hb hby d15_15) rfl (tlt (by decide : ((2 : Int32) < (1073741823 : Int32)))).1 (by decide) (by decide)) ?_
 refine gN X0 hx hby d15_55 rfl rfl ?_
 refine Gz (XS.iconst X0.here hx rfl (hb hby d15_56)) ?_
 show Goes _ _ _ _ _ (fT s₁ m 57 #[vi 2] [(.int 1), (.int 2)])
 refine Gz (XS.ishl X0.here hx rfl (hb hby d15_57) rfl) ?_
 rw [show ((2 : Int32) <<< ((1 : Int32) &&& 31)) = 4 from by decide]
 show Goes _ _ _ _ _ (fT s₁ m 58 #[vi 2] [(.int 4)])
 refine Goes.ret X0 (some (.int 4)) (fun h => by rw [hret] at h; cases h) hlk (by decide) (by decide) ?_ (fun fs hr => ?_)
 ·exact ⟨rfl, N0, e0⟩
 ·exact retI X0 hx hret (hb hby d15_58) hr
theorem own_ef_rs_nbf_2 (m : MethodId)  : entryFrame m #[(.int 2)] 1 = mkF m 0 #[vi 2] [] := by first | (simp [entryFrame, mkF, argsToLocals, Value.category]; done) | rfl
def Q_rs_nbf_2 (Z : State)  (h0 : Heap) (n0 : Nat) (v : Option Value) (h : Heap) (L : List Loc) : Prop := ∃ y : Addr, ∃ ky : ClassId, v = some (.ref y) ∧ Fr n0 L ∧ Keep h0 h [] ∧ Arv Z h y ky .byte 4 [(.int 0), (.int 0), (.int 0), (.int 0)] (.int 0) ∧ n0 ≤ y ∧ h0.size ≤ y
set_option maxRecDepth 65536 in
set_option maxHeartbeats 40000000 in
theorem rs_nbf_2 (l : Launch) (Z : State) (a0 : Array Value) (hw : HW a0 Z) (ws : List Jvm.Cond)  (h0 : Heap) (n0 : Nat) (Z0 : n0 ≤ h0.size) :
  Met l Z mN16 jdk_52_method_2_code 1 (some (.array .byte)) ({ frames := 1, cells := 1, slots := 4, locals := 12 } : Room) ws #[(.int 2)] h0 (Q_rs_nbf_2 Z  h0 n0) := by
 refine own_met (plainFor_of_name own_pn2) ?_
 intro p e s m below meth c s₁ hret hx hby hlk hml hown hnm X0 e0 hZ hh
 have N0 := Fr.nil n0
 refine Gz (castTop (own_ef_rs_nbf_2 m )) ?_
 have KP : Keep h0 h0 [] := Keep.refl _ _
 show Goes _ _ _ _ _ (fT s₁ m 0 #[vi 2] [])
 refine gN X0 hx hby d16_0 rfl rfl ?_
 obtain ⟨_, _, ⟨T1, L1, k1, n1⟩, -, X1, ⟨Lc1, hQ1, l1, y1, z1⟩, st1⟩ := Jvm.LawKit.callS X0 hx (y := mN15) hown (gz hZ hw 66 rfl) (gz hZ hw 67 rfl) (gz hZ hw 55 rfl) (gz hZ hw 68 rfl) (by decide) (backOf (W := 0) (rs_nbl_2 l Z a0 hw []  h0 n0 Z0) hZ (gw hw 68 rfl) (gw hw 55 rfl) (by decide) (by decide)) (g := (mkF m 1 #[vi 2] [(.int 2)])) rfl hml.symm (argsL := [(.int 2)]) (rest := []) (lenOf own_pd10 rfl) rfl (wz rfl) (hb hby d16_1) (fun _ _ => ⟨rfl, e0, z0, z0⟩)
 dsimp only [Pt.U, Pt.locs, Pt.cells, Pt.slots] at X1 l1 y1 z1 st1 hQ1
 subst l1 y1 z1
 obtain ⟨rfl, N1q, e1⟩ := hQ1
 have N1 := Fr.app N0 N1q
 refine Gs st1 ?_
 show Goes _ _ _ _ _ (fT T1 m 4 #[vi 2] [(.int 4)])
 obtain ⟨T2, h2, k2, X2, e2, E2, A2, st2⟩ := newP X1 hx hZ (gw hw 20 rfl) e1 (g := (mkF m 4 #[vi 2] [(.int 4)])) rfl (hb hby d16_4) rfl (by decide) (cap := 4) (by decide) (by decide) (by decide) (by decide)
 obtain ⟨b2, gq2⟩ : ∃ z, z = h0.size := ⟨_, rfl⟩
 rw [← gq2] at A2 st2
 have g_b2 : n0 ≤ b2 := by rw [gq2]; exact Z0
 have sz_b2 : h0.size ≤ b2 := by rw [gq2]; exact KP.1
 replace KP := KP.ext E2
 replace Z0 : n0 ≤ h2.size := Nat.le_trans Z0 E2.1
 have V_b2 : Arv Z h2 b2 k2 .byte 4 [(.int 0), (.int 0), (.int 0), (.int 0)] (.int 0) := (Arv.new A2 (by decide)).pad (pad_rep [] (.int 0) 4)
 refine Gs st2 ?_
 show Goes _ _ _ _ _ (fT T2 m 6 #[vi 2] [(.ref b2)])
 refine Goes.ret X2 (some (.ref b2)) (fun h => by rw [hret] at h; cases h) hlk (by decide) (by decide) ?_ (fun fs hr => ?_)
 ·rw [e2]; exact ⟨b2, k2, rfl, N1, KP, V_b2, g_b2, sz_b2⟩
 ·exact own_retA X2 hx hret rfl rfl (hb hby d16_6) hr
theorem own_ef_rs_tb_2 (m : MethodId) (x0 : Addr) : entryFrame m #[(.ref x0), (.int 0), (.int 2)] 5 = mkF m 0 #[vr x0, vi 0, vi 2, vu, vu] [] := by first | (simp [entryFrame, mkF, argsToLocals, Value.category]; done) | rfl
def Q_rs_tb_2 (Z : State) (x : Addr) (kx : ClassId) (c0 : Int32) (c1 : Int32) (h0 : Heap) (n0 : Nat) (v : Option Value) (h : Heap) (L : List Loc) : Prop := ∃ y : Addr, ∃ ky : ClassId, v = some (.ref y) ∧ Fr n0 L ∧ Keep h0 h [] ∧ Arv Z h y ky .byte 4 [(.int (lo8 c0)), (.int (hi8 c0)), (.int (lo8 c1)), (.int (hi8 c1))] (.int 0) ∧ n0 ≤ y ∧ h0.size ≤ y
set_option maxRecDepth 65536 in
set_option maxHeartbeats 40000000 in
theorem rs_tb_2 (l : Launch) (Z : State) (a0 : Array Value) (hw : HW a0 Z) (ws : List Jvm.Cond) (x : Addr) (kx : ClassId) (c0 : Int32) (c1 : Int32) (h0 : Heap) (n0 : Nat) (Z0 : n0 ≤ h0.size) (V_x : Arv Z h0 x kx .char 2 [(.int c0), (.int c1)] (.int 0)) (sgA : Sta Z h0 "java/lang/StringUTF16" "$assertionsDisabled" "Z" (.int 1)) (sgH : Sta Z h0 "java/lang/StringUTF16" "HI_BYTE_SHIFT" "I" (.int 0)) (sgL : Sta Z h0 "java/lang/StringUTF16" "LO_BYTE_SHIFT" "I" (.int 8)) :
  Met l Z mN17 jdk_52_method_14_code 5 (some (.array .byte)) ({ frames := 2, cells := 1, slots := 4, locals := 24 } : Room) ws #[(.ref x), (.int 0), (.int 2)] h0 (Q_rs_tb_2 Z x kx c0 c1 h0 n0) := by
 refine own_met (plainFor_of_name own_pn2) ?_
 intro p e s m below meth c s₁ hret hx hby hlk hml hown hnm X0 e0 hZ hh
 have N0 := Fr.nil n0
 refine Gz (castTop (own_ef_rs_tb_2 m x)) ?_
 have KP : Keep h0 h0 [] := Keep.refl _ _
 show Goes _ _ _ _ _ (fT s₁ m 0 #[vr x, vi 0, vi 2, vu, vu] [])
 refine gN X0 hx hby d17_0 rfl rfl ?_
 have ltc1_x : x < h0.size := V_x.lt
 have szs1 : h0.size ≤ h0.size := KP.1
 obtain ⟨_, _, ⟨T1, L1, k1, n1⟩, -, X1, ⟨Lc1, hQ1, l1, y1, z1⟩, st1⟩ := Jvm.LawKit.callS X0 hx (y := mN16) hown (gz hZ hw 63 rfl) (gz hZ hw 64 rfl) (gz hZ hw 55 rfl) (gz hZ hw 65 rfl) (by decide) (backOf (W := 0) (rs_nbf_2 l Z a0 hw []  h0 n0 Z0) hZ (gw hw 65 rfl) (gw hw 55 rfl) (by decide) (by decide)) (g := (mkF m 1 #[vr x, vi 0, vi 2, vu, vu] [(.int 2)])) rfl hml.symm (argsL := [(.int 2)]) (rest := []) (lenOf own_pd11 rfl) rfl (wz rfl) (hb hby d17_1) (fun _ _ => ⟨rfl, e0, (by decide : 0 + 1 ≤ _), (by decide : 0 + 4 ≤ _)⟩)
 dsimp only [Pt.U, Pt.locs, Pt.cells, Pt.slots] at X1 l1 y1 z1 st1 hQ1
 subst l1 y1 z1
 obtain ⟨y1, ky1, rfl, N1q, K1, V_y1_1', g_y1_1', sz_y1_1'⟩ := hQ1
 have N1 := Fr.app N0 N1q
 replace sgA := own_staK sgA K1 all0
 replace sgH := own_staK sgH K1 all0
 replace sgL := own_staK sgL K1 all0
 replace V_x := V_x.keep K1 nin0
 replace KP := KP.trans K1 all0
 replace Z0 := Nat.le_trans Z0 K1.1
 have V_y1 := V_y1_1'
 have g_y1 := g_y1_1'
 have szc_y1 := sz_y1_1'
 have ne_x_y1 : x ≠ y1 := Nat.ne_of_lt (Nat.lt_of_lt_of_le ltc1_x szc_y1)
 have sz_y1 : h0.size ≤ y1 := Nat.le_trans szs1 szc_y1
 refine Gs st1 ?_
 show Goes _ _ _ _ _ (fT T1 m 4 #[vr x, vi 0, vi 2, vu, vu] [(.ref y1)])
 refine Gz (XS.astoreN X1.here hx rfl (hb hby d17_4) rfl rfl (l' := #[vr x, vi 0, vi 2, vr y1, vu]) rfl) ?_
 refine Gz (XS.iconst X1.here hx rfl (hb hby d17_5)) ?_
 refine Gz (XS.istore X1.here hx rfl (hb hby d17_6) rfl (l' := #[vr x, vi 0, vi 2, vr y1, vi 0]) rfl) ?_
 refine gI X1 hx hby d17_8 rfl rfl ?_
 refine gN X1 hx hby d17_10 rfl rfl ?_
 refine Gz (XS.icmpNo X1.here hx rfl (hb hby d17_11) rfl (tlt (by decide : ((0 : Int32) < (2 : Int32)))).2.1) ?_
 show Goes _ _ _ _ _ (fT T1 m 14 #[vr x, vi 0, vi 2, vr y1, vi 0] [])
 refine gA X1 hx hby d17_14 rfl rfl rfl ?_
 refine gI X1 hx hby d17_15 rfl rfl ?_
 refine gA X1 hx hby d17_17 rfl rfl rfl ?_
 refine gN X1 hx hby d17_18 rfl rfl ?_
 obtain ⟨cl2, Ar2, -, S2, N2z, H2, -⟩ := id V_x
 have hin2 : ¬ ((0 : Int32) < 0 ∨ cl2.slots.size ≤ ((0 : Int32)).toNatClampNeg) := inb_of S2 ⟨by decide, by decide⟩
 have hat2 : cl2.slots[((0 : Int32)).toNatClampNeg]? = some (.int c0) := Has.at H2 hin2 rfl
 refine Gs (fun _ tk => X1.caload hx (j := (0 : Int32)) (v := (.int c0)) Ar2.1 (State.isArrayOf_alike hZ.alike Ar2.2.1) Ar2.2.2 hin2 hat2 (g := (mkF m 19 #[vr x, vi 0, vi 2, vr y1, vi 0] [(.int 0), (.ref x), (.int 0), (.ref y1)])) rfl rfl (hb hby d17_19) _ tk) ?_
 show Goes _ _ _ _ _ (fT T1 m 20 #[vr x, vi 0, vi 2, vr y1, vi 0] [(.int c0), (.int 0), (.ref y1)])
 obtain ⟨_, _, ⟨T3, L3, k3, n3⟩, -, X3, ⟨Lc3, hQ3, l3, y3, z3⟩, st3⟩ := Jvm.LawKit.callS X1 hx (y := mN14) hown (gz hZ hw 70 rfl) (gz hZ hw 71 rfl) (gz hZ hw 55 rfl) (gz hZ hw 72 rfl) (by decide) (backOf (W := 0) (rs_pc_2_0 l Z a0 hw [] y1 ky1 c0 T1.heap n0 Z0 V_y1 g_y1 sgA sgH sgL) hZ (gw hw 72 rfl) (gw hw 55 rfl) (by decide) (by decide)) (g := (mkF m 20 #[vr x, vi 0, vi 2, vr y1, vi 0] [(.int c0), (.int 0), (.ref y1)])) rfl hml.symm (argsL := [(.ref y1), (.int 0), (.int c0)]) (rest := []) (lenOf own_pd12 rfl) rfl (wz rfl) (hb hby d17_20) (fun _ _ => ⟨rfl, rfl, (by decide : 1 + 0 ≤ _), (by decide : 4 + 0 ≤ _)⟩)
 dsimp only [Pt.U, Pt.locs, Pt.cells, Pt.slots] at X3 l3 y3 z3 st3 hQ3
 subst l3 y3 z3
 obtain ⟨rfl, N3q, K3, V_y1_3'⟩ := hQ3
 have N3 := Fr.app N1 N3q
 replace sgA := own_staK sgA K3 (allS (own_obA V_y1) all0)
 replace sgH := own_staK sgH K3 (allS (own_obA V_y1) all0)
 replace sgL := own_staK sgL K3 (allS (own_obA V_y1) all0)
 replace V_x := V_x.keep K3 (ninS ne_x_y1 nin0)
 replace KP := KP.trans K3 (allS (Or.inr sz_y1) all0)
 replace Z0 := Nat.le_trans Z0 K3.1
 have V_y1 := V_y1_3'
 refine Gs st3 ?_
 show Goes _ _ _ _ _ (fT T3 m 23 #[vr x, vi 0, vi 2, vr y1, vi 0] [])
 refine Gz (XS.iinc X3.here hx rfl (hb hby d17_23) rfl (l' := #[vr x, vi ((0 : Int32) + (1 : Int32)), vi 2, vr y1, vi 0]) rfl) ?_
 rw [show ((0 : Int32) + (1 : Int32)) = 1 from by decide]
 show Goes _ _ _ _ _ (fT T3 m 26 #[vr x, vi 1, vi 2, vr y1, vi 0] [])
 refine Gz (XS.iinc X3.here hx rfl (hb hby d17_26) rfl (l' := #[vr x, vi 1, vi 2, vr y1, vi ((0 : Int32) + (1 : Int32))]) rfl) ?_
 rw [show ((0 : Int32) + (1 : Int32)) = 1 from by decide]
 show Goes _ _ _ _ _ (fT T3 m 29 #[vr x, vi 1, vi 2, vr y1, vi 1] [])
 refine Gz (XS.goto X3.here hx rfl (pc0 := 29) (pc' := 8) rfl (hb hby d17_29) (by decide) (by decide)) ?_
 refine gI X3 hx hby d17_8 rfl rfl ?_
 refine gN X3 hx hby d17_10 rfl rfl ?_
 refine Gz (XS.icmpNo X3.here hx rfl (hb hby d17_11) rfl (tlt (by decide : ((1 : Int32) < (2 : Int32)))).2.1) ?_
 refine gA X3 hx hby d17_14 rfl rfl rfl ?_
 refine gI X3 hx hby d17_15 rfl rfl ?_
 show Goes _ _ _ _ _ (fT T3 m 17 #[vr x, vi 1, vi 2, vr y1, vi 1] [(.int 1), (.ref y1)])
 refine gA X3 hx hby d17_17 rfl rfl rfl ?_
 refine gN X3 hx hby d17_18 rfl rfl ?_
 obtain ⟨cl4, Ar4, -, S4, N4z, H4, -⟩ := id V_x
 have hin4 : ¬ ((1 : Int32) < 0 ∨ cl4.slots.size ≤ ((1 : Int32)).toNatClampNeg) := inb_of S4 ⟨by decide, by decide⟩
 have hat4 : cl4.slots[((1 : Int32)).toNatClampNeg]? = some (.int c1) := Has.at H4 hin4 rfl
 refine Gs (fun _ tk => X3.caload hx (j := (1 : Int32)) (v := (.int c1)) Ar4.1 (State.isArrayOf_alike hZ.alike Ar4.2.1) Ar4.2.2 hin4 hat4 (g := (mkF m 19 #[vr x, vi 1, vi 2, vr y1, vi 1] [(.int 1), (.ref x), (.int 1), (.ref y1)])) rfl rfl (hb hby d17_19) _ tk) ?_
 show Goes _ _ _ _ _ (fT T3 m 20 #[vr x, vi 1, vi 2, vr y1, vi 1] [(.int c1), (.int 1), (.ref y1)])
 obtain ⟨_, _, ⟨T5, L5, k5, n5⟩, -, X5, ⟨Lc5, hQ5, l5, y5, z5⟩, st5⟩ := Jvm.LawKit.callS X3 hx (y := mN14) hown (gz hZ hw 70 rfl) (gz hZ hw 71 rfl) (gz hZ hw 55 rfl) (gz hZ hw 72 rfl) (by decide) (backOf (W := 0) (rs_pc_2_1 l Z a0 hw [] y1 ky1 c0 c1 T3.heap n0 Z0 V_y1 g_y1 sgA sgH sgL) hZ (gw hw 72 rfl) (gw hw 55 rfl) (by decide) (by decide)) (g := (mkF m 20 #[vr x, vi 1, vi 2, vr y1, vi 1] [(.int c1), (.int 1), (.ref y1)])) rfl hml.symm (argsL := [(.ref y1), (.int 1), (.int c1)]) (rest := []) (lenOf own_pd12 rfl) rfl (wz rfl) (hb hby d17_20) (fun _ _ => ⟨rfl, rfl, (by decide : 1 + 0 ≤ _), (by decide : 4 + 0 ≤ _)⟩)
 dsimp only [Pt.U, Pt.locs, Pt.cells, Pt.slots] at X5 l5 y5 z5 st5 hQ5
 subst l5 y5 z5
 obtain ⟨rfl, N5q, K5, V_y1_5'⟩ := hQ5
 have N5 := Fr.app N3 N5q
 replace KP := KP.trans K5 (allS (Or.inr sz_y1) all0)
 replace Z0 := Nat.le_trans Z0 K5.1
 have V_y1 := V_y1_5'
 refine Gs st5 ?_
 show Goes _ _ _ _ _ (fT T5 m 23 #[vr x, vi 1, vi 2, vr y1, vi 1] [])
 refine Gz (XS.iinc X5.here hx rfl (hb hby d17_23) rfl (l' := #[vr x, vi ((1 : Int32) + (1 : Int32)), vi 2, vr y1, vi 1]) rfl) ?_
 rw [show ((1 : Int32) + (1 : Int32)) = 2 from by decide]
 show Goes _ _ _ _ _ (fT T5 m 26 #[vr x, vi 2, vi 2, vr y1, vi 1] [])
 refine Gz (XS.iinc X5.here hx rfl (hb hby d17_26) rfl (l' := #[vr x, vi 2, vi 2, vr y1, vi ((1 : Int32) + (1 : Int32))]) rfl) ?_
 rw [show ((1 : Int32) + (1 : Int32)) = 2 from by decide]
 show Goes _ _ _ _ _ (fT T5 m 29 #[vr x, vi 2, vi 2, vr y1, vi 2] [])
 refine Gz (XS.goto X5.here hx rfl (pc0 := 29) (pc' := 8) rfl (hb hby d17_29) (by decide) (by decide)) ?_
 refine gI X5 hx hby d17_8 rfl rfl ?_
 refine gN X5 hx hby d17_10 rfl rfl ?_
 refine Gz (XS.icmpYes X5.here hx rfl (pc0 := 11) (pc' := 32) rfl (hb hby d17_11) rfl (flt (by decide : ¬ ((2 : Int32) < (2 : Int32)))).2.1 (by decide) (by decide)) ?_
 refine gA X5 hx hby d17_32 rfl rfl rfl ?_
 refine Goes.ret X5 (some (.ref y1)) (fun h => by rw [hret] at h; cases h) hlk (by decide) (by decide) ?_ (fun fs hr => ?_)
 ·exact ⟨y1, ky1, rfl, N5, KP, V_y1, g_y1, sz_y1⟩
 ·exact own_retA X5 hx hret rfl rfl (hb hby d17_33) hr
theorem own_ef_rs_c5_2_0 (m : MethodId) (x0 : Addr) (x2 : Addr) : entryFrame m #[(.ref x0), (.int 0), (.ref x2), (.int 0), (.int 2)] 7 = mkF m 0 #[vr x0, vi 0, vr x2, vi 0, vi 2, vu, vu] [] := by first | (simp [entryFrame, mkF, argsToLocals, Value.category]; done) | rfl
def Q_rs_c5_2_0 (Z : State) (x : Addr) (kx : ClassId) (y : Addr) (ky : ClassId) (c0 : Int32) (c1 : Int32) (h0 : Heap) (n0 : Nat) (v : Option Value) (h : Heap) (L : List Loc) : Prop := v = some (.int 0) ∧ Fr n0 L ∧ Keep h0 h [y] ∧ Arv Z h y ky .byte 2 [(.int 0), (.int 0)] (.int 0)
set_option maxRecDepth 65536 in
set_option maxHeartbeats 40000000 in
theorem rs_c5_2_0 (l : Launch) (Z : State) (a0 : Array Value) (hw : HW a0 Z) (ws : List Jvm.Cond) (x : Addr) (kx : ClassId) (y : Addr) (ky : ClassId) (c0 : Int32) (c1 : Int32) (h0 : Heap) (n0 : Nat) (Z0 : n0 ≤ h0.size) (V_x : Arv Z h0 x kx .char 2 [(.int c0), (.int c1)] (.int 0)) (V_y : Arv Z h0 y ky .byte 2 [(.int 0), (.int 0)] (.int 0)) (g_y : n0 ≤ y) (ne_x_y : x ≠ y) (hn_c0 : (255 : Int32) < c0) :
  Met l Z mN18 jdk_52_method_21_code 7 (some .int) ({ frames := 0, cells := 0, slots := 0, locals := 0 } : Room) ws #[(.ref x), (.int 0), (.ref y), (.int 0), (.int 2)] h0 (Q_rs_c5_2_0 Z x kx y ky c0 c1 h0 n0) := by
 refine own_met (plainFor_of_name own_pn2) ?_
 intro p e s m below meth c s₁ hret hx hby hlk hml hown hnm X0 e0 hZ hh
 have N0 := Fr.nil n0
 refine Gz (castTop (own_ef_rs_c5_2_0 m x y)) ?_
 have KP : Keep h0 h0 [y] := Keep.refl _ _
 show Goes _ _ _ _ _ (fT s₁ m 0 #[vr x, vi 0, vr y, vi 0, vi 2, vu, vu] [])
 refine Gz (XS.iconst X0.here hx rfl (hb hby d18_0)) ?_
 refine Gz (XS.istore X0.here hx rfl (hb hby d18_1) rfl (l' := #[vr x, vi 0, vr y, vi 0, vi 2, vi 0, vu]) rfl) ?_
 refine gI X0 hx hby d18_3 rfl rfl ?_
 refine gI X0 hx hby d18_5 rfl rfl ?_
 refine Gz (XS.icmpNo X0.here hx rfl (hb hby d18_7) rfl (tlt (by decide : ((0 : Int32) < (2 : Int32)))).2.1) ?_
 refine gA X0 hx hby d18_10 rfl rfl rfl ?_
 show Goes _ _ _ _ _ (fT s₁ m 11 #[vr x, vi 0, vr y, vi 0, vi 2, vi 0, vu] [(.ref x)])
 refine gN X0 hx hby d18_11 rfl rfl ?_
 obtain ⟨cl1, Ar1, -, S1, N1z, H1, -⟩ := id V_x
 have hin1 : ¬ ((0 : Int32) < 0 ∨ cl1.slots.size ≤ ((0 : Int32)).toNatClampNeg) := inb_of S1 ⟨by decide, by decide⟩
 have hat1 : cl1.slots[((0 : Int32)).toNatClampNeg]? = some (.int c0) := Has.at H1 hin1 rfl
 refine Gs (fun _ tk => X0.caload hx (j := (0 : Int32)) (v := (.int c0)) (by rw [e0]; exact Ar1.1) (State.isArrayOf_alike hZ.alike Ar1.2.1) Ar1.2.2 hin1 hat1 (g := (mkF m 12 #[vr x, vi 0, vr y, vi 0, vi 2, vi 0, vu] [(.int 0), (.ref x)])) rfl rfl (hb hby d18_12) _ tk) ?_
 show Goes _ _ _ _ _ (fT s₁ m 13 #[vr x, vi 0, vr y, vi 0, vi 2, vi 0, vu] [(.int c0)])
 refine Gz (XS.istore X0.here hx rfl (hb hby d18_13) rfl (l' := #[vr x, vi 0, vr y, vi 0, vi 2, vi 0, vi c0]) rfl) ?_
 refine gI X0 hx hby d18_15 rfl rfl ?_
 refine Gz (XS.sipush X0.here hx rfl (hb hby d18_17)) ?_
 refine Gz (XS.icmpNo X0.here hx rfl (hb hby d18_20) rfl (tlt hn_c0).2.2.2) ?_
 refine gI X0 hx hby d18_23 rfl rfl ?_
 refine Goes.ret X0 (some (.int 0)) (fun h => by rw [hret] at h; cases h) hlk (by decide) (by decide) ?_ (fun fs hr => ?_)
 ·rw [e0]; exact ⟨rfl, N0, KP, V_y⟩
 ·exact retI X0 hx hret (hb hby d18_25) hr
theorem own_ef_rs_c3_2_0 (m : MethodId) (x0 : Addr) : entryFrame m #[(.ref x0), (.int 0), (.int 2)] 6 = mkF m 0 #[vr x0, vi 0, vi 2, vu, vu, vu] [] := by first | (simp [entryFrame, mkF, argsToLocals, Value.category]; done) | rfl
def Q_rs_c3_2_0 (Z : State) (x : Addr) (kx : ClassId) (c0 : Int32) (c1 : Int32) (h0 : Heap) (n0 : Nat) (v : Option Value) (h : Heap) (L : List Loc) : Prop := ∃ y : Addr, ∃ ky : ClassId, v = some (.ref y) ∧ Fr n0 L ∧ Keep h0 h [] ∧ Arv Z h y ky .byte 4 [(.int (lo8 c0)), (.int (hi8 c0)), (.int (lo8 c1)), (.int (hi8 c1))] (.int 0) ∧ n0 ≤ y ∧ h0.size ≤ y
set_option maxRecDepth 65536 in
set_option maxHeartbeats 40000000 in
theorem rs_c3_2_0 (l : Launch) (Z : State) (a0 : Array Value) (hw : HW a0 Z) (ws : List Jvm.Cond) (x : Addr) (kx : ClassId) (c0 : Int32) (c1 : Int32) (h0 : Heap) (n0 : Nat) (Z0 : n0 ≤ h0.size) (V_x : Arv Z h0 x kx .char 2 [(.int c0), (.int c1)] (.int 0)) (hn_c0 : (255 : Int32) < c0) (hC_c0 : Chr c0) (hC_c1 : Chr c1) (sgA : Sta Z h0 "java/lang/StringUTF16" "$assertionsDisabled" "Z" (.int 1)) (sgH : Sta Z h0 "java/lang/StringUTF16" "HI_BYTE_SHIFT" "I" (.int 0)) (sgL : Sta Z h0 "java/lang/StringUTF16" "LO_BYTE_SHIFT" "I" (.int 8)) :
  Met l Z mN19 jdk_52_method_16_code 6 (some (.array .byte)) ({ frames := 3, cells := 2, slots := 6, locals := 40 } : Room) ws #[(.ref x), (.int 0), (.int 2)] h0 (Q_rs_c3_2_0 Z x kx c0 c1 h0 n0) := by
 refine own_met (plainFor_of_name own_pn2) ?_
 intro p e s m below meth c s₁ hret hx hby hlk hml hown hnm X0 e0 hZ hh
 have N0 := Fr.nil n0
 refine Gz (castTop (own_ef_rs_c3_2_0 m x)) ?_
 have KP : Keep h0 h0 [] := Keep.refl _ _
 show Goes _ _ _ _ _ (fT s₁ m 0 #[vr x, vi 0, vi 2, vu, vu, vu] [])
 refine gN X0 hx hby d19_0 rfl rfl ?_
 obtain ⟨T1, h1, k1, X1, e1, E1, A1, st1⟩ := newP X0 hx hZ (gw hw 20 rfl) e0 (g := (mkF m 1 #[vr x, vi 0, vi 2, vu, vu, vu] [(.int 2)])) rfl (hb hby d19_1) rfl (by decide) (cap := 2) (by decide) (by decide) (by decide) (by decide)
 obtain ⟨b1, gq1⟩ : ∃ z, z = h0.size := ⟨_, rfl⟩
 rw [← gq1] at A1 st1
 have g_b1 : n0 ≤ b1 := by rw [gq1]; exact Z0
 have sz_b1 : h0.size ≤ b1 := by rw [gq1]; exact KP.1
 have ne_x_b1 : x ≠ b1 := by rw [gq1]; exact Nat.ne_of_lt V_x.lt
 replace V_x := V_x.ext E1
 replace sgA := sgA.ext E1
 replace sgH := sgH.ext E1
 replace sgL := sgL.ext E1
 replace KP := KP.ext E1
 replace Z0 : n0 ≤ h1.size := Nat.le_trans Z0 E1.1
 have V_b1 : Arv Z h1 b1 k1 .byte 2 [(.int 0), (.int 0)] (.int 0) := (Arv.new A1 (by decide)).pad (pad_rep [] (.int 0) 2)
 refine Gs st1 ?_
 show Goes _ _ _ _ _ (fT T1 m 3 #[vr x, vi 0, vi 2, vu, vu, vu] [(.ref b1)])
 refine Gz (XS.astoreN X1.here hx rfl (hb hby d19_3) rfl rfl (l' := #[vr x, vi 0, vi 2, vr b1, vu, vu]) rfl) ?_
 refine gA X1 hx hby d19_4 rfl rfl rfl ?_
 refine gN X1 hx hby d19_5 rfl rfl ?_
 refine gA X1 hx hby d19_6 rfl rfl rfl ?_
 refine Gz (XS.iconst X1.here hx rfl (hb hby d19_7)) ?_
 refine gN X1 hx hby d19_8 rfl rfl ?_
 show Goes _ _ _ _ _ (fT T1 m 9 #[vr x, vi 0, vi 2, vr b1, vu, vu] [(.int 2), (.int 0), (.ref b1), (.int 0), (.ref x)])
 obtain ⟨_, _, ⟨T2, L2, k2, n2⟩, -, X2, ⟨Lc2, hQ2, l2, y2, z2⟩, st2⟩ := Jvm.LawKit.callS X1 hx (y := mN18) hown (gz hZ hw 57 rfl) (gz hZ hw 58 rfl) (gz hZ hw 55 rfl) (gz hZ hw 59 rfl) (by decide) (backOf (W := 0) (rs_c5_2_0 l Z a0 hw [] x kx b1 k1 c0 c1 h1 n0 Z0 V_x V_b1 g_b1 ne_x_b1 (by first | assumption | decide)) hZ (gw hw 59 rfl) (gw hw 55 rfl) (by decide) (by decide)) (g := (mkF m 9 #[vr x, vi 0, vi 2, vr b1, vu, vu] [(.int 2), (.int 0), (.ref b1), (.int 0), (.ref x)])) rfl hml.symm (argsL := [(.ref x), (.int 0), (.ref b1), (.int 0), (.int 2)]) (rest := []) (lenOf own_pd13 rfl) rfl (wz rfl) (hb hby d19_9) (fun _ _ => ⟨rfl, e1, (by decide : 1 + 0 ≤ _), (by decide : 2 + 0 ≤ _)⟩)
 dsimp only [Pt.U, Pt.locs, Pt.cells, Pt.slots] at X2 l2 y2 z2 st2 hQ2
 subst l2 y2 z2
 obtain ⟨rfl, N2q, K2, V_b1_2'⟩ := hQ2
 have N2 := Fr.app N0 N2q
 replace sgA := own_staK sgA K2 (allS (own_obA V_b1) all0)
 replace sgH := own_staK sgH K2 (allS (own_obA V_b1) all0)
 replace sgL := own_staK sgL K2 (allS (own_obA V_b1) all0)
 replace V_x := V_x.keep K2 (ninS ne_x_b1 nin0)
 replace KP := KP.trans K2 (allS (Or.inr sz_b1) all0)
 replace Z0 := Nat.le_trans Z0 K2.1
 have V_b1 := V_b1_2'
 refine Gs st2 ?_
 show Goes _ _ _ _ _ (fT T2 m 12 #[vr x, vi 0, vi 2, vr b1, vu, vu] [(.int 0)])
 refine Gz (XS.istore X2.here hx rfl (hb hby d19_12) rfl (l' := #[vr x, vi 0, vi 2, vr b1, vi 0, vu]) rfl) ?_
 refine gI X2 hx hby d19_14 rfl rfl ?_
 refine gN X2 hx hby d19_16 rfl rfl ?_
 refine Gz (XS.icmpNo X2.here hx rfl (hb hby d19_17) rfl (feq (by decide : ¬ ((0 : Int32) = (2 : Int32)))).1) ?_
 refine gA X2 hx hby d19_20 rfl rfl rfl ?_
 refine gN X2 hx hby d19_21 rfl rfl ?_
 show Goes _ _ _ _ _ (fT T2 m 22 #[vr x, vi 0, vi 2, vr b1, vi 0, vu] [(.int 0), (.ref x)])
 refine gN X2 hx hby d19_22 rfl rfl ?_
 have ltc3_x : x < T2.heap.size := V_x.lt
 have ltc3_b1 : b1 < T2.heap.size := V_b1.lt
 have szs3 : h0.size ≤ T2.heap.size := KP.1
 obtain ⟨_, _, ⟨T3, L3, k3, n3⟩, -, X3, ⟨Lc3, hQ3, l3, y3, z3⟩, st3⟩ := Jvm.LawKit.callS X2 hx (y := mN17) hown (gz hZ hw 60 rfl) (gz hZ hw 61 rfl) (gz hZ hw 55 rfl) (gz hZ hw 62 rfl) (by decide) (backOf (W := 0) (rs_tb_2 l Z a0 hw [] x kx c0 c1 T2.heap n0 Z0 V_x sgA sgH sgL) hZ (gw hw 62 rfl) (gw hw 55 rfl) (by decide) (by decide)) (g := (mkF m 23 #[vr x, vi 0, vi 2, vr b1, vi 0, vu] [(.int 2), (.int 0), (.ref x)])) rfl hml.symm (argsL := [(.ref x), (.int 0), (.int 2)]) (rest := []) (lenOf own_pd14 rfl) rfl (wz rfl) (hb hby d19_23) (fun _ _ => ⟨rfl, rfl, (by decide : 1 + 1 ≤ _), (by decide : 2 + 4 ≤ _)⟩)
 dsimp only [Pt.U, Pt.locs, Pt.cells, Pt.slots] at X3 l3 y3 z3 st3 hQ3
 subst l3 y3 z3
 obtain ⟨y3, ky3, rfl, N3q, K3, V_y3_3', g_y3_3', sz_y3_3'⟩ := hQ3
 have N3 := Fr.app N2 N3q
 replace sgA := own_staK sgA K3 all0
 replace sgH := own_staK sgH K3 all0
 replace sgL := own_staK sgL K3 all0
 replace KP := KP.trans K3 all0
 replace Z0 := Nat.le_trans Z0 K3.1
 have V_y3 := V_y3_3'
 have g_y3 := g_y3_3'
 have szc_y3 := sz_y3_3'
 have ne_x_y3 : x ≠ y3 := Nat.ne_of_lt (Nat.lt_of_lt_of_le ltc3_x szc_y3)
 have ne_b1_y3 : b1 ≠ y3 := Nat.ne_of_lt (Nat.lt_of_lt_of_le ltc3_b1 szc_y3)
 have sz_y3 : h0.size ≤ y3 := Nat.le_trans szs3 szc_y3
 refine Gs st3 ?_
 show Goes _ _ _ _ _ (fT T3 m 26 #[vr x, vi 0, vi 2, vr b1, vi 0, vu] [(.ref y3)])
 refine Gz (XS.astore X3.here hx rfl (hb hby d19_26) rfl rfl (l' := #[vr x, vi 0, vi 2, vr b1, vi 0, vr y3]) rfl) ?_
 refine Gz (XS.aload X3.here hx rfl (hb hby d19_28) rfl rfl) ?_
 refine gI X3 hx hby d19_30 rfl rfl ?_
 obtain ⟨_, _, ⟨T4, L4, k4, n4⟩, -, X4, ⟨Lc4, hQ4, l4, y4, z4⟩, st4⟩ := Jvm.LawKit.callS X3 hx (y := mN5) hown (gz hZ hw 76 rfl) (gz hZ hw 77 rfl) (gz hZ hw 55 rfl) (gz hZ hw 78 rfl) (by decide) (backOf (W := 0) (rs_gch l Z a0 hw [] y3 ky3 [c0, c1] (0 : Int32) c0 T3.heap n0 Z0 V_y3 (by first | assumption | decide) (own_il 0 _ (by decide) (by simp) (Nat.le_of_ble_eq_true rfl)) rfl (Nat.le_of_ble_eq_true rfl) hC_c0 sgA sgH sgL) hZ (gw hw 78 rfl) (gw hw 55 rfl) (by decide) (by decide)) (g := (mkF m 32 #[vr x, vi 0, vi 2, vr b1, vi 0, vr y3] [(.int 0), (.ref y3)])) rfl hml.symm (argsL := [(.ref y3), (.int 0)]) (rest := []) (lenOf own_pd2 rfl) rfl (wz rfl) (hb hby d19_32) (fun _ _ => ⟨rfl, rfl, (by decide : 2 + 0 ≤ _), (by decide : 6 + 0 ≤ _)⟩)
 dsimp only [Pt.U, Pt.locs, Pt.cells, Pt.slots] at X4 l4 y4 z4 st4 hQ4
 subst l4 y4 z4
 obtain ⟨rfl, N4q, e4⟩ := hQ4
 have N4 := Fr.app N3 N4q
 refine Gs st4 ?_
 show Goes _ _ _ _ _ (fT T4 m 35 #[vr x, vi 0, vi 2, vr b1, vi 0, vr y3] [(.int c0)])
 refine Gz (XS.sipush X4.here hx rfl (hb hby d19_35)) ?_
 refine Gz (XS.icmpYes X4.here hx rfl (pc0 := 38) (pc' := 54) rfl (hb hby d19_38) rfl (tlt hn_c0).2.2.1 (by decide) (by decide)) ?_
 refine Gz (XS.aload X4.here hx rfl (hb hby d19_54) rfl rfl) ?_
 refine Goes.ret X4 (some (.ref y3)) (fun h => by rw [hret] at h; cases h) hlk (by decide) (by decide) ?_ (fun fs hr => ?_)
 ·rw [e4]; exact ⟨y3, ky3, rfl, N4, KP, V_y3, g_y3, sz_y3⟩
 ·exact own_retA X4 hx hret rfl rfl (hb hby d19_56) hr
theorem own_ef_rs_c5_2_1 (m : MethodId) (x0 : Addr) (x2 : Addr) : entryFrame m #[(.ref x0), (.int 0), (.ref x2), (.int 0), (.int 2)] 7 = mkF m 0 #[vr x0, vi 0, vr x2, vi 0, vi 2, vu, vu] [] := by first | (simp [entryFrame, mkF, argsToLocals, Value.category]; done) | rfl
def Q_rs_c5_2_1 (Z : State) (x : Addr) (kx : ClassId) (y : Addr) (ky : ClassId) (c0 : Int32) (c1 : Int32) (h0 : Heap) (n0 : Nat) (v : Option Value) (h : Heap) (L : List Loc) : Prop := v = some (.int 1) ∧ Fr n0 L ∧ Keep h0 h [y] ∧ Arv Z h y ky .byte 2 [(.int (lo8 c0)), (.int 0)] (.int 0)
set_option maxRecDepth 65536 in
set_option maxHeartbeats 40000000 in
theorem rs_c5_2_1 (l : Launch) (Z : State) (a0 : Array Value) (hw : HW a0 Z) (ws : List Jvm.Cond) (x : Addr) (kx : ClassId) (y : Addr) (ky : ClassId) (c0 : Int32) (c1 : Int32) (h0 : Heap) (n0 : Nat) (Z0 : n0 ≤ h0.size) (V_x : Arv Z h0 x kx .char 2 [(.int c0), (.int c1)] (.int 0)) (V_y : Arv Z h0 y ky .byte 2 [(.int 0), (.int 0)] (.int 0)) (g_y : n0 ≤ y) (ne_x_y : x ≠ y) (hn_c0 : ¬ ((255 : Int32) < c0)) (hn_c1 : (255 : Int32) < c1) :
  Met l Z mN18 jdk_52_method_21_code 7 (some .int) ({ frames := 0, cells := 0, slots := 0, locals := 0 } : Room) ws #[(.ref x), (.int 0), (.ref y), (.int 0), (.int 2)] h0 (Q_rs_c5_2_1 Z x kx y ky c0 c1 h0 n0) := by
 refine own_met (plainFor_of_name own_pn2) ?_
 intro p e s m below meth c s₁ hret hx hby hlk hml hown hnm X0 e0 hZ hh
 have N0 := Fr.nil n0
 refine Gz (castTop (own_ef_rs_c5_2_1 m x y)) ?_
 have KP : Keep h0 h0 [y] := Keep.refl _ _
 show Goes _ _ _ _ _ (fT s₁ m 0 #[vr x, vi 0, vr y, vi 0, vi 2, vu, vu] [])
 refine Gz (XS.iconst X0.here hx rfl (hb hby d18_0)) ?_
 refine Gz (XS.istore X0.here hx rfl (hb hby d18_1) rfl (l' := #[vr x, vi 0, vr y, vi 0, vi 2, vi 0, vu]) rfl) ?_
 refine gI X0 hx hby d18_3 rfl rfl ?_
 refine gI X0 hx hby d18_5 rfl rfl ?_
 refine Gz (XS.icmpNo X0.here hx rfl (hb hby d18_7) rfl (tlt (by decide : ((0 : Int32) < (2 : Int32)))).2.1) ?_
 refine gA X0 hx hby d18_10 rfl rfl rfl ?_
 show Goes _ _ _ _ _ (fT s₁ m 11 #[vr x, vi 0, vr y, vi 0, vi 2, vi 0, vu] [(.ref x)])
 refine gN X0 hx hby d18_11 rfl rfl ?_
 obtain ⟨cl1, Ar1, -, S1, N1z, H1, -⟩ := id V_x
 have hin1 : ¬ ((0 : Int32) < 0 ∨ cl1.slots.size ≤ ((0 : Int32)).toNatClampNeg) := inb_of S1 ⟨by decide, by decide⟩
 have hat1 : cl1.slots[((0 : Int32)).toNatClampNeg]? = some (.int c0) := Has.at H1 hin1 rfl
 refine Gs (fun _ tk => X0.caload hx (j := (0 : Int32)) (v := (.int c0)) (by rw [e0]; exact Ar1.1) (State.isArrayOf_alike hZ.alike Ar1.2.1) Ar1.2.2 hin1 hat1 (g := (mkF m 12 #[vr x, vi 0, vr y, vi 0, vi 2, vi 0, vu] [(.int 0), (.ref x)])) rfl rfl (hb hby d18_12) _ tk) ?_
 show Goes _ _ _ _ _ (fT s₁ m 13 #[vr x, vi 0, vr y, vi 0, vi 2, vi 0, vu] [(.int c0)])
 refine Gz (XS.istore X0.here hx rfl (hb hby d18_13) rfl (l' := #[vr x, vi 0, vr y, vi 0, vi 2, vi 0, vi c0]) rfl) ?_
 refine gI X0 hx hby d18_15 rfl rfl ?_
 refine Gz (XS.sipush X0.here hx rfl (hb hby d18_17)) ?_
 refine Gz (XS.icmpYes X0.here hx rfl (pc0 := 20) (pc' := 26) rfl (hb hby d18_20) rfl (flt hn_c0).2.2.2 (by decide) (by decide)) ?_
 refine gA X0 hx hby d18_26 rfl rfl rfl ?_
 refine gN X0 hx hby d18_27 rfl rfl ?_
 show Goes _ _ _ _ _ (fT s₁ m 28 #[vr x, vi 0, vr y, vi 0, vi 2, vi 0, vi c0] [(.int 0), (.ref y)])
 refine gI X0 hx hby d18_28 rfl rfl ?_
 show Goes _ _ _ _ _ (fT s₁ m 30 #[vr x, vi 0, vr y, vi 0, vi 2, vi 0, vi c0] [(.int c0), (.int 0), (.ref y)])
 refine Gz (XS.i2b X0.here hx rfl (hb hby d18_30) rfl) ?_
 show Goes _ _ _ _ _ (fT s₁ m 31 #[vr x, vi 0, vr y, vi 0, vi 2, vi 0, vi c0] [(.int (c0.toInt8.toInt32)), (.int 0), (.ref y)])
 obtain ⟨cl2, Ar2, q2, S2, N2z, H2, G2⟩ := V_y
 have hin2 : ¬ ((0 : Int32) < 0 ∨ cl2.slots.size ≤ ((0 : Int32)).toNatClampNeg) := inb_of S2 ⟨by decide, by decide⟩
 obtain ⟨T2, h2, X2, e2, W2, st2⟩ := stB X0 hx hZ e0 Ar2 (j := (0 : Int32)) hin2 (g := (mkF m 31 #[vr x, vi 0, vr y, vi 0, vi 2, vi 0, vi c0] [(.int (c0.toInt8.toInt32)), (.int 0), (.ref y)])) rfl rfl (hb hby d18_31)
 have Vn2 := Arv.set Ar2 q2 S2 N2z H2 G2 (fits_nar_byte _) W2 0 rfl (Nat.le_of_ble_eq_true rfl)
 have N2 := Fr.snoc X2 N0 g_y
 replace V_x := V_x.other W2 ne_x_y
 replace KP := KP.wr W2 (Or.inl (List.mem_of_getElem? (i := 0) rfl))
 have V_y : Arv Z h2 y ky .byte 2 [(.int (lo8 c0)), (.int 0)] (.int 0) := by have q := Vn2; rw [own_nb2] at q; exact q
 replace Z0 : n0 ≤ h2.size := by rw [W2.size]; exact Z0
 refine Gs st2 ?_
 show Goes _ _ _ _ _ (fT T2 m 32 #[vr x, vi 0, vr y, vi 0, vi 2, vi 0, vi c0] [])
 refine Gz (XS.iinc X2.here hx rfl (hb hby d18_32) rfl (l' := #[vr x, vi ((0 : Int32) + (1 : Int32)), vr y, vi 0, vi 2, vi 0, vi c0]) rfl) ?_
 rw [show ((0 : Int32) + (1 : Int32)) = 1 from by decide]
 show Goes _ _ _ _ _ (fT T2 m 35 #[vr x, vi 1, vr y, vi 0, vi 2, vi 0, vi c0] [])
 refine Gz (XS.iinc X2.here hx rfl (hb hby d18_35) rfl (l' := #[vr x, vi 1, vr y, vi ((0 : Int32) + (1 : Int32)), vi 2, vi 0, vi c0]) rfl) ?_
 rw [show ((0 : Int32) + (1 : Int32)) = 1 from by decide]
 show Goes _ _ _ _ _ (fT T2 m 38 #[vr x, vi 1, vr y, vi 1, vi 2, vi 0, vi c0] [])
 refine Gz (XS.iinc X2.here hx rfl (hb hby d18_38) rfl (l' := #[vr x, vi 1, vr y, vi 1, vi 2, vi ((0 : Int32) + (1 : Int32)), vi c0]) rfl) ?_
 rw [show ((0 : Int32) + (1 : Int32)) = 1 from by decide]
 show Goes _ _ _ _ _ (fT T2 m 41 #[vr x, vi 1, vr y, vi 1, vi 2, vi 1, vi c0] [])
 refine Gz (XS.goto X2.here hx rfl (pc0 := 41) (pc' := 3) rfl (hb hby d18_41) (by decide) (by decide)) ?_
 refine gI X2 hx hby d18_3 rfl rfl ?_
 refine gI X2 hx hby d18_5 rfl rfl ?_
 refine Gz (XS.icmpNo X2.here hx rfl (hb hby d18_7) rfl (tlt (by decide : ((1 : Int32) < (2 : Int32)))).2.1) ?_
 refine gA X2 hx hby d18_10 rfl rfl rfl ?_
 refine gN X2 hx hby d18_11 rfl rfl ?_
 show Goes _ _ _ _ _ (fT T2 m 12 #[vr x, vi 1, vr y, vi 1, vi 2, vi 1, vi c0] [(.int 1), (.ref x)])
 obtain ⟨cl3, Ar3, -, S3, N3z, H3, -⟩ := id V_x
 have hin3 : ¬ ((1 : Int32) < 0 ∨ cl3.slots.size ≤ ((1 : Int32)).toNatClampNeg) := inb_of S3 ⟨by decide, by decide⟩
 have hat3 : cl3.slots[((1 : Int32)).toNatClampNeg]? = some (.int c1) := Has.at H3 hin3 rfl
 refine Gs (fun _ tk => X2.caload hx (j := (1 : Int32)) (v := (.int c1)) (by rw [e2]; exact Ar3.1) (State.isArrayOf_alike hZ.alike Ar3.2.1) Ar3.2.2 hin3 hat3 (g := (mkF m 12 #[vr x, vi 1, vr y, vi 1, vi 2, vi 1, vi c0] [(.int 1), (.ref x)])) rfl rfl (hb hby d18_12) _ tk) ?_
 show Goes _ _ _ _ _ (fT T2 m 13 #[vr x, vi 1, vr y, vi 1, vi 2, vi 1, vi c0] [(.int c1)])
 refine Gz (XS.istore X2.here hx rfl (hb hby d18_13) rfl (l' := #[vr x, vi 1, vr y, vi 1, vi 2, vi 1, vi c1]) rfl) ?_
 refine gI X2 hx hby d18_15 rfl rfl ?_
 refine Gz (XS.sipush X2.here hx rfl (hb hby d18_17)) ?_
 refine Gz (XS.icmpNo X2.here hx rfl (hb hby d18_20) rfl (tlt hn_c1).2.2.2) ?_
 refine gI X2 hx hby d18_23 rfl rfl ?_
 refine Goes.ret X2 (some (.int 1)) (fun h => by rw [hret] at h; cases h) hlk (by decide) (by decide) ?_ (fun fs hr => ?_)
 ·rw [e2]; exact ⟨rfl, N2, KP, V_y⟩
 ·exact retI X2 hx hret (hb hby d18_25) hr
theorem own_ef_rs_c3_2_1 (m : MethodId) (x0 : Addr) : entryFrame m #[(.ref x0), (.int 0), (.int 2)] 6 = mkF m 0 #[vr x0, vi 0, vi 2, vu, vu, vu] [] := by first | (simp [entryFrame, mkF, argsToLocals, Value.category]; done) | rfl
def Q_rs_c3_2_1 (Z : State) (x : Addr) (kx : ClassId) (c0 : Int32) (c1 : Int32) (h0 : Heap) (n0 : Nat) (v : Option Value) (h : Heap) (L : List Loc) : Prop := ∃ y : Addr, ∃ ky : ClassId, v = some (.ref y) ∧ Fr n0 L ∧ Keep h0 h [] ∧ Arv Z h y ky .byte 4 [(.int (lo8 c0)), (.int (hi8 c0)), (.int (lo8 c1)), (.int (hi8 c1))] (.int 0) ∧ n0 ≤ y ∧ h0.size ≤ y
set_option maxRecDepth 65536 in
set_option maxHeartbeats 40000000 in
theorem rs_c3_2_1 (l : Launch) (Z : State) (a0 : Array Value) (hw : HW a0 Z) (ws : List Jvm.Cond) (x : Addr) (kx : ClassId) (c0 : Int32) (c1 : Int32) (h0 : Heap) (n0 : Nat) (Z0 : n0 ≤ h0.size) (V_x : Arv Z h0 x kx .char 2 [(.int c0), (.int c1)] (.int 0)) (hn_c0 : ¬ ((255 : Int32) < c0)) (hn_c1 : (255 : Int32) < c1) (hC_c0 : Chr c0) (hC_c1 : Chr c1) (sgA : Sta Z h0 "java/lang/StringUTF16" "$assertionsDisabled" "Z" (.int 1)) (sgH : Sta Z h0 "java/lang/StringUTF16" "HI_BYTE_SHIFT" "I" (.int 0)) (sgL : Sta Z h0 "java/lang/StringUTF16" "LO_BYTE_SHIFT" "I" (.int 8)) :
  Met l Z mN19 jdk_52_method_16_code 6 (some (.array .byte)) ({ frames := 3, cells := 2, slots := 6, locals := 40 } : Room) ws #[(.ref x), (.int 0), (.int 2)] h0 (Q_rs_c3_2_1 Z x kx c0 c1 h0 n0) := by
 refine own_met (plainFor_of_name own_pn2) ?_
 intro p e s m below meth c s₁ hret hx hby hlk hml hown hnm X0 e0 hZ hh
 have N0 := Fr.nil n0
 refine Gz (castTop (own_ef_rs_c3_2_1 m x)) ?_
 have KP : Keep h0 h0 [] := Keep.refl _ _
 show Goes _ _ _ _ _ (fT s₁ m 0 #[vr x, vi 0, vi 2, vu, vu, vu] [])
 refine gN X0 hx hby d19_0 rfl rfl ?_
 obtain ⟨T1, h1, k1, X1, e1, E1, A1, st1⟩ := newP X0 hx hZ (gw hw 20 rfl) e0 (g := (mkF m 1 #[vr x, vi 0, vi 2, vu, vu, vu] [(.int 2)])) rfl (hb hby d19_1) rfl (by decide) (cap := 2) (by decide) (by decide) (by decide) (by decide)
 obtain ⟨b1, gq1⟩ : ∃ z, z = h0.size := ⟨_, rfl⟩
 rw [← gq1] at A1 st1
 have g_b1 : n0 ≤ b1 := by rw [gq1]; exact Z0
 have sz_b1 : h0.size ≤ b1 := by rw [gq1]; exact KP.1
 have ne_x_b1 : x ≠ b1 := by rw [gq1]; exact Nat.ne_of_lt V_x.lt
 replace V_x := V_x.ext E1
 replace sgA := sgA.ext E1
 replace sgH := sgH.ext E1
 replace sgL := sgL.ext E1
 replace KP := KP.ext E1
 replace Z0 : n0 ≤ h1.size := Nat.le_trans Z0 E1.1
 have V_b1 : Arv Z h1 b1 k1 .byte 2 [(.int 0), (.int 0)] (.int 0) := (Arv.new A1 (by decide)).pad (pad_rep [] (.int 0) 2)
 refine Gs st1 ?_
 show Goes _ _ _ _ _ (fT T1 m 3 #[vr x, vi 0, vi 2, vu, vu, vu] [(.ref b1)])
 refine Gz (XS.astoreN X1.here hx rfl (hb hby d19_3) rfl rfl (l' := #[vr x, vi 0, vi 2, vr b1, vu, vu]) rfl) ?_
 refine gA X1 hx hby d19_4 rfl rfl rfl ?_
 refine gN X1 hx hby d19_5 rfl rfl ?_
 refine gA X1 hx hby d19_6 rfl rfl rfl ?_
 refine Gz (XS.iconst X1.here hx rfl (hb hby d19_7)) ?_
 refine gN X1 hx hby d19_8 rfl rfl ?_
 show Goes _ _ _ _ _ (fT T1 m 9 #[vr x, vi 0, vi 2, vr b1, vu, vu] [(.int 2), (.int 0), (.ref b1), (.int 0), (.ref x)])
 obtain ⟨_, _, ⟨T2, L2, k2, n2⟩, -, X2, ⟨Lc2, hQ2, l2, y2, z2⟩, st2⟩ := Jvm.LawKit.callS X1 hx (y := mN18) hown (gz hZ hw 57 rfl) (gz hZ hw 58 rfl) (gz hZ hw 55 rfl) (gz hZ hw 59 rfl) (by decide) (backOf (W := 0) (rs_c5_2_1 l Z a0 hw [] x kx b1 k1 c0 c1 h1 n0 Z0 V_x V_b1 g_b1 ne_x_b1 (by first | assumption | decide) (by first | assumption | decide)) hZ (gw hw 59 rfl) (gw hw 55 rfl) (by decide) (by decide)) (g := (mkF m 9 #[vr x, vi 0, vi 2, vr b1, vu, vu] [(.int 2), (.int 0), (.ref b1), (.int 0), (.ref x)])) rfl hml.symm (argsL := [(.ref x), (.int 0), (.ref b1), (.int 0), (.int 2)]) (rest := []) (lenOf own_pd13 rfl) rfl (wz rfl) (hb hby d19_9) (fun _ _ => ⟨rfl, e1, (by decide : 1 + 0 ≤ _), (by decide : 2 + 0 ≤ _)⟩)
 dsimp only [Pt.U, Pt.locs, Pt.cells, Pt.slots] at X2 l2 y2 z2 st2 hQ2
 subst l2 y2 z2
 obtain ⟨rfl, N2q, K2, V_b1_2'⟩ := hQ2
 have N2 := Fr.app N0 N2q
 replace sgA := own_staK sgA K2 (allS (own_obA V_b1) all0)
 replace sgH := own_staK sgH K2 (allS (own_obA V_b1) all0)
 replace sgL := own_staK sgL K2 (allS (own_obA V_b1) all0)
 replace V_x := V_x.keep K2 (ninS ne_x_b1 nin0)
 replace KP := KP.trans K2 (allS (Or.inr sz_b1) all0)
 replace Z0 := Nat.le_trans Z0 K2.1
 have V_b1 := V_b1_2'
 refine Gs st2 ?_
 show Goes _ _ _ _ _ (fT T2 m 12 #[vr x, vi 0, vi 2, vr b1, vu, vu] [(.int 1)])
 refine Gz (XS.istore X2.here hx rfl (hb hby d19_12) rfl (l' := #[vr x, vi 0, vi 2, vr b1, vi 1, vu]) rfl) ?_
 refine gI X2 hx hby d19_14 rfl rfl ?_
 refine gN X2 hx hby d19_16 rfl rfl ?_
 refine Gz (XS.icmpNo X2.here hx rfl (hb hby d19_17) rfl (feq (by decide : ¬ ((1 : Int32) = (2 : Int32)))).1) ?_
 refine gA X2 hx hby d19_20 rfl rfl rfl ?_
 refine gN X2 hx hby d19_21 rfl rfl ?_
 show Goes _ _ _ _ _ (fT T2 m 22 #[vr x, vi 0, vi 2, vr b1, vi 1, vu] [(.int 0), (.ref x)])
 refine gN X2 hx hby d19_22 rfl rfl ?_
 have ltc3_x : x < T2.heap.size := V_x.lt
 have ltc3_b1 : b1 < T2.heap.size := V_b1.lt
 have szs3 : h0.size ≤ T2.heap.size := KP.1
 obtain ⟨_, _, ⟨T3, L3, k3, n3⟩, -, X3, ⟨Lc3, hQ3, l3, y3, z3⟩, st3⟩ := Jvm.LawKit.callS X2 hx (y := mN17) hown (gz hZ hw 60 rfl) (gz hZ hw 61 rfl) (gz hZ hw 55 rfl) (gz hZ hw 62 rfl) (by decide) (backOf (W := 0) (rs_tb_2 l Z a0 hw [] x kx c0 c1 T2.heap n0 Z0 V_x sgA sgH sgL) hZ (gw hw 62 rfl) (gw hw 55 rfl) (by decide) (by decide)) (g := (mkF m 23 #[vr x, vi 0, vi 2, vr b1, vi 1, vu] [(.int 2), (.int 0), (.ref x)])) rfl hml.symm (argsL := [(.ref x), (.int 0), (.int 2)]) (rest := []) (lenOf own_pd14 rfl) rfl (wz rfl) (hb hby d19_23) (fun _ _ => ⟨rfl, rfl, (by decide : 1 + 1 ≤ _), (by decide : 2 + 4 ≤ _)⟩)
 dsimp only [Pt.U, Pt.locs, Pt.cells, Pt.slots] at X3 l3 y3 z3 st3 hQ3
 subst l3 y3 z3
 obtain ⟨y3, ky3, rfl, N3q, K3, V_y3_3', g_y3_3', sz_y3_3'⟩ := hQ3
 have N3 := Fr.app N2 N3q
 replace sgA := own_staK sgA K3 all0
 replace sgH := own_staK sgH K3 all0
 replace sgL := own_staK sgL K3 all0
 replace KP := KP.trans K3 all0
 replace Z0 := Nat.le_trans Z0 K3.1
 have V_y3 := V_y3_3'
 have g_y3 := g_y3_3'
 have szc_y3 := sz_y3_3'
 have ne_x_y3 : x ≠ y3 := Nat.ne_of_lt (Nat.lt_of_lt_of_le ltc3_x szc_y3)
 have ne_b1_y3 : b1 ≠ y3 := Nat.ne_of_lt (Nat.lt_of_lt_of_le ltc3_b1 szc_y3)
 have sz_y3 : h0.size ≤ y3 := Nat.le_trans szs3 szc_y3
 refine Gs st3 ?_
 show Goes _ _ _ _ _ (fT T3 m 26 #[vr x, vi 0, vi 2, vr b1, vi 1, vu] [(.ref y3)])
 refine Gz (XS.astore X3.here hx rfl (hb hby d19_26) rfl rfl (l' := #[vr x, vi 0, vi 2, vr b1, vi 1, vr y3]) rfl) ?_
 refine Gz (XS.aload X3.here hx rfl (hb hby d19_28) rfl rfl) ?_
 refine gI X3 hx hby d19_30 rfl rfl ?_
 obtain ⟨_, _, ⟨T4, L4, k4, n4⟩, -, X4, ⟨Lc4, hQ4, l4, y4, z4⟩, st4⟩ := Jvm.LawKit.callS X3 hx (y := mN5) hown (gz hZ hw 76 rfl) (gz hZ hw 77 rfl) (gz hZ hw 55 rfl) (gz hZ hw 78 rfl) (by decide) (backOf (W := 0) (rs_gch l Z a0 hw [] y3 ky3 [c0, c1] (1 : Int32) c1 T3.heap n0 Z0 V_y3 (by first | assumption | decide) (own_il 1 _ (by decide) (by simp) (Nat.le_of_ble_eq_true rfl)) rfl (Nat.le_of_ble_eq_true rfl) hC_c1 sgA sgH sgL) hZ (gw hw 78 rfl) (gw hw 55 rfl) (by decide) (by decide)) (g := (mkF m 32 #[vr x, vi 0, vi 2, vr b1, vi 1, vr y3] [(.int 1), (.ref y3)])) rfl hml.symm (argsL := [(.ref y3), (.int 1)]) (rest := []) (lenOf own_pd2 rfl) rfl (wz rfl) (hb hby d19_32) (fun _ _ => ⟨rfl, rfl, (by decide : 2 + 0 ≤ _), (by decide : 6 + 0 ≤ _)⟩)
 dsimp only [Pt.U, Pt.locs, Pt.cells, Pt.slots] at X4 l4 y4 z4 st4 hQ4
 subst l4 y4 z4
 obtain ⟨rfl, N4q, e4⟩ := hQ4
 have N4 := Fr.app N3 N4q
 refine Gs st4 ?_
 show Goes _ _ _ _ _ (fT T4 m 35 #[vr x, vi 0, vi 2, vr b1, vi 1, vr y3] [(.int c1)])
 refine Gz (XS.sipush X4.here hx rfl (hb hby d19_35)) ?_
 refine Gz (XS.icmpYes X4.here hx rfl (pc0 := 38) (pc' := 54) rfl (hb hby d19_38) rfl (tlt hn_c1).2.2.1 (by decide) (by decide)) ?_
 refine Gz (XS.aload X4.here hx rfl (hb hby d19_54) rfl rfl) ?_
 refine Goes.ret X4 (some (.ref y3)) (fun h => by rw [hret] at h; cases h) hlk (by decide) (by decide) ?_ (fun fs hr => ?_)
 ·rw [e4]; exact ⟨y3, ky3, rfl, N4, KP, V_y3, g_y3, sz_y3⟩
 ·exact own_retA X4 hx hret rfl rfl (hb hby d19_56) hr
theorem own_ef_rs_c5_2_2 (m : MethodId) (x0 : Addr) (x2 : Addr) : entryFrame m #[(.ref x0), (.int 0), (.ref x2), (.int 0), (.int 2)] 7 = mkF m 0 #[vr x0, vi 0, vr x2, vi 0, vi 2, vu, vu] [] := by first | (simp [entryFrame, mkF, argsToLocals, Value.category]; done) | rfl
def Q_rs_c5_2_2 (Z : State) (x : Addr) (kx : ClassId) (y : Addr) (ky : ClassId) (c0 : Int32) (c1 : Int32) (h0 : Heap) (n0 : Nat) (v : Option Value) (h : Heap) (L : List Loc) : Prop := v = some (.int 2) ∧ Fr n0 L ∧ Keep h0 h [y] ∧ Arv Z h y ky .byte 2 [(.int (lo8 c0)), (.int (lo8 c1))] (.int 0)
set_option maxRecDepth 65536 in
set_option maxHeartbeats 40000000 in
theorem rs_c5_2_2 (l : Launch) (Z : State) (a0 : Array Value) (hw : HW a0 Z) (ws : List Jvm.Cond) (x : Addr) (kx : ClassId) (y : Addr) (ky : ClassId) (c0 : Int32) (c1 : Int32) (h0 : Heap) (n0 : Nat) (Z0 : n0 ≤ h0.size) (V_x : Arv Z h0 x kx .char 2 [(.int c0), (.int c1)] (.int 0)) (V_y : Arv Z h0 y ky .byte 2 [(.int 0), (.int 0)] (.int 0)) (g_y : n0 ≤ y) (ne_x_y : x ≠ y) (hn_c0 : ¬ ((255 : Int32) < c0)) (hn_c1 : ¬ ((255 : Int32) < c1)) :
  Met l Z mN18 jdk_52_method_21_code 7 (some .int) ({ frames := 0, cells := 0, slots := 0, locals := 0 } : Room) ws #[(.ref x), (.int 0), (.ref y), (.int 0), (.int 2)] h0 (Q_rs_c5_2_2 Z x kx y ky c0 c1 h0 n0) := by
 refine own_met (plainFor_of_name own_pn2) ?_
 intro p e s m below meth c s₁ hret hx hby hlk hml hown hnm X0 e0 hZ hh
 have N0 := Fr.nil n0
 refine Gz (castTop (own_ef_rs_c5_2_2 m x y)) ?_
 have KP : Keep h0 h0 [y] := Keep.refl _ _
 show Goes _ _ _ _ _ (fT s₁ m 0 #[vr x, vi 0, vr y, vi 0, vi 2, vu, vu] [])
 refine Gz (XS.iconst X0.here hx rfl (hb hby d18_0)) ?_
 refine Gz (XS.istore X0.here hx rfl (hb hby d18_1) rfl (l' := #[vr x, vi 0, vr y, vi 0, vi 2, vi 0, vu]) rfl) ?_
 refine gI X0 hx hby d18_3 rfl rfl ?_
 refine gI X0 hx hby d18_5 rfl rfl ?_
 refine Gz (XS.icmpNo X0.here hx rfl (hb hby d18_7) rfl (tlt (by decide : ((0 : Int32) < (2 : Int32)))).2.1) ?_
 refine gA X0 hx hby d18_10 rfl rfl rfl ?_
 show Goes _ _ _ _ _ (fT s₁ m 11 #[vr x, vi 0, vr y, vi 0, vi 2, vi 0, vu] [(.ref x)])
 refine gN X0 hx hby d18_11 rfl rfl ?_
 obtain ⟨cl1, Ar1, -, S1, N1z, H1, -⟩ := id V_x
 have hin1 : ¬ ((0 : Int32) < 0 ∨ cl1.slots.size ≤ ((0 : Int32)).toNatClampNeg) := inb_of S1 ⟨by decide, by decide⟩
 have hat1 : cl1.slots[((0 : Int32)).toNatClampNeg]? = some (.int c0) := Has.at H1 hin1 rfl
 refine Gs (fun _ tk => X0.caload hx (j := (0 : Int32)) (v := (.int c0)) (by rw [e0]; exact Ar1.1) (State.isArrayOf_alike hZ.alike Ar1.2.1) Ar1.2.2 hin1 hat1 (g := (mkF m 12 #[vr x, vi 0, vr y, vi 0, vi 2, vi 0, vu] [(.int 0), (.ref x)])) rfl rfl (hb hby d18_12) _ tk) ?_
 show Goes _ _ _ _ _ (fT s₁ m 13 #[vr x, vi 0, vr y, vi 0, vi 2, vi 0, vu] [(.int c0)])
 refine Gz (XS.istore X0.here hx rfl (hb hby d18_13) rfl (l' := #[vr x, vi 0, vr y, vi 0, vi 2, vi 0, vi c0]) rfl) ?_
 refine gI X0 hx hby d18_15 rfl rfl ?_
 refine Gz (XS.sipush X0.here hx rfl (hb hby d18_17)) ?_
 refine Gz (XS.icmpYes X0.here hx rfl (pc0 := 20) (pc' := 26) rfl (hb hby d18_20) rfl (flt hn_c0).2.2.2 (by decide) (by decide)) ?_
 refine gA X0 hx hby d18_26 rfl rfl rfl ?_
 refine gN X0 hx hby d18_27 rfl rfl ?_
 show Goes _ _ _ _ _ (fT s₁ m 28 #[vr x, vi 0, vr y, vi 0, vi 2, vi 0, vi c0] [(.int 0), (.ref y)])
 refine gI X0 hx hby d18_28 rfl rfl ?_
 show Goes _ _ _ _ _ (fT s₁ m 30 #[vr x, vi 0, vr y, vi 0, vi 2, vi 0, vi c0] [(.int c0), (.int 0), (.ref y)])
 refine Gz (XS.i2b X0.here hx rfl (hb hby d18_30) rfl) ?_
 show Goes _ _ _ _ _ (fT s₁ m 31 #[vr x, vi 0, vr y, vi 0, vi 2, vi 0, vi c0] [(.int (c0.toInt8.toInt32)), (.int 0), (.ref y)])
 obtain ⟨cl2, Ar2, q2, S2, N2z, H2, G2⟩ := V_y
 have hin2 : ¬ ((0 : Int32) < 0 ∨ cl2.slots.size ≤ ((0 : Int32)).toNatClampNeg) := inb_of S2 ⟨by decide, by decide⟩
 obtain ⟨T2, h2, X2, e2, W2, st2⟩ := stB X0 hx hZ e0 Ar2 (j := (0 : Int32)) hin2 (g := (mkF m 31 #[vr x, vi 0, vr y, vi 0, vi 2, vi 0, vi c0] [(.int (c0.toInt8.toInt32)), (.int 0), (.ref y)])) rfl rfl (hb hby d18_31)
 have Vn2 := Arv.set Ar2 q2 S2 N2z H2 G2 (fits_nar_byte _) W2 0 rfl (Nat.le_of_ble_eq_true rfl)
 have N2 := Fr.snoc X2 N0 g_y
 replace V_x := V_x.other W2 ne_x_y
 replace KP := KP.wr W2 (Or.inl (List.mem_of_getElem? (i := 0) rfl))
 have V_y : Arv Z h2 y ky .byte 2 [(.int (lo8 c0)), (.int 0)] (.int 0) := by have q := Vn2; rw [own_nb2] at q; exact q
 replace Z0 : n0 ≤ h2.size := by rw [W2.size]; exact Z0
 refine Gs st2 ?_
 show Goes _ _ _ _ _ (fT T2 m 32 #[vr x, vi 0, vr y, vi 0, vi 2, vi 0, vi c0] [])
 refine Gz (XS.iinc X2.here hx rfl (hb hby d18_32) rfl (l' := #[vr x, vi ((0 : Int32) + (1 : Int32)), vr y, vi 0, vi 2, vi 0, vi c0]) rfl) ?_
 rw [show ((0 : Int32) + (1 : Int32)) = 1 from by decide]
 show Goes _ _ _ _ _ (fT T2 m 35 #[vr x, vi 1, vr y, vi 0, vi 2, vi 0, vi c0] [])
 refine Gz (XS.iinc X2.here hx rfl (hb hby d18_35) rfl (l' := #[vr x, vi 1, vr y, vi ((0 : Int32) + (1 : Int32)), vi 2, vi 0, vi c0]) rfl) ?_
 rw [show ((0 : Int32) + (1 : Int32)) = 1 from by decide]
 show Goes _ _ _ _ _ (fT T2 m 38 #[vr x, vi 1, vr y, vi 1, vi 2, vi 0, vi c0] [])
 refine Gz (XS.iinc X2.here hx rfl (hb hby d18_38) rfl (l' := #[vr x, vi 1, vr y, vi 1, vi 2, vi ((0 : Int32) + (1 : Int32)), vi c0]) rfl) ?_
 rw [show ((0 : Int32) + (1 : Int32)) = 1 from by decide]
 show Goes _ _ _ _ _ (fT T2 m 41 #[vr x, vi 1, vr y, vi 1, vi 2, vi 1, vi c0] [])
 refine Gz (XS.goto X2.here hx rfl (pc0 := 41) (pc' := 3) rfl (hb hby d18_41) (by decide) (by decide)) ?_
 refine gI X2 hx hby d18_3 rfl rfl ?_
 refine gI X2 hx hby d18_5 rfl rfl ?_
 refine Gz (XS.icmpNo X2.here hx rfl (hb hby d18_7) rfl (tlt (by decide : ((1 : Int32) < (2 : Int32)))).2.1) ?_
 refine gA X2 hx hby d18_10 rfl rfl rfl ?_
 refine gN X2 hx hby d18_11 rfl rfl ?_
 show Goes _ _ _ _ _ (fT T2 m 12 #[vr x, vi 1, vr y, vi 1, vi 2, vi 1, vi c0] [(.int 1), (.ref x)])
 obtain ⟨cl3, Ar3, -, S3, N3z, H3, -⟩ := id V_x
 have hin3 : ¬ ((1 : Int32) < 0 ∨ cl3.slots.size ≤ ((1 : Int32)).toNatClampNeg) := inb_of S3 ⟨by decide, by decide⟩
 have hat3 : cl3.slots[((1 : Int32)).toNatClampNeg]? = some (.int c1) := Has.at H3 hin3 rfl
 refine Gs (fun _ tk => X2.caload hx (j := (1 : Int32)) (v := (.int c1)) (by rw [e2]; exact Ar3.1) (State.isArrayOf_alike hZ.alike Ar3.2.1) Ar3.2.2 hin3 hat3 (g := (mkF m 12 #[vr x, vi 1, vr y, vi 1, vi 2, vi 1, vi c0] [(.int 1), (.ref x)])) rfl rfl (hb hby d18_12) _ tk) ?_
 show Goes _ _ _ _ _ (fT T2 m 13 #[vr x, vi 1, vr y, vi 1, vi 2, vi 1, vi c0] [(.int c1)])
 refine Gz (XS.istore X2.here hx rfl (hb hby d18_13) rfl (l' := #[vr x, vi 1, vr y, vi 1, vi 2, vi 1, vi c1]) rfl) ?_
 refine gI X2 hx hby d18_15 rfl rfl ?_
 refine Gz (XS.sipush X2.here hx rfl (hb hby d18_17)) ?_
 refine Gz (XS.icmpYes X2.here hx rfl (pc0 := 20) (pc' := 26) rfl (hb hby d18_20) rfl (flt hn_c1).2.2.2 (by decide) (by decide)) ?_
 refine gA X2 hx hby d18_26 rfl rfl rfl ?_
 refine gN X2 hx hby d18_27 rfl rfl ?_
 show Goes _ _ _ _ _ (fT T2 m 28 #[vr x, vi 1, vr y, vi 1, vi 2, vi 1, vi c1] [(.int 1), (.ref y)])
 refine gI X2 hx hby d18_28 rfl rfl ?_
 show Goes _ _ _ _ _ (fT T2 m 30 #[vr x, vi 1, vr y, vi 1, vi 2, vi 1, vi c1] [(.int c1), (.int 1), (.ref y)])
 refine Gz (XS.i2b X2.here hx rfl (hb hby d18_30) rfl) ?_
 show Goes _ _ _ _ _ (fT T2 m 31 #[vr x, vi 1, vr y, vi 1, vi 2, vi 1, vi c1] [(.int (c1.toInt8.toInt32)), (.int 1), (.ref y)])
 obtain ⟨cl4, Ar4, q4, S4, N4z, H4, G4⟩ := V_y
 have hin4 : ¬ ((1 : Int32) < 0 ∨ cl4.slots.size ≤ ((1 : Int32)).toNatClampNeg) := inb_of S4 ⟨by decide, by decide⟩
 obtain ⟨T4, h4, X4, e4, W4, st4⟩ := stB X2 hx hZ e2 Ar4 (j := (1 : Int32)) hin4 (g := (mkF m 31 #[vr x, vi 1, vr y, vi 1, vi 2, vi 1, vi c1] [(.int (c1.toInt8.toInt32)), (.int 1), (.ref y)])) rfl rfl (hb hby d18_31)
 have Vn4 := Arv.set Ar4 q4 S4 N4z H4 G4 (fits_nar_byte _) W4 1 rfl (Nat.le_of_ble_eq_true rfl)
 have N4 := Fr.snoc X4 N2 g_y
 replace KP := KP.wr W4 (Or.inl (List.mem_of_getElem? (i := 0) rfl))
 have V_y : Arv Z h4 y ky .byte 2 [(.int (lo8 c0)), (.int (lo8 c1))] (.int 0) := by have q := Vn4; rw [own_nb2] at q; exact q
 replace Z0 : n0 ≤ h4.size := by rw [W4.size]; exact Z0
 refine Gs st4 ?_
 show Goes _ _ _ _ _ (fT T4 m 32 #[vr x, vi 1, vr y, vi 1, vi 2, vi 1, vi c1] [])
 refine Gz (XS.iinc X4.here hx rfl (hb hby d18_32) rfl (l' := #[vr x, vi ((1 : Int32) + (1 : Int32)), vr y, vi 1, vi 2, vi 1, vi c1]) rfl) ?_
 rw [show ((1 : Int32) + (1 : Int32)) = 2 from by decide]
 show Goes _ _ _ _ _ (fT T4 m 35 #[vr x, vi 2, vr y, vi 1, vi 2, vi 1, vi c1] [])
 refine Gz (XS.iinc X4.here hx rfl (hb hby d18_35) rfl (l' := #[vr x, vi 2, vr y, vi ((1 : Int32) + (1 : Int32)), vi 2, vi 1, vi c1]) rfl) ?_
 rw [show ((1 : Int32) + (1 : Int32)) = 2 from by decide]
 show Goes _ _ _ _ _ (fT T4 m 38 #[vr x, vi 2, vr y, vi 2, vi 2, vi 1, vi c1] [])
 refine Gz (XS.iinc X4.here hx rfl (hb hby d18_38) rfl (l' := #[vr x, vi 2, vr y, vi 2, vi 2, vi ((1 : Int32) + (1 : Int32)), vi c1]) rfl) ?_
 rw [show ((1 : Int32) + (1 : Int32)) = 2 from by decide]
 show Goes _ _ _ _ _ (fT T4 m 41 #[vr x, vi 2, vr y, vi 2, vi 2, vi 2, vi c1] [])
 refine Gz (XS.goto X4.here hx rfl (pc0 := 41) (pc' := 3) rfl (hb hby d18_41) (by decide) (by decide)) ?_
 refine gI X4 hx hby d18_3 rfl rfl ?_
 refine gI X4 hx hby d18_5 rfl rfl ?_
 refine Gz (XS.icmpYes X4.here hx rfl (pc0 := 7) (pc' := 44) rfl (hb hby d18_7) rfl (flt (by decide : ¬ ((2 : Int32) < (2 : Int32)))).2.1 (by decide) (by decide)) ?_
 refine gI X4 hx hby d18_44 rfl rfl ?_
 refine Goes.ret X4 (some (.int 2)) (fun h => by rw [hret] at h; cases h) hlk (by decide) (by decide) ?_ (fun fs hr => ?_)
 ·rw [e4]; exact ⟨rfl, N4, KP, V_y⟩
 ·exact retI X4 hx hret (hb hby d18_46) hr
theorem own_ef_rs_c3_2_2 (m : MethodId) (x0 : Addr) : entryFrame m #[(.ref x0), (.int 0), (.int 2)] 6 = mkF m 0 #[vr x0, vi 0, vi 2, vu, vu, vu] [] := by first | (simp [entryFrame, mkF, argsToLocals, Value.category]; done) | rfl
def Q_rs_c3_2_2 (Z : State) (x : Addr) (kx : ClassId) (c0 : Int32) (c1 : Int32) (h0 : Heap) (n0 : Nat) (v : Option Value) (h : Heap) (L : List Loc) : Prop := ∃ y : Addr, ∃ ky : ClassId, v = some (.ref y) ∧ Fr n0 L ∧ Keep h0 h [] ∧ Arv Z h y ky .byte 2 [(.int (lo8 c0)), (.int (lo8 c1))] (.int 0) ∧ n0 ≤ y ∧ h0.size ≤ y
set_option maxRecDepth 65536 in
set_option maxHeartbeats 40000000 in
theorem rs_c3_2_2 (l : Launch) (Z : State) (a0 : Array Value) (hw : HW a0 Z) (ws : List Jvm.Cond) (x : Addr) (kx : ClassId) (c0 : Int32) (c1 : Int32) (h0 : Heap) (n0 : Nat) (Z0 : n0 ≤ h0.size) (V_x : Arv Z h0 x kx .char 2 [(.int c0), (.int c1)] (.int 0)) (hn_c0 : ¬ ((255 : Int32) < c0)) (hn_c1 : ¬ ((255 : Int32) < c1)) :
  Met l Z mN19 jdk_52_method_16_code 6 (some (.array .byte)) ({ frames := 1, cells := 1, slots := 2, locals := 18 } : Room) ws #[(.ref x), (.int 0), (.int 2)] h0 (Q_rs_c3_2_2 Z x kx c0 c1 h0 n0) := by
 refine own_met (plainFor_of_name own_pn2) ?_
 intro p e s m below meth c s₁ hret hx hby hlk hml hown hnm X0 e0 hZ hh
 have N0 := Fr.nil n0
 refine Gz (castTop (own_ef_rs_c3_2_2 m x)) ?_
 have KP : Keep h0 h0 [] := Keep.refl _ _
 show Goes _ _ _ _ _ (fT s₁ m 0 #[vr x, vi 0, vi 2, vu, vu, vu] [])
 refine gN X0 hx hby d19_0 rfl rfl ?_
 obtain ⟨T1, h1, k1, X1, e1, E1, A1, st1⟩ := newP X0 hx hZ (gw hw 20 rfl) e0 (g := (mkF m 1 #[vr x, vi 0, vi 2, vu, vu, vu] [(.int 2)])) rfl (hb hby d19_1) rfl (by decide) (cap := 2) (by decide) (by decide) (by decide) (by decide)
 obtain ⟨b1, gq1⟩ : ∃ z, z = h0.size := ⟨_, rfl⟩
 rw [← gq1] at A1 st1
 have g_b1 : n0 ≤ b1 := by rw [gq1]; exact Z0
 have sz_b1 : h0.size ≤ b1 := by rw [gq1]; exact KP.1
 have ne_x_b1 : x ≠ b1 := by rw [gq1]; exact Nat.ne_of_lt V_x.lt
 replace V_x := V_x.ext E1
 replace KP := KP.ext E1
 replace Z0 : n0 ≤ h1.size := Nat.le_trans Z0 E1.1
 have V_b1 : Arv Z h1 b1 k1 .byte 2 [(.int 0), (.int 0)] (.int 0) := (Arv.new A1 (by decide)).pad (pad_rep [] (.int 0) 2)
 refine Gs st1 ?_
 show Goes _ _ _ _ _ (fT T1 m 3 #[vr x, vi 0, vi 2, vu, vu, vu] [(.ref b1)])
 refine Gz (XS.astoreN X1.here hx rfl (hb hby d19_3) rfl rfl (l' := #[vr x, vi 0, vi 2, vr b1, vu, vu]) rfl) ?_
 refine gA X1 hx hby d19_4 rfl rfl rfl ?_
 refine gN X1 hx hby d19_5 rfl rfl ?_
 refine gA X1 hx hby d19_6 rfl rfl rfl ?_
 refine Gz (XS.iconst X1.here hx rfl (hb hby d19_7)) ?_
 refine gN X1 hx hby d19_8 rfl rfl ?_
 show Goes _ _ _ _ _ (fT T1 m 9 #[vr x, vi 0, vi 2, vr b1, vu, vu] [(.int 2), (.int 0), (.ref b1), (.int 0), (.ref x)])
 obtain ⟨_, _, ⟨T2, L2, k2, n2⟩, -, X2, ⟨Lc2, hQ2, l2, y2, z2⟩, st2⟩ := Jvm.LawKit.callS X1 hx (y := mN18) hown (gz hZ hw 57 rfl) (gz hZ hw 58 rfl) (gz hZ hw 55 rfl) (gz hZ hw 59 rfl) (by decide) (backOf (W := 0) (rs_c5_2_2 l Z a0 hw [] x kx b1 k1 c0 c1 h1 n0 Z0 V_x V_b1 g_b1 ne_x_b1 (by first | assumption | decide) (by first | assumption | decide)) hZ (gw hw 59 rfl) (gw hw 55 rfl) (by decide) (by decide)) (g := (mkF m 9 #[vr x, vi 0, vi 2, vr b1, vu, vu] [(.int 2), (.int 0), (.ref b1), (.int 0), (.ref x)])) rfl hml.symm (argsL := [(.ref x), (.int 0), (.ref b1), (.int 0), (.int 2)]) (rest := []) (lenOf own_pd13 rfl) rfl (wz rfl) (hb hby d19_9) (fun _ _ => ⟨rfl, e1, (by decide : 1 + 0 ≤ _), (by decide : 2 + 0 ≤ _)⟩)
 dsimp only [Pt.U, Pt.locs, Pt.cells, Pt.slots] at X2 l2 y2 z2 st2 hQ2
 subst l2 y2 z2
 obtain ⟨rfl, N2q, K2, V_b1_2'⟩ := hQ2
 have N2 := Fr.app N0 N2q
 replace KP := KP.trans K2 (allS (Or.inr sz_b1) all0)
 replace Z0 := Nat.le_trans Z0 K2.1
 have V_b1 := V_b1_2'
 refine Gs st2 ?_
 show Goes _ _ _ _ _ (fT T2 m 12 #[vr x, vi 0, vi 2, vr b1, vu, vu] [(.int 2)])
 refine Gz (XS.istore X2.here hx rfl (hb hby d19_12) rfl (l' := #[vr x, vi 0, vi 2, vr b1, vi 2, vu]) rfl) ?_
 refine gI X2 hx hby d19_14 rfl rfl ?_
 refine gN X2 hx hby d19_16 rfl rfl ?_
 refine Gz (XS.icmpYes X2.here hx rfl (pc0 := 17) (pc' := 57) rfl (hb hby d19_17) rfl (teq (by decide : ((2 : Int32) = (2 : Int32)))).1 (by decide) (by decide)) ?_
 refine gA X2 hx hby d19_57 rfl rfl rfl ?_
 refine Goes.ret X2 (some (.ref b1)) (fun h => by rw [hret] at h; cases h) hlk (by decide) (by decide) ?_ (fun fs hr => ?_)
 ·exact ⟨b1, k1, rfl, N2, KP, V_b1, g_b1, sz_b1⟩
 ·exact own_retA X2 hx hret rfl rfl (hb hby d19_58) hr
theorem own_ef_rs_cf_2_2 (m : MethodId) (x0 : Addr) : entryFrame m #[(.ref x0), (.int 2)] 2 = mkF m 0 #[vr x0, vi 2] [] := by first | (simp [entryFrame, mkF, argsToLocals, Value.category]; done) | rfl
def Q_rs_cf_2_2 (Z : State) (y : Addr) (ky : ClassId) (vs : List Value) (h0 : Heap) (n0 : Nat) (v : Option Value) (h : Heap) (L : List Loc) : Prop := v = some (.int 0) ∧ Fr n0 L ∧ h = h0
set_option maxRecDepth 65536 in
set_option maxHeartbeats 40000000 in
theorem rs_cf_2_2 (l : Launch) (Z : State) (a0 : Array Value) (hw : HW a0 Z) (ws : List Jvm.Cond) (y : Addr) (ky : ClassId) (vs : List Value) (h0 : Heap) (n0 : Nat) (Z0 : n0 ≤ h0.size) (V_y : Arv Z h0 y ky .byte 2 vs (.int 0)) :
  Met l Z mN20 jdk_52_method_15_code 2 (some .byte) ({ frames := 0, cells := 0, slots := 0, locals := 0 } : Room) ws #[(.ref y), (.int 2)] h0 (Q_rs_cf_2_2 Z y ky vs h0 n0) := by
 refine own_met (plainFor_of_name own_pn2) ?_
 intro p e s m below meth c s₁ hret hx hby hlk hml hown hnm X0 e0 hZ hh
 have N0 := Fr.nil n0
 refine Gz (castTop (own_ef_rs_cf_2_2 m y)) ?_
 show Goes _ _ _ _ _ (fT s₁ m 0 #[vr y, vi 2] [])
 refine gN X0 hx hby d20_0 rfl rfl ?_
 refine gA X0 hx hby d20_1 rfl rfl rfl ?_
 obtain ⟨cl1, Ar1, -, S1, N1z, -, -⟩ := id V_y
 refine Gs (fun _ tk => X0.arraylength hx (by rw [e0]; exact Ar1.1) (State.isArrayOf_alike hZ.alike Ar1.2.1) (g := (mkF m 2 #[vr y, vi 2] [(.ref y), (.int 2)])) rfl rfl (hb hby d20_2) _ tk) ?_
 rw [len_of S1 N1z]
 show Goes _ _ _ _ _ (fT s₁ m 3 #[vr y, vi 2] [(.int 2), (.int 2)])
 refine Gz (XS.isub X0.here hx rfl (hb hby d20_3) rfl) ?_
 rw [show ((2 : Int32) - (2 : Int32)) = 0 from by decide]
 show Goes _ _ _ _ _ (fT s₁ m 4 #[vr y, vi 2] [(.int 0)])
 refine Gz (XS.bipush X0.here hx rfl (hb hby d20_4)) ?_
 show Goes _ _ _ _ _ (fT s₁ m 6 #[vr y, vi 2] [(.int 31), (.int 0)])
 refine Gz (XS.iushr X0.here hx rfl (hb hby d20_6) rfl) ?_
 rw [show (((0 : Int32).toUInt32 >>> ((31 : Int32) &&& 31).toUInt32).toInt32) = (0 : Int32) from by decide]
 show Goes _ _ _ _ _ (fT s₁ m 7 #[vr y, vi 2] [(.int 0)])
 refine Gz (XS.i2b X0.here hx rfl (hb hby d20_7) rfl) ?_
 rw [show ((0 : Int32).toInt8.toInt32) = (0 : Int32) from by decide]
 show Goes _ _ _ _ _ (fT s₁ m 8 #[vr y, vi 2] [(.int 0)])
 refine Goes.ret X0 (some (.int 0)) (fun h => by rw [hret] at h; cases h) hlk (by decide) (by decide) ?_ (fun fs hr => ?_)
 ·exact ⟨rfl, N0, e0⟩
 ·exact own_retN X0 hx (t := .byte) hret (by simp) rfl (hb hby d20_8) hr
theorem own_ef_rs_cf_2_4 (m : MethodId) (x0 : Addr) : entryFrame m #[(.ref x0), (.int 2)] 2 = mkF m 0 #[vr x0, vi 2] [] := by first | (simp [entryFrame, mkF, argsToLocals, Value.category]; done) | rfl
def Q_rs_cf_2_4 (Z : State) (y : Addr) (ky : ClassId) (vs : List Value) (h0 : Heap) (n0 : Nat) (v : Option Value) (h : Heap) (L : List Loc) : Prop := v = some (.int 1) ∧ Fr n0 L ∧ h = h0
set_option maxRecDepth 65536 in
set_option maxHeartbeats 40000000 in
theorem rs_cf_2_4 (l : Launch) (Z : State) (a0 : Array Value) (hw : HW a0 Z) (ws : List Jvm.Cond) (y : Addr) (ky : ClassId) (vs : List Value) (h0 : Heap) (n0 : Nat) (Z0 : n0 ≤ h0.size) (V_y : Arv Z h0 y ky .byte 4 vs (.int 0)) :
  Met l Z mN20 jdk_52_method_15_code 2 (some .byte) ({ frames := 0, cells := 0, slots := 0, locals := 0 } : Room) ws #[(.ref y), (.int 2)] h0 (Q_rs_cf_2_4 Z y ky vs h0 n0) := by
 refine own_met (plainFor_of_name own_pn2) ?_
 intro p e s m below meth c s₁ hret hx hby hlk hml hown hnm X0 e0 hZ hh
 have N0 := Fr.nil n0
 refine Gz (castTop (own_ef_rs_cf_2_4 m y)) ?_
 show Goes _ _ _ _ _ (fT s₁ m 0 #[vr y, vi 2] [])
 refine gN X0 hx hby d20_0 rfl rfl ?_
 refine gA X0 hx hby d20_1 rfl rfl rfl ?_
 obtain ⟨cl1, Ar1, -, S1, N1z, -, -⟩ := id V_y
 refine Gs (fun _ tk => X0.arraylength hx (by rw [e0]; exact Ar1.1) (State.isArrayOf_alike hZ.alike Ar1.2.1) (g := (mkF m 2 #[vr y, vi 2] [(.ref y), (.int 2)])) rfl rfl (hb hby d20_2) _ tk) ?_
 rw [len_of S1 N1z]
 show Goes _ _ _ _ _ (fT s₁ m 3 #[vr y, vi 2] [(.int 4), (.int 2)])
 refine Gz (XS.isub X0.here hx rfl (hb hby d20_3) rfl) ?_
 rw [show ((2 : Int32) - (4 : Int32)) = (-2 : Int32) from by decide]
 show Goes _ _ _ _ _ (fT s₁ m 4 #[vr y, vi 2] [(.int (-2 : Int32))])
 refine Gz (XS.bipush X0.here hx rfl (hb hby d20_4)) ?_
 show Goes _ _ _ _ _ (fT s₁ m 6 #[vr y, vi 2] [(.int 31), (.int (-2 : Int32))])
 refine Gz (XS.iushr X0.here hx rfl (hb hby d20_6) rfl) ?_
 rw [show (((-2 : Int32).toUInt32 >>> ((31 : Int32) &&& 31).toUInt32).toInt32) = (1 : Int32) from by decide]
 show Goes _ _ _ _ _ (fT s₁ m 7 #[vr y, vi 2] [(.int 1)])
 refine Gz (XS.i2b X0.here hx rfl (hb hby d20_7) rfl) ?_
 rw [show ((1 : Int32).toInt8.toInt32) = (1 : Int32) from by decide]
 show Goes _ _ _ _ _ (fT s₁ m 8 #[vr y, vi 2] [(.int 1)])
 refine Goes.ret X0 (some (.int 1)) (fun h => by rw [hret] at h; cases h) hlk (by decide) (by decide) ?_ (fun fs hr => ?_)
 ·exact ⟨rfl, N0, e0⟩
 ·exact own_retN X0 hx (t := .byte) hret (by simp) rfl (hb hby d20_8) hr
theorem own_ef_rs_i4_2 (m : MethodId) (x0 : Addr) (x1 : Addr) : entryFrame m #[(.ref x0), (.ref x1), (.int 0), (.int 2), .null] 6 = mkF m 0 #[vr x0, vr x1, vi 0, vi 2, .val .null, vu] [] := by first | (simp [entryFrame, mkF, argsToLocals, Value.category]; done) | rfl
def Q_rs_i4_2 (Z : State) (a : Addr) (x : Addr) (kx : ClassId) (c0 : Int32) (c1 : Int32) (cz : Int32) (h0 : Heap) (n0 : Nat) (v : Option Value) (h : Heap) (L : List Loc) : Prop := v = none ∧ Fr n0 L ∧ Keep h0 h [a] ∧ StrOf Z h a [c0, c1]
set_option maxRecDepth 65536 in
set_option maxHeartbeats 40000000 in
theorem rs_i4_2 (l : Launch) (Z : State) (a0 : Array Value) (hw : HW a0 Z) (ws : List Jvm.Cond) (a : Addr) (x : Addr) (kx : ClassId) (c0 : Int32) (c1 : Int32) (cz : Int32) (h0 : Heap) (n0 : Nat) (Z0 : n0 ≤ h0.size) (A_a : Exa Z h0 a "java/lang/String") (F_value_a : Fld Z h0 a "java/lang/String" "value" "[B" .null) (F_coder_a : Fld Z h0 a "java/lang/String" "coder" "B" (.int 0)) (V_x : Arv Z h0 x kx .char 2 [(.int c0), (.int c1)] (.int 0)) (g_a : n0 ≤ a) (ne_x_a : x ≠ a) (sgC : Sta Z h0 "java/lang/String" "COMPACT_STRINGS" "Z" (.int cz)) (hcz : ¬ (cz = 0)) (hC_c0 : Chr c0) (hC_c1 : Chr c1) (sgA : Sta Z h0 "java/lang/StringUTF16" "$assertionsDisabled" "Z" (.int 1)) (sgH : Sta Z h0 "java/lang/StringUTF16" "HI_BYTE_SHIFT" "I" (.int 0)) (sgL : Sta Z h0 "java/lang/StringUTF16" "LO_BYTE_SHIFT" "I" (.int 8)) :
  Met l Z mN12 jdk_42_method_149_code 6 none ({ frames := 4, cells := 2, slots := 6, locals := 57 } : Room) ws #[(.ref a), (.ref x), (.int 0), (.int 2), .null] h0 (Q_rs_i4_2 Z a x kx c0 c1 cz h0 n0) := by
 refine own_met (plainFor_of_name own_pn0) ?_
 intro p e s m below meth c s₁ hret hx hby hlk hml hown hnm X0 e0 hZ hh
 have N0 := Fr.nil n0
 refine Gz (castTop (own_ef_rs_i4_2 m a x)) ?_
 have KP : Keep h0 h0 [a] := Keep.refl _ _
 show Goes _ _ _ _ _ (fT s₁ m 0 #[vr a, vr x, vi 0, vi 2, .val .null, vu] [])
 by_cases hn_c0 : (255 : Int32) < c0
 ·show Goes _ _ _ _ _ (fT s₁ m 0 #[vr a, vr x, vi 0, vi 2, .val .null, vu] [])
  refine gA X0 hx hby d12_0 rfl rfl rfl ?_
  obtain ⟨T1, X1, e1, st1⟩ := initO X0 hx hZ hown (gw hw 16 rfl) (gw hw 17 rfl) (gw hw 18 rfl) e0 (g := (mkF m 1 #[vr a, vr x, vi 0, vi 2, .val .null, vu] [(.ref a)])) rfl hml.symm rfl (hb hby d12_1) (by decide) (W := 0) (wz rfl) (by decide)
  refine Gs st1 ?_
  show Goes _ _ _ _ _ (fT T1 m 4 #[vr a, vr x, vi 0, vi 2, .val .null, vu] [])
  refine gN X1 hx hby d12_4 rfl rfl ?_
  refine Gz (XS.ifYes X1.here hx rfl (pc0 := 5) (pc' := 27) rfl (hb hby d12_5) rfl ((if0 _ _).trans (feq (by decide : ¬ ((2 : Int32) = (0 : Int32)))).2) (by decide) (by decide)) ?_
  obtain ⟨T2, X2, e2, st2⟩ := getS2 X1 hx hZ hown (host := "") (Or.inl (gw hw 51 rfl)) Via.refl e1 sgC (g := (mkF m 27 #[vr a, vr x, vi 0, vi 2, .val .null, vu] [])) rfl (hb hby d12_27)
  refine Gs st2 ?_
  show Goes _ _ _ _ _ (fT T2 m 30 #[vr a, vr x, vi 0, vi 2, .val .null, vu] [(.int cz)])
  refine Gz (XS.ifNo X2.here hx rfl (hb hby d12_30) rfl ((if0 _ _).trans (feq hcz).1)) ?_
  refine gA X2 hx hby d12_33 rfl rfl rfl ?_
  refine gN X2 hx hby d12_34 rfl rfl ?_
  refine gN X2 hx hby d12_35 rfl rfl ?_
  have ltc3_a : a < h0.size := A_a.lt
  have ltc3_x : x < h0.size := V_x.lt
  obtain ⟨_, _, ⟨T3, L3, k3, n3⟩, -, X3, ⟨Lc3, hQ3, l3, y3, z3⟩, st3⟩ := Jvm.LawKit.callS X2 hx (y := mN19) hown (gz hZ hw 53 rfl) (gz hZ hw 54 rfl) (gz hZ hw 55 rfl) (gz hZ hw 56 rfl) (by decide) (backOf (W := 0) (rs_c3_2_0 l Z a0 hw [] x kx c0 c1 h0 n0 Z0 V_x (by first | assumption | decide) (by first | assumption | decide) (by first | assumption | decide) sgA sgH sgL) hZ (gw hw 56 rfl) (gw hw 55 rfl) (by decide) (by decide)) (g := (mkF m 36 #[vr a, vr x, vi 0, vi 2, .val .null, vu] [(.int 2), (.int 0), (.ref x)])) rfl hml.symm (argsL := [(.ref x), (.int 0), (.int 2)]) (rest := []) (lenOf own_pd14 rfl) rfl (wz rfl) (hb hby d12_36) (fun _ _ => ⟨rfl, e2, (by decide : 0 + 2 ≤ _), (by decide : 0 + 6 ≤ _)⟩)
  dsimp only [Pt.U, Pt.locs, Pt.cells, Pt.slots] at X3 l3 y3 z3 st3 hQ3
  subst l3 y3 z3
  obtain ⟨y3, ky3, rfl, N3q, K3, V_y3_3', g_y3_3', sz_y3_3'⟩ := hQ3
  have N3 := Fr.app N0 N3q
  replace sgC := own_staK sgC K3 all0
  replace sgA := own_staK sgA K3 all0
  replace sgH := own_staK sgH K3 all0
  replace sgL := own_staK sgL K3 all0
  replace A_a := A_a.keep K3
  replace F_value_a := F_value_a.keep K3 nin0
  replace F_coder_a := F_coder_a.keep K3 nin0
  replace V_x := V_x.keep K3 nin0
  replace KP := KP.trans K3 all0
  replace Z0 := Nat.le_trans Z0 K3.1
  have V_y3 := V_y3_3'
  have g_y3 := g_y3_3'
  have szc_y3 := sz_y3_3'
  have ne_a_y3 : a ≠ y3 := Nat.ne_of_lt (Nat.lt_of_lt_of_le ltc3_a szc_y3)
  have ne_x_y3 : x ≠ y3 := Nat.ne_of_lt (Nat.lt_of_lt_of_le ltc3_x szc_y3)
  refine Gs st3 ?_
  show Goes _ _ _ _ _ (fT T3 m 39 #[vr a, vr x, vi 0, vi 2, .val .null, vu] [(.ref y3)])
  refine Gz (XS.astore X3.here hx rfl (hb hby d12_39) rfl rfl (l' := #[vr a, vr x, vi 0, vi 2, .val .null, vr y3]) rfl) ?_
  refine gA X3 hx hby d12_41 rfl rfl rfl ?_
  refine Gz (XS.aload X3.here hx rfl (hb hby d12_42) rfl rfl) ?_
  refine gN X3 hx hby d12_44 rfl rfl ?_
  obtain ⟨_, _, ⟨T4, L4, k4, n4⟩, -, X4, ⟨Lc4, hQ4, l4, y4, z4⟩, st4⟩ := Jvm.LawKit.callS X3 hx (y := mN20) hown (gz hZ hw 79 rfl) (gz hZ hw 80 rfl) (gz hZ hw 55 rfl) (gz hZ hw 81 rfl) (by decide) (backOf (W := 1) (rs_cf_2_4 l Z a0 hw [] y3 ky3 [(.int (lo8 c0)), (.int (hi8 c0)), (.int (lo8 c1)), (.int (hi8 c1))] T3.heap n0 Z0 V_y3) hZ (gw hw 81 rfl) (gw hw 55 rfl) (by decide) (by decide)) (g := (mkF m 45 #[vr a, vr x, vi 0, vi 2, .val .null, vr y3] [(.int 2), (.ref y3), (.ref a)])) rfl hml.symm (argsL := [(.ref y3), (.int 2)]) (rest := [(.ref a)]) (lenOf own_pd15 rfl) rfl (wz rfl) (hb hby d12_45) (fun _ _ => ⟨rfl, rfl, (by decide : 2 + 0 ≤ _), (by decide : 6 + 0 ≤ _)⟩)
  dsimp only [Pt.U, Pt.locs, Pt.cells, Pt.slots] at X4 l4 y4 z4 st4 hQ4
  subst l4 y4 z4
  obtain ⟨rfl, N4q, e4⟩ := hQ4
  have N4 := Fr.app N3 N4q
  refine Gs st4 ?_
  show Goes _ _ _ _ _ (fT T4 m 48 #[vr a, vr x, vi 0, vi 2, .val .null, vr y3] [(.int 1), (.ref a)])
  obtain ⟨T5, h5, X5, e5, W5, st5⟩ := putFN X4 hx hZ hown (gw hw 26 rfl) Via.refl e4 F_coder_a A_a (Or.inr ⟨(gw hw 22 rfl), rfl, hnm⟩) (gw hw 7 rfl) (ty := .byte) (v' := .int 1) (by decide) rfl rfl (g := (mkF m 48 #[vr a, vr x, vi 0, vi 2, .val .null, vr y3] [(.int 1), (.ref a)])) rfl rfl (hb hby d12_48)
  have N5 := Fr.snoc X5 N4 g_a
  replace A_a := A_a.wr W5
  replace F_value_a := F_value_a.other W5 (Or.inr (slot_ne (Or.inr (gw hw 21 rfl)) (Or.inr (gw hw 22 rfl)) (by decide) (t := (.array .byte)) (t' := .byte) (by decide) (by decide)))
  replace V_x := V_x.other W5 ne_x_a
  replace sgC := sgC.wr W5
  replace sgA := sgA.wr W5
  replace sgH := sgH.wr W5
  replace sgL := sgL.wr W5
  replace V_y3 := V_y3.other W5 (Ne.symm ne_a_y3)
  replace KP := KP.wr W5 (Or.inl (List.mem_of_getElem? (i := 0) rfl))
  replace F_coder_a := F_coder_a.same W5
  replace Z0 : n0 ≤ h5.size := by rw [W5.size]; exact Z0
  refine Gs st5 ?_
  show Goes _ _ _ _ _ (fT T5 m 51 #[vr a, vr x, vi 0, vi 2, .val .null, vr y3] [])
  refine gA X5 hx hby d12_51 rfl rfl rfl ?_
  refine Gz (XS.aload X5.here hx rfl (hb hby d12_52) rfl rfl) ?_
  obtain ⟨T6, h6, X6, e6, W6, st6⟩ := putF X5 hx hZ hown (host := "") (Or.inl (gw hw 25 rfl)) Via.refl e5 F_value_a A_a (Or.inr ⟨(gw hw 21 rfl), rfl, hnm⟩) (gw hw 7 rfl) (ty := (.array .byte)) (by decide) rfl rfl (g := (mkF m 54 #[vr a, vr x, vi 0, vi 2, .val .null, vr y3] [(.ref y3), (.ref a)])) rfl rfl (hb hby d12_54)
  have N6 := Fr.snoc X6 N5 g_a
  replace A_a := A_a.wr W6
  replace F_coder_a := F_coder_a.other W6 (Or.inr (slot_ne (Or.inr (gw hw 22 rfl)) (Or.inr (gw hw 21 rfl)) (by decide) (t := .byte) (t' := (.array .byte)) (by decide) (by decide)))
  replace V_x := V_x.other W6 ne_x_a
  replace sgC := sgC.wr W6
  replace sgA := sgA.wr W6
  replace sgH := sgH.wr W6
  replace sgL := sgL.wr W6
  replace V_y3 := V_y3.other W6 (Ne.symm ne_a_y3)
  replace KP := KP.wr W6 (Or.inl (List.mem_of_getElem? (i := 0) rfl))
  replace F_value_a := F_value_a.same W6
  replace Z0 : n0 ≤ h6.size := by rw [W6.size]; exact Z0
  refine Gs st6 ?_
  show Goes _ _ _ _ _ (fT T6 m 57 #[vr a, vr x, vi 0, vi 2, .val .null, vr y3] [])
  have T_a : StrOf Z h6 a [c0, c1] := StrOf.utf A_a F_value_a F_coder_a V_y3 (by intro c hc; simp only [List.mem_cons, List.not_mem_nil, or_false] at hc; rcases hc with rfl | rfl <;> first | assumption | (exact own_toLat (by assumption) (by assumption))) rfl rfl (Nat.le_of_ble_eq_true rfl)
  refine Goes.ret X6 none (fun _ => rfl) hlk (by decide) (by decide) ?_ (fun fs hr => ?_)
  ·rw [e6]; exact ⟨rfl, N6, KP, T_a⟩
  ·exact X6.returnOut hx hret (hb hby d12_57) hr
 ·show Goes _ _ _ _ _ (fT s₁ m 0 #[vr a, vr x, vi 0, vi 2, .val .null, vu] [])
  by_cases hn_c1 : (255 : Int32) < c1
  ·show Goes _ _ _ _ _ (fT s₁ m 0 #[vr a, vr x, vi 0, vi 2, .val .null, vu] [])
   refine gA X0 hx hby d12_0 rfl rfl rfl ?_
   obtain ⟨T7, X7, e7, st7⟩ := initO X0 hx hZ hown (gw hw 16 rfl) (gw hw 17 rfl) (gw hw 18 rfl) e0 (g := (mkF m 1 #[vr a, vr x, vi 0, vi 2, .val .null, vu] [(.ref a)])) rfl hml.symm rfl (hb hby d12_1) (by decide) (W := 0) (wz rfl) (by decide)
   refine Gs st7 ?_
   show Goes _ _ _ _ _ (fT T7 m 4 #[vr a, vr x, vi 0, vi 2, .val .null, vu] [])
   refine gN X7 hx hby d12_4 rfl rfl ?_
   refine Gz (XS.ifYes X7.here hx rfl (pc0 := 5) (pc' := 27) rfl (hb hby d12_5) rfl ((if0 _ _).trans (feq (by decide : ¬ ((2 : Int32) = (0 : Int32)))).2) (by decide) (by decide)) ?_
   obtain ⟨T8, X8, e8, st8⟩ := getS2 X7 hx hZ hown (host := "") (Or.inl (gw hw 51 rfl)) Via.refl e7 sgC (g := (mkF m 27 #[vr a, vr x, vi 0, vi 2, .val .null, vu] [])) rfl (hb hby d12_27)
   refine Gs st8 ?_
   show Goes _ _ _ _ _ (fT T8 m 30 #[vr a, vr x, vi 0, vi 2, .val .null, vu] [(.int cz)])
   refine Gz (XS.ifNo X8.here hx rfl (hb hby d12_30) rfl ((if0 _ _).trans (feq hcz).1)) ?_
   refine gA X8 hx hby d12_33 rfl rfl rfl ?_
   refine gN X8 hx hby d12_34 rfl rfl ?_
   refine gN X8 hx hby d12_35 rfl rfl ?_
   have ltc9_a : a < h0.size := A_a.lt
   have ltc9_x : x < h0.size := V_x.lt
   obtain ⟨_, _, ⟨T9, L9, k9, n9⟩, -, X9, ⟨Lc9, hQ9, l9, y9, z9⟩, st9⟩ := Jvm.LawKit.callS X8 hx (y := mN19) hown (gz hZ hw 53 rfl) (gz hZ hw 54 rfl) (gz hZ hw 55 rfl) (gz hZ hw 56 rfl) (by decide) (backOf (W := 0) (rs_c3_2_1 l Z a0 hw [] x kx c0 c1 h0 n0 Z0 V_x (by first | assumption | decide) (by first | assumption | decide) (by first | assumption | decide) (by first | assumption | decide) sgA sgH sgL) hZ (gw hw 56 rfl) (gw hw 55 rfl) (by decide) (by decide)) (g := (mkF m 36 #[vr a, vr x, vi 0, vi 2, .val .null, vu] [(.int 2), (.int 0), (.ref x)])) rfl hml.symm (argsL := [(.ref x), (.int 0), (.int 2)]) (rest := []) (lenOf own_pd14 rfl) rfl (wz rfl) (hb hby d12_36) (fun _ _ => ⟨rfl, e8, (by decide : 0 + 2 ≤ _), (by decide : 0 + 6 ≤ _)⟩)
   dsimp only [Pt.U, Pt.locs, Pt.cells, Pt.slots] at X9 l9 y9 z9 st9 hQ9
   subst l9 y9 z9
   obtain ⟨y9, ky9, rfl, N9q, K9, V_y9_9', g_y9_9', sz_y9_9'⟩ := hQ9
   have N9 := Fr.app N0 N9q
   replace sgC := own_staK sgC K9 all0
   replace A_a := A_a.keep K9
   replace F_value_a := F_value_a.keep K9 nin0
   replace F_coder_a := F_coder_a.keep K9 nin0
   replace V_x := V_x.keep K9 nin0
   replace KP := KP.trans K9 all0
   replace Z0 := Nat.le_trans Z0 K9.1
   have V_y9 := V_y9_9'
   have g_y9 := g_y9_9'
   have szc_y9 := sz_y9_9'
   have ne_a_y9 : a ≠ y9 := Nat.ne_of_lt (Nat.lt_of_lt_of_le ltc9_a szc_y9)
   have ne_x_y9 : x ≠ y9 := Nat.ne_of_lt (Nat.lt_of_lt_of_le ltc9_x szc_y9)
   refine Gs st9 ?_
   show Goes _ _ _ _ _ (fT T9 m 39 #[vr a, vr x, vi 0, vi 2, .val .null, vu] [(.ref y9)])
   refine Gz (XS.astore X9.here hx rfl (hb hby d12_39) rfl rfl (l' := #[vr a, vr x, vi 0, vi 2, .val .null, vr y9]) rfl) ?_
   refine gA X9 hx hby d12_41 rfl rfl rfl ?_
   refine Gz (XS.aload X9.here hx rfl (hb hby d12_42) rfl rfl) ?_
   refine gN X9 hx hby d12_44 rfl rfl ?_
   obtain ⟨_, _, ⟨T10, L10, k10, n10⟩, -, X10, ⟨Lc10, hQ10, l10, y10, z10⟩, st10⟩ := Jvm.LawKit.callS X9 hx (y := mN20) hown (gz hZ hw 79 rfl) (gz hZ hw 80 rfl) (gz hZ hw 55 rfl) (gz hZ hw 81 rfl) (by decide) (backOf (W := 1) (rs_cf_2_4 l Z a0 hw [] y9 ky9 [(.int (lo8 c0)), (.int (hi8 c0)), (.int (lo8 c1)), (.int (hi8 c1))] T9.heap n0 Z0 V_y9) hZ (gw hw 81 rfl) (gw hw 55 rfl) (by decide) (by decide)) (g := (mkF m 45 #[vr a, vr x, vi 0, vi 2, .val .null, vr y9] [(.int 2), (.ref y9), (.ref a)])) rfl hml.symm (argsL := [(.ref y9), (.int 2)]) (rest := [(.ref a)]) (lenOf own_pd15 rfl) rfl (wz rfl) (hb hby d12_45) (fun _ _ => ⟨rfl, rfl, (by decide : 2 + 0 ≤ _), (by decide : 6 + 0 ≤ _)⟩)
   dsimp only [Pt.U, Pt.locs, Pt.cells, Pt.slots] at X10 l10 y10 z10 st10 hQ10
   subst l10 y10 z10
   obtain ⟨rfl, N10q, e10⟩ := hQ10
   have N10 := Fr.app N9 N10q
   refine Gs st10 ?_
   show Goes _ _ _ _ _ (fT T10 m 48 #[vr a, vr x, vi 0, vi 2, .val .null, vr y9] [(.int 1), (.ref a)])
   obtain ⟨T11, h11, X11, e11, W11, st11⟩ := putFN X10 hx hZ hown (gw hw 26 rfl) Via.refl e10 F_coder_a A_a (Or.inr ⟨(gw hw 22 rfl), rfl, hnm⟩) (gw hw 7 rfl) (ty := .byte) (v' := .int 1) (by decide) rfl rfl (g := (mkF m 48 #[vr a, vr x, vi 0, vi 2, .val .null, vr y9] [(.int 1), (.ref a)])) rfl rfl (hb hby d12_48)
   have N11 := Fr.snoc X11 N10 g_a
   replace A_a := A_a.wr W11
   replace F_value_a := F_value_a.other W11 (Or.inr (slot_ne (Or.inr (gw hw 21 rfl)) (Or.inr (gw hw 22 rfl)) (by decide) (t := (.array .byte)) (t' := .byte) (by decide) (by decide)))
   replace V_x := V_x.other W11 ne_x_a
   replace sgC := sgC.wr W11
   replace V_y9 := V_y9.other W11 (Ne.symm ne_a_y9)
   replace KP := KP.wr W11 (Or.inl (List.mem_of_getElem? (i := 0) rfl))
   replace F_coder_a := F_coder_a.same W11
   replace Z0 : n0 ≤ h11.size := by rw [W11.size]; exact Z0
   refine Gs st11 ?_
   show Goes _ _ _ _ _ (fT T11 m 51 #[vr a, vr x, vi 0, vi 2, .val .null, vr y9] [])
   refine gA X11 hx hby d12_51 rfl rfl rfl ?_
   refine Gz (XS.aload X11.here hx rfl (hb hby d12_52) rfl rfl) ?_
   obtain ⟨T12, h12, X12, e12, W12, st12⟩ := putF X11 hx hZ hown (host := "") (Or.inl (gw hw 25 rfl)) Via.refl e11 F_value_a A_a (Or.inr ⟨(gw hw 21 rfl), rfl, hnm⟩) (gw hw 7 rfl) (ty := (.array .byte)) (by decide) rfl rfl (g := (mkF m 54 #[vr a, vr x, vi 0, vi 2, .val .null, vr y9] [(.ref y9), (.ref a)])) rfl rfl (hb hby d12_54)
   have N12 := Fr.snoc X12 N11 g_a
   replace A_a := A_a.wr W12
   replace F_coder_a := F_coder_a.other W12 (Or.inr (slot_ne (Or.inr (gw hw 22 rfl)) (Or.inr (gw hw 21 rfl)) (by decide) (t := .byte) (t' := (.array .byte)) (by decide) (by decide)))
   replace V_x := V_x.other W12 ne_x_a
   replace sgC := sgC.wr W12
   replace V_y9 := V_y9.other W12 (Ne.symm ne_a_y9)
   replace KP := KP.wr W12 (Or.inl (List.mem_of_getElem? (i := 0) rfl))
   replace F_value_a := F_value_a.same W12
   replace Z0 : n0 ≤ h12.size := by rw [W12.size]; exact Z0
   refine Gs st12 ?_
   show Goes _ _ _ _ _ (fT T12 m 57 #[vr a, vr x, vi 0, vi 2, .val .null, vr y9] [])
   have T_a : StrOf Z h12 a [c0, c1] := StrOf.utf A_a F_value_a F_coder_a V_y9 (by intro c hc; simp only [List.mem_cons, List.not_mem_nil, or_false] at hc; rcases hc with rfl | rfl <;> first | assumption | (exact own_toLat (by assumption) (by assumption))) rfl rfl (Nat.le_of_ble_eq_true rfl)
   refine Goes.ret X12 none (fun _ => rfl) hlk (by decide) (by decide) ?_ (fun fs hr => ?_)
   ·rw [e12]; exact ⟨rfl, N12, KP, T_a⟩
   ·exact X12.returnOut hx hret (hb hby d12_57) hr
  ·show Goes _ _ _ _ _ (fT s₁ m 0 #[vr a, vr x, vi 0, vi 2, .val .null, vu] [])
   refine gA X0 hx hby d12_0 rfl rfl rfl ?_
   obtain ⟨T13, X13, e13, st13⟩ := initO X0 hx hZ hown (gw hw 16 rfl) (gw hw 17 rfl) (gw hw 18 rfl) e0 (g := (mkF m 1 #[vr a, vr x, vi 0, vi 2, .val .null, vu] [(.ref a)])) rfl hml.symm rfl (hb hby d12_1) (by decide) (W := 0) (wz rfl) (by decide)
   refine Gs st13 ?_
   show Goes _ _ _ _ _ (fT T13 m 4 #[vr a, vr x, vi 0, vi 2, .val .null, vu] [])
   refine gN X13 hx hby d12_4 rfl rfl ?_
   refine Gz (XS.ifYes X13.here hx rfl (pc0 := 5) (pc' := 27) rfl (hb hby d12_5) rfl ((if0 _ _).trans (feq (by decide : ¬ ((2 : Int32) = (0 : Int32)))).2) (by decide) (by decide)) ?_
   obtain ⟨T14, X14, e14, st14⟩ := getS2 X13 hx hZ hown (host := "") (Or.inl (gw hw 51 rfl)) Via.refl e13 sgC (g := (mkF m 27 #[vr a, vr x, vi 0, vi 2, .val .null, vu] [])) rfl (hb hby d12_27)
   refine Gs st14 ?_
   show Goes _ _ _ _ _ (fT T14 m 30 #[vr a, vr x, vi 0, vi 2, .val .null, vu] [(.int cz)])
   refine Gz (XS.ifNo X14.here hx rfl (hb hby d12_30) rfl ((if0 _ _).trans (feq hcz).1)) ?_
   refine gA X14 hx hby d12_33 rfl rfl rfl ?_
   refine gN X14 hx hby d12_34 rfl rfl ?_
   refine gN X14 hx hby d12_35 rfl rfl ?_
   have ltc15_a : a < h0.size := A_a.lt
   have ltc15_x : x < h0.size := V_x.lt
   obtain ⟨_, _, ⟨T15, L15, k15, n15⟩, -, X15, ⟨Lc15, hQ15, l15, y15, z15⟩, st15⟩ := Jvm.LawKit.callS X14 hx (y := mN19) hown (gz hZ hw 53 rfl) (gz hZ hw 54 rfl) (gz hZ hw 55 rfl) (gz hZ hw 56 rfl) (by decide) (backOf (W := 0) (rs_c3_2_2 l Z a0 hw [] x kx c0 c1 h0 n0 Z0 V_x (by first | assumption | decide) (by first | assumption | decide)) hZ (gw hw 56 rfl) (gw hw 55 rfl) (by decide) (by decide)) (g := (mkF m 36 #[vr a, vr x, vi 0, vi 2, .val .null, vu] [(.int 2), (.int 0), (.ref x)])) rfl hml.symm (argsL := [(.ref x), (.int 0), (.int 2)]) (rest := []) (lenOf own_pd14 rfl) rfl (wz rfl) (hb hby d12_36) (fun _ _ => ⟨rfl, e14, (by decide : 0 + 1 ≤ _), (by decide : 0 + 2 ≤ _)⟩)
   dsimp only [Pt.U, Pt.locs, Pt.cells, Pt.slots] at X15 l15 y15 z15 st15 hQ15
   subst l15 y15 z15
   obtain ⟨y15, ky15, rfl, N15q, K15, V_y15_15', g_y15_15', sz_y15_15'⟩ := hQ15
   have N15 := Fr.app N0 N15q
   replace A_a := A_a.keep K15
   replace F_value_a := F_value_a.keep K15 nin0
   replace F_coder_a := F_coder_a.keep K15 nin0
   replace KP := KP.trans K15 all0
   replace Z0 := Nat.le_trans Z0 K15.1
   have V_y15 := V_y15_15'
   have g_y15 := g_y15_15'
   have szc_y15 := sz_y15_15'
   have ne_a_y15 : a ≠ y15 := Nat.ne_of_lt (Nat.lt_of_lt_of_le ltc15_a szc_y15)
   have ne_x_y15 : x ≠ y15 := Nat.ne_of_lt (Nat.lt_of_lt_of_le ltc15_x szc_y15)
   refine Gs st15 ?_
   show Goes _ _ _ _ _ (fT T15 m 39 #[vr a, vr x, vi 0, vi 2, .val .null, vu] [(.ref y15)])
   refine Gz (XS.astore X15.here hx rfl (hb hby d12_39) rfl rfl (l' := #[vr a, vr x, vi 0, vi 2, .val .null, vr y15]) rfl) ?_
   refine gA X15 hx hby d12_41 rfl rfl rfl ?_
   refine Gz (XS.aload X15.here hx rfl (hb hby d12_42) rfl rfl) ?_
   refine gN X15 hx hby d12_44 rfl rfl ?_
   obtain ⟨_, _, ⟨T16, L16, k16, n16⟩, -, X16, ⟨Lc16, hQ16, l16, y16, z16⟩, st16⟩ := Jvm.LawKit.callS X15 hx (y := mN20) hown (gz hZ hw 79 rfl) (gz hZ hw 80 rfl) (gz hZ hw 55 rfl) (gz hZ hw 81 rfl) (by decide) (backOf (W := 1) (rs_cf_2_2 l Z a0 hw [] y15 ky15 [(.int (lo8 c0)), (.int (lo8 c1))] T15.heap n0 Z0 V_y15) hZ (gw hw 81 rfl) (gw hw 55 rfl) (by decide) (by decide)) (g := (mkF m 45 #[vr a, vr x, vi 0, vi 2, .val .null, vr y15] [(.int 2), (.ref y15), (.ref a)])) rfl hml.symm (argsL := [(.ref y15), (.int 2)]) (rest := [(.ref a)]) (lenOf own_pd15 rfl) rfl (wz rfl) (hb hby d12_45) (fun _ _ => ⟨rfl, rfl, (by decide : 1 + 0 ≤ _), (by decide : 2 + 0 ≤ _)⟩)
   dsimp only [Pt.U, Pt.locs, Pt.cells, Pt.slots] at X16 l16 y16 z16 st16 hQ16
   subst l16 y16 z16
   obtain ⟨rfl, N16q, e16⟩ := hQ16
   have N16 := Fr.app N15 N16q
   refine Gs st16 ?_
   show Goes _ _ _ _ _ (fT T16 m 48 #[vr a, vr x, vi 0, vi 2, .val .null, vr y15] [(.int 0), (.ref a)])
   obtain ⟨T17, h17, X17, e17, W17, st17⟩ := putFN X16 hx hZ hown (gw hw 26 rfl) Via.refl e16 F_coder_a A_a (Or.inr ⟨(gw hw 22 rfl), rfl, hnm⟩) (gw hw 7 rfl) (ty := .byte) (v' := .int 0) (by decide) rfl rfl (g := (mkF m 48 #[vr a, vr x, vi 0, vi 2, .val .null, vr y15] [(.int 0), (.ref a)])) rfl rfl (hb hby d12_48)
   have N17 := Fr.snoc X17 N16 g_a
   replace A_a := A_a.wr W17
   replace F_value_a := F_value_a.other W17 (Or.inr (slot_ne (Or.inr (gw hw 21 rfl)) (Or.inr (gw hw 22 rfl)) (by decide) (t := (.array .byte)) (t' := .byte) (by decide) (by decide)))
   replace V_y15 := V_y15.other W17 (Ne.symm ne_a_y15)
   replace KP := KP.wr W17 (Or.inl (List.mem_of_getElem? (i := 0) rfl))
   replace F_coder_a := F_coder_a.same W17
   replace Z0 : n0 ≤ h17.size := by rw [W17.size]; exact Z0
   refine Gs st17 ?_
   show Goes _ _ _ _ _ (fT T17 m 51 #[vr a, vr x, vi 0, vi 2, .val .null, vr y15] [])
   refine gA X17 hx hby d12_51 rfl rfl rfl ?_
   refine Gz (XS.aload X17.here hx rfl (hb hby d12_52) rfl rfl) ?_
   obtain ⟨T18, h18, X18, e18, W18, st18⟩ := putF X17 hx hZ hown (host := "") (Or.inl (gw hw 25 rfl)) Via.refl e17 F_value_a A_a (Or.inr ⟨(gw hw 21 rfl), rfl, hnm⟩) (gw hw 7 rfl) (ty := (.array .byte)) (by decide) rfl rfl (g := (mkF m 54 #[vr a, vr x, vi 0, vi 2, .val .null, vr y15] [(.ref y15), (.ref a)])) rfl rfl (hb hby d12_54)
   have N18 := Fr.snoc X18 N17 g_a
   replace A_a := A_a.wr W18
   replace F_coder_a := F_coder_a.other W18 (Or.inr (slot_ne (Or.inr (gw hw 22 rfl)) (Or.inr (gw hw 21 rfl)) (by decide) (t := .byte) (t' := (.array .byte)) (by decide) (by decide)))
   replace V_y15 := V_y15.other W18 (Ne.symm ne_a_y15)
   replace KP := KP.wr W18 (Or.inl (List.mem_of_getElem? (i := 0) rfl))
   replace F_value_a := F_value_a.same W18
   replace Z0 : n0 ≤ h18.size := by rw [W18.size]; exact Z0
   refine Gs st18 ?_
   show Goes _ _ _ _ _ (fT T18 m 57 #[vr a, vr x, vi 0, vi 2, .val .null, vr y15] [])
   have T_a : StrOf Z h18 a [c0, c1] := StrOf.latin A_a F_value_a F_coder_a V_y15 (by intro c hc; simp only [List.mem_cons, List.not_mem_nil, or_false] at hc; rcases hc with rfl | rfl <;> first | assumption | (exact own_toLat (by assumption) (by assumption))) rfl rfl (Nat.le_of_ble_eq_true rfl)
   refine Goes.ret X18 none (fun _ => rfl) hlk (by decide) (by decide) ?_ (fun fs hr => ?_)
   ·rw [e18]; exact ⟨rfl, N18, KP, T_a⟩
   ·exact X18.returnOut hx hret (hb hby d12_57) hr
theorem own_ef_rs_i1_2 (m : MethodId) (x0 : Addr) (x1 : Addr) : entryFrame m #[(.ref x0), (.ref x1)] 2 = mkF m 0 #[vr x0, vr x1] [] := by first | (simp [entryFrame, mkF, argsToLocals, Value.category]; done) | rfl
def Q_rs_i1_2 (Z : State) (a : Addr) (x : Addr) (kx : ClassId) (c0 : Int32) (c1 : Int32) (cz : Int32) (h0 : Heap) (n0 : Nat) (v : Option Value) (h : Heap) (L : List Loc) : Prop := v = none ∧ Fr n0 L ∧ Keep h0 h [a] ∧ StrOf Z h a [c0, c1]
set_option maxRecDepth 65536 in
set_option maxHeartbeats 40000000 in
theorem rs_i1_2 (l : Launch) (Z : State) (a0 : Array Value) (hw : HW a0 Z) (ws : List Jvm.Cond) (a : Addr) (x : Addr) (kx : ClassId) (c0 : Int32) (c1 : Int32) (cz : Int32) (h0 : Heap) (n0 : Nat) (Z0 : n0 ≤ h0.size) (A_a : Exa Z h0 a "java/lang/String") (F_value_a : Fld Z h0 a "java/lang/String" "value" "[B" .null) (F_coder_a : Fld Z h0 a "java/lang/String" "coder" "B" (.int 0)) (V_x : Arv Z h0 x kx .char 2 [(.int c0), (.int c1)] (.int 0)) (g_a : n0 ≤ a) (ne_x_a : x ≠ a) (sgC : Sta Z h0 "java/lang/String" "COMPACT_STRINGS" "Z" (.int cz)) (hcz : ¬ (cz = 0)) (hC_c0 : Chr c0) (hC_c1 : Chr c1) (sgA : Sta Z h0 "java/lang/StringUTF16" "$assertionsDisabled" "Z" (.int 1)) (sgH : Sta Z h0 "java/lang/StringUTF16" "HI_BYTE_SHIFT" "I" (.int 0)) (sgL : Sta Z h0 "java/lang/StringUTF16" "LO_BYTE_SHIFT" "I" (.int 8)) :
  Met l Z mN13 jdk_42_method_3_code 2 none ({ frames := 5, cells := 2, slots := 6, locals := 74 } : Room) ws #[(.ref a), (.ref x)] h0 (Q_rs_i1_2 Z a x kx c0 c1 cz h0 n0) := by
 refine own_met (plainFor_of_name own_pn0) ?_
 intro p e s m below meth c s₁ hret hx hby hlk hml hown hnm X0 e0 hZ hh
 have N0 := Fr.nil n0
 refine Gz (castTop (own_ef_rs_i1_2 m a x)) ?_
 have KP : Keep h0 h0 [a] := Keep.refl _ _
 show Goes _ _ _ _ _ (fT s₁ m 0 #[vr a, vr x] [])
 refine gA X0 hx hby d13_0 rfl rfl rfl ?_
 refine gA X0 hx hby d13_1 rfl rfl rfl ?_
 refine Gz (XS.iconst X0.here hx rfl (hb hby d13_2)) ?_
 refine gA X0 hx hby d13_3 rfl rfl rfl ?_
 obtain ⟨cl1, Ar1, -, S1, N1z, -, -⟩ := id V_x
 refine Gs (fun _ tk => X0.arraylength hx (by rw [e0]; exact Ar1.1) (State.isArrayOf_alike hZ.alike Ar1.2.1) (g := (mkF m 4 #[vr a, vr x] [(.ref x), (.int 0), (.ref x), (.ref a)])) rfl rfl (hb hby d13_4) _ tk) ?_
 rw [len_of S1 N1z]
 show Goes _ _ _ _ _ (fT s₁ m 5 #[vr a, vr x] [(.int 2), (.int 0), (.ref x), (.ref a)])
 refine Gz (XS.aconstNull X0.here hx rfl (hb hby d13_5)) ?_
 obtain ⟨_, _, ⟨T2, L2, k2, n2⟩, -, X2, ⟨Lc2, hQ2, l2, y2, z2⟩, st2⟩ := X0.specialBack hx (y := mN12) rfl hown (gz hZ hw 12 rfl) (gz hZ hw 13 rfl) (gz hZ hw 15 rfl) (by decide) (backOf (W := 0) (rs_i4_2 l Z a0 hw [] a x kx c0 c1 cz h0 n0 Z0 A_a F_value_a F_coder_a V_x g_a ne_x_a sgC (by first | assumption | decide) (by first | assumption | decide) (by first | assumption | decide) sgA sgH sgL) hZ (gw hw 15 rfl) (gw hw 8 rfl) (by decide) (by decide)) (g := (mkF m 6 #[vr a, vr x] [.null, (.int 2), (.int 0), (.ref x), (.ref a)])) rfl hml.symm (Steps.refl _) (a := a) (argsL := [(.ref x), (.int 0), (.int 2), .null]) (rest := []) (lenOf own_pd9 rfl) rfl (wz rfl) (hb hby d13_6) (fun _ _ => ⟨rfl, e0, (by decide : 0 + 2 ≤ _), (by decide : 0 + 6 ≤ _)⟩)
 dsimp only [Pt.U, Pt.locs, Pt.cells, Pt.slots] at X2 l2 y2 z2 st2 hQ2
 subst l2 y2 z2
 obtain ⟨rfl, N2q, K2, T_a_2'⟩ := hQ2
 have N2 := Fr.app N0 N2q
 replace KP := KP.trans K2 (allS (Or.inl (List.mem_of_getElem? (i := 0) rfl)) all0)
 replace Z0 := Nat.le_trans Z0 K2.1
 have T_a := T_a_2'
 refine Gs (fun _ tk => st2.trans tk) ?_
 show Goes _ _ _ _ _ (fT T2 m 9 #[vr a, vr x] [])
 refine Goes.ret X2 none (fun _ => rfl) hlk (by decide) (by decide) ?_ (fun fs hr => ?_)
 ·exact ⟨rfl, N2, KP, T_a⟩
 ·exact X2.returnOut hx hret (hb hby d13_9) hr
theorem own_ef_rs_pc_3_0 (m : MethodId) (x0 : Addr) (x2 : Int32) : entryFrame m #[(.ref x0), (.int 0), (.int x2)] 3 = mkF m 0 #[vr x0, vi 0, vi x2] [] := by first | (simp [entryFrame, mkF, argsToLocals, Value.category]; done) | rfl
def Q_rs_pc_3_0 (Z : State) (y : Addr) (ky : ClassId) (c0 : Int32) (h0 : Heap) (n0 : Nat) (v : Option Value) (h : Heap) (L : List Loc) : Prop := v = none ∧ Fr n0 L ∧ Keep h0 h [y] ∧ Arv Z h y ky .byte 6 [(.int (lo8 c0)), (.int (hi8 c0)), (.int 0), (.int 0), (.int 0), (.int 0)] (.int 0)
set_option maxRecDepth 65536 in
set_option maxHeartbeats 40000000 in
theorem rs_pc_3_0 (l : Launch) (Z : State) (a0 : Array Value) (hw : HW a0 Z) (ws : List Jvm.Cond) (y : Addr) (ky : ClassId) (c0 : Int32) (h0 : Heap) (n0 : Nat) (Z0 : n0 ≤ h0.size) (V_y : Arv Z h0 y ky .byte 6 [(.int 0), (.int 0), (.int 0), (.int 0), (.int 0), (.int 0)] (.int 0)) (g_y : n0 ≤ y) (sgA : Sta Z h0 "java/lang/StringUTF16" "$assertionsDisabled" "Z" (.int 1)) (sgH : Sta Z h0 "java/lang/StringUTF16" "HI_BYTE_SHIFT" "I" (.int 0)) (sgL : Sta Z h0 "java/lang/StringUTF16" "LO_BYTE_SHIFT" "I" (.int 8)) :
  Met l Z mN14 jdk_52_method_4_code 3 none ({ frames := 0, cells := 0, slots := 0, locals := 0 } : Room) ws #[(.ref y), (.int 0), (.int c0)] h0 (Q_rs_pc_3_0 Z y ky c0 h0 n0) := by
 refine own_met (plainFor_of_name own_pn2) ?_
 intro p e s m below meth c s₁ hret hx hby hlk hml hown hnm X0 e0 hZ hh
 have N0 := Fr.nil n0
 refine Gz (castTop (own_ef_rs_pc_3_0 m y c0)) ?_
 have KP : Keep h0 h0 [y] := Keep.refl _ _
 show Goes _ _ _ _ _ (fT s₁ m 0 #[vr y, vi 0, vi c0] [])
 obtain ⟨T1, X1, e1, st1⟩ := getS2 X0 hx hZ hown (host := "") (Or.inl (gw hw 73 rfl)) Via.refl e0 sgA (g := (mkF m 0 #[vr y, vi 0, vi c0] [])) rfl (hb hby d14_0)
 refine Gs st1 ?_
 show Goes _ _ _ _ _ (fT T1 m 3 #[vr y, vi 0, vi c0] [(.int 1)])
 refine Gz (XS.ifYes X1.here hx rfl (pc0 := 3) (pc' := 28) rfl (hb hby d14_3) rfl ((if0 _ _).trans (feq (by decide : ¬ ((1 : Int32) = (0 : Int32)))).2) (by decide) (by decide)) ?_
 refine gN X1 hx hby d14_28 rfl rfl ?_
 refine Gz (XS.iconst X1.here hx rfl (hb hby d14_29)) ?_
 show Goes _ _ _ _ _ (fT T1 m 30 #[vr y, vi 0, vi c0] [(.int 1), (.int 0)])
 refine Gz (XS.ishl X1.here hx rfl (hb hby d14_30) rfl) ?_
 rw [show ((0 : Int32) <<< ((1 : Int32) &&& 31)) = 0 from by decide]
 show Goes _ _ _ _ _ (fT T1 m 31 #[vr y, vi 0, vi c0] [(.int 0)])
 refine Gz (XS.istoreN X1.here hx rfl (hb hby d14_31) rfl (l' := #[vr y, vi 0, vi c0]) rfl) ?_
 refine gA X1 hx hby d14_32 rfl rfl rfl ?_
 refine gN X1 hx hby d14_33 rfl rfl ?_
 show Goes _ _ _ _ _ (fT T1 m 34 #[vr y, vi 0, vi c0] [(.int 0), (.ref y)])
 refine Gz (XS.iinc X1.here hx rfl (hb hby d14_34) rfl (l' := #[vr y, vi ((0 : Int32) + (1 : Int32)), vi c0]) rfl) ?_
 rw [show ((0 : Int32) + (1 : Int32)) = 1 from by decide]
 show Goes _ _ _ _ _ (fT T1 m 37 #[vr y, vi 1, vi c0] [(.int 0), (.ref y)])
 refine gN X1 hx hby d14_37 rfl rfl ?_
 obtain ⟨T2, X2, e2, st2⟩ := getS2 X1 hx hZ hown (host := "") (Or.inl (gw hw 74 rfl)) Via.refl e1 sgH (g := (mkF m 38 #[vr y, vi 1, vi c0] [(.int c0), (.int 0), (.ref y)])) rfl (hb hby d14_38)
 refine Gs st2 ?_
 show Goes _ _ _ _ _ (fT T2 m 41 #[vr y, vi 1, vi c0] [(.int 0), (.int c0), (.int 0), (.ref y)])
 refine Gz (XS.ishr X2.here hx rfl (hb hby d14_41) rfl) ?_
 show Goes _ _ _ _ _ (fT T2 m 42 #[vr y, vi 1, vi c0] [(.int (c0 >>> ((0 : Int32) &&& 31))), (.int 0), (.ref y)])
 rw [own_shr0]
 show Goes _ _ _ _ _ (fT T2 m 42 #[vr y, vi 1, vi c0] [(.int c0), (.int 0), (.ref y)])
 refine Gz (XS.i2b X2.here hx rfl (hb hby d14_42) rfl) ?_
 show Goes _ _ _ _ _ (fT T2 m 43 #[vr y, vi 1, vi c0] [(.int (c0.toInt8.toInt32)), (.int 0), (.ref y)])
 obtain ⟨cl3, Ar3, q3, S3, N3z, H3, G3⟩ := V_y
 have hin3 : ¬ ((0 : Int32) < 0 ∨ cl3.slots.size ≤ ((0 : Int32)).toNatClampNeg) := inb_of S3 ⟨by decide, by decide⟩
 obtain ⟨T3, h3, X3, e3, W3, st3⟩ := stB X2 hx hZ e2 Ar3 (j := (0 : Int32)) hin3 (g := (mkF m 43 #[vr y, vi 1, vi c0] [(.int (c0.toInt8.toInt32)), (.int 0), (.ref y)])) rfl rfl (hb hby d14_43)
 have Vn3 := Arv.set Ar3 q3 S3 N3z H3 G3 (fits_nar_byte _) W3 0 rfl (Nat.le_of_ble_eq_true rfl)
 have N3 := Fr.snoc X3 N0 g_y
 replace sgL := sgL.wr W3
 replace KP := KP.wr W3 (Or.inl (List.mem_of_getElem? (i := 0) rfl))
 have V_y : Arv Z h3 y ky .byte 6 [(.int (lo8 c0)), (.int 0), (.int 0), (.int 0), (.int 0), (.int 0)] (.int 0) := by have q := Vn3; rw [own_nb2] at q; exact q
 replace Z0 : n0 ≤ h3.size := by rw [W3.size]; exact Z0
 refine Gs st3 ?_
 show Goes _ _ _ _ _ (fT T3 m 44 #[vr y, vi 1, vi c0] [])
 refine gA X3 hx hby d14_44 rfl rfl rfl ?_
 refine gN X3 hx hby d14_45 rfl rfl ?_
 refine gN X3 hx hby d14_46 rfl rfl ?_
 obtain ⟨T4, X4, e4, st4⟩ := getS2 X3 hx hZ hown (host := "") (Or.inl (gw hw 75 rfl)) Via.refl e3 sgL (g := (mkF m 47 #[vr y, vi 1, vi c0] [(.int c0), (.int 1), (.ref y)])) rfl (hb hby d14_47)
 refine Gs st4 ?_
 show Goes _ _ _ _ _ (fT T4 m 50 #[vr y, vi 1, vi c0] [(.int 8), (.int c0), (.int 1), (.ref y)])
 refine Gz (XS.ishr X4.here hx rfl (hb hby d14_50) rfl) ?_
 show Goes _ _ _ _ _ (fT T4 m 51 #[vr y, vi 1, vi c0] [(.int (c0 >>> ((8 : Int32) &&& 31))), (.int 1), (.ref y)])
 refine Gz (XS.i2b X4.here hx rfl (hb hby d14_51) rfl) ?_
 show Goes _ _ _ _ _ (fT T4 m 52 #[vr y, vi 1, vi c0] [(.int ((c0 >>> ((8 : Int32) &&& 31)).toInt8.toInt32)), (.int 1), (.ref y)])
 obtain ⟨cl5, Ar5, q5, S5, N5z, H5, G5⟩ := V_y
 have hin5 : ¬ ((1 : Int32) < 0 ∨ cl5.slots.size ≤ ((1 : Int32)).toNatClampNeg) := inb_of S5 ⟨by decide, by decide⟩
 obtain ⟨T5, h5, X5, e5, W5, st5⟩ := stB X4 hx hZ e4 Ar5 (j := (1 : Int32)) hin5 (g := (mkF m 52 #[vr y, vi 1, vi c0] [(.int ((c0 >>> ((8 : Int32) &&& 31)).toInt8.toInt32)), (.int 1), (.ref y)])) rfl rfl (hb hby d14_52)
 have Vn5 := Arv.set Ar5 q5 S5 N5z H5 G5 (fits_nar_byte _) W5 1 rfl (Nat.le_of_ble_eq_true rfl)
 have N5 := Fr.snoc X5 N3 g_y
 replace KP := KP.wr W5 (Or.inl (List.mem_of_getElem? (i := 0) rfl))
 have V_y : Arv Z h5 y ky .byte 6 [(.int (lo8 c0)), (.int (hi8 c0)), (.int 0), (.int 0), (.int 0), (.int 0)] (.int 0) := by have q := Vn5; rw [own_nbh2] at q; exact q
 replace Z0 : n0 ≤ h5.size := by rw [W5.size]; exact Z0
 refine Gs st5 ?_
 show Goes _ _ _ _ _ (fT T5 m 53 #[vr y, vi 1, vi c0] [])
 refine Goes.ret X5 none (fun _ => rfl) hlk (by decide) (by decide) ?_ (fun fs hr => ?_)
 ·rw [e5]; exact ⟨rfl, N5, KP, V_y⟩
 ·exact X5.returnOut hx hret (hb hby d14_53) hr
theorem own_ef_rs_pc_3_1 (m : MethodId) (x0 : Addr) (x2 : Int32) : entryFrame m #[(.ref x0), (.int 1), (.int x2)] 3 = mkF m 0 #[vr x0, vi 1, vi x2] [] := by first | (simp [entryFrame, mkF, argsToLocals, Value.category]; done) | rfl
def Q_rs_pc_3_1 (Z : State) (y : Addr) (ky : ClassId) (c0 : Int32) (c1 : Int32) (h0 : Heap) (n0 : Nat) (v : Option Value) (h : Heap) (L : List Loc) : Prop := v = none ∧ Fr n0 L ∧ Keep h0 h [y] ∧ Arv Z h y ky .byte 6 [(.int (lo8 c0)), (.int (hi8 c0)), (.int (lo8 c1)), (.int (hi8 c1)), (.int 0), (.int 0)] (.int 0)
set_option maxRecDepth 65536 in
set_option maxHeartbeats 40000000 in
theorem rs_pc_3_1 (l : Launch) (Z : State) (a0 : Array Value) (hw : HW a0 Z) (ws : List Jvm.Cond) (y : Addr) (ky : ClassId) (c0 : Int32) (c1 : Int32) (h0 : Heap) (n0 : Nat) (Z0 : n0 ≤ h0.size) (V_y : Arv Z h0 y ky .byte 6 [(.int (lo8 c0)), (.int (hi8 c0)), (.int 0), (.int 0), (.int 0), (.int 0)] (.int 0)) (g_y : n0 ≤ y) (sgA : Sta Z h0 "java/lang/StringUTF16" "$assertionsDisabled" "Z" (.int 1)) (sgH : Sta Z h0 "java/lang/StringUTF16" "HI_BYTE_SHIFT" "I" (.int 0)) (sgL : Sta Z h0 "java/lang/StringUTF16" "LO_BYTE_SHIFT" "I" (.int 8)) :
  Met l Z mN14 jdk_52_method_4_code 3 none ({ frames := 0, cells := 0, slots := 0, locals := 0 } : Room) ws #[(.ref y), (.int 1), (.int c1)] h0 (Q_rs_pc_3_1 Z y ky c0 c1 h0 n0) := by
 refine own_met (plainFor_of_name own_pn2) ?_
 intro p e s m below meth c s₁ hret hx hby hlk hml hown hnm X0 e0 hZ hh
 have N0 := Fr.nil n0
 refine Gz (castTop (own_ef_rs_pc_3_1 m y c1)) ?_
 have KP : Keep h0 h0 [y] := Keep.refl _ _
 show Goes _ _ _ _ _ (fT s₁ m 0 #[vr y, vi 1, vi c1] [])
 obtain ⟨T1, X1, e1, st1⟩ := getS2 X0 hx hZ hown (host := "") (Or.inl (gw hw 73 rfl)) Via.refl e0 sgA (g := (mkF m 0 #[vr y, vi 1, vi c1] [])) rfl (hb hby d14_0)
 refine Gs st1 ?_
 show Goes _ _ _ _ _ (fT T1 m 3 #[vr y, vi 1, vi c1] [(.int 1)])
 refine Gz (XS.ifYes X1.here hx rfl (pc0 := 3) (pc' := 28) rfl (hb hby d14_3) rfl ((if0 _ _).trans (feq (by decide : ¬ ((1 : Int32) = (0 : Int32)))).2) (by decide) (by decide)) ?_
 refine gN X1 hx hby d14_28 rfl rfl ?_
 refine Gz (XS.iconst X1.here hx rfl (hb hby d14_29)) ?_
 show Goes _ _ _ _ _ (fT T1 m 30 #[vr y, vi 1, vi c1] [(.int 1), (.int 1)])
 refine Gz (XS.ishl X1.here hx rfl (hb hby d14_30) rfl) ?_
 rw [show ((1 : Int32) <<< ((1 : Int32) &&& 31)) = 2 from by decide]
 show Goes _ _ _ _ _ (fT T1 m 31 #[vr y, vi 1, vi c1] [(.int 2)])
 refine Gz (XS.istoreN X1.here hx rfl (hb hby d14_31) rfl (l' := #[vr y, vi 2, vi c1]) rfl) ?_
 refine gA X1 hx hby d14_32 rfl rfl rfl ?_
 refine gN X1 hx hby d14_33 rfl rfl ?_
 show Goes _ _ _ _ _ (fT T1 m 34 #[vr y, vi 2, vi c1] [(.int 2), (.ref y)])
 refine Gz (XS.iinc X1.here hx rfl (hb hby d14_34) rfl (l' := #[vr y, vi ((2 : Int32) + (1 : Int32)), vi c1]) rfl) ?_
 rw [show ((2 : Int32) + (1 : Int32)) = 3 from by decide]
 show Goes _ _ _ _ _ (fT T1 m 37 #[vr y, vi 3, vi c1] [(.int 2), (.ref y)])
 refine gN X1 hx hby d14_37 rfl rfl ?_
 obtain ⟨T2, X2, e2, st2⟩ := getS2 X1 hx hZ hown (host := "") (Or.inl (gw hw 74 rfl)) Via.refl e1 sgH (g := (mkF m 38 #[vr y, vi 3, vi c1] [(.int c1), (.int 2), (.ref y)])) rfl (hb hby d14_38)
 refine Gs st2 ?_
 show Goes _ _ _ _ _ (fT T2 m 41 #[vr y, vi 3, vi c1] [(.int 0), (.int c1), (.int 2), (.ref y)])
 refine Gz (XS.ishr X2.here hx rfl (hb hby d14_41) rfl) ?_
 show Goes _ _ _ _ _ (fT T2 m 42 #[vr y, vi 3, vi c1] [(.int (c1 >>> ((0 : Int32) &&& 31))), (.int 2), (.ref y)])
 rw [own_shr0]
 show Goes _ _ _ _ _ (fT T2 m 42 #[vr y, vi 3, vi c1] [(.int c1), (.int 2), (.ref y)])
 refine Gz (XS.i2b X2.here hx rfl (hb hby d14_42) rfl) ?_
 show Goes _ _ _ _ _ (fT T2 m 43 #[vr y, vi 3, vi c1] [(.int (c1.toInt8.toInt32)), (.int 2), (.ref y)])
 obtain ⟨cl3, Ar3, q3, S3, N3z, H3, G3⟩ := V_y
 have hin3 : ¬ ((2 : Int32) < 0 ∨ cl3.slots.size ≤ ((2 : Int32)).toNatClampNeg) := inb_of S3 ⟨by decide, by decide⟩
 obtain ⟨T3, h3, X3, e3, W3, st3⟩ := stB X2 hx hZ e2 Ar3 (j := (2 : Int32)) hin3 (g := (mkF m 43 #[vr y, vi 3, vi c1] [(.int (c1.toInt8.toInt32)), (.int 2), (.ref y)])) rfl rfl (hb hby d14_43)
 have Vn3 := Arv.set Ar3 q3 S3 N3z H3 G3 (fits_nar_byte _) W3 2 rfl (Nat.le_of_ble_eq_true rfl)
 have N3 := Fr.snoc X3 N0 g_y
 replace sgL := sgL.wr W3
 replace KP := KP.wr W3 (Or.inl (List.mem_of_getElem? (i := 0) rfl))
 have V_y : Arv Z h3 y ky .byte 6 [(.int (lo8 c0)), (.int (hi8 c0)), (.int (lo8 c1)), (.int 0), (.int 0), (.int 0)] (.int 0) := by have q := Vn3; rw [own_nb2] at q; exact q
 replace Z0 : n0 ≤ h3.size := by rw [W3.size]; exact Z0
 refine Gs st3 ?_
 show Goes _ _ _ _ _ (fT T3 m 44 #[vr y, vi 3, vi c1] [])
 refine gA X3 hx hby d14_44 rfl rfl rfl ?_
 refine gN X3 hx hby d14_45 rfl rfl ?_
 refine gN X3 hx hby d14_46 rfl rfl ?_
 obtain ⟨T4, X4, e4, st4⟩ := getS2 X3 hx hZ hown (host := "") (Or.inl (gw hw 75 rfl)) Via.refl e3 sgL (g := (mkF m 47 #[vr y, vi 3, vi c1] [(.int c1), (.int 3), (.ref y)])) rfl (hb hby d14_47)
 refine Gs st4 ?_
 show Goes _ _ _ _ _ (fT T4 m 50 #[vr y, vi 3, vi c1] [(.int 8), (.int c1), (.int 3), (.ref y)])
 refine Gz (XS.ishr X4.here hx rfl (hb hby d14_50) rfl) ?_
 show Goes _ _ _ _ _ (fT T4 m 51 #[vr y, vi 3, vi c1] [(.int (c1 >>> ((8 : Int32) &&& 31))), (.int 3), (.ref y)])
 refine Gz (XS.i2b X4.here hx rfl (hb hby d14_51) rfl) ?_
 show Goes _ _ _ _ _ (fT T4 m 52 #[vr y, vi 3, vi c1] [(.int ((c1 >>> ((8 : Int32) &&& 31)).toInt8.toInt32)), (.int 3), (.ref y)])
 obtain ⟨cl5, Ar5, q5, S5, N5z, H5, G5⟩ := V_y
 have hin5 : ¬ ((3 : Int32) < 0 ∨ cl5.slots.size ≤ ((3 : Int32)).toNatClampNeg) := inb_of S5 ⟨by decide, by decide⟩
 obtain ⟨T5, h5, X5, e5, W5, st5⟩ := stB X4 hx hZ e4 Ar5 (j := (3 : Int32)) hin5 (g := (mkF m 52 #[vr y, vi 3, vi c1] [(.int ((c1 >>> ((8 : Int32) &&& 31)).toInt8.toInt32)), (.int 3), (.ref y)])) rfl rfl (hb hby d14_52)
 have Vn5 := Arv.set Ar5 q5 S5 N5z H5 G5 (fits_nar_byte _) W5 3 rfl (Nat.le_of_ble_eq_true rfl)
 have N5 := Fr.snoc X5 N3 g_y
 replace KP := KP.wr W5 (Or.inl (List.mem_of_getElem? (i := 0) rfl))
 have V_y : Arv Z h5 y ky .byte 6 [(.int (lo8 c0)), (.int (hi8 c0)), (.int (lo8 c1)), (.int (hi8 c1)), (.int 0), (.int 0)] (.int 0) := by have q := Vn5; rw [own_nbh2] at q; exact q
 replace Z0 : n0 ≤ h5.size := by rw [W5.size]; exact Z0
 refine Gs st5 ?_
 show Goes _ _ _ _ _ (fT T5 m 53 #[vr y, vi 3, vi c1] [])
 refine Goes.ret X5 none (fun _ => rfl) hlk (by decide) (by decide) ?_ (fun fs hr => ?_)
 ·rw [e5]; exact ⟨rfl, N5, KP, V_y⟩
 ·exact X5.returnOut hx hret (hb hby d14_53) hr
theorem own_ef_rs_pc_3_2 (m : MethodId) (x0 : Addr) (x2 : Int32) : entryFrame m #[(.ref x0), (.int 2), (.int x2)] 3 = mkF m 0 #[vr x0, vi 2, vi x2] [] := by first | (simp [entryFrame, mkF, argsToLocals, Value.category]; done) | rfl
def Q_rs_pc_3_2 (Z : State) (y : Addr) (ky : ClassId) (c0 : Int32) (c1 : Int32) (c2 : Int32) (h0 : Heap) (n0 : Nat) (v : Option Value) (h : Heap) (L : List Loc) : Prop := v = none ∧ Fr n0 L ∧ Keep h0 h [y] ∧ Arv Z h y ky .byte 6 [(.int (lo8 c0)), (.int (hi8 c0)), (.int (lo8 c1)), (.int (hi8 c1)), (.int (lo8 c2)), (.int (hi8 c2))] (.int 0)
set_option maxRecDepth 65536 in
set_option maxHeartbeats 40000000 in
theorem rs_pc_3_2 (l : Launch) (Z : State) (a0 : Array Value) (hw : HW a0 Z) (ws : List Jvm.Cond) (y : Addr) (ky : ClassId) (c0 : Int32) (c1 : Int32) (c2 : Int32) (h0 : Heap) (n0 : Nat) (Z0 : n0 ≤ h0.size) (V_y : Arv Z h0 y ky .byte 6 [(.int (lo8 c0)), (.int (hi8 c0)), (.int (lo8 c1)), (.int (hi8 c1)), (.int 0), (.int 0)] (.int 0)) (g_y : n0 ≤ y) (sgA : Sta Z h0 "java/lang/StringUTF16" "$assertionsDisabled" "Z" (.int 1)) (sgH : Sta Z h0 "java/lang/StringUTF16" "HI_BYTE_SHIFT" "I" (.int 0)) (sgL : Sta Z h0 "java/lang/StringUTF16" "LO_BYTE_SHIFT" "I" (.int 8)) :
  Met l Z mN14 jdk_52_method_4_code 3 none ({ frames := 0, cells := 0, slots := 0, locals := 0 } : Room) ws #[(.ref y), (.int 2), (.int c2)] h0 (Q_rs_pc_3_2 Z y ky c0 c1 c2 h0 n0) := by
 refine own_met (plainFor_of_name own_pn2) ?_
 intro p e s m below meth c s₁ hret hx hby hlk hml hown hnm X0 e0 hZ hh
 have N0 := Fr.nil n0
 refine Gz (castTop (own_ef_rs_pc_3_2 m y c2)) ?_
 have KP : Keep h0 h0 [y] := Keep.refl _ _
 show Goes _ _ _ _ _ (fT s₁ m 0 #[vr y, vi 2, vi c2] [])
 obtain ⟨T1, X1, e1, st1⟩ := getS2 X0 hx hZ hown (host := "") (Or.inl (gw hw 73 rfl)) Via.refl e0 sgA (g := (mkF m 0 #[vr y, vi 2, vi c2] [])) rfl (hb hby d14_0)
 refine Gs st1 ?_
 show Goes _ _ _ _ _ (fT T1 m 3 #[vr y, vi 2, vi c2] [(.int 1)])
 refine Gz (XS.ifYes X1.here hx rfl (pc0 := 3) (pc' := 28) rfl (hb hby d14_3) rfl ((if0 _ _).trans (feq (by decide : ¬ ((1 : Int32) = (0 : Int32)))).2) (by decide) (by decide)) ?_
 refine gN X1 hx hby d14_28 rfl rfl ?_
 refine Gz (XS.iconst X1.here hx rfl (hb hby d14_29)) ?_
 show Goes _ _ _ _ _ (fT T1 m 30 #[vr y, vi 2, vi c2] [(.int 1), (.int 2)])
 refine Gz (XS.ishl X1.here hx rfl (hb hby d14_30) rfl) ?_
 rw [show ((2 : Int32) <<< ((1 : Int32) &&& 31)) = 4 from by decide]
 show Goes _ _ _ _ _ (fT T1 m 31 #[vr y, vi 2, vi c2] [(.int 4)])
 refine Gz (XS.istoreN X1.here hx rfl (hb hby d14_31) rfl (l' := #[vr y, vi 4, vi c2]) rfl) ?_
 refine gA X1 hx hby d14_32 rfl rfl rfl ?_
 refine gN X1 hx hby d14_33 rfl rfl ?_
 show Goes _ _ _ _ _ (fT T1 m 34 #[vr y, vi 4, vi c2] [(.int 4), (.ref y)])
 refine Gz (XS.iinc X1.here hx rfl (hb hby d14_34) rfl (l' := #[vr y, vi ((4 : Int32) + (1 : Int32)), vi c2]) rfl) ?_
 rw [show ((4 : Int32) + (1 : Int32)) = 5 from by decide]
 show Goes _ _ _ _ _ (fT T1 m 37 #[vr y, vi 5, vi c2] [(.int 4), (.ref y)])
 refine gN X1 hx hby d14_37 rfl rfl ?_
 obtain ⟨T2, X2, e2, st2⟩ := getS2 X1 hx hZ hown (host := "") (Or.inl (gw hw 74 rfl)) Via.refl e1 sgH (g := (mkF m 38 #[vr y, vi 5, vi c2] [(.int c2), (.int 4), (.ref y)])) rfl (hb hby d14_38)
 refine Gs st2 ?_
 show Goes _ _ _ _ _ (fT T2 m 41 #[vr y, vi 5, vi c2] [(.int 0), (.int c2), (.int 4), (.ref y)])
 refine Gz (XS.ishr X2.here hx rfl (hb hby d14_41) rfl) ?_
 show Goes _ _ _ _ _ (fT T2 m 42 #[vr y, vi 5, vi c2] [(.int (c2 >>> ((0 : Int32) &&& 31))), (.int 4), (.ref y)])
 rw [own_shr0]
 show Goes _ _ _ _ _ (fT T2 m 42 #[vr y, vi 5, vi c2] [(.int c2), (.int 4), (.ref y)])
 refine Gz (XS.i2b X2.here hx rfl (hb hby d14_42) rfl) ?_
 show Goes _ _ _ _ _ (fT T2 m 43 #[vr y, vi 5, vi c2] [(.int (c2.toInt8.toInt32)), (.int 4), (.ref y)])
 obtain ⟨cl3, Ar3, q3, S3, N3z, H3, G3⟩ := V_y
 have hin3 : ¬ ((4 : Int32) < 0 ∨ cl3.slots.size ≤ ((4 : Int32)).toNatClampNeg) := inb_of S3 ⟨by decide, by decide⟩
 obtain ⟨T3, h3, X3, e3, W3, st3⟩ := stB X2 hx hZ e2 Ar3 (j := (4 : Int32)) hin3 (g := (mkF m 43 #[vr y, vi 5, vi c2] [(.int (c2.toInt8.toInt32)), (.int 4), (.ref y)])) rfl rfl (hb hby d14_43)
 have Vn3 := Arv.set Ar3 q3 S3 N3z H3 G3 (fits_nar_byte _) W3 4 rfl (Nat.le_of_ble_eq_true rfl)
 have N3 := Fr.snoc X3 N0 g_y
 replace sgL := sgL.wr W3
 replace KP := KP.wr W3 (Or.inl (List.mem_of_getElem? (i := 0) rfl))
 have V_y : Arv Z h3 y ky .byte 6 [(.int (lo8 c0)), (.int (hi8 c0)), (.int (lo8 c1)), (.int (hi8 c1)), (.int (lo8 c2)), (.int 0)] (.int 0) := by have q := Vn3; rw [own_nb2] at q; exact q
 replace Z0 : n0 ≤ h3.size := by rw [W3.size]; exact Z0
 refine Gs st3 ?_
 show Goes _ _ _ _ _ (fT T3 m 44 #[vr y, vi 5, vi c2] [])
 refine gA X3 hx hby d14_44 rfl rfl rfl ?_
 refine gN X3 hx hby d14_45 rfl rfl ?_
 refine gN X3 hx hby d14_46 rfl rfl ?_
 obtain ⟨T4, X4, e4, st4⟩ := getS2 X3 hx hZ hown (host := "") (Or.inl (gw hw 75 rfl)) Via.refl e3 sgL (g := (mkF m 47 #[vr y, vi 5, vi c2] [(.int c2), (.int 5), (.ref y)])) rfl (hb hby d14_47)
 refine Gs st4 ?_
 show Goes _ _ _ _ _ (fT T4 m 50 #[vr y, vi 5, vi c2] [(.int 8), (.int c2), (.int 5), (.ref y)])
 refine Gz (XS.ishr X4.here hx rfl (hb hby d14_50) rfl) ?_
 show Goes _ _ _ _ _ (fT T4 m 51 #[vr y, vi 5, vi c2] [(.int (c2 >>> ((8 : Int32) &&& 31))), (.int 5), (.ref y)])
 refine Gz (XS.i2b X4.here hx rfl (hb hby d14_51) rfl) ?_
 show Goes _ _ _ _ _ (fT T4 m 52 #[vr y, vi 5, vi c2] [(.int ((c2 >>> ((8 : Int32) &&& 31)).toInt8.toInt32)), (.int 5), (.ref y)])
 obtain ⟨cl5, Ar5, q5, S5, N5z, H5, G5⟩ := V_y
 have hin5 : ¬ ((5 : Int32) < 0 ∨ cl5.slots.size ≤ ((5 : Int32)).toNatClampNeg) := inb_of S5 ⟨by decide, by decide⟩
 obtain ⟨T5, h5, X5, e5, W5, st5⟩ := stB X4 hx hZ e4 Ar5 (j := (5 : Int32)) hin5 (g := (mkF m 52 #[vr y, vi 5, vi c2] [(.int ((c2 >>> ((8 : Int32) &&& 31)).toInt8.toInt32)), (.int 5), (.ref y)])) rfl rfl (hb hby d14_52)
 have Vn5 := Arv.set Ar5 q5 S5 N5z H5 G5 (fits_nar_byte _) W5 5 rfl (Nat.le_of_ble_eq_true rfl)
 have N5 := Fr.snoc X5 N3 g_y
 replace KP := KP.wr W5 (Or.inl (List.mem_of_getElem? (i := 0) rfl))
 have V_y : Arv Z h5 y ky .byte 6 [(.int (lo8 c0)), (.int (hi8 c0)), (.int (lo8 c1)), (.int (hi8 c1)), (.int (lo8 c2)), (.int (hi8 c2))] (.int 0) := by have q := Vn5; rw [own_nbh2] at q; exact q
 replace Z0 : n0 ≤ h5.size := by rw [W5.size]; exact Z0
 refine Gs st5 ?_
 show Goes _ _ _ _ _ (fT T5 m 53 #[vr y, vi 5, vi c2] [])
 refine Goes.ret X5 none (fun _ => rfl) hlk (by decide) (by decide) ?_ (fun fs hr => ?_)
 ·rw [e5]; exact ⟨rfl, N5, KP, V_y⟩
 ·exact X5.returnOut hx hret (hb hby d14_53) hr
theorem own_ef_rs_nbl_3 (m : MethodId)  : entryFrame m #[(.int 3)] 1 = mkF m 0 #[vi 3] [] := by first | (simp [entryFrame, mkF, argsToLocals, Value.category]; done) | rfl
def Q_rs_nbl_3 (Z : State)  (h0 : Heap) (n0 : Nat) (v : Option Value) (h : Heap) (L : List Loc) : Prop := v = some (.int 6) ∧ Fr n0 L ∧ h = h0
set_option maxRecDepth 65536 in
set_option maxHeartbeats 40000000 in
theorem rs_nbl_3 (l : Launch) (Z : State) (a0 : Array Value) (hw : HW a0 Z) (ws : List Jvm.Cond)  (h0 : Heap) (n0 : Nat) (Z0 : n0 ≤ h0.size) :
  Met l Z mN15 jdk_52_method_3_code 1 (some .int) ({ frames := 0, cells := 0, slots := 0, locals := 0 } : Room) ws #[(.int 3)] h0 (Q_rs_nbl_3 Z  h0 n0) := by
 refine own_met (plainFor_of_name own_pn2) ?_
 intro p e s m below meth c s₁ hret hx hby hlk hml hown hnm X0 e0 hZ hh
 have N0 := Fr.nil n0
 refine Gz (castTop (own_ef_rs_nbl_3 m )) ?_
 show Goes _ _ _ _ _ (fT s₁ m 0 #[vi 3] [])
 refine gN X0 hx hby d15_0 rfl rfl ?_
 refine Gz (XS.ifYes X0.here hx rfl (pc0 := 1) (pc' := 12) rfl (hb hby d15_1) rfl ((if0 _ _).trans (flt (by decide : ¬ ((3 : Int32) < (0 : Int32)))).2.1) (by decide) (by decide)) ?_
 refine gN X0 hx hby d15_12 rfl rfl ?_
 refine Gz (Jvm.Stand.ldcI X0 hx hown (gz hZ hw 69 rfl) rfl (hb hby d15_13)) ?_
 show Goes _ _ _ _ _ (fT s₁ m 15 #[vi 3] [(.int 1073741823), (.int 3)])
 refine Gz (XS.icmpYes X0.here hx rfl (pc0 := 15) (pc' := 55) rfl (hb hby d15_15) rfl (tlt (by decide : ((3 : Int32) < (1073741823 : Int32)))).1 (by decide) (by decide)) ?_
 refine gN X0 hx hby d15_55 rfl rfl ?_
 refine Gz (XS.iconst X0.here hx rfl (hb hby d15_56)) ?_
 show Goes _ _ _ _ _ (fT s₁ m 57 #[vi 3] [(.int 1), (.int 3)])
 refine Gz (XS.ishl X0.here hx rfl (hb hby d15_57) rfl) ?_
 rw [show ((3 : Int32) <<< ((1 : Int32) &&& 31)) = 6 from by decide]
 show Goes _ _ _ _ _ (fT s₁ m 58 #[vi 3] [(.int 6)])
 refine Goes.ret X0 (some (.int 6)) (fun h => by rw [hret] at h; cases h) hlk (by decide) (by decide) ?_ (fun fs hr => ?_)
 ·exact ⟨rfl, N0, e0⟩
 ·exact retI X0 hx hret (hb hby d15_58) hr
theorem own_ef_rs_nbf_3 (m : MethodId)  : entryFrame m #[(.int 3)] 1 = mkF m 0 #[vi 3] [] := by first | (simp [entryFrame, mkF, argsToLocals, Value.category]; done) | rfl
def Q_rs_nbf_3 (Z : State)  (h0 : Heap) (n0 : Nat) (v : Option Value) (h : Heap) (L : List Loc) : Prop := ∃ y : Addr, ∃ ky : ClassId, v = some (.ref y) ∧ Fr n0 L ∧ Keep h0 h [] ∧ Arv Z h y ky .byte 6 [(.int 0), (.int 0), (.int 0), (.int 0), (.int 0), (.int 0)] (.int 0) ∧ n0 ≤ y ∧ h0.size ≤ y
set_option maxRecDepth 65536 in
set_option maxHeartbeats 40000000 in
theorem rs_nbf_3 (l : Launch) (Z : State) (a0 : Array Value) (hw : HW a0 Z) (ws : List Jvm.Cond)  (h0 : Heap) (n0 : Nat) (Z0 : n0 ≤ h0.size) :
  Met l Z mN16 jdk_52_method_2_code 1 (some (.array .byte)) ({ frames := 1, cells := 1, slots := 6, locals := 12 } : Room) ws #[(.int 3)] h0 (Q_rs_nbf_3 Z  h0 n0) := by
 refine own_met (plainFor_of_name own_pn2) ?_
 intro p e s m below meth c s₁ hret hx hby hlk hml hown hnm X0 e0 hZ hh
 have N0 := Fr.nil n0
 refine Gz (castTop (own_ef_rs_nbf_3 m )) ?_
 have KP : Keep h0 h0 [] := Keep.refl _ _
 show Goes _ _ _ _ _ (fT s₁ m 0 #[vi 3] [])
 refine gN X0 hx hby d16_0 rfl rfl ?_
 obtain ⟨_, _, ⟨T1, L1, k1, n1⟩, -, X1, ⟨Lc1, hQ1, l1, y1, z1⟩, st1⟩ := Jvm.LawKit.callS X0 hx (y := mN15) hown (gz hZ hw 66 rfl) (gz hZ hw 67 rfl) (gz hZ hw 55 rfl) (gz hZ hw 68 rfl) (by decide) (backOf (W := 0) (rs_nbl_3 l Z a0 hw []  h0 n0 Z0) hZ (gw hw 68 rfl) (gw hw 55 rfl) (by decide) (by decide)) (g := (mkF m 1 #[vi 3] [(.int 3)])) rfl hml.symm (argsL := [(.int 3)]) (rest := []) (lenOf own_pd10 rfl) rfl (wz rfl) (hb hby d16_1) (fun _ _ => ⟨rfl, e0, z0, z0⟩)
 dsimp only [Pt.U, Pt.locs, Pt.cells, Pt.slots] at X1 l1 y1 z1 st1 hQ1
 subst l1 y1 z1
 obtain ⟨rfl, N1q, e1⟩ := hQ1
 have N1 := Fr.app N0 N1q
 refine Gs st1 ?_
 show Goes _ _ _ _ _ (fT T1 m 4 #[vi 3] [(.int 6)])
 obtain ⟨T2, h2, k2, X2, e2, E2, A2, st2⟩ := newP X1 hx hZ (gw hw 20 rfl) e1 (g := (mkF m 4 #[vi 3] [(.int 6)])) rfl (hb hby d16_4) rfl (by decide) (cap := 6) (by decide) (by decide) (by decide) (by decide)
 obtain ⟨b2, gq2⟩ : ∃ z, z = h0.size := ⟨_, rfl⟩
 rw [← gq2] at A2 st2
 have g_b2 : n0 ≤ b2 := by rw [gq2]; exact Z0
 have sz_b2 : h0.size ≤ b2 := by rw [gq2]; exact KP.1
 replace KP := KP.ext E2
 replace Z0 : n0 ≤ h2.size := Nat.le_trans Z0 E2.1
 have V_b2 : Arv Z h2 b2 k2 .byte 6 [(.int 0), (.int 0), (.int 0), (.int 0), (.int 0), (.int 0)] (.int 0) := (Arv.new A2 (by decide)).pad (pad_rep [] (.int 0) 6)
 refine Gs st2 ?_
 show Goes _ _ _ _ _ (fT T2 m 6 #[vi 3] [(.ref b2)])
 refine Goes.ret X2 (some (.ref b2)) (fun h => by rw [hret] at h; cases h) hlk (by decide) (by decide) ?_ (fun fs hr => ?_)
 ·rw [e2]; exact ⟨b2, k2, rfl, N1, KP, V_b2, g_b2, sz_b2⟩
 ·exact own_retA X2 hx hret rfl rfl (hb hby d16_6) hr
theorem own_ef_rs_tb_3 (m : MethodId) (x0 : Addr) : entryFrame m #[(.ref x0), (.int 0), (.int 3)] 5 = mkF m 0 #[vr x0, vi 0, vi 3, vu, vu] [] := by first | (simp [entryFrame, mkF, argsToLocals, Value.category]; done) | rfl
def Q_rs_tb_3 (Z : State) (x : Addr) (kx : ClassId) (c0 : Int32) (c1 : Int32) (c2 : Int32) (h0 : Heap) (n0 : Nat) (v : Option Value) (h : Heap) (L : List Loc) : Prop := ∃ y : Addr, ∃ ky : ClassId, v = some (.ref y) ∧ Fr n0 L ∧ Keep h0 h [] ∧ Arv Z h y ky .byte 6 [(.int (lo8 c0)), (.int (hi8 c0)), (.int (lo8 c1)), (.int (hi8 c1)), (.int (lo8 c2)), (.int (hi8 c2))] (.int 0) ∧ n0 ≤ y ∧ h0.size ≤ y
set_option maxRecDepth 65536 in
set_option maxHeartbeats 40000000 in
theorem rs_tb_3 (l : Launch) (Z : State) (a0 : Array Value) (hw : HW a0 Z) (ws : List Jvm.Cond) (x : Addr) (kx : ClassId) (c0 : Int32) (c1 : Int32) (c2 : Int32) (h0 : Heap) (n0 : Nat) (Z0 : n0 ≤ h0.size) (V_x : Arv Z h0 x kx .char 3 [(.int c0), (.int c1), (.int c2)] (.int 0)) (sgA : Sta Z h0 "java/lang/StringUTF16" "$assertionsDisabled" "Z" (.int 1)) (sgH : Sta Z h0 "java/lang/StringUTF16" "HI_BYTE_SHIFT" "I" (.int 0)) (sgL : Sta Z h0 "java/lang/StringUTF16" "LO_BYTE_SHIFT" "I" (.int 8)) :
  Met l Z mN17 jdk_52_method_14_code 5 (some (.array .byte)) ({ frames := 2, cells := 1, slots := 6, locals := 24 } : Room) ws #[(.ref x), (.int 0), (.int 3)] h0 (Q_rs_tb_3 Z x kx c0 c1 c2 h0 n0) := by
 refine own_met (plainFor_of_name own_pn2) ?_
 intro p e s m below meth c s₁ hret hx hby hlk hml hown hnm X0 e0 hZ hh
 have N0 := Fr.nil n0
 refine Gz (castTop (own_ef_rs_tb_3 m x)) ?_
 have KP : Keep h0 h0 [] := Keep.refl _ _
 show Goes _ _ _ _ _ (fT s₁ m 0 #[vr x, vi 0, vi 3, vu, vu] [])
 refine gN X0 hx hby d17_0 rfl rfl ?_
 have ltc1_x : x < h0.size := V_x.lt
 have szs1 : h0.size ≤ h0.size := KP.1
 obtain ⟨_, _, ⟨T1, L1, k1, n1⟩, -, X1, ⟨Lc1, hQ1, l1, y1, z1⟩, st1⟩ := Jvm.LawKit.callS X0 hx (y := mN16) hown (gz hZ hw 63 rfl) (gz hZ hw 64 rfl) (gz hZ hw 55 rfl) (gz hZ hw 65 rfl) (by decide) (backOf (W := 0) (rs_nbf_3 l Z a0 hw []  h0 n0 Z0) hZ (gw hw 65 rfl) (gw hw 55 rfl) (by decide) (by decide)) (g := (mkF m 1 #[vr x, vi 0, vi 3, vu, vu] [(.int 3)])) rfl hml.symm (argsL := [(.int 3)]) (rest := []) (lenOf own_pd11 rfl) rfl (wz rfl) (hb hby d17_1) (fun _ _ => ⟨rfl, e0, (by decide : 0 + 1 ≤ _), (by decide : 0 + 6 ≤ _)⟩)
 dsimp only [Pt.U, Pt.locs, Pt.cells, Pt.slots] at X1 l1 y1 z1 st1 hQ1
 subst l1 y1 z1
 obtain ⟨y1, ky1, rfl, N1q, K1, V_y1_1', g_y1_1', sz_y1_1'⟩ := hQ1
 have N1 := Fr.app N0 N1q
 replace sgA := own_staK sgA K1 all0
 replace sgH := own_staK sgH K1 all0
 replace sgL := own_staK sgL K1 all0
 replace V_x := V_x.keep K1 nin0
 replace KP := KP.trans K1 all0
 replace Z0 := Nat.le_trans Z0 K1.1
 have V_y1 := V_y1_1'
 have g_y1 := g_y1_1'
 have szc_y1 := sz_y1_1'
 have ne_x_y1 : x ≠ y1 := Nat.ne_of_lt (Nat.lt_of_lt_of_le ltc1_x szc_y1)
 have sz_y1 : h0.size ≤ y1 := Nat.le_trans szs1 szc_y1
 refine Gs st1 ?_
 show Goes _ _ _ _ _ (fT T1 m 4 #[vr x, vi 0, vi 3, vu, vu] [(.ref y1)])
 refine Gz (XS.astoreN X1.here hx rfl (hb hby d17_4) rfl rfl (l' := #[vr x, vi 0, vi 3, vr y1, vu]) rfl) ?_
 refine Gz (XS.iconst X1.here hx rfl (hb hby d17_5)) ?_
 refine Gz (XS.istore X1.here hx rfl (hb hby d17_6) rfl (l' := #[vr x, vi 0, vi 3, vr y1, vi 0]) rfl) ?_
 refine gI X1 hx hby d17_8 rfl rfl ?_
 refine gN X1 hx hby d17_10 rfl rfl ?_
 refine Gz (XS.icmpNo X1.here hx rfl (hb hby d17_11) rfl (tlt (by decide : ((0 : Int32) < (3 : Int32)))).2.1) ?_
 show Goes _ _ _ _ _ (fT T1 m 14 #[vr x, vi 0, vi 3, vr y1, vi 0] [])
 refine gA X1 hx hby d17_14 rfl rfl rfl ?_
 refine gI X1 hx hby d17_15 rfl rfl ?_
 refine gA X1 hx hby d17_17 rfl rfl rfl ?_
 refine gN X1 hx hby d17_18 rfl rfl ?_
 obtain ⟨cl2, Ar2, -, S2, N2z, H2, -⟩ := id V_x
 have hin2 : ¬ ((0 : Int32) < 0 ∨ cl2.slots.size ≤ ((0 : Int32)).toNatClampNeg) := inb_of S2 ⟨by decide, by decide⟩
 have hat2 : cl2.slots[((0 : Int32)).toNatClampNeg]? = some (.int c0) := Has.at H2 hin2 rfl
 refine Gs (fun _ tk => X1.caload hx (j := (0 : Int32)) (v := (.int c0)) Ar2.1 (State.isArrayOf_alike hZ.alike Ar2.2.1) Ar2.2.2 hin2 hat2 (g := (mkF m 19 #[vr x, vi 0, vi 3, vr y1, vi 0] [(.int 0), (.ref x), (.int 0), (.ref y1)])) rfl rfl (hb hby d17_19) _ tk) ?_
 show Goes _ _ _ _ _ (fT T1 m 20 #[vr x, vi 0, vi 3, vr y1, vi 0] [(.int c0), (.int 0), (.ref y1)])
 obtain ⟨_, _, ⟨T3, L3, k3, n3⟩, -, X3, ⟨Lc3, hQ3, l3, y3, z3⟩, st3⟩ := Jvm.LawKit.callS X1 hx (y := mN14) hown (gz hZ hw 70 rfl) (gz hZ hw 71 rfl) (gz hZ hw 55 rfl) (gz hZ hw 72 rfl) (by decide) (backOf (W := 0) (rs_pc_3_0 l Z a0 hw [] y1 ky1 c0 T1.heap n0 Z0 V_y1 g_y1 sgA sgH sgL) hZ (gw hw 72 rfl) (gw hw 55 rfl) (by decide) (by decide)) (g := (mkF m 20 #[vr x, vi 0, vi 3, vr y1, vi 0] [(.int c0), (.int 0), (.ref y1)])) rfl hml.symm (argsL := [(.ref y1), (.int 0), (.int c0)]) (rest := []) (lenOf own_pd12 rfl) rfl (wz rfl) (hb hby d17_20) (fun _ _ => ⟨rfl, rfl, (by decide : 1 + 0 ≤ _), (by decide : 6 + 0 ≤ _)⟩)
 dsimp only [Pt.U, Pt.locs, Pt.cells, Pt.slots] at X3 l3 y3 z3 st3 hQ3
 subst l3 y3 z3
 obtain ⟨rfl, N3q, K3, V_y1_3'⟩ := hQ3
 have N3 := Fr.app N1 N3q
 replace sgA := own_staK sgA K3 (allS (own_obA V_y1) all0)
 replace sgH := own_staK sgH K3 (allS (own_obA V_y1) all0)
 replace sgL := own_staK sgL K3 (allS (own_obA V_y1) all0)
 replace V_x := V_x.keep K3 (ninS ne_x_y1 nin0)
 replace KP := KP.trans K3 (allS (Or.inr sz_y1) all0)
 replace Z0 := Nat.le_trans Z0 K3.1
 have V_y1 := V_y1_3'
 refine Gs st3 ?_
 show Goes _ _ _ _ _ (fT T3 m 23 #[vr x, vi 0, vi 3, vr y1, vi 0] [])
 refine Gz (XS.iinc X3.here hx rfl (hb hby d17_23) rfl (l' := #[vr x, vi ((0 : Int32) + (1 : Int32)), vi 3, vr y1, vi 0]) rfl) ?_
 rw [show ((0 : Int32) + (1 : Int32)) = 1 from by decide]
 show Goes _ _ _ _ _ (fT T3 m 26 #[vr x, vi 1, vi 3, vr y1, vi 0] [])
 refine Gz (XS.iinc X3.here hx rfl (hb hby d17_26) rfl (l' := #[vr x, vi 1, vi 3, vr y1, vi ((0 : Int32) + (1 : Int32))]) rfl) ?_
 rw [show ((0 : Int32) + (1 : Int32)) = 1 from by decide]
 show Goes _ _ _ _ _ (fT T3 m 29 #[vr x, vi 1, vi 3, vr y1, vi 1] [])
 refine Gz (XS.goto X3.here hx rfl (pc0 := 29) (pc' := 8) rfl (hb hby d17_29) (by decide) (by decide)) ?_
 refine gI X3 hx hby d17_8 rfl rfl ?_
 refine gN X3 hx hby d17_10 rfl rfl ?_
 refine Gz (XS.icmpNo X3.here hx rfl (hb hby d17_11) rfl (tlt (by decide : ((1 : Int32) < (3 : Int32)))).2.1) ?_
 refine gA X3 hx hby d17_14 rfl rfl rfl ?_
 refine gI X3 hx hby d17_15 rfl rfl ?_
 show Goes _ _ _ _ _ (fT T3 m 17 #[vr x, vi 1, vi 3, vr y1, vi 1] [(.int 1), (.ref y1)])
 refine gA X3 hx hby d17_17 rfl rfl rfl ?_
 refine gN X3 hx hby d17_18 rfl rfl ?_
 obtain ⟨cl4, Ar4, -, S4, N4z, H4, -⟩ := id V_x
 have hin4 : ¬ ((1 : Int32) < 0 ∨ cl4.slots.size ≤ ((1 : Int32)).toNatClampNeg) := inb_of S4 ⟨by decide, by decide⟩
 have hat4 : cl4.slots[((1 : Int32)).toNatClampNeg]? = some (.int c1) := Has.at H4 hin4 rfl
 refine Gs (fun _ tk => X3.caload hx (j := (1 : Int32)) (v := (.int c1)) Ar4.1 (State.isArrayOf_alike hZ.alike Ar4.2.1) Ar4.2.2 hin4 hat4 (g := (mkF m 19 #[vr x, vi 1, vi 3, vr y1, vi 1] [(.int 1), (.ref x), (.int 1), (.ref y1)])) rfl rfl (hb hby d17_19) _ tk) ?_
 show Goes _ _ _ _ _ (fT T3 m 20 #[vr x, vi 1, vi 3, vr y1, vi 1] [(.int c1), (.int 1), (.ref y1)])
 obtain ⟨_, _, ⟨T5, L5, k5, n5⟩, -, X5, ⟨Lc5, hQ5, l5, y5, z5⟩, st5⟩ := Jvm.LawKit.callS X3 hx (y := mN14) hown (gz hZ hw 70 rfl) (gz hZ hw 71 rfl) (gz hZ hw 55 rfl) (gz hZ hw 72 rfl) (by decide) (backOf (W := 0) (rs_pc_3_1 l Z a0 hw [] y1 ky1 c0 c1 T3.heap n0 Z0 V_y1 g_y1 sgA sgH sgL) hZ (gw hw 72 rfl) (gw hw 55 rfl) (by decide) (by decide)) (g := (mkF m 20 #[vr x, vi 1, vi 3, vr y1, vi 1] [(.int c1), (.int 1), (.ref y1)])) rfl hml.symm (argsL := [(.ref y1), (.int 1), (.int c1)]) (rest := []) (lenOf own_pd12 rfl) rfl (wz rfl) (hb hby d17_20) (fun _ _ => ⟨rfl, rfl, (by decide : 1 + 0 ≤ _), (by decide : 6 + 0 ≤ _)⟩)
 dsimp only [Pt.U, Pt.locs, Pt.cells, Pt.slots] at X5 l5 y5 z5 st5 hQ5
 subst l5 y5 z5
 obtain ⟨rfl, N5q, K5, V_y1_5'⟩ := hQ5
 have N5 := Fr.app N3 N5q
 replace sgA := own_staK sgA K5 (allS (own_obA V_y1) all0)
 replace sgH := own_staK sgH K5 (allS (own_obA V_y1) all0)
 replace sgL := own_staK sgL K5 (allS (own_obA V_y1) all0)
 replace V_x := V_x.keep K5 (ninS ne_x_y1 nin0)
 replace KP := KP.trans K5 (allS (Or.inr sz_y1) all0)
 replace Z0 := Nat.le_trans Z0 K5.1
 have V_y1 := V_y1_5'
 refine Gs st5 ?_
 show Goes _ _ _ _ _ (fT T5 m 23 #[vr x, vi 1, vi 3, vr y1, vi 1] [])
 refine Gz (XS.iinc X5.here hx rfl (hb hby d17_23) rfl (l' := #[vr x, vi ((1 : Int32) + (1 : Int32)), vi 3, vr y1, vi 1]) rfl) ?_
 rw [show ((1 : Int32) + (1 : Int32)) = 2 from by decide]
 show Goes _ _ _ _ _ (fT T5 m 26 #[vr x, vi 2, vi 3, vr y1, vi 1] [])
 refine Gz (XS.iinc X5.here hx rfl (hb hby d17_26) rfl (l' := #[vr x, vi 2, vi 3, vr y1, vi ((1 : Int32) + (1 : Int32))]) rfl) ?_
 rw [show ((1 : Int32) + (1 : Int32)) = 2 from by decide]
 show Goes _ _ _ _ _ (fT T5 m 29 #[vr x, vi 2, vi 3, vr y1, vi 2] [])
 refine Gz (XS.goto X5.here hx rfl (pc0 := 29) (pc' := 8) rfl (hb hby d17_29) (by decide) (by decide)) ?_
 refine gI X5 hx hby d17_8 rfl rfl ?_
 refine gN X5 hx hby d17_10 rfl rfl ?_
 refine Gz (XS.icmpNo X5.here hx rfl (hb hby d17_11) rfl (tlt (by decide : ((2 : Int32) < (3 : Int32)))).2.1) ?_
 refine gA X5 hx hby d17_14 rfl rfl rfl ?_
 refine gI X5 hx hby d17_15 rfl rfl ?_
 show Goes _ _ _ _ _ (fT T5 m 17 #[vr x, vi 2, vi 3, vr y1, vi 2] [(.int 2), (.ref y1)])
 refine gA X5 hx hby d17_17 rfl rfl rfl ?_
 refine gN X5 hx hby d17_18 rfl rfl ?_
 obtain ⟨cl6, Ar6, -, S6, N6z, H6, -⟩ := id V_x
 have hin6 : ¬ ((2 : Int32) < 0 ∨ cl6.slots.size ≤ ((2 : Int32)).toNatClampNeg) := inb_of S6 ⟨by decide, by decide⟩
 have hat6 : cl6.slots[((2 : Int32)).toNatClampNeg]? = some (.int c2) := Has.at H6 hin6 rfl
 refine Gs (fun _ tk => X5.caload hx (j := (2 : Int32)) (v := (.int c2)) Ar6.1 (State.isArrayOf_alike hZ.alike Ar6.2.1) Ar6.2.2 hin6 hat6 (g := (mkF m 19 #[vr x, vi 2, vi 3, vr y1, vi 2] [(.int 2), (.ref x), (.int 2), (.ref y1)])) rfl rfl (hb hby d17_19) _ tk) ?_
 show Goes _ _ _ _ _ (fT T5 m 20 #[vr x, vi 2, vi 3, vr y1, vi 2] [(.int c2), (.int 2), (.ref y1)])
 obtain ⟨_, _, ⟨T7, L7, k7, n7⟩, -, X7, ⟨Lc7, hQ7, l7, y7, z7⟩, st7⟩ := Jvm.LawKit.callS X5 hx (y := mN14) hown (gz hZ hw 70 rfl) (gz hZ hw 71 rfl) (gz hZ hw 55 rfl) (gz hZ hw 72 rfl) (by decide) (backOf (W := 0) (rs_pc_3_2 l Z a0 hw [] y1 ky1 c0 c1 c2 T5.heap n0 Z0 V_y1 g_y1 sgA sgH sgL) hZ (gw hw 72 rfl) (gw hw 55 rfl) (by decide) (by decide)) (g := (mkF m 20 #[vr x, vi 2, vi 3, vr y1, vi 2] [(.int c2), (.int 2), (.ref y1)])) rfl hml.symm (argsL := [(.ref y1), (.int 2), (.int c2)]) (rest := []) (lenOf own_pd12 rfl) rfl (wz rfl) (hb hby d17_20) (fun _ _ => ⟨rfl, rfl, (by decide : 1 + 0 ≤ _), (by decide : 6 + 0 ≤ _)⟩)
 dsimp only [Pt.U, Pt.locs, Pt.cells, Pt.slots] at X7 l7 y7 z7 st7 hQ7
 subst l7 y7 z7
 obtain ⟨rfl, N7q, K7, V_y1_7'⟩ := hQ7
 have N7 := Fr.app N5 N7q
 replace KP := KP.trans K7 (allS (Or.inr sz_y1) all0)
 replace Z0 := Nat.le_trans Z0 K7.1
 have V_y1 := V_y1_7'
 refine Gs st7 ?_
 show Goes _ _ _ _ _ (fT T7 m 23 #[vr x, vi 2, vi 3, vr y1, vi 2] [])
 refine Gz (XS.iinc X7.here hx rfl (hb hby d17_23) rfl (l' := #[vr x, vi ((2 : Int32) + (1 : Int32)), vi 3, vr y1, vi 2]) rfl) ?_
 rw [show ((2 : Int32) + (1 : Int32)) = 3 from by decide]
 show Goes _ _ _ _ _ (fT T7 m 26 #[vr x, vi 3, vi 3, vr y1, vi 2] [])
 refine Gz (XS.iinc X7.here hx rfl (hb hby d17_26) rfl (l' := #[vr x, vi 3, vi 3, vr y1, vi ((2 : Int32) + (1 : Int32))]) rfl) ?_
 rw [show ((2 : Int32) + (1 : Int32)) = 3 from by decide]
 show Goes _ _ _ _ _ (fT T7 m 29 #[vr x, vi 3, vi 3, vr y1, vi 3] [])
 refine Gz (XS.goto X7.here hx rfl (pc0 := 29) (pc' := 8) rfl (hb hby d17_29) (by decide) (by decide)) ?_
 refine gI X7 hx hby d17_8 rfl rfl ?_
 refine gN X7 hx hby d17_10 rfl rfl ?_
 refine Gz (XS.icmpYes X7.here hx rfl (pc0 := 11) (pc' := 32) rfl (hb hby d17_11) rfl (flt (by decide : ¬ ((3 : Int32) < (3 : Int32)))).2.1 (by decide) (by decide)) ?_
 refine gA X7 hx hby d17_32 rfl rfl rfl ?_
 refine Goes.ret X7 (some (.ref y1)) (fun h => by rw [hret] at h; cases h) hlk (by decide) (by decide) ?_ (fun fs hr => ?_)
 ·exact ⟨y1, ky1, rfl, N7, KP, V_y1, g_y1, sz_y1⟩
 ·exact own_retA X7 hx hret rfl rfl (hb hby d17_33) hr
theorem own_ef_rs_c5_3_0 (m : MethodId) (x0 : Addr) (x2 : Addr) : entryFrame m #[(.ref x0), (.int 0), (.ref x2), (.int 0), (.int 3)] 7 = mkF m 0 #[vr x0, vi 0, vr x2, vi 0, vi 3, vu, vu] [] := by first | (simp [entryFrame, mkF, argsToLocals, Value.category]; done) | rfl
def Q_rs_c5_3_0 (Z : State) (x : Addr) (kx : ClassId) (y : Addr) (ky : ClassId) (c0 : Int32) (c1 : Int32) (c2 : Int32) (h0 : Heap) (n0 : Nat) (v : Option Value) (h : Heap) (L : List Loc) : Prop := v = some (.int 0) ∧ Fr n0 L ∧ Keep h0 h [y] ∧ Arv Z h y ky .byte 3 [(.int 0), (.int 0), (.int 0)] (.int 0)
set_option maxRecDepth 65536 in
set_option maxHeartbeats 40000000 in
theorem rs_c5_3_0 (l : Launch) (Z : State) (a0 : Array Value) (hw : HW a0 Z) (ws : List Jvm.Cond) (x : Addr) (kx : ClassId) (y : Addr) (ky : ClassId) (c0 : Int32) (c1 : Int32) (c2 : Int32) (h0 : Heap) (n0 : Nat) (Z0 : n0 ≤ h0.size) (V_x : Arv Z h0 x kx .char 3 [(.int c0), (.int c1), (.int c2)] (.int 0)) (V_y : Arv Z h0 y ky .byte 3 [(.int 0), (.int 0), (.int 0)] (.int 0)) (g_y : n0 ≤ y) (ne_x_y : x ≠ y) (hn_c0 : (255 : Int32) < c0) :
  Met l Z mN18 jdk_52_method_21_code 7 (some .int) ({ frames := 0, cells := 0, slots := 0, locals := 0 } : Room) ws #[(.ref x), (.int 0), (.ref y), (.int 0), (.int 3)] h0 (Q_rs_c5_3_0 Z x kx y ky c0 c1 c2 h0 n0) := by
 refine own_met (plainFor_of_name own_pn2) ?_
 intro p e s m below meth c s₁ hret hx hby hlk hml hown hnm X0 e0 hZ hh
 have N0 := Fr.nil n0
 refine Gz (castTop (own_ef_rs_c5_3_0 m x y)) ?_
 have KP : Keep h0 h0 [y] := Keep.refl _ _
 show Goes _ _ _ _ _ (fT s₁ m 0 #[vr x, vi 0, vr y, vi 0, vi 3, vu, vu] [])
 refine Gz (XS.iconst X0.here hx rfl (hb hby d18_0)) ?_
 refine Gz (XS.istore X0.here hx rfl (hb hby d18_1) rfl (l' := #[vr x, vi 0, vr y, vi 0, vi 3, vi 0, vu]) rfl) ?_
 refine gI X0 hx hby d18_3 rfl rfl ?_
 refine gI X0 hx hby d18_5 rfl rfl ?_
 refine Gz (XS.icmpNo X0.here hx rfl (hb hby d18_7) rfl (tlt (by decide : ((0 : Int32) < (3 : Int32)))).2.1) ?_
 refine gA X0 hx hby d18_10 rfl rfl rfl ?_
 show Goes _ _ _ _ _ (fT s₁ m 11 #[vr x, vi 0, vr y, vi 0, vi 3, vi 0, vu] [(.ref x)])
 refine gN X0 hx hby d18_11 rfl rfl ?_
 obtain ⟨cl1, Ar1, -, S1, N1z, H1, -⟩ := id V_x
 have hin1 : ¬ ((0 : Int32) < 0 ∨ cl1.slots.size ≤ ((0 : Int32)).toNatClampNeg) := inb_of S1 ⟨by decide, by decide⟩
 have hat1 : cl1.slots[((0 : Int32)).toNatClampNeg]? = some (.int c0) := Has.at H1 hin1 rfl
 refine Gs (fun _ tk => X0.caload hx (j := (0 : Int32)) (v := (.int c0)) (by rw [e0]; exact Ar1.1) (State.isArrayOf_alike hZ.alike Ar1.2.1) Ar1.2.2 hin1 hat1 (g := (mkF m 12 #[vr x, vi 0, vr y, vi 0, vi 3, vi 0, vu] [(.int 0), (.ref x)])) rfl rfl (hb hby d18_12) _ tk) ?_
 show Goes _ _ _ _ _ (fT s₁ m 13 #[vr x, vi 0, vr y, vi 0, vi 3, vi 0, vu] [(.int c0)])
 refine Gz (XS.istore X0.here hx rfl (hb hby d18_13) rfl (l' := #[vr x, vi 0, vr y, vi 0, vi 3, vi 0, vi c0]) rfl) ?_
 refine gI X0 hx hby d18_15 rfl rfl ?_
 refine Gz (XS.sipush X0.here hx rfl (hb hby d18_17)) ?_
 refine Gz (XS.icmpNo X0.here hx rfl (hb hby d18_20) rfl (tlt hn_c0).2.2.2) ?_
 refine gI X0 hx hby d18_23 rfl rfl ?_
 refine Goes.ret X0 (some (.int 0)) (fun h => by rw [hret] at h; cases h) hlk (by decide) (by decide) ?_ (fun fs hr => ?_)
 ·rw [e0]; exact ⟨rfl, N0, KP, V_y⟩
 ·exact retI X0 hx hret (hb hby d18_25) hr
theorem own_ef_rs_c3_3_0 (m : MethodId) (x0 : Addr) : entryFrame m #[(.ref x0), (.int 0), (.int 3)] 6 = mkF m 0 #[vr x0, vi 0, vi 3, vu, vu, vu] [] := by first | (simp [entryFrame, mkF, argsToLocals, Value.category]; done) | rfl
def Q_rs_c3_3_0 (Z : State) (x : Addr) (kx : ClassId) (c0 : Int32) (c1 : Int32) (c2 : Int32) (h0 : Heap) (n0 : Nat) (v : Option Value) (h : Heap) (L : List Loc) : Prop := ∃ y : Addr, ∃ ky : ClassId, v = some (.ref y) ∧ Fr n0 L ∧ Keep h0 h [] ∧ Arv Z h y ky .byte 6 [(.int (lo8 c0)), (.int (hi8 c0)), (.int (lo8 c1)), (.int (hi8 c1)), (.int (lo8 c2)), (.int (hi8 c2))] (.int 0) ∧ n0 ≤ y ∧ h0.size ≤ y
set_option maxRecDepth 65536 in
set_option maxHeartbeats 40000000 in
theorem rs_c3_3_0 (l : Launch) (Z : State) (a0 : Array Value) (hw : HW a0 Z) (ws : List Jvm.Cond) (x : Addr) (kx : ClassId) (c0 : Int32) (c1 : Int32) (c2 : Int32) (h0 : Heap) (n0 : Nat) (Z0 : n0 ≤ h0.size) (V_x : Arv Z h0 x kx .char 3 [(.int c0), (.int c1), (.int c2)] (.int 0)) (hn_c0 : (255 : Int32) < c0) (hC_c0 : Chr c0) (hC_c1 : Chr c1) (hC_c2 : Chr c2) (sgA : Sta Z h0 "java/lang/StringUTF16" "$assertionsDisabled" "Z" (.int 1)) (sgH : Sta Z h0 "java/lang/StringUTF16" "HI_BYTE_SHIFT" "I" (.int 0)) (sgL : Sta Z h0 "java/lang/StringUTF16" "LO_BYTE_SHIFT" "I" (.int 8)) :
  Met l Z mN19 jdk_52_method_16_code 6 (some (.array .byte)) ({ frames := 3, cells := 2, slots := 9, locals := 40 } : Room) ws #[(.ref x), (.int 0), (.int 3)] h0 (Q_rs_c3_3_0 Z x kx c0 c1 c2 h0 n0) := by
 refine own_met (plainFor_of_name own_pn2) ?_
 intro p e s m below meth c s₁ hret hx hby hlk hml hown hnm X0 e0 hZ hh
 have N0 := Fr.nil n0
 refine Gz (castTop (own_ef_rs_c3_3_0 m x)) ?_
 have KP : Keep h0 h0 [] := Keep.refl _ _
 show Goes _ _ _ _ _ (fT s₁ m 0 #[vr x, vi 0, vi 3, vu, vu, vu] [])
 refine gN X0 hx hby d19_0 rfl rfl ?_
 obtain ⟨T1, h1, k1, X1, e1, E1, A1, st1⟩ := newP X0 hx hZ (gw hw 20 rfl) e0 (g := (mkF m 1 #[vr x, vi 0, vi 3, vu, vu, vu] [(.int 3)])) rfl (hb hby d19_1) rfl (by decide) (cap := 3) (by decide) (by decide) (by decide) (by decide)
 obtain ⟨b1, gq1⟩ : ∃ z, z = h0.size := ⟨_, rfl⟩
 rw [← gq1] at A1 st1
 have g_b1 : n0 ≤ b1 := by rw [gq1]; exact Z0
 have sz_b1 : h0.size ≤ b1 := by rw [gq1]; exact KP.1
 have ne_x_b1 : x ≠ b1 := by rw [gq1]; exact Nat.ne_of_lt V_x.lt
 replace V_x := V_x.ext E1
 replace sgA := sgA.ext E1
 replace sgH := sgH.ext E1
 replace sgL := sgL.ext E1
 replace KP := KP.ext E1
 replace Z0 : n0 ≤ h1.size := Nat.le_trans Z0 E1.1
 have V_b1 : Arv Z h1 b1 k1 .byte 3 [(.int 0), (.int 0), (.int 0)] (.int 0) := (Arv.new A1 (by decide)).pad (pad_rep [] (.int 0) 3)
 refine Gs st1 ?_
 show Goes _ _ _ _ _ (fT T1 m 3 #[vr x, vi 0, vi 3, vu, vu, vu] [(.ref b1)])
 refine Gz (XS.astoreN X1.here hx rfl (hb hby d19_3) rfl rfl (l' := #[vr x, vi 0, vi 3, vr b1, vu, vu]) rfl) ?_
 refine gA X1 hx hby d19_4 rfl rfl rfl ?_
 refine gN X1 hx hby d19_5 rfl rfl ?_
 refine gA X1 hx hby d19_6 rfl rfl rfl ?_
 refine Gz (XS.iconst X1.here hx rfl (hb hby d19_7)) ?_
 refine gN X1 hx hby d19_8 rfl rfl ?_
 show Goes _ _ _ _ _ (fT T1 m 9 #[vr x, vi 0, vi 3, vr b1, vu, vu] [(.int 3), (.int 0), (.ref b1), (.int 0), (.ref x)])
 obtain ⟨_, _, ⟨T2, L2, k2, n2⟩, -, X2, ⟨Lc2, hQ2, l2, y2, z2⟩, st2⟩ := Jvm.LawKit.callS X1 hx (y := mN18) hown (gz hZ hw 57 rfl) (gz hZ hw 58 rfl) (gz hZ hw 55 rfl) (gz hZ hw 59 rfl) (by decide) (backOf (W := 0) (rs_c5_3_0 l Z a0 hw [] x kx b1 k1 c0 c1 c2 h1 n0 Z0 V_x V_b1 g_b1 ne_x_b1 (by first | assumption | decide)) hZ (gw hw 59 rfl) (gw hw 55 rfl) (by decide) (by decide)) (g := (mkF m 9 #[vr x, vi 0, vi 3, vr b1, vu, vu] [(.int 3), (.int 0), (.ref b1), (.int 0), (.ref x)])) rfl hml.symm (argsL := [(.ref x), (.int 0), (.ref b1), (.int 0), (.int 3)]) (rest := []) (lenOf own_pd13 rfl) rfl (wz rfl) (hb hby d19_9) (fun _ _ => ⟨rfl, e1, (by decide : 1 + 0 ≤ _), (by decide : 3 + 0 ≤ _)⟩)
 dsimp only [Pt.U, Pt.locs, Pt.cells, Pt.slots] at X2 l2 y2 z2 st2 hQ2
 subst l2 y2 z2
 obtain ⟨rfl, N2q, K2, V_b1_2'⟩ := hQ2
 have N2 := Fr.app N0 N2q
 replace sgA := own_staK sgA K2 (allS (own_obA V_b1) all0)
 replace sgH := own_staK sgH K2 (allS (own_obA V_b1) all0)
 replace sgL := own_staK sgL K2 (allS (own_obA V_b1) all0)
 replace V_x := V_x.keep K2 (ninS ne_x_b1 nin0)
 replace KP := KP.trans K2 (allS (Or.inr sz_b1) all0)
 replace Z0 := Nat.le_trans Z0 K2.1
 have V_b1 := V_b1_2'
 refine Gs st2 ?_
 show Goes _ _ _ _ _ (fT T2 m 12 #[vr x, vi 0, vi 3, vr b1, vu, vu] [(.int 0)])
 refine Gz (XS.istore X2.here hx rfl (hb hby d19_12) rfl (l' := #[vr x, vi 0, vi 3, vr b1, vi 0, vu]) rfl) ?_
 refine gI X2 hx hby d19_14 rfl rfl ?_
 refine gN X2 hx hby d19_16 rfl rfl ?_
 refine Gz (XS.icmpNo X2.here hx rfl (hb hby d19_17) rfl (feq (by decide : ¬ ((0 : Int32) = (3 : Int32)))).1) ?_
 refine gA X2 hx hby d19_20 rfl rfl rfl ?_
 refine gN X2 hx hby d19_21 rfl rfl ?_
 show Goes _ _ _ _ _ (fT T2 m 22 #[vr x, vi 0, vi 3, vr b1, vi 0, vu] [(.int 0), (.ref x)])
 refine gN X2 hx hby d19_22 rfl rfl ?_
 have ltc3_x : x < T2.heap.size := V_x.lt
 have ltc3_b1 : b1 < T2.heap.size := V_b1.lt
 have szs3 : h0.size ≤ T2.heap.size := KP.1
 obtain ⟨_, _, ⟨T3, L3, k3, n3⟩, -, X3, ⟨Lc3, hQ3, l3, y3, z3⟩, st3⟩ := Jvm.LawKit.callS X2 hx (y := mN17) hown (gz hZ hw 60 rfl) (gz hZ hw 61 rfl) (gz hZ hw 55 rfl) (gz hZ hw 62 rfl) (by decide) (backOf (W := 0) (rs_tb_3 l Z a0 hw [] x kx c0 c1 c2 T2.heap n0 Z0 V_x sgA sgH sgL) hZ (gw hw 62 rfl) (gw hw 55 rfl) (by decide) (by decide)) (g := (mkF m 23 #[vr x, vi 0, vi 3, vr b1, vi 0, vu] [(.int 3), (.int 0), (.ref x)])) rfl hml.symm (argsL := [(.ref x), (.int 0), (.int 3)]) (rest := []) (lenOf own_pd14 rfl) rfl (wz rfl) (hb hby d19_23) (fun _ _ => ⟨rfl, rfl, (by decide : 1 + 1 ≤ _), (by decide : 3 + 6 ≤ _)⟩)
 dsimp only [Pt.U, Pt.locs, Pt.cells, Pt.slots] at X3 l3 y3 z3 st3 hQ3
 subst l3 y3 z3
 obtain ⟨y3, ky3, rfl, N3q, K3, V_y3_3', g_y3_3', sz_y3_3'⟩ := hQ3
 have N3 := Fr.app N2 N3q
 replace sgA := own_staK sgA K3 all0
 replace sgH := own_staK sgH K3 all0
 replace sgL := own_staK sgL K3 all0
 replace KP := KP.trans K3 all0
 replace Z0 := Nat.le_trans Z0 K3.1
 have V_y3 := V_y3_3'
 have g_y3 := g_y3_3'
 have szc_y3 := sz_y3_3'
 have ne_x_y3 : x ≠ y3 := Nat.ne_of_lt (Nat.lt_of_lt_of_le ltc3_x szc_y3)
 have ne_b1_y3 : b1 ≠ y3 := Nat.ne_of_lt (Nat.lt_of_lt_of_le ltc3_b1 szc_y3)
 have sz_y3 : h0.size ≤ y3 := Nat.le_trans szs3 szc_y3
 refine Gs st3 ?_
 show Goes _ _ _ _ _ (fT T3 m 26 #[vr x, vi 0, vi 3, vr b1, vi 0, vu] [(.ref y3)])
 refine Gz (XS.astore X3.here hx rfl (hb hby d19_26) rfl rfl (l' := #[vr x, vi 0, vi 3, vr b1, vi 0, vr y3]) rfl) ?_
 refine Gz (XS.aload X3.here hx rfl (hb hby d19_28) rfl rfl) ?_
 refine gI X3 hx hby d19_30 rfl rfl ?_
 obtain ⟨_, _, ⟨T4, L4, k4, n4⟩, -, X4, ⟨Lc4, hQ4, l4, y4, z4⟩, st4⟩ := Jvm.LawKit.callS X3 hx (y := mN5) hown (gz hZ hw 76 rfl) (gz hZ hw 77 rfl) (gz hZ hw 55 rfl) (gz hZ hw 78 rfl) (by decide) (backOf (W := 0) (rs_gch l Z a0 hw [] y3 ky3 [c0, c1, c2] (0 : Int32) c0 T3.heap n0 Z0 V_y3 (by first | assumption | decide) (own_il 0 _ (by decide) (by simp) (Nat.le_of_ble_eq_true rfl)) rfl (Nat.le_of_ble_eq_true rfl) hC_c0 sgA sgH sgL) hZ (gw hw 78 rfl) (gw hw 55 rfl) (by decide) (by decide)) (g := (mkF m 32 #[vr x, vi 0, vi 3, vr b1, vi 0, vr y3] [(.int 0), (.ref y3)])) rfl hml.symm (argsL := [(.ref y3), (.int 0)]) (rest := []) (lenOf own_pd2 rfl) rfl (wz rfl) (hb hby d19_32) (fun _ _ => ⟨rfl, rfl, (by decide : 2 + 0 ≤ _), (by decide : 9 + 0 ≤ _)⟩)
 dsimp only [Pt.U, Pt.locs, Pt.cells, Pt.slots] at X4 l4 y4 z4 st4 hQ4
 subst l4 y4 z4
 obtain ⟨rfl, N4q, e4⟩ := hQ4
 have N4 := Fr.app N3 N4q
 refine Gs st4 ?_
 show Goes _ _ _ _ _ (fT T4 m 35 #[vr x, vi 0, vi 3, vr b1, vi 0, vr y3] [(.int c0)])
 refine Gz (XS.sipush X4.here hx rfl (hb hby d19_35)) ?_
 refine Gz (XS.icmpYes X4.here hx rfl (pc0 := 38) (pc' := 54) rfl (hb hby d19_38) rfl (tlt hn_c0).2.2.1 (by decide) (by decide)) ?_
 refine Gz (XS.aload X4.here hx rfl (hb hby d19_54) rfl rfl) ?_
 refine Goes.ret X4 (some (.ref y3)) (fun h => by rw [hret] at h; cases h) hlk (by decide) (by decide) ?_ (fun fs hr => ?_)
 ·rw [e4]; exact ⟨y3, ky3, rfl, N4, KP, V_y3, g_y3, sz_y3⟩
 ·exact own_retA X4 hx hret rfl rfl (hb hby d19_56) hr
theorem own_ef_rs_c5_3_1 (m : MethodId) (x0 : Addr) (x2 : Addr) : entryFrame m #[(.ref x0), (.int 0), (.ref x2), (.int 0), (.int 3)] 7 = mkF m 0 #[vr x0, vi 0, vr x2, vi 0, vi 3, vu, vu] [] := by first | (simp [entryFrame, mkF, argsToLocals, Value.category]; done) | rfl
def Q_rs_c5_3_1 (Z : State) (x : Addr) (kx : ClassId) (y : Addr) (ky : ClassId) (c0 : Int32) (c1 : Int32) (c2 : Int32) (h0 : Heap) (n0 : Nat) (v : Option Value) (h : Heap) (L : List Loc) : Prop := v = some (.int 1) ∧ Fr n0 L ∧ Keep h0 h [y] ∧ Arv Z h y ky .byte 3 [(.int (lo8 c0)), (.int 0), (.int 0)] (.int 0)
set_option maxRecDepth 65536 in
set_option maxHeartbeats 40000000 in
theorem rs_c5_3_1 (l : Launch) (Z : State) (a0 : Array Value) (hw : HW a0 Z) (ws : List Jvm.Cond) (x : Addr) (kx : ClassId) (y : Addr) (ky : ClassId) (c0 : Int32) (c1 : Int32) (c2 : Int32) (h0 : Heap) (n0 : Nat) (Z0 : n0 ≤ h0.size) (V_x : Arv Z h0 x kx .char 3 [(.int c0), (.int c1), (.int c2)] (.int 0)) (V_y : Arv Z h0 y ky .byte 3 [(.int 0), (.int 0), (.int 0)] (.int 0)) (g_y : n0 ≤ y) (ne_x_y : x ≠ y) (hn_c0 : ¬ ((255 : Int32) < c0)) (hn_c1 : (255 : Int32) < c1) :
  Met l Z mN18 jdk_52_method_21_code 7 (some .int) ({ frames := 0, cells := 0, slots := 0, locals := 0 } : Room) ws #[(.ref x), (.int 0), (.ref y), (.int 0), (.int 3)] h0 (Q_rs_c5_3_1 Z x kx y ky c0 c1 c2 h0 n0) := by
 refine own_met (plainFor_of_name own_pn2) ?_
 intro p e s m below meth c s₁ hret hx hby hlk hml hown hnm X0 e0 hZ hh
 have N0 := Fr.nil n0
 refine Gz (castTop (own_ef_rs_c5_3_1 m x y)) ?_
 have KP : Keep h0 h0 [y] := Keep.refl _ _
 show Goes _ _ _ _ _ (fT s₁ m 0 #[vr x, vi 0, vr y, vi 0, vi 3, vu, vu] [])
 refine Gz (XS.iconst X0.here hx rfl (hb hby d18_0)) ?_
 refine Gz (XS.istore X0.here hx rfl (hb hby d18_1) rfl (l' := #[vr x, vi 0, vr y, vi 0, vi 3, vi 0, vu]) rfl) ?_
 refine gI X0 hx hby d18_3 rfl rfl ?_
 refine gI X0 hx hby d18_5 rfl rfl ?_
 refine Gz (XS.icmpNo X0.here hx rfl (hb hby d18_7) rfl (tlt (by decide : ((0 : Int32) < (3 : Int32)))).2.1) ?_
 refine gA X0 hx hby d18_10 rfl rfl rfl ?_
 show Goes _ _ _ _ _ (fT s₁ m 11 #[vr x, vi 0, vr y, vi 0, vi 3, vi 0, vu] [(.ref x)])
 refine gN X0 hx hby d18_11 rfl rfl ?_
 obtain ⟨cl1, Ar1, -, S1, N1z, H1, -⟩ := id V_x
 have hin1 : ¬ ((0 : Int32) < 0 ∨ cl1.slots.size ≤ ((0 : Int32)).toNatClampNeg) := inb_of S1 ⟨by decide, by decide⟩
 have hat1 : cl1.slots[((0 : Int32)).toNatClampNeg]? = some (.int c0) := Has.at H1 hin1 rfl
 refine Gs (fun _ tk => X0.caload hx (j := (0 : Int32)) (v := (.int c0)) (by rw [e0]; exact Ar1.1) (State.isArrayOf_alike hZ.alike Ar1.2.1) Ar1.2.2 hin1 hat1 (g := (mkF m 12 #[vr x, vi 0, vr y, vi 0, vi 3, vi 0, vu] [(.int 0), (.ref x)])) rfl rfl (hb hby d18_12) _ tk) ?_
 show Goes _ _ _ _ _ (fT s₁ m 13 #[vr x, vi 0, vr y, vi 0, vi 3, vi 0, vu] [(.int c0)])
 refine Gz (XS.istore X0.here hx rfl (hb hby d18_13) rfl (l' := #[vr x, vi 0, vr y, vi 0, vi 3, vi 0, vi c0]) rfl) ?_
 refine gI X0 hx hby d18_15 rfl rfl ?_
 refine Gz (XS.sipush X0.here hx rfl (hb hby d18_17)) ?_
 refine Gz (XS.icmpYes X0.here hx rfl (pc0 := 20) (pc' := 26) rfl (hb hby d18_20) rfl (flt hn_c0).2.2.2 (by decide) (by decide)) ?_
 refine gA X0 hx hby d18_26 rfl rfl rfl ?_
 refine gN X0 hx hby d18_27 rfl rfl ?_
 show Goes _ _ _ _ _ (fT s₁ m 28 #[vr x, vi 0, vr y, vi 0, vi 3, vi 0, vi c0] [(.int 0), (.ref y)])
 refine gI X0 hx hby d18_28 rfl rfl ?_
 show Goes _ _ _ _ _ (fT s₁ m 30 #[vr x, vi 0, vr y, vi 0, vi 3, vi 0, vi c0] [(.int c0), (.int 0), (.ref y)])
 refine Gz (XS.i2b X0.here hx rfl (hb hby d18_30) rfl) ?_
 show Goes _ _ _ _ _ (fT s₁ m 31 #[vr x, vi 0, vr y, vi 0, vi 3, vi 0, vi c0] [(.int (c0.toInt8.toInt32)), (.int 0), (.ref y)])
 obtain ⟨cl2, Ar2, q2, S2, N2z, H2, G2⟩ := V_y
 have hin2 : ¬ ((0 : Int32) < 0 ∨ cl2.slots.size ≤ ((0 : Int32)).toNatClampNeg) := inb_of S2 ⟨by decide, by decide⟩
 obtain ⟨T2, h2, X2, e2, W2, st2⟩ := stB X0 hx hZ e0 Ar2 (j := (0 : Int32)) hin2 (g := (mkF m 31 #[vr x, vi 0, vr y, vi 0, vi 3, vi 0, vi c0] [(.int (c0.toInt8.toInt32)), (.int 0), (.ref y)])) rfl rfl (hb hby d18_31)
 have Vn2 := Arv.set Ar2 q2 S2 N2z H2 G2 (fits_nar_byte _) W2 0 rfl (Nat.le_of_ble_eq_true rfl)
 have N2 := Fr.snoc X2 N0 g_y
 replace V_x := V_x.other W2 ne_x_y
 replace KP := KP.wr W2 (Or.inl (List.mem_of_getElem? (i := 0) rfl))
 have V_y : Arv Z h2 y ky .byte 3 [(.int (lo8 c0)), (.int 0), (.int 0)] (.int 0) := by have q := Vn2; rw [own_nb2] at q; exact q
 replace Z0 : n0 ≤ h2.size := by rw [W2.size]; exact Z0
 refine Gs st2 ?_
 show Goes _ _ _ _ _ (fT T2 m 32 #[vr x, vi 0, vr y, vi 0, vi 3, vi 0, vi c0] [])
 refine Gz (XS.iinc X2.here hx rfl (hb hby d18_32) rfl (l' := #[vr x, vi ((0 : Int32) + (1 : Int32)), vr y, vi 0, vi 3, vi 0, vi c0]) rfl) ?_
 rw [show ((0 : Int32) + (1 : Int32)) = 1 from by decide]
 show Goes _ _ _ _ _ (fT T2 m 35 #[vr x, vi 1, vr y, vi 0, vi 3, vi 0, vi c0] [])
 refine Gz (XS.iinc X2.here hx rfl (hb hby d18_35) rfl (l' := #[vr x, vi 1, vr y, vi ((0 : Int32) + (1 : Int32)), vi 3, vi 0, vi c0]) rfl) ?_
 rw [show ((0 : Int32) + (1 : Int32)) = 1 from by decide]
 show Goes _ _ _ _ _ (fT T2 m 38 #[vr x, vi 1, vr y, vi 1, vi 3, vi 0, vi c0] [])
 refine Gz (XS.iinc X2.here hx rfl (hb hby d18_38) rfl (l' := #[vr x, vi 1, vr y, vi 1, vi 3, vi ((0 : Int32) + (1 : Int32)), vi c0]) rfl) ?_
 rw [show ((0 : Int32) + (1 : Int32)) = 1 from by decide]
 show Goes _ _ _ _ _ (fT T2 m 41 #[vr x, vi 1, vr y, vi 1, vi 3, vi 1, vi c0] [])
 refine Gz (XS.goto X2.here hx rfl (pc0 := 41) (pc' := 3) rfl (hb hby d18_41) (by decide) (by decide)) ?_
 refine gI X2 hx hby d18_3 rfl rfl ?_
 refine gI X2 hx hby d18_5 rfl rfl ?_
 refine Gz (XS.icmpNo X2.here hx rfl (hb hby d18_7) rfl (tlt (by decide : ((1 : Int32) < (3 : Int32)))).2.1) ?_
 refine gA X2 hx hby d18_10 rfl rfl rfl ?_
 refine gN X2 hx hby d18_11 rfl rfl ?_
 show Goes _ _ _ _ _ (fT T2 m 12 #[vr x, vi 1, vr y, vi 1, vi 3, vi 1, vi c0] [(.int 1), (.ref x)])
 obtain ⟨cl3, Ar3, -, S3, N3z, H3, -⟩ := id V_x
 have hin3 : ¬ ((1 : Int32) < 0 ∨ cl3.slots.size ≤ ((1 : Int32)).toNatClampNeg) := inb_of S3 ⟨by decide, by decide⟩
 have hat3 : cl3.slots[((1 : Int32)).toNatClampNeg]? = some (.int c1) := Has.at H3 hin3 rfl
 refine Gs (fun _ tk => X2.caload hx (j := (1 : Int32)) (v := (.int c1)) (by rw [e2]; exact Ar3.1) (State.isArrayOf_alike hZ.alike Ar3.2.1) Ar3.2.2 hin3 hat3 (g := (mkF m 12 #[vr x, vi 1, vr y, vi 1, vi 3, vi 1, vi c0] [(.int 1), (.ref x)])) rfl rfl (hb hby d18_12) _ tk) ?_
 show Goes _ _ _ _ _ (fT T2 m 13 #[vr x, vi 1, vr y, vi 1, vi 3, vi 1, vi c0] [(.int c1)])
 refine Gz (XS.istore X2.here hx rfl (hb hby d18_13) rfl (l' := #[vr x, vi 1, vr y, vi 1, vi 3, vi 1, vi c1]) rfl) ?_
 refine gI X2 hx hby d18_15 rfl rfl ?_
 refine Gz (XS.sipush X2.here hx rfl (hb hby d18_17)) ?_
 refine Gz (XS.icmpNo X2.here hx rfl (hb hby d18_20) rfl (tlt hn_c1).2.2.2) ?_
 refine gI X2 hx hby d18_23 rfl rfl ?_
 refine Goes.ret X2 (some (.int 1)) (fun h => by rw [hret] at h; cases h) hlk (by decide) (by decide) ?_ (fun fs hr => ?_)
 ·rw [e2]; exact ⟨rfl, N2, KP, V_y⟩
 ·exact retI X2 hx hret (hb hby d18_25) hr
theorem own_ef_rs_c3_3_1 (m : MethodId) (x0 : Addr) : entryFrame m #[(.ref x0), (.int 0), (.int 3)] 6 = mkF m 0 #[vr x0, vi 0, vi 3, vu, vu, vu] [] := by first | (simp [entryFrame, mkF, argsToLocals, Value.category]; done) | rfl
def Q_rs_c3_3_1 (Z : State) (x : Addr) (kx : ClassId) (c0 : Int32) (c1 : Int32) (c2 : Int32) (h0 : Heap) (n0 : Nat) (v : Option Value) (h : Heap) (L : List Loc) : Prop := ∃ y : Addr, ∃ ky : ClassId, v = some (.ref y) ∧ Fr n0 L ∧ Keep h0 h [] ∧ Arv Z h y ky .byte 6 [(.int (lo8 c0)), (.int (hi8 c0)), (.int (lo8 c1)), (.int (hi8 c1)), (.int (lo8 c2)), (.int (hi8 c2))] (.int 0) ∧ n0 ≤ y ∧ h0.size ≤ y
set_option maxRecDepth 65536 in
set_option maxHeartbeats 40000000 in
theorem rs_c3_3_1 (l : Launch) (Z : State) (a0 : Array Value) (hw : HW a0 Z) (ws : List Jvm.Cond) (x : Addr) (kx : ClassId) (c0 : Int32) (c1 : Int32) (c2 : Int32) (h0 : Heap) (n0 : Nat) (Z0 : n0 ≤ h0.size) (V_x : Arv Z h0 x kx .char 3 [(.int c0), (.int c1), (.int c2)] (.int 0)) (hn_c0 : ¬ ((255 : Int32) < c0)) (hn_c1 : (255 : Int32) < c1) (hC_c0 : Chr c0) (hC_c1 : Chr c1) (hC_c2 : Chr c2) (sgA : Sta Z h0 "java/lang/StringUTF16" "$assertionsDisabled" "Z" (.int 1)) (sgH : Sta Z h0 "java/lang/StringUTF16" "HI_BYTE_SHIFT" "I" (.int 0)) (sgL : Sta Z h0 "java/lang/StringUTF16" "LO_BYTE_SHIFT" "I" (.int 8)) :
  Met l Z mN19 jdk_52_method_16_code 6 (some (.array .byte)) ({ frames := 3, cells := 2, slots := 9, locals := 40 } : Room) ws #[(.ref x), (.int 0), (.int 3)] h0 (Q_rs_c3_3_1 Z x kx c0 c1 c2 h0 n0) := by
 refine own_met (plainFor_of_name own_pn2) ?_
 intro p e s m below meth c s₁ hret hx hby hlk hml hown hnm X0 e0 hZ hh
 have N0 := Fr.nil n0
 refine Gz (castTop (own_ef_rs_c3_3_1 m x)) ?_
 have KP : Keep h0 h0 [] := Keep.refl _ _
 show Goes _ _ _ _ _ (fT s₁ m 0 #[vr x, vi 0, vi 3, vu, vu, vu] [])
 refine gN X0 hx hby d19_0 rfl rfl ?_
 obtain ⟨T1, h1, k1, X1, e1, E1, A1, st1⟩ := newP X0 hx hZ (gw hw 20 rfl) e0 (g := (mkF m 1 #[vr x, vi 0, vi 3, vu, vu, vu] [(.int 3)])) rfl (hb hby d19_1) rfl (by decide) (cap := 3) (by decide) (by decide) (by decide) (by decide)
 obtain ⟨b1, gq1⟩ : ∃ z, z = h0.size := ⟨_, rfl⟩
 rw [← gq1] at A1 st1
 have g_b1 : n0 ≤ b1 := by rw [gq1]; exact Z0
 have sz_b1 : h0.size ≤ b1 := by rw [gq1]; exact KP.1
 have ne_x_b1 : x ≠ b1 := by rw [gq1]; exact Nat.ne_of_lt V_x.lt
 replace V_x := V_x.ext E1
 replace sgA := sgA.ext E1
 replace sgH := sgH.ext E1
 replace sgL := sgL.ext E1
 replace KP := KP.ext E1
 replace Z0 : n0 ≤ h1.size := Nat.le_trans Z0 E1.1
 have V_b1 : Arv Z h1 b1 k1 .byte 3 [(.int 0), (.int 0), (.int 0)] (.int 0) := (Arv.new A1 (by decide)).pad (pad_rep [] (.int 0) 3)
 refine Gs st1 ?_
 show Goes _ _ _ _ _ (fT T1 m 3 #[vr x, vi 0, vi 3, vu, vu, vu] [(.ref b1)])
 refine Gz (XS.astoreN X1.here hx rfl (hb hby d19_3) rfl rfl (l' := #[vr x, vi 0, vi 3, vr b1, vu, vu]) rfl) ?_
 refine gA X1 hx hby d19_4 rfl rfl rfl ?_
 refine gN X1 hx hby d19_5 rfl rfl ?_
 refine gA X1 hx hby d19_6 rfl rfl rfl ?_
 refine Gz (XS.iconst X1.here hx rfl (hb hby d19_7)) ?_
 refine gN X1 hx hby d19_8 rfl rfl ?_
 show Goes _ _ _ _ _ (fT T1 m 9 #[vr x, vi 0, vi 3, vr b1, vu, vu] [(.int 3), (.int 0), (.ref b1), (.int 0), (.ref x)])
 obtain ⟨_, _, ⟨T2, L2, k2, n2⟩, -, X2, ⟨Lc2, hQ2, l2, y2, z2⟩, st2⟩ := Jvm.LawKit.callS X1 hx (y := mN18) hown (gz hZ hw 57 rfl) (gz hZ hw 58 rfl) (gz hZ hw 55 rfl) (gz hZ hw 59 rfl) (by decide) (backOf (W := 0) (rs_c5_3_1 l Z a0 hw [] x kx b1 k1 c0 c1 c2 h1 n0 Z0 V_x V_b1 g_b1 ne_x_b1 (by first | assumption | decide) (by first | assumption | decide)) hZ (gw hw 59 rfl) (gw hw 55 rfl) (by decide) (by decide)) (g := (mkF m 9 #[vr x, vi 0, vi 3, vr b1, vu, vu] [(.int 3), (.int 0), (.ref b1), (.int 0), (.ref x)])) rfl hml.symm (argsL := [(.ref x), (.int 0), (.ref b1), (.int 0), (.int 3)]) (rest := []) (lenOf own_pd13 rfl) rfl (wz rfl) (hb hby d19_9) (fun _ _ => ⟨rfl, e1, (by decide : 1 + 0 ≤ _), (by decide : 3 + 0 ≤ _)⟩)
 dsimp only [Pt.U, Pt.locs, Pt.cells, Pt.slots] at X2 l2 y2 z2 st2 hQ2
 subst l2 y2 z2
 obtain ⟨rfl, N2q, K2, V_b1_2'⟩ := hQ2
 have N2 := Fr.app N0 N2q
 replace sgA := own_staK sgA K2 (allS (own_obA V_b1) all0)
 replace sgH := own_staK sgH K2 (allS (own_obA V_b1) all0)
 replace sgL := own_staK sgL K2 (allS (own_obA V_b1) all0)
 replace V_x := V_x.keep K2 (ninS ne_x_b1 nin0)
 replace KP := KP.trans K2 (allS (Or.inr sz_b1) all0)
 replace Z0 := Nat.le_trans Z0 K2.1
 have V_b1 := V_b1_2'
 refine Gs st2 ?_
 show Goes _ _ _ _ _ (fT T2 m 12 #[vr x, vi 0, vi 3, vr b1, vu, vu] [(.int 1)])
 refine Gz (XS.istore X2.here hx rfl (hb hby d19_12) rfl (l' := #[vr x, vi 0, vi 3, vr b1, vi 1, vu]) rfl) ?_
 refine gI X2 hx hby d19_14 rfl rfl ?_
 refine gN X2 hx hby d19_16 rfl rfl ?_
 refine Gz (XS.icmpNo X2.here hx rfl (hb hby d19_17) rfl (feq (by decide : ¬ ((1 : Int32) = (3 : Int32)))).1) ?_
 refine gA X2 hx hby d19_20 rfl rfl rfl ?_
 refine gN X2 hx hby d19_21 rfl rfl ?_
 show Goes _ _ _ _ _ (fT T2 m 22 #[vr x, vi 0, vi 3, vr b1, vi 1, vu] [(.int 0), (.ref x)])
 refine gN X2 hx hby d19_22 rfl rfl ?_
 have ltc3_x : x < T2.heap.size := V_x.lt
 have ltc3_b1 : b1 < T2.heap.size := V_b1.lt
 have szs3 : h0.size ≤ T2.heap.size := KP.1
 obtain ⟨_, _, ⟨T3, L3, k3, n3⟩, -, X3, ⟨Lc3, hQ3, l3, y3, z3⟩, st3⟩ := Jvm.LawKit.callS X2 hx (y := mN17) hown (gz hZ hw 60 rfl) (gz hZ hw 61 rfl) (gz hZ hw 55 rfl) (gz hZ hw 62 rfl) (by decide) (backOf (W := 0) (rs_tb_3 l Z a0 hw [] x kx c0 c1 c2 T2.heap n0 Z0 V_x sgA sgH sgL) hZ (gw hw 62 rfl) (gw hw 55 rfl) (by decide) (by decide)) (g := (mkF m 23 #[vr x, vi 0, vi 3, vr b1, vi 1, vu] [(.int 3), (.int 0), (.ref x)])) rfl hml.symm (argsL := [(.ref x), (.int 0), (.int 3)]) (rest := []) (lenOf own_pd14 rfl) rfl (wz rfl) (hb hby d19_23) (fun _ _ => ⟨rfl, rfl, (by decide : 1 + 1 ≤ _), (by decide : 3 + 6 ≤ _)⟩)
 dsimp only [Pt.U, Pt.locs, Pt.cells, Pt.slots] at X3 l3 y3 z3 st3 hQ3
 subst l3 y3 z3
 obtain ⟨y3, ky3, rfl, N3q, K3, V_y3_3', g_y3_3', sz_y3_3'⟩ := hQ3
 have N3 := Fr.app N2 N3q
 replace sgA := own_staK sgA K3 all0
 replace sgH := own_staK sgH K3 all0
 replace sgL := own_staK sgL K3 all0
 replace KP := KP.trans K3 all0
 replace Z0 := Nat.le_trans Z0 K3.1
 have V_y3 := V_y3_3'
 have g_y3 := g_y3_3'
 have szc_y3 := sz_y3_3'
 have ne_x_y3 : x ≠ y3 := Nat.ne_of_lt (Nat.lt_of_lt_of_le ltc3_x szc_y3)
 have ne_b1_y3 : b1 ≠ y3 := Nat.ne_of_lt (Nat.lt_of_lt_of_le ltc3_b1 szc_y3)
 have sz_y3 : h0.size ≤ y3 := Nat.le_trans szs3 szc_y3
 refine Gs st3 ?_
 show Goes _ _ _ _ _ (fT T3 m 26 #[vr x, vi 0, vi 3, vr b1, vi 1, vu] [(.ref y3)])
 refine Gz (XS.astore X3.here hx rfl (hb hby d19_26) rfl rfl (l' := #[vr x, vi 0, vi 3, vr b1, vi 1, vr y3]) rfl) ?_
 refine Gz (XS.aload X3.here hx rfl (hb hby d19_28) rfl rfl) ?_
 refine gI X3 hx hby d19_30 rfl rfl ?_
 obtain ⟨_, _, ⟨T4, L4, k4, n4⟩, -, X4, ⟨Lc4, hQ4, l4, y4, z4⟩, st4⟩ := Jvm.LawKit.callS X3 hx (y := mN5) hown (gz hZ hw 76 rfl) (gz hZ hw 77 rfl) (gz hZ hw 55 rfl) (gz hZ hw 78 rfl) (by decide) (backOf (W := 0) (rs_gch l Z a0 hw [] y3 ky3 [c0, c1, c2] (1 : Int32) c1 T3.heap n0 Z0 V_y3 (by first | assumption | decide) (own_il 1 _ (by decide) (by simp) (Nat.le_of_ble_eq_true rfl)) rfl (Nat.le_of_ble_eq_true rfl) hC_c1 sgA sgH sgL) hZ (gw hw 78 rfl) (gw hw 55 rfl) (by decide) (by decide)) (g := (mkF m 32 #[vr x, vi 0, vi 3, vr b1, vi 1, vr y3] [(.int 1), (.ref y3)])) rfl hml.symm (argsL := [(.ref y3), (.int 1)]) (rest := []) (lenOf own_pd2 rfl) rfl (wz rfl) (hb hby d19_32) (fun _ _ => ⟨rfl, rfl, (by decide : 2 + 0 ≤ _), (by decide : 9 + 0 ≤ _)⟩)
 dsimp only [Pt.U, Pt.locs, Pt.cells, Pt.slots] at X4 l4 y4 z4 st4 hQ4
 subst l4 y4 z4
 obtain ⟨rfl, N4q, e4⟩ := hQ4
 have N4 := Fr.app N3 N4q
 refine Gs st4 ?_
 show Goes _ _ _ _ _ (fT T4 m 35 #[vr x, vi 0, vi 3, vr b1, vi 1, vr y3] [(.int c1)])
 refine Gz (XS.sipush X4.here hx rfl (hb hby d19_35)) ?_
 refine Gz (XS.icmpYes X4.here hx rfl (pc0 := 38) (pc' := 54) rfl (hb hby d19_38) rfl (tlt hn_c1).2.2.1 (by decide) (by decide)) ?_
 refine Gz (XS.aload X4.here hx rfl (hb hby d19_54) rfl rfl) ?_
 refine Goes.ret X4 (some (.ref y3)) (fun h => by rw [hret] at h; cases h) hlk (by decide) (by decide) ?_ (fun fs hr => ?_)
 ·rw [e4]; exact ⟨y3, ky3, rfl, N4, KP, V_y3, g_y3, sz_y3⟩
 ·exact own_retA X4 hx hret rfl rfl (hb hby d19_56) hr
theorem own_ef_rs_c5_3_2 (m : MethodId) (x0 : Addr) (x2 : Addr) : entryFrame m #[(.ref x0), (.int 0), (.ref x2), (.int 0), (.int 3)] 7 = mkF m 0 #[vr x0, vi 0, vr x2, vi 0, vi 3, vu, vu] [] := by first | (simp [entryFrame, mkF, argsToLocals, Value.category]; done) | rfl
def Q_rs_c5_3_2 (Z : State) (x : Addr) (kx : ClassId) (y : Addr) (ky : ClassId) (c0 : Int32) (c1 : Int32) (c2 : Int32) (h0 : Heap) (n0 : Nat) (v : Option Value) (h : Heap) (L : List Loc) : Prop := v = some (.int 2) ∧ Fr n0 L ∧ Keep h0 h [y] ∧ Arv Z h y ky .byte 3 [(.int (lo8 c0)), (.int (lo8 c1)), (.int 0)] (.int 0)
set_option maxRecDepth 65536 in
set_option maxHeartbeats 40000000 in
theorem rs_c5_3_2 (l : Launch) (Z : State) (a0 : Array Value) (hw : HW a0 Z) (ws : List Jvm.Cond) (x : Addr) (kx : ClassId) (y : Addr) (ky : ClassId) (c0 : Int32) (c1 : Int32) (c2 : Int32) (h0 : Heap) (n0 : Nat) (Z0 : n0 ≤ h0.size) (V_x : Arv Z h0 x kx .char 3 [(.int c0), (.int c1), (.int c2)] (.int 0)) (V_y : Arv Z h0 y ky .byte 3 [(.int 0), (.int 0), (.int 0)] (.int 0)) (g_y : n0 ≤ y) (ne_x_y : x ≠ y) (hn_c0 : ¬ ((255 : Int32) < c0)) (hn_c1 : ¬ ((255 : Int32) < c1)) (hn_c2 : (255 : Int32) < c2) :
  Met l Z mN18 jdk_52_method_21_code 7 (some .int) ({ frames := 0, cells := 0, slots := 0, locals := 0 } : Room) ws #[(.ref x), (.int 0), (.ref y), (.int 0), (.int 3)] h0 (Q_rs_c5_3_2 Z x kx y ky c0 c1 c2 h0 n0) := by
 refine own_met (plainFor_of_name own_pn2) ?_
 intro p e s m below meth c s₁ hret hx hby hlk hml hown hnm X0 e0 hZ hh
 have N0 := Fr.nil n0
 refine Gz (castTop (own_ef_rs_c5_3_2 m x y)) ?_
 have KP : Keep h0 h0 [y] := Keep.refl _ _
 show Goes _ _ _ _ _ (fT s₁ m 0 #[vr x, vi 0, vr y, vi 0, vi 3, vu, vu] [])
 refine Gz (XS.iconst X0.here hx rfl (hb hby d18_0)) ?_
 refine Gz (XS.istore X0.here hx rfl (hb hby d18_1) rfl (l' := #[vr x, vi 0, vr y, vi 0, vi 3, vi 0, vu]) rfl) ?_
 refine gI X0 hx hby d18_3 rfl rfl ?_
 refine gI X0 hx hby d18_5 rfl rfl ?_
 refine Gz (XS.icmpNo X0.here hx rfl (hb hby d18_7) rfl (tlt (by decide : ((0 : Int32) < (3 : Int32)))).2.1) ?_
 refine gA X0 hx hby d18_10 rfl rfl rfl ?_
 show Goes _ _ _ _ _ (fT s₁ m 11 #[vr x, vi 0, vr y, vi 0, vi 3, vi 0, vu] [(.ref x)])
 refine gN X0 hx hby d18_11 rfl rfl ?_
 obtain ⟨cl1, Ar1, -, S1, N1z, H1, -⟩ := id V_x
 have hin1 : ¬ ((0 : Int32) < 0 ∨ cl1.slots.size ≤ ((0 : Int32)).toNatClampNeg) := inb_of S1 ⟨by decide, by decide⟩
 have hat1 : cl1.slots[((0 : Int32)).toNatClampNeg]? = some (.int c0) := Has.at H1 hin1 rfl
 refine Gs (fun _ tk => X0.caload hx (j := (0 : Int32)) (v := (.int c0)) (by rw [e0]; exact Ar1.1) (State.isArrayOf_alike hZ.alike Ar1.2.1) Ar1.2.2 hin1 hat1 (g := (mkF m 12 #[vr x, vi 0, vr y, vi 0, vi 3, vi 0, vu] [(.int 0), (.ref x)])) rfl rfl (hb hby d18_12) _ tk) ?_
 show Goes _ _ _ _ _ (fT s₁ m 13 #[vr x, vi 0, vr y, vi 0, vi 3, vi 0, vu] [(.int c0)])
 refine Gz (XS.istore X0.here hx rfl (hb hby d18_13) rfl (l' := #[vr x, vi 0, vr y, vi 0, vi 3, vi 0, vi c0]) rfl) ?_
 refine gI X0 hx hby d18_15 rfl rfl ?_
 refine Gz (XS.sipush X0.here hx rfl (hb hby d18_17)) ?_
 refine Gz (XS.icmpYes X0.here hx rfl (pc0 := 20) (pc' := 26) rfl (hb hby d18_20) rfl (flt hn_c0).2.2.2 (by decide) (by decide)) ?_
 refine gA X0 hx hby d18_26 rfl rfl rfl ?_
 refine gN X0 hx hby d18_27 rfl rfl ?_
 show Goes _ _ _ _ _ (fT s₁ m 28 #[vr x, vi 0, vr y, vi 0, vi 3, vi 0, vi c0] [(.int 0), (.ref y)])
 refine gI X0 hx hby d18_28 rfl rfl ?_
 show Goes _ _ _ _ _ (fT s₁ m 30 #[vr x, vi 0, vr y, vi 0, vi 3, vi 0, vi c0] [(.int c0), (.int 0), (.ref y)])
 refine Gz (XS.i2b X0.here hx rfl (hb hby d18_30) rfl) ?_
 show Goes _ _ _ _ _ (fT s₁ m 31 #[vr x, vi 0, vr y, vi 0, vi 3, vi 0, vi c0] [(.int (c0.toInt8.toInt32)), (.int 0), (.ref y)])
 obtain ⟨cl2, Ar2, q2, S2, N2z, H2, G2⟩ := V_y
 have hin2 : ¬ ((0 : Int32) < 0 ∨ cl2.slots.size ≤ ((0 : Int32)).toNatClampNeg) := inb_of S2 ⟨by decide, by decide⟩
 obtain ⟨T2, h2, X2, e2, W2, st2⟩ := stB X0 hx hZ e0 Ar2 (j := (0 : Int32)) hin2 (g := (mkF m 31 #[vr x, vi 0, vr y, vi 0, vi 3, vi 0, vi c0] [(.int (c0.toInt8.toInt32)), (.int 0), (.ref y)])) rfl rfl (hb hby d18_31)
 have Vn2 := Arv.set Ar2 q2 S2 N2z H2 G2 (fits_nar_byte _) W2 0 rfl (Nat.le_of_ble_eq_true rfl)
 have N2 := Fr.snoc X2 N0 g_y
 replace V_x := V_x.other W2 ne_x_y
 replace KP := KP.wr W2 (Or.inl (List.mem_of_getElem? (i := 0) rfl))
 have V_y : Arv Z h2 y ky .byte 3 [(.int (lo8 c0)), (.int 0), (.int 0)] (.int 0) := by have q := Vn2; rw [own_nb2] at q; exact q
 replace Z0 : n0 ≤ h2.size := by rw [W2.size]; exact Z0
 refine Gs st2 ?_
 show Goes _ _ _ _ _ (fT T2 m 32 #[vr x, vi 0, vr y, vi 0, vi 3, vi 0, vi c0] [])
 refine Gz (XS.iinc X2.here hx rfl (hb hby d18_32) rfl (l' := #[vr x, vi ((0 : Int32) + (1 : Int32)), vr y, vi 0, vi 3, vi 0, vi c0]) rfl) ?_
 rw [show ((0 : Int32) + (1 : Int32)) = 1 from by decide]
 show Goes _ _ _ _ _ (fT T2 m 35 #[vr x, vi 1, vr y, vi 0, vi 3, vi 0, vi c0] [])
 refine Gz (XS.iinc X2.here hx rfl (hb hby d18_35) rfl (l' := #[vr x, vi 1, vr y, vi ((0 : Int32) + (1 : Int32)), vi 3, vi 0, vi c0]) rfl) ?_
 rw [show ((0 : Int32) + (1 : Int32)) = 1 from by decide]
 show Goes _ _ _ _ _ (fT T2 m 38 #[vr x, vi 1, vr y, vi 1, vi 3, vi 0, vi c0] [])
 refine Gz (XS.iinc X2.here hx rfl (hb hby d18_38) rfl (l' := #[vr x, vi 1, vr y, vi 1, vi 3, vi ((0 : Int32) + (1 : Int32)), vi c0]) rfl) ?_
 rw [show ((0 : Int32) + (1 : Int32)) = 1 from by decide]
 show Goes _ _ _ _ _ (fT T2 m 41 #[vr x, vi 1, vr y, vi 1, vi 3, vi 1, vi c0] [])
 refine Gz (XS.goto X2.here hx rfl (pc0 := 41) (pc' := 3) rfl (hb hby d18_41) (by decide) (by decide)) ?_
 refine gI X2 hx hby d18_3 rfl rfl ?_
 refine gI X2 hx hby d18_5 rfl rfl ?_
 refine Gz (XS.icmpNo X2.here hx rfl (hb hby d18_7) rfl (tlt (by decide : ((1 : Int32) < (3 : Int32)))).2.1) ?_
 refine gA X2 hx hby d18_10 rfl rfl rfl ?_
 refine gN X2 hx hby d18_11 rfl rfl ?_
 show Goes _ _ _ _ _ (fT T2 m 12 #[vr x, vi 1, vr y, vi 1, vi 3, vi 1, vi c0] [(.int 1), (.ref x)])
 obtain ⟨cl3, Ar3, -, S3, N3z, H3, -⟩ := id V_x
 have hin3 : ¬ ((1 : Int32) < 0 ∨ cl3.slots.size ≤ ((1 : Int32)).toNatClampNeg) := inb_of S3 ⟨by decide, by decide⟩
 have hat3 : cl3.slots[((1 : Int32)).toNatClampNeg]? = some (.int c1) := Has.at H3 hin3 rfl
 refine Gs (fun _ tk => X2.caload hx (j := (1 : Int32)) (v := (.int c1)) (by rw [e2]; exact Ar3.1) (State.isArrayOf_alike hZ.alike Ar3.2.1) Ar3.2.2 hin3 hat3 (g := (mkF m 12 #[vr x, vi 1, vr y, vi 1, vi 3, vi 1, vi c0] [(.int 1), (.ref x)])) rfl rfl (hb hby d18_12) _ tk) ?_
 show Goes _ _ _ _ _ (fT T2 m 13 #[vr x, vi 1, vr y, vi 1, vi 3, vi 1, vi c0] [(.int c1)])
 refine Gz (XS.istore X2.here hx rfl (hb hby d18_13) rfl (l' := #[vr x, vi 1, vr y, vi 1, vi 3, vi 1, vi c1]) rfl) ?_
 refine gI X2 hx hby d18_15 rfl rfl ?_
 refine Gz (XS.sipush X2.here hx rfl (hb hby d18_17)) ?_
 refine Gz (XS.icmpYes X2.here hx rfl (pc0 := 20) (pc' := 26) rfl (hb hby d18_20) rfl (flt hn_c1).2.2.2 (by decide) (by decide)) ?_
 refine gA X2 hx hby d18_26 rfl rfl rfl ?_
 refine gN X2 hx hby d18_27 rfl rfl ?_
 show Goes _ _ _ _ _ (fT T2 m 28 #[vr x, vi 1, vr y, vi 1, vi 3, vi 1, vi c1] [(.int 1), (.ref y)])
 refine gI X2 hx hby d18_28 rfl rfl ?_
 show Goes _ _ _ _ _ (fT T2 m 30 #[vr x, vi 1, vr y, vi 1, vi 3, vi 1, vi c1] [(.int c1), (.int 1), (.ref y)])
 refine Gz (XS.i2b X2.here hx rfl (hb hby d18_30) rfl) ?_
 show Goes _ _ _ _ _ (fT T2 m 31 #[vr x, vi 1, vr y, vi 1, vi 3, vi 1, vi c1] [(.int (c1.toInt8.toInt32)), (.int 1), (.ref y)])
 obtain ⟨cl4, Ar4, q4, S4, N4z, H4, G4⟩ := V_y
 have hin4 : ¬ ((1 : Int32) < 0 ∨ cl4.slots.size ≤ ((1 : Int32)).toNatClampNeg) := inb_of S4 ⟨by decide, by decide⟩
 obtain ⟨T4, h4, X4, e4, W4, st4⟩ := stB X2 hx hZ e2 Ar4 (j := (1 : Int32)) hin4 (g := (mkF m 31 #[vr x, vi 1, vr y, vi 1, vi 3, vi 1, vi c1] [(.int (c1.toInt8.toInt32)), (.int 1), (.ref y)])) rfl rfl (hb hby d18_31)
 have Vn4 := Arv.set Ar4 q4 S4 N4z H4 G4 (fits_nar_byte _) W4 1 rfl (Nat.le_of_ble_eq_true rfl)
 have N4 := Fr.snoc X4 N2 g_y
 replace V_x := V_x.other W4 ne_x_y
 replace KP := KP.wr W4 (Or.inl (List.mem_of_getElem? (i := 0) rfl))
 have V_y : Arv Z h4 y ky .byte 3 [(.int (lo8 c0)), (.int (lo8 c1)), (.int 0)] (.int 0) := by have q := Vn4; rw [own_nb2] at q; exact q
 replace Z0 : n0 ≤ h4.size := by rw [W4.size]; exact Z0
 refine Gs st4 ?_
 show Goes _ _ _ _ _ (fT T4 m 32 #[vr x, vi 1, vr y, vi 1, vi 3, vi 1, vi c1] [])
 refine Gz (XS.iinc X4.here hx rfl (hb hby d18_32) rfl (l' := #[vr x, vi ((1 : Int32) + (1 : Int32)), vr y, vi 1, vi 3, vi 1, vi c1]) rfl) ?_
 rw [show ((1 : Int32) + (1 : Int32)) = 2 from by decide]
 show Goes _ _ _ _ _ (fT T4 m 35 #[vr x, vi 2, vr y, vi 1, vi 3, vi 1, vi c1] [])
 refine Gz (XS.iinc X4.here hx rfl (hb hby d18_35) rfl (l' := #[vr x, vi 2, vr y, vi ((1 : Int32) + (1 : Int32)), vi 3, vi 1, vi c1]) rfl) ?_
 rw [show ((1 : Int32) + (1 : Int32)) = 2 from by decide]
 show Goes _ _ _ _ _ (fT T4 m 38 #[vr x, vi 2, vr y, vi 2, vi 3, vi 1, vi c1] [])
 refine Gz (XS.iinc X4.here hx rfl (hb hby d18_38) rfl (l' := #[vr x, vi 2, vr y, vi 2, vi 3, vi ((1 : Int32) + (1 : Int32)), vi c1]) rfl) ?_
 rw [show ((1 : Int32) + (1 : Int32)) = 2 from by decide]
 show Goes _ _ _ _ _ (fT T4 m 41 #[vr x, vi 2, vr y, vi 2, vi 3, vi 2, vi c1] [])
 refine Gz (XS.goto X4.here hx rfl (pc0 := 41) (pc' := 3) rfl (hb hby d18_41) (by decide) (by decide)) ?_
 refine gI X4 hx hby d18_3 rfl rfl ?_
 refine gI X4 hx hby d18_5 rfl rfl ?_
 refine Gz (XS.icmpNo X4.here hx rfl (hb hby d18_7) rfl (tlt (by decide : ((2 : Int32) < (3 : Int32)))).2.1) ?_
 refine gA X4 hx hby d18_10 rfl rfl rfl ?_
 refine gN X4 hx hby d18_11 rfl rfl ?_
 show Goes _ _ _ _ _ (fT T4 m 12 #[vr x, vi 2, vr y, vi 2, vi 3, vi 2, vi c1] [(.int 2), (.ref x)])
 obtain ⟨cl5, Ar5, -, S5, N5z, H5, -⟩ := id V_x
 have hin5 : ¬ ((2 : Int32) < 0 ∨ cl5.slots.size ≤ ((2 : Int32)).toNatClampNeg) := inb_of S5 ⟨by decide, by decide⟩
 have hat5 : cl5.slots[((2 : Int32)).toNatClampNeg]? = some (.int c2) := Has.at H5 hin5 rfl
 refine Gs (fun _ tk => X4.caload hx (j := (2 : Int32)) (v := (.int c2)) (by rw [e4]; exact Ar5.1) (State.isArrayOf_alike hZ.alike Ar5.2.1) Ar5.2.2 hin5 hat5 (g := (mkF m 12 #[vr x, vi 2, vr y, vi 2, vi 3, vi 2, vi c1] [(.int 2), (.ref x)])) rfl rfl (hb hby d18_12) _ tk) ?_
 show Goes _ _ _ _ _ (fT T4 m 13 #[vr x, vi 2, vr y, vi 2, vi 3, vi 2, vi c1] [(.int c2)])
 refine Gz (XS.istore X4.here hx rfl (hb hby d18_13) rfl (l' := #[vr x, vi 2, vr y, vi 2, vi 3, vi 2, vi c2]) rfl) ?_
 refine gI X4 hx hby d18_15 rfl rfl ?_
 refine Gz (XS.sipush X4.here hx rfl (hb hby d18_17)) ?_
 refine Gz (XS.icmpNo X4.here hx rfl (hb hby d18_20) rfl (tlt hn_c2).2.2.2) ?_
 refine gI X4 hx hby d18_23 rfl rfl ?_
 refine Goes.ret X4 (some (.int 2)) (fun h => by rw [hret] at h; cases h) hlk (by decide) (by decide) ?_ (fun fs hr => ?_)
 ·rw [e4]; exact ⟨rfl, N4, KP, V_y⟩
 ·exact retI X4 hx hret (hb hby d18_25) hr
theorem own_ef_rs_c3_3_2 (m : MethodId) (x0 : Addr) : entryFrame m #[(.ref x0), (.int 0), (.int 3)] 6 = mkF m 0 #[vr x0, vi 0, vi 3, vu, vu, vu] [] := by first | (simp [entryFrame, mkF, argsToLocals, Value.category]; done) | rfl
def Q_rs_c3_3_2 (Z : State) (x : Addr) (kx : ClassId) (c0 : Int32) (c1 : Int32) (c2 : Int32) (h0 : Heap) (n0 : Nat) (v : Option Value) (h : Heap) (L : List Loc) : Prop := ∃ y : Addr, ∃ ky : ClassId, v = some (.ref y) ∧ Fr n0 L ∧ Keep h0 h [] ∧ Arv Z h y ky .byte 6 [(.int (lo8 c0)), (.int (hi8 c0)), (.int (lo8 c1)), (.int (hi8 c1)), (.int (lo8 c2)), (.int (hi8 c2))] (.int 0) ∧ n0 ≤ y ∧ h0.size ≤ y
set_option maxRecDepth 65536 in
set_option maxHeartbeats 40000000 in
theorem rs_c3_3_2 (l : Launch) (Z : State) (a0 : Array Value) (hw : HW a0 Z) (ws : List Jvm.Cond) (x : Addr) (kx : ClassId) (c0 : Int32) (c1 : Int32) (c2 : Int32) (h0 : Heap) (n0 : Nat) (Z0 : n0 ≤ h0.size) (V_x : Arv Z h0 x kx .char 3 [(.int c0), (.int c1), (.int c2)] (.int 0)) (hn_c0 : ¬ ((255 : Int32) < c0)) (hn_c1 : ¬ ((255 : Int32) < c1)) (hn_c2 : (255 : Int32) < c2) (hC_c0 : Chr c0) (hC_c1 : Chr c1) (hC_c2 : Chr c2) (sgA : Sta Z h0 "java/lang/StringUTF16" "$assertionsDisabled" "Z" (.int 1)) (sgH : Sta Z h0 "java/lang/StringUTF16" "HI_BYTE_SHIFT" "I" (.int 0)) (sgL : Sta Z h0 "java/lang/StringUTF16" "LO_BYTE_SHIFT" "I" (.int 8)) :
  Met l Z mN19 jdk_52_method_16_code 6 (some (.array .byte)) ({ frames := 3, cells := 2, slots := 9, locals := 40 } : Room) ws #[(.ref x), (.int 0), (.int 3)] h0 (Q_rs_c3_3_2 Z x kx c0 c1 c2 h0 n0) := by
 refine own_met (plainFor_of_name own_pn2) ?_
 intro p e s m below meth c s₁ hret hx hby hlk hml hown hnm X0 e0 hZ hh
 have N0 := Fr.nil n0
 refine Gz (castTop (own_ef_rs_c3_3_2 m x)) ?_
 have KP : Keep h0 h0 [] := Keep.refl _ _
 show Goes _ _ _ _ _ (fT s₁ m 0 #[vr x, vi 0, vi 3, vu, vu, vu] [])
 refine gN X0 hx hby d19_0 rfl rfl ?_
 obtain ⟨T1, h1, k1, X1, e1, E1, A1, st1⟩ := newP X0 hx hZ (gw hw 20 rfl) e0 (g := (mkF m 1 #[vr x, vi 0, vi 3, vu, vu, vu] [(.int 3)])) rfl (hb hby d19_1) rfl (by decide) (cap := 3) (by decide) (by decide) (by decide) (by decide)
 obtain ⟨b1, gq1⟩ : ∃ z, z = h0.size := ⟨_, rfl⟩
 rw [← gq1] at A1 st1
 have g_b1 : n0 ≤ b1 := by rw [gq1]; exact Z0
 have sz_b1 : h0.size ≤ b1 := by rw [gq1]; exact KP.1
 have ne_x_b1 : x ≠ b1 := by rw [gq1]; exact Nat.ne_of_lt V_x.lt
 replace V_x := V_x.ext E1
 replace sgA := sgA.ext E1
 replace sgH := sgH.ext E1
 replace sgL := sgL.ext E1
 replace KP := KP.ext E1
 replace Z0 : n0 ≤ h1.size := Nat.le_trans Z0 E1.1
 have V_b1 : Arv Z h1 b1 k1 .byte 3 [(.int 0), (.int 0), (.int 0)] (.int 0) := (Arv.new A1 (by decide)).pad (pad_rep [] (.int 0) 3)
 refine Gs st1 ?_
 show Goes _ _ _ _ _ (fT T1 m 3 #[vr x, vi 0, vi 3, vu, vu, vu] [(.ref b1)])
 refine Gz (XS.astoreN X1.here hx rfl (hb hby d19_3) rfl rfl (l' := #[vr x, vi 0, vi 3, vr b1, vu, vu]) rfl) ?_
 refine gA X1 hx hby d19_4 rfl rfl rfl ?_
 refine gN X1 hx hby d19_5 rfl rfl ?_
 refine gA X1 hx hby d19_6 rfl rfl rfl ?_
 refine Gz (XS.iconst X1.here hx rfl (hb hby d19_7)) ?_
 refine gN X1 hx hby d19_8 rfl rfl ?_
 show Goes _ _ _ _ _ (fT T1 m 9 #[vr x, vi 0, vi 3, vr b1, vu, vu] [(.int 3), (.int 0), (.ref b1), (.int 0), (.ref x)])
 obtain ⟨_, _, ⟨T2, L2, k2, n2⟩, -, X2, ⟨Lc2, hQ2, l2, y2, z2⟩, st2⟩ := Jvm.LawKit.callS X1 hx (y := mN18) hown (gz hZ hw 57 rfl) (gz hZ hw 58 rfl) (gz hZ hw 55 rfl) (gz hZ hw 59 rfl) (by decide) (backOf (W := 0) (rs_c5_3_2 l Z a0 hw [] x kx b1 k1 c0 c1 c2 h1 n0 Z0 V_x V_b1 g_b1 ne_x_b1 (by first | assumption | decide) (by first | assumption | decide) (by first | assumption | decide)) hZ (gw hw 59 rfl) (gw hw 55 rfl) (by decide) (by decide)) (g := (mkF m 9 #[vr x, vi 0, vi 3, vr b1, vu, vu] [(.int 3), (.int 0), (.ref b1), (.int 0), (.ref x)])) rfl hml.symm (argsL := [(.ref x), (.int 0), (.ref b1), (.int 0), (.int 3)]) (rest := []) (lenOf own_pd13 rfl) rfl (wz rfl) (hb hby d19_9) (fun _ _ => ⟨rfl, e1, (by decide : 1 + 0 ≤ _), (by decide : 3 + 0 ≤ _)⟩)
 dsimp only [Pt.U, Pt.locs, Pt.cells, Pt.slots] at X2 l2 y2 z2 st2 hQ2
 subst l2 y2 z2
 obtain ⟨rfl, N2q, K2, V_b1_2'⟩ := hQ2
 have N2 := Fr.app N0 N2q
 replace sgA := own_staK sgA K2 (allS (own_obA V_b1) all0)
 replace sgH := own_staK sgH K2 (allS (own_obA V_b1) all0)
 replace sgL := own_staK sgL K2 (allS (own_obA V_b1) all0)
 replace V_x := V_x.keep K2 (ninS ne_x_b1 nin0)
 replace KP := KP.trans K2 (allS (Or.inr sz_b1) all0)
 replace Z0 := Nat.le_trans Z0 K2.1
 have V_b1 := V_b1_2'
 refine Gs st2 ?_
 show Goes _ _ _ _ _ (fT T2 m 12 #[vr x, vi 0, vi 3, vr b1, vu, vu] [(.int 2)])
 refine Gz (XS.istore X2.here hx rfl (hb hby d19_12) rfl (l' := #[vr x, vi 0, vi 3, vr b1, vi 2, vu]) rfl) ?_
 refine gI X2 hx hby d19_14 rfl rfl ?_
 refine gN X2 hx hby d19_16 rfl rfl ?_
 refine Gz (XS.icmpNo X2.here hx rfl (hb hby d19_17) rfl (feq (by decide : ¬ ((2 : Int32) = (3 : Int32)))).1) ?_
 refine gA X2 hx hby d19_20 rfl rfl rfl ?_
 refine gN X2 hx hby d19_21 rfl rfl ?_
 show Goes _ _ _ _ _ (fT T2 m 22 #[vr x, vi 0, vi 3, vr b1, vi 2, vu] [(.int 0), (.ref x)])
 refine gN X2 hx hby d19_22 rfl rfl ?_
 have ltc3_x : x < T2.heap.size := V_x.lt
 have ltc3_b1 : b1 < T2.heap.size := V_b1.lt
 have szs3 : h0.size ≤ T2.heap.size := KP.1
 obtain ⟨_, _, ⟨T3, L3, k3, n3⟩, -, X3, ⟨Lc3, hQ3, l3, y3, z3⟩, st3⟩ := Jvm.LawKit.callS X2 hx (y := mN17) hown (gz hZ hw 60 rfl) (gz hZ hw 61 rfl) (gz hZ hw 55 rfl) (gz hZ hw 62 rfl) (by decide) (backOf (W := 0) (rs_tb_3 l Z a0 hw [] x kx c0 c1 c2 T2.heap n0 Z0 V_x sgA sgH sgL) hZ (gw hw 62 rfl) (gw hw 55 rfl) (by decide) (by decide)) (g := (mkF m 23 #[vr x, vi 0, vi 3, vr b1, vi 2, vu] [(.int 3), (.int 0), (.ref x)])) rfl hml.symm (argsL := [(.ref x), (.int 0), (.int 3)]) (rest := []) (lenOf own_pd14 rfl) rfl (wz rfl) (hb hby d19_23) (fun _ _ => ⟨rfl, rfl, (by decide : 1 + 1 ≤ _), (by decide : 3 + 6 ≤ _)⟩)
 dsimp only [Pt.U, Pt.locs, Pt.cells, Pt.slots] at X3 l3 y3 z3 st3 hQ3
 subst l3 y3 z3
 obtain ⟨y3, ky3, rfl, N3q, K3, V_y3_3', g_y3_3', sz_y3_3'⟩ := hQ3
 have N3 := Fr.app N2 N3q
 replace sgA := own_staK sgA K3 all0
 replace sgH := own_staK sgH K3 all0
 replace sgL := own_staK sgL K3 all0
 replace KP := KP.trans K3 all0
 replace Z0 := Nat.le_trans Z0 K3.1
 have V_y3 := V_y3_3'
 have g_y3 := g_y3_3'
 have szc_y3 := sz_y3_3'
 have ne_x_y3 : x ≠ y3 := Nat.ne_of_lt (Nat.lt_of_lt_of_le ltc3_x szc_y3)
 have ne_b1_y3 : b1 ≠ y3 := Nat.ne_of_lt (Nat.lt_of_lt_of_le ltc3_b1 szc_y3)
 have sz_y3 : h0.size ≤ y3 := Nat.le_trans szs3 szc_y3
 refine Gs st3 ?_
 show Goes _ _ _ _ _ (fT T3 m 26 #[vr x, vi 0, vi 3, vr b1, vi 2, vu] [(.ref y3)])
 refine Gz (XS.astore X3.here hx rfl (hb hby d19_26) rfl rfl (l' := #[vr x, vi 0, vi 3, vr b1, vi 2, vr y3]) rfl) ?_
 refine Gz (XS.aload X3.here hx rfl (hb hby d19_28) rfl rfl) ?_
 refine gI X3 hx hby d19_30 rfl rfl ?_
 obtain ⟨_, _, ⟨T4, L4, k4, n4⟩, -, X4, ⟨Lc4, hQ4, l4, y4, z4⟩, st4⟩ := Jvm.LawKit.callS X3 hx (y := mN5) hown (gz hZ hw 76 rfl) (gz hZ hw 77 rfl) (gz hZ hw 55 rfl) (gz hZ hw 78 rfl) (by decide) (backOf (W := 0) (rs_gch l Z a0 hw [] y3 ky3 [c0, c1, c2] (2 : Int32) c2 T3.heap n0 Z0 V_y3 (by first | assumption | decide) (own_il 2 _ (by decide) (by simp) (Nat.le_of_ble_eq_true rfl)) rfl (Nat.le_of_ble_eq_true rfl) hC_c2 sgA sgH sgL) hZ (gw hw 78 rfl) (gw hw 55 rfl) (by decide) (by decide)) (g := (mkF m 32 #[vr x, vi 0, vi 3, vr b1, vi 2, vr y3] [(.int 2), (.ref y3)])) rfl hml.symm (argsL := [(.ref y3), (.int 2)]) (rest := []) (lenOf own_pd2 rfl) rfl (wz rfl) (hb hby d19_32) (fun _ _ => ⟨rfl, rfl, (by decide : 2 + 0 ≤ _), (by decide : 9 + 0 ≤ _)⟩)
 dsimp only [Pt.U, Pt.locs, Pt.cells, Pt.slots] at X4 l4 y4 z4 st4 hQ4
 subst l4 y4 z4
 obtain ⟨rfl, N4q, e4⟩ := hQ4
 have N4 := Fr.app N3 N4q
 refine Gs st4 ?_
 show Goes _ _ _ _ _ (fT T4 m 35 #[vr x, vi 0, vi 3, vr b1, vi 2, vr y3] [(.int c2)])
 refine Gz (XS.sipush X4.here hx rfl (hb hby d19_35)) ?_
 refine Gz (XS.icmpYes X4.here hx rfl (pc0 := 38) (pc' := 54) rfl (hb hby d19_38) rfl (tlt hn_c2).2.2.1 (by decide) (by decide)) ?_
 refine Gz (XS.aload X4.here hx rfl (hb hby d19_54) rfl rfl) ?_
 refine Goes.ret X4 (some (.ref y3)) (fun h => by rw [hret] at h; cases h) hlk (by decide) (by decide) ?_ (fun fs hr => ?_)
 ·rw [e4]; exact ⟨y3, ky3, rfl, N4, KP, V_y3, g_y3, sz_y3⟩
 ·exact own_retA X4 hx hret rfl rfl (hb hby d19_56) hr
theorem own_ef_rs_c5_3_3 (m : MethodId) (x0 : Addr) (x2 : Addr) : entryFrame m #[(.ref x0), (.int 0), (.ref x2), (.int 0), (.int 3)] 7 = mkF m 0 #[vr x0, vi 0, vr x2, vi 0, vi 3, vu, vu] [] := by first | (simp [entryFrame, mkF, argsToLocals, Value.category]; done) | rfl
def Q_rs_c5_3_3 (Z : State) (x : Addr) (kx : ClassId) (y : Addr) (ky : ClassId) (c0 : Int32) (c1 : Int32) (c2 : Int32) (h0 : Heap) (n0 : Nat) (v : Option Value) (h : Heap) (L : List Loc) : Prop := v = some (.int 3) ∧ Fr n0 L ∧ Keep h0 h [y] ∧ Arv Z h y ky .byte 3 [(.int (lo8 c0)), (.int (lo8 c1)), (.int (lo8 c2))] (.int 0)
set_option maxRecDepth 65536 in
set_option maxHeartbeats 40000000 in
theorem rs_c5_3_3 (l : Launch) (Z : State) (a0 : Array Value) (hw : HW a0 Z) (ws : List Jvm.Cond) (x : Addr) (kx : ClassId) (y : Addr) (ky : ClassId) (c0 : Int32) (c1 : Int32) (c2 : Int32) (h0 : Heap) (n0 : Nat) (Z0 : n0 ≤ h0.size) (V_x : Arv Z h0 x kx .char 3 [(.int c0), (.int c1), (.int c2)] (.int 0)) (V_y : Arv Z h0 y ky .byte 3 [(.int 0), (.int 0), (.int 0)] (.int 0)) (g_y : n0 ≤ y) (ne_x_y : x ≠ y) (hn_c0 : ¬ ((255 : Int32) < c0)) (hn_c1 : ¬ ((255 : Int32) < c1)) (hn_c2 : ¬ ((255 : Int32) < c2)) :
  Met l Z mN18 jdk_52_method_21_code 7 (some .int) ({ frames := 0, cells := 0, slots := 0, locals := 0 } : Room) ws #[(.ref x), (.int 0), (.ref y), (.int 0), (.int 3)] h0 (Q_rs_c5_3_3 Z x kx y ky c0 c1 c2 h0 n0) := by
 refine own_met (plainFor_of_name own_pn2) ?_
 intro p e s m below meth c s₁ hret hx hby hlk hml hown hnm X0 e0 hZ hh
 have N0 := Fr.nil n0
 refine Gz (castTop (own_ef_rs_c5_3_3 m x y)) ?_
 have KP : Keep h0 h0 [y] := Keep.refl _ _
 show Goes _ _ _ _ _ (fT s₁ m 0 #[vr x, vi 0, vr y, vi 0, vi 3, vu, vu] [])
 refine Gz (XS.iconst X0.here hx rfl (hb hby d18_0)) ?_
 refine Gz (XS.istore X0.here hx rfl (hb hby d18_1) rfl (l' := #[vr x, vi 0, vr y, vi 0, vi 3, vi 0, vu]) rfl) ?_
 refine gI X0 hx hby d18_3 rfl rfl ?_
 refine gI X0 hx hby d18_5 rfl rfl ?_
 refine Gz (XS.icmpNo X0.here hx rfl (hb hby d18_7) rfl (tlt (by decide : ((0 : Int32) < (3 : Int32)))).2.1) ?_
 refine gA X0 hx hby d18_10 rfl rfl rfl ?_
 show Goes _ _ _ _ _ (fT s₁ m 11 #[vr x, vi 0, vr y, vi 0, vi 3, vi 0, vu] [(.ref x)])
 refine gN X0 hx hby d18_11 rfl rfl ?_
 obtain ⟨cl1, Ar1, -, S1, N1z, H1, -⟩ := id V_x
 have hin1 : ¬ ((0 : Int32) < 0 ∨ cl1.slots.size ≤ ((0 : Int32)).toNatClampNeg) := inb_of S1 ⟨by decide, by decide⟩
 have hat1 : cl1.slots[((0 : Int32)).toNatClampNeg]? = some (.int c0) := Has.at H1 hin1 rfl
 refine Gs (fun _ tk => X0.caload hx (j := (0 : Int32)) (v := (.int c0)) (by rw [e0]; exact Ar1.1) (State.isArrayOf_alike hZ.alike Ar1.2.1) Ar1.2.2 hin1 hat1 (g := (mkF m 12 #[vr x, vi 0, vr y, vi 0, vi 3, vi 0, vu] [(.int 0), (.ref x)])) rfl rfl (hb hby d18_12) _ tk) ?_
 show Goes _ _ _ _ _ (fT s₁ m 13 #[vr x, vi 0, vr y, vi 0, vi 3, vi 0, vu] [(.int c0)])
 refine Gz (XS.istore X0.here hx rfl (hb hby d18_13) rfl (l' := #[vr x, vi 0, vr y, vi 0, vi 3, vi 0, vi c0]) rfl) ?_
 refine gI X0 hx hby d18_15 rfl rfl ?_
 refine Gz (XS.sipush X0.here hx rfl (hb hby d18_17)) ?_
 refine Gz (XS.icmpYes X0.here hx rfl (pc0 := 20) (pc' := 26) rfl (hb hby d18_20) rfl (flt hn_c0).2.2.2 (by decide) (by decide)) ?_
 refine gA X0 hx hby d18_26 rfl rfl rfl ?_
 refine gN X0 hx hby d18_27 rfl rfl ?_
 show Goes _ _ _ _ _ (fT s₁ m 28 #[vr x, vi 0, vr y, vi 0, vi 3, vi 0, vi c0] [(.int 0), (.ref y)])
 refine gI X0 hx hby d18_28 rfl rfl ?_
 show Goes _ _ _ _ _ (fT s₁ m 30 #[vr x, vi 0, vr y, vi 0, vi 3, vi 0, vi c0] [(.int c0), (.int 0), (.ref y)])
 refine Gz (XS.i2b X0.here hx rfl (hb hby d18_30) rfl) ?_
 show Goes _ _ _ _ _ (fT s₁ m 31 #[vr x, vi 0, vr y, vi 0, vi 3, vi 0, vi c0] [(.int (c0.toInt8.toInt32)), (.int 0), (.ref y)])
 obtain ⟨cl2, Ar2, q2, S2, N2z, H2, G2⟩ := V_y
 have hin2 : ¬ ((0 : Int32) < 0 ∨ cl2.slots.size ≤ ((0 : Int32)).toNatClampNeg) := inb_of S2 ⟨by decide, by decide⟩
 obtain ⟨T2, h2, X2, e2, W2, st2⟩ := stB X0 hx hZ e0 Ar2 (j := (0 : Int32)) hin2 (g := (mkF m 31 #[vr x, vi 0, vr y, vi 0, vi 3, vi 0, vi c0] [(.int (c0.toInt8.toInt32)), (.int 0), (.ref y)])) rfl rfl (hb hby d18_31)
 have Vn2 := Arv.set Ar2 q2 S2 N2z H2 G2 (fits_nar_byte _) W2 0 rfl (Nat.le_of_ble_eq_true rfl)
 have N2 := Fr.snoc X2 N0 g_y
 replace V_x := V_x.other W2 ne_x_y
 replace KP := KP.wr W2 (Or.inl (List.mem_of_getElem? (i := 0) rfl))
 have V_y : Arv Z h2 y ky .byte 3 [(.int (lo8 c0)), (.int 0), (.int 0)] (.int 0) := by have q := Vn2; rw [own_nb2] at q; exact q
 replace Z0 : n0 ≤ h2.size := by rw [W2.size]; exact Z0
 refine Gs st2 ?_
 show Goes _ _ _ _ _ (fT T2 m 32 #[vr x, vi 0, vr y, vi 0, vi 3, vi 0, vi c0] [])
 refine Gz (XS.iinc X2.here hx rfl (hb hby d18_32) rfl (l' := #[vr x, vi ((0 : Int32) + (1 : Int32)), vr y, vi 0, vi 3, vi 0, vi c0]) rfl) ?_
 rw [show ((0 : Int32) + (1 : Int32)) = 1 from by decide]
 show Goes _ _ _ _ _ (fT T2 m 35 #[vr x, vi 1, vr y, vi 0, vi 3, vi 0, vi c0] [])
 refine Gz (XS.iinc X2.here hx rfl (hb hby d18_35) rfl (l' := #[vr x, vi 1, vr y, vi ((0 : Int32) + (1 : Int32)), vi 3, vi 0, vi c0]) rfl) ?_
 rw [show ((0 : Int32) + (1 : Int32)) = 1 from by decide]
 show Goes _ _ _ _ _ (fT T2 m 38 #[vr x, vi 1, vr y, vi 1, vi 3, vi 0, vi c0] [])
 refine Gz (XS.iinc X2.here hx rfl (hb hby d18_38) rfl (l' := #[vr x, vi 1, vr y, vi 1, vi 3, vi ((0 : Int32) + (1 : Int32)), vi c0]) rfl) ?_
 rw [show ((0 : Int32) + (1 : Int32)) = 1 from by decide]
 show Goes _ _ _ _ _ (fT T2 m 41 #[vr x, vi 1, vr y, vi 1, vi 3, vi 1, vi c0] [])
 refine Gz (XS.goto X2.here hx rfl (pc0 := 41) (pc' := 3) rfl (hb hby d18_41) (by decide) (by decide)) ?_
 refine gI X2 hx hby d18_3 rfl rfl ?_
 refine gI X2 hx hby d18_5 rfl rfl ?_
 refine Gz (XS.icmpNo X2.here hx rfl (hb hby d18_7) rfl (tlt (by decide : ((1 : Int32) < (3 : Int32)))).2.1) ?_
 refine gA X2 hx hby d18_10 rfl rfl rfl ?_
 refine gN X2 hx hby d18_11 rfl rfl ?_
 show Goes _ _ _ _ _ (fT T2 m 12 #[vr x, vi 1, vr y, vi 1, vi 3, vi 1, vi c0] [(.int 1), (.ref x)])
 obtain ⟨cl3, Ar3, -, S3, N3z, H3, -⟩ := id V_x
 have hin3 : ¬ ((1 : Int32) < 0 ∨ cl3.slots.size ≤ ((1 : Int32)).toNatClampNeg) := inb_of S3 ⟨by decide, by decide⟩
 have hat3 : cl3.slots[((1 : Int32)).toNatClampNeg]? = some (.int c1) := Has.at H3 hin3 rfl
 refine Gs (fun _ tk => X2.caload hx (j := (1 : Int32)) (v := (.int c1)) (by rw [e2]; exact Ar3.1) (State.isArrayOf_alike hZ.alike Ar3.2.1) Ar3.2.2 hin3 hat3 (g := (mkF m 12 #[vr x, vi 1, vr y, vi 1, vi 3, vi 1, vi c0] [(.int 1), (.ref x)])) rfl rfl (hb hby d18_12) _ tk) ?_
 show Goes _ _ _ _ _ (fT T2 m 13 #[vr x, vi 1, vr y, vi 1, vi 3, vi 1, vi c0] [(.int c1)])
 refine Gz (XS.istore X2.here hx rfl (hb hby d18_13) rfl (l' := #[vr x, vi 1, vr y, vi 1, vi 3, vi 1, vi c1]) rfl) ?_
 refine gI X2 hx hby d18_15 rfl rfl ?_
 refine Gz (XS.sipush X2.here hx rfl (hb hby d18_17)) ?_
 refine Gz (XS.icmpYes X2.here hx rfl (pc0 := 20) (pc' := 26) rfl (hb hby d18_20) rfl (flt hn_c1).2.2.2 (by decide) (by decide)) ?_
 refine gA X2 hx hby d18_26 rfl rfl rfl ?_
 refine gN X2 hx hby d18_27 rfl rfl ?_
 show Goes _ _ _ _ _ (fT T2 m 28 #[vr x, vi 1, vr y, vi 1, vi 3, vi 1, vi c1] [(.int 1), (.ref y)])
 refine gI X2 hx hby d18_28 rfl rfl ?_
 show Goes _ _ _ _ _ (fT T2 m 30 #[vr x, vi 1, vr y, vi 1, vi 3, vi 1, vi c1] [(.int c1), (.int 1), (.ref y)])
 refine Gz (XS.i2b X2.here hx rfl (hb hby d18_30) rfl) ?_
 show Goes _ _ _ _ _ (fT T2 m 31 #[vr x, vi 1, vr y, vi 1, vi 3, vi 1, vi c1] [(.int (c1.toInt8.toInt32)), (.int 1), (.ref y)])
 obtain ⟨cl4, Ar4, q4, S4, N4z, H4, G4⟩ := V_y
 have hin4 : ¬ ((1 : Int32) < 0 ∨ cl4.slots.size ≤ ((1 : Int32)).toNatClampNeg) := inb_of S4 ⟨by decide, by decide⟩
 obtain ⟨T4, h4, X4, e4, W4, st4⟩ := stB X2 hx hZ e2 Ar4 (j := (1 : Int32)) hin4 (g := (mkF m 31 #[vr x, vi 1, vr y, vi 1, vi 3, vi 1, vi c1] [(.int (c1.toInt8.toInt32)), (.int 1), (.ref y)])) rfl rfl (hb hby d18_31)
 have Vn4 := Arv.set Ar4 q4 S4 N4z H4 G4 (fits_nar_byte _) W4 1 rfl (Nat.le_of_ble_eq_true rfl)
 have N4 := Fr.snoc X4 N2 g_y
 replace V_x := V_x.other W4 ne_x_y
 replace KP := KP.wr W4 (Or.inl (List.mem_of_getElem? (i := 0) rfl))
 have V_y : Arv Z h4 y ky .byte 3 [(.int (lo8 c0)), (.int (lo8 c1)), (.int 0)] (.int 0) := by have q := Vn4; rw [own_nb2] at q; exact q
 replace Z0 : n0 ≤ h4.size := by rw [W4.size]; exact Z0
 refine Gs st4 ?_
 show Goes _ _ _ _ _ (fT T4 m 32 #[vr x, vi 1, vr y, vi 1, vi 3, vi 1, vi c1] [])
 refine Gz (XS.iinc X4.here hx rfl (hb hby d18_32) rfl (l' := #[vr x, vi ((1 : Int32) + (1 : Int32)), vr y, vi 1, vi 3, vi 1, vi c1]) rfl) ?_
 rw [show ((1 : Int32) + (1 : Int32)) = 2 from by decide]
 show Goes _ _ _ _ _ (fT T4 m 35 #[vr x, vi 2, vr y, vi 1, vi 3, vi 1, vi c1] [])
 refine Gz (XS.iinc X4.here hx rfl (hb hby d18_35) rfl (l' := #[vr x, vi 2, vr y, vi ((1 : Int32) + (1 : Int32)), vi 3, vi 1, vi c1]) rfl) ?_
 rw [show ((1 : Int32) + (1 : Int32)) = 2 from by decide]
 show Goes _ _ _ _ _ (fT T4 m 38 #[vr x, vi 2, vr y, vi 2, vi 3, vi 1, vi c1] [])
 refine Gz (XS.iinc X4.here hx rfl (hb hby d18_38) rfl (l' := #[vr x, vi 2, vr y, vi 2, vi 3, vi ((1 : Int32) + (1 : Int32)), vi c1]) rfl) ?_
 rw [show ((1 : Int32) + (1 : Int32)) = 2 from by decide]
 show Goes _ _ _ _ _ (fT T4 m 41 #[vr x, vi 2, vr y, vi 2, vi 3, vi 2, vi c1] [])
 refine Gz (XS.goto X4.here hx rfl (pc0 := 41) (pc' := 3) rfl (hb hby d18_41) (by decide) (by decide)) ?_
 refine gI X4 hx hby d18_3 rfl rfl ?_
 refine gI X4 hx hby d18_5 rfl rfl ?_
 refine Gz (XS.icmpNo X4.here hx rfl (hb hby d18_7) rfl (tlt (by decide : ((2 : Int32) < (3 : Int32)))).2.1) ?_
 refine gA X4 hx hby d18_10 rfl rfl rfl ?_
 refine gN X4 hx hby d18_11 rfl rfl ?_
 show Goes _ _ _ _ _ (fT T4 m 12 #[vr x, vi 2, vr y, vi 2, vi 3, vi 2, vi c1] [(.int 2), (.ref x)])
 obtain ⟨cl5, Ar5, -, S5, N5z, H5, -⟩ := id V_x
 have hin5 : ¬ ((2 : Int32) < 0 ∨ cl5.slots.size ≤ ((2 : Int32)).toNatClampNeg) := inb_of S5 ⟨by decide, by decide⟩
 have hat5 : cl5.slots[((2 : Int32)).toNatClampNeg]? = some (.int c2) := Has.at H5 hin5 rfl
 refine Gs (fun _ tk => X4.caload hx (j := (2 : Int32)) (v := (.int c2)) (by rw [e4]; exact Ar5.1) (State.isArrayOf_alike hZ.alike Ar5.2.1) Ar5.2.2 hin5 hat5 (g := (mkF m 12 #[vr x, vi 2, vr y, vi 2, vi 3, vi 2, vi c1] [(.int 2), (.ref x)])) rfl rfl (hb hby d18_12) _ tk) ?_
 show Goes _ _ _ _ _ (fT T4 m 13 #[vr x, vi 2, vr y, vi 2, vi 3, vi 2, vi c1] [(.int c2)])
 refine Gz (XS.istore X4.here hx rfl (hb hby d18_13) rfl (l' := #[vr x, vi 2, vr y, vi 2, vi 3, vi 2, vi c2]) rfl) ?_
 refine gI X4 hx hby d18_15 rfl rfl ?_
 refine Gz (XS.sipush X4.here hx rfl (hb hby d18_17)) ?_
 refine Gz (XS.icmpYes X4.here hx rfl (pc0 := 20) (pc' := 26) rfl (hb hby d18_20) rfl (flt hn_c2).2.2.2 (by decide) (by decide)) ?_
 refine gA X4 hx hby d18_26 rfl rfl rfl ?_
 refine gN X4 hx hby d18_27 rfl rfl ?_
 show Goes _ _ _ _ _ (fT T4 m 28 #[vr x, vi 2, vr y, vi 2, vi 3, vi 2, vi c2] [(.int 2), (.ref y)])
 refine gI X4 hx hby d18_28 rfl rfl ?_
 show Goes _ _ _ _ _ (fT T4 m 30 #[vr x, vi 2, vr y, vi 2, vi 3, vi 2, vi c2] [(.int c2), (.int 2), (.ref y)])
 refine Gz (XS.i2b X4.here hx rfl (hb hby d18_30) rfl) ?_
 show Goes _ _ _ _ _ (fT T4 m 31 #[vr x, vi 2, vr y, vi 2, vi 3, vi 2, vi c2] [(.int (c2.toInt8.toInt32)), (.int 2), (.ref y)])
 obtain ⟨cl6, Ar6, q6, S6, N6z, H6, G6⟩ := V_y
 have hin6 : ¬ ((2 : Int32) < 0 ∨ cl6.slots.size ≤ ((2 : Int32)).toNatClampNeg) := inb_of S6 ⟨by decide, by decide⟩
 obtain ⟨T6, h6, X6, e6, W6, st6⟩ := stB X4 hx hZ e4 Ar6 (j := (2 : Int32)) hin6 (g := (mkF m 31 #[vr x, vi 2, vr y, vi 2, vi 3, vi 2, vi c2] [(.int (c2.toInt8.toInt32)), (.int 2), (.ref y)])) rfl rfl (hb hby d18_31)
 have Vn6 := Arv.set Ar6 q6 S6 N6z H6 G6 (fits_nar_byte _) W6 2 rfl (Nat.le_of_ble_eq_true rfl)
 have N6 := Fr.snoc X6 N4 g_y
 replace KP := KP.wr W6 (Or.inl (List.mem_of_getElem? (i := 0) rfl))
 have V_y : Arv Z h6 y ky .byte 3 [(.int (lo8 c0)), (.int (lo8 c1)), (.int (lo8 c2))] (.int 0) := by have q := Vn6; rw [own_nb2] at q; exact q
 replace Z0 : n0 ≤ h6.size := by rw [W6.size]; exact Z0
 refine Gs st6 ?_
 show Goes _ _ _ _ _ (fT T6 m 32 #[vr x, vi 2, vr y, vi 2, vi 3, vi 2, vi c2] [])
 refine Gz (XS.iinc X6.here hx rfl (hb hby d18_32) rfl (l' := #[vr x, vi ((2 : Int32) + (1 : Int32)), vr y, vi 2, vi 3, vi 2, vi c2]) rfl) ?_
 rw [show ((2 : Int32) + (1 : Int32)) = 3 from by decide]
 show Goes _ _ _ _ _ (fT T6 m 35 #[vr x, vi 3, vr y, vi 2, vi 3, vi 2, vi c2] [])
 refine Gz (XS.iinc X6.here hx rfl (hb hby d18_35) rfl (l' := #[vr x, vi 3, vr y, vi ((2 : Int32) + (1 : Int32)), vi 3, vi 2, vi c2]) rfl) ?_
 rw [show ((2 : Int32) + (1 : Int32)) = 3 from by decide]
 show Goes _ _ _ _ _ (fT T6 m 38 #[vr x, vi 3, vr y, vi 3, vi 3, vi 2, vi c2] [])
 refine Gz (XS.iinc X6.here hx rfl (hb hby d18_38) rfl (l' := #[vr x, vi 3, vr y, vi 3, vi 3, vi ((2 : Int32) + (1 : Int32)), vi c2]) rfl) ?_
 rw [show ((2 : Int32) + (1 : Int32)) = 3 from by decide]
 show Goes _ _ _ _ _ (fT T6 m 41 #[vr x, vi 3, vr y, vi 3, vi 3, vi 3, vi c2] [])
 refine Gz (XS.goto X6.here hx rfl (pc0 := 41) (pc' := 3) rfl (hb hby d18_41) (by decide) (by decide)) ?_
 refine gI X6 hx hby d18_3 rfl rfl ?_
 refine gI X6 hx hby d18_5 rfl rfl ?_
 refine Gz (XS.icmpYes X6.here hx rfl (pc0 := 7) (pc' := 44) rfl (hb hby d18_7) rfl (flt (by decide : ¬ ((3 : Int32) < (3 : Int32)))).2.1 (by decide) (by decide)) ?_
 refine gI X6 hx hby d18_44 rfl rfl ?_
 refine Goes.ret X6 (some (.int 3)) (fun h => by rw [hret] at h; cases h) hlk (by decide) (by decide) ?_ (fun fs hr => ?_)
 ·rw [e6]; exact ⟨rfl, N6, KP, V_y⟩
 ·exact retI X6 hx hret (hb hby d18_46) hr
theorem own_ef_rs_c3_3_3 (m : MethodId) (x0 : Addr) : entryFrame m #[(.ref x0), (.int 0), (.int 3)] 6 = mkF m 0 #[vr x0, vi 0, vi 3, vu, vu, vu] [] := by first | (simp [entryFrame, mkF, argsToLocals, Value.category]; done) | rfl
def Q_rs_c3_3_3 (Z : State) (x : Addr) (kx : ClassId) (c0 : Int32) (c1 : Int32) (c2 : Int32) (h0 : Heap) (n0 : Nat) (v : Option Value) (h : Heap) (L : List Loc) : Prop := ∃ y : Addr, ∃ ky : ClassId, v = some (.ref y) ∧ Fr n0 L ∧ Keep h0 h [] ∧ Arv Z h y ky .byte 3 [(.int (lo8 c0)), (.int (lo8 c1)), (.int (lo8 c2))] (.int 0) ∧ n0 ≤ y ∧ h0.size ≤ y
set_option maxRecDepth 65536 in
set_option maxHeartbeats 40000000 in
theorem rs_c3_3_3 (l : Launch) (Z : State) (a0 : Array Value) (hw : HW a0 Z) (ws : List Jvm.Cond) (x : Addr) (kx : ClassId) (c0 : Int32) (c1 : Int32) (c2 : Int32) (h0 : Heap) (n0 : Nat) (Z0 : n0 ≤ h0.size) (V_x : Arv Z h0 x kx .char 3 [(.int c0), (.int c1), (.int c2)] (.int 0)) (hn_c0 : ¬ ((255 : Int32) < c0)) (hn_c1 : ¬ ((255 : Int32) < c1)) (hn_c2 : ¬ ((255 : Int32) < c2)) :
  Met l Z mN19 jdk_52_method_16_code 6 (some (.array .byte)) ({ frames := 1, cells := 1, slots := 3, locals := 18 } : Room) ws #[(.ref x), (.int 0), (.int 3)] h0 (Q_rs_c3_3_3 Z x kx c0 c1 c2 h0 n0) := by
 refine own_met (plainFor_of_name own_pn2) ?_
 intro p e s m below meth c s₁ hret hx hby hlk hml hown hnm X0 e0 hZ hh
 have N0 := Fr.nil n0
 refine Gz (castTop (own_ef_rs_c3_3_3 m x)) ?_
 have KP : Keep h0 h0 [] := Keep.refl _ _
 show Goes _ _ _ _ _ (fT s₁ m 0 #[vr x, vi 0, vi 3, vu, vu, vu] [])
 refine gN X0 hx hby d19_0 rfl rfl ?_
 obtain ⟨T1, h1, k1, X1, e1, E1, A1, st1⟩ := newP X0 hx hZ (gw hw 20 rfl) e0 (g := (mkF m 1 #[vr x, vi 0, vi 3, vu, vu, vu] [(.int 3)])) rfl (hb hby d19_1) rfl (by decide) (cap := 3) (by decide) (by decide) (by decide) (by decide)
 obtain ⟨b1, gq1⟩ : ∃ z, z = h0.size := ⟨_, rfl⟩
 rw [← gq1] at A1 st1
 have g_b1 : n0 ≤ b1 := by rw [gq1]; exact Z0
 have sz_b1 : h0.size ≤ b1 := by rw [gq1]; exact KP.1
 have ne_x_b1 : x ≠ b1 := by rw [gq1]; exact Nat.ne_of_lt V_x.lt
 replace V_x := V_x.ext E1
 replace KP := KP.ext E1
 replace Z0 : n0 ≤ h1.size := Nat.le_trans Z0 E1.1
 have V_b1 : Arv Z h1 b1 k1 .byte 3 [(.int 0), (.int 0), (.int 0)] (.int 0) := (Arv.new A1 (by decide)).pad (pad_rep [] (.int 0) 3)
 refine Gs st1 ?_
 show Goes _ _ _ _ _ (fT T1 m 3 #[vr x, vi 0, vi 3, vu, vu, vu] [(.ref b1)])
 refine Gz (XS.astoreN X1.here hx rfl (hb hby d19_3) rfl rfl (l' := #[vr x, vi 0, vi 3, vr b1, vu, vu]) rfl) ?_
 refine gA X1 hx hby d19_4 rfl rfl rfl ?_
 refine gN X1 hx hby d19_5 rfl rfl ?_
 refine gA X1 hx hby d19_6 rfl rfl rfl ?_
 refine Gz (XS.iconst X1.here hx rfl (hb hby d19_7)) ?_
 refine gN X1 hx hby d19_8 rfl rfl ?_
 show Goes _ _ _ _ _ (fT T1 m 9 #[vr x, vi 0, vi 3, vr b1, vu, vu] [(.int 3), (.int 0), (.ref b1), (.int 0), (.ref x)])
 obtain ⟨_, _, ⟨T2, L2, k2, n2⟩, -, X2, ⟨Lc2, hQ2, l2, y2, z2⟩, st2⟩ := Jvm.LawKit.callS X1 hx (y := mN18) hown (gz hZ hw 57 rfl) (gz hZ hw 58 rfl) (gz hZ hw 55 rfl) (gz hZ hw 59 rfl) (by decide) (backOf (W := 0) (rs_c5_3_3 l Z a0 hw [] x kx b1 k1 c0 c1 c2 h1 n0 Z0 V_x V_b1 g_b1 ne_x_b1 (by first | assumption | decide) (by first | assumption | decide) (by first | assumption | decide)) hZ (gw hw 59 rfl) (gw hw 55 rfl) (by decide) (by decide)) (g := (mkF m 9 #[vr x, vi 0, vi 3, vr b1, vu, vu] [(.int 3), (.int 0), (.ref b1), (.int 0), (.ref x)])) rfl hml.symm (argsL := [(.ref x), (.int 0), (.ref b1), (.int 0), (.int 3)]) (rest := []) (lenOf own_pd13 rfl) rfl (wz rfl) (hb hby d19_9) (fun _ _ => ⟨rfl, e1, (by decide : 1 + 0 ≤ _), (by decide : 3 + 0 ≤ _)⟩)
 dsimp only [Pt.U, Pt.locs, Pt.cells, Pt.slots] at X2 l2 y2 z2 st2 hQ2
 subst l2 y2 z2
 obtain ⟨rfl, N2q, K2, V_b1_2'⟩ := hQ2
 have N2 := Fr.app N0 N2q
 replace KP := KP.trans K2 (allS (Or.inr sz_b1) all0)
 replace Z0 := Nat.le_trans Z0 K2.1
 have V_b1 := V_b1_2'
 refine Gs st2 ?_
 show Goes _ _ _ _ _ (fT T2 m 12 #[vr x, vi 0, vi 3, vr b1, vu, vu] [(.int 3)])
 refine Gz (XS.istore X2.here hx rfl (hb hby d19_12) rfl (l' := #[vr x, vi 0, vi 3, vr b1, vi 3, vu]) rfl) ?_
 refine gI X2 hx hby d19_14 rfl rfl ?_
 refine gN X2 hx hby d19_16 rfl rfl ?_
 refine Gz (XS.icmpYes X2.here hx rfl (pc0 := 17) (pc' := 57) rfl (hb hby d19_17) rfl (teq (by decide : ((3 : Int32) = (3 : Int32)))).1 (by decide) (by decide)) ?_
 refine gA X2 hx hby d19_57 rfl rfl rfl ?_
 refine Goes.ret X2 (some (.ref b1)) (fun h => by rw [hret] at h; cases h) hlk (by decide) (by decide) ?_ (fun fs hr => ?_)
 ·exact ⟨b1, k1, rfl, N2, KP, V_b1, g_b1, sz_b1⟩
 ·exact own_retA X2 hx hret rfl rfl (hb hby d19_58) hr
theorem own_ef_rs_cf_3_3 (m : MethodId) (x0 : Addr) : entryFrame m #[(.ref x0), (.int 3)] 2 = mkF m 0 #[vr x0, vi 3] [] := by first | (simp [entryFrame, mkF, argsToLocals, Value.category]; done) | rfl
def Q_rs_cf_3_3 (Z : State) (y : Addr) (ky : ClassId) (vs : List Value) (h0 : Heap) (n0 : Nat) (v : Option Value) (h : Heap) (L : List Loc) : Prop := v = some (.int 0) ∧ Fr n0 L ∧ h = h0
set_option maxRecDepth 65536 in
set_option maxHeartbeats 40000000 in
theorem rs_cf_3_3 (l : Launch) (Z : State) (a0 : Array Value) (hw : HW a0 Z) (ws : List Jvm.Cond) (y : Addr) (ky : ClassId) (vs : List Value) (h0 : Heap) (n0 : Nat) (Z0 : n0 ≤ h0.size) (V_y : Arv Z h0 y ky .byte 3 vs (.int 0)) :
  Met l Z mN20 jdk_52_method_15_code 2 (some .byte) ({ frames := 0, cells := 0, slots := 0, locals := 0 } : Room) ws #[(.ref y), (.int 3)] h0 (Q_rs_cf_3_3 Z y ky vs h0 n0) := by
 refine own_met (plainFor_of_name own_pn2) ?_
 intro p e s m below meth c s₁ hret hx hby hlk hml hown hnm X0 e0 hZ hh
 have N0 := Fr.nil n0
 refine Gz (castTop (own_ef_rs_cf_3_3 m y)) ?_
 show Goes _ _ _ _ _ (fT s₁ m 0 #[vr y, vi 3] [])
 refine gN X0 hx hby d20_0 rfl rfl ?_
 refine gA X0 hx hby d20_1 rfl rfl rfl ?_
 obtain ⟨cl1, Ar1, -, S1, N1z, -, -⟩ := id V_y
 refine Gs (fun _ tk => X0.arraylength hx (by rw [e0]; exact Ar1.1) (State.isArrayOf_alike hZ.alike Ar1.2.1) (g := (mkF m 2 #[vr y, vi 3] [(.ref y), (.int 3)])) rfl rfl (hb hby d20_2) _ tk) ?_
 rw [len_of S1 N1z]
 show Goes _ _ _ _ _ (fT s₁ m 3 #[vr y, vi 3] [(.int 3), (.int 3)])
 refine Gz (XS.isub X0.here hx rfl (hb hby d20_3) rfl) ?_
 rw [show ((3 : Int32) - (3 : Int32)) = 0 from by decide]
 show Goes _ _ _ _ _ (fT s₁ m 4 #[vr y, vi 3] [(.int 0)])
 refine Gz (XS.bipush X0.here hx rfl (hb hby d20_4)) ?_
 show Goes _ _ _ _ _ (fT s₁ m 6 #[vr y, vi 3] [(.int 31), (.int 0)])
 refine Gz (XS.iushr X0.here hx rfl (hb hby d20_6) rfl) ?_
 rw [show (((0 : Int32).toUInt32 >>> ((31 : Int32) &&& 31).toUInt32).toInt32) = (0 : Int32) from by decide]
 show Goes _ _ _ _ _ (fT s₁ m 7 #[vr y, vi 3] [(.int 0)])
 refine Gz (XS.i2b X0.here hx rfl (hb hby d20_7) rfl) ?_
 rw [show ((0 : Int32).toInt8.toInt32) = (0 : Int32) from by decide]
 show Goes _ _ _ _ _ (fT s₁ m 8 #[vr y, vi 3] [(.int 0)])
 refine Goes.ret X0 (some (.int 0)) (fun h => by rw [hret] at h; cases h) hlk (by decide) (by decide) ?_ (fun fs hr => ?_)
 ·exact ⟨rfl, N0, e0⟩
 ·exact own_retN X0 hx (t := .byte) hret (by simp) rfl (hb hby d20_8) hr
theorem own_ef_rs_cf_3_6 (m : MethodId) (x0 : Addr) : entryFrame m #[(.ref x0), (.int 3)] 2 = mkF m 0 #[vr x0, vi 3] [] := by first | (simp [entryFrame, mkF, argsToLocals, Value.category]; done) | rfl
def Q_rs_cf_3_6 (Z : State) (y : Addr) (ky : ClassId) (vs : List Value) (h0 : Heap) (n0 : Nat) (v : Option Value) (h : Heap) (L : List Loc) : Prop := v = some (.int 1) ∧ Fr n0 L ∧ h = h0
set_option maxRecDepth 65536 in
set_option maxHeartbeats 40000000 in
theorem rs_cf_3_6 (l : Launch) (Z : State) (a0 : Array Value) (hw : HW a0 Z) (ws : List Jvm.Cond) (y : Addr) (ky : ClassId) (vs : List Value) (h0 : Heap) (n0 : Nat) (Z0 : n0 ≤ h0.size) (V_y : Arv Z h0 y ky .byte 6 vs (.int 0)) :
  Met l Z mN20 jdk_52_method_15_code 2 (some .byte) ({ frames := 0, cells := 0, slots := 0, locals := 0 } : Room) ws #[(.ref y), (.int 3)] h0 (Q_rs_cf_3_6 Z y ky vs h0 n0) := by
 refine own_met (plainFor_of_name own_pn2) ?_
 intro p e s m below meth c s₁ hret hx hby hlk hml hown hnm X0 e0 hZ hh
 have N0 := Fr.nil n0
 refine Gz (castTop (own_ef_rs_cf_3_6 m y)) ?_
 show Goes _ _ _ _ _ (fT s₁ m 0 #[vr y, vi 3] [])
 refine gN X0 hx hby d20_0 rfl rfl ?_
 refine gA X0 hx hby d20_1 rfl rfl rfl ?_
 obtain ⟨cl1, Ar1, -, S1, N1z, -, -⟩ := id V_y
 refine Gs (fun _ tk => X0.arraylength hx (by rw [e0]; exact Ar1.1) (State.isArrayOf_alike hZ.alike Ar1.2.1) (g := (mkF m 2 #[vr y, vi 3] [(.ref y), (.int 3)])) rfl rfl (hb hby d20_2) _ tk) ?_
 rw [len_of S1 N1z]
 show Goes _ _ _ _ _ (fT s₁ m 3 #[vr y, vi 3] [(.int 6), (.int 3)])
 refine Gz (XS.isub X0.here hx rfl (hb hby d20_3) rfl) ?_
 rw [show ((3 : Int32) - (6 : Int32)) = (-3 : Int32) from by decide]
 show Goes _ _ _ _ _ (fT s₁ m 4 #[vr y, vi 3] [(.int (-3 : Int32))])
 refine Gz (XS.bipush X0.here hx rfl (hb hby d20_4)) ?_
 show Goes _ _ _ _ _ (fT s₁ m 6 #[vr y, vi 3] [(.int 31), (.int (-3 : Int32))])
 refine Gz (XS.iushr X0.here hx rfl (hb hby d20_6) rfl) ?_
 rw [show (((-3 : Int32).toUInt32 >>> ((31 : Int32) &&& 31).toUInt32).toInt32) = (1 : Int32) from by decide]
 show Goes _ _ _ _ _ (fT s₁ m 7 #[vr y, vi 3] [(.int 1)])
 refine Gz (XS.i2b X0.here hx rfl (hb hby d20_7) rfl) ?_
 rw [show ((1 : Int32).toInt8.toInt32) = (1 : Int32) from by decide]
 show Goes _ _ _ _ _ (fT s₁ m 8 #[vr y, vi 3] [(.int 1)])
 refine Goes.ret X0 (some (.int 1)) (fun h => by rw [hret] at h; cases h) hlk (by decide) (by decide) ?_ (fun fs hr => ?_)
 ·exact ⟨rfl, N0, e0⟩
 ·exact own_retN X0 hx (t := .byte) hret (by simp) rfl (hb hby d20_8) hr
theorem own_ef_rs_i4_3 (m : MethodId) (x0 : Addr) (x1 : Addr) : entryFrame m #[(.ref x0), (.ref x1), (.int 0), (.int 3), .null] 6 = mkF m 0 #[vr x0, vr x1, vi 0, vi 3, .val .null, vu] [] := by first | (simp [entryFrame, mkF, argsToLocals, Value.category]; done) | rfl
def Q_rs_i4_3 (Z : State) (a : Addr) (x : Addr) (kx : ClassId) (c0 : Int32) (c1 : Int32) (c2 : Int32) (cz : Int32) (h0 : Heap) (n0 : Nat) (v : Option Value) (h : Heap) (L : List Loc) : Prop := v = none ∧ Fr n0 L ∧ Keep h0 h [a] ∧ StrOf Z h a [c0, c1, c2]
set_option maxRecDepth 65536 in
set_option maxHeartbeats 40000000 in
theorem rs_i4_3 (l : Launch) (Z : State) (a0 : Array Value) (hw : HW a0 Z) (ws : List Jvm.Cond) (a : Addr) (x : Addr) (kx : ClassId) (c0 : Int32) (c1 : Int32) (c2 : Int32) (cz : Int32) (h0 : Heap) (n0 : Nat) (Z0 : n0 ≤ h0.size) (A_a : Exa Z h0 a "java/lang/String") (F_value_a : Fld Z h0 a "java/lang/String" "value" "[B" .null) (F_coder_a : Fld Z h0 a "java/lang/String" "coder" "B" (.int 0)) (V_x : Arv Z h0 x kx .char 3 [(.int c0), (.int c1), (.int c2)] (.int 0)) (g_a : n0 ≤ a) (ne_x_a : x ≠ a) (sgC : Sta Z h0 "java/lang/String" "COMPACT_STRINGS" "Z" (.int cz)) (hcz : ¬ (cz = 0)) (hC_c0 : Chr c0) (hC_c1 : Chr c1) (hC_c2 : Chr c2) (sgA : Sta Z h0 "java/lang/StringUTF16" "$assertionsDisabled" "Z" (.int 1)) (sgH : Sta Z h0 "java/lang/StringUTF16" "HI_BYTE_SHIFT" "I" (.int 0)) (sgL : Sta Z h0 "java/lang/StringUTF16" "LO_BYTE_SHIFT" "I" (.int 8)) :
  Met l Z mN12 jdk_42_method_149_code 6 none ({ frames := 4, cells := 2, slots := 9, locals := 57 } : Room) ws #[(.ref a), (.ref x), (.int 0), (.int 3), .null] h0 (Q_rs_i4_3 Z a x kx c0 c1 c2 cz h0 n0) := by
 refine own_met (plainFor_of_name own_pn0) ?_
 intro p e s m below meth c s₁ hret hx hby hlk hml hown hnm X0 e0 hZ hh
 have N0 := Fr.nil n0
 refine Gz (castTop (own_ef_rs_i4_3 m a x)) ?_
 have KP : Keep h0 h0 [a] := Keep.refl _ _
 show Goes _ _ _ _ _ (fT s₁ m 0 #[vr a, vr x, vi 0, vi 3, .val .null, vu] [])
 by_cases hn_c0 : (255 : Int32) < c0
 ·show Goes _ _ _ _ _ (fT s₁ m 0 #[vr a, vr x, vi 0, vi 3, .val .null, vu] [])
  refine gA X0 hx hby d12_0 rfl rfl rfl ?_
  obtain ⟨T1, X1, e1, st1⟩ := initO X0 hx hZ hown (gw hw 16 rfl) (gw hw 17 rfl) (gw hw 18 rfl) e0 (g := (mkF m 1 #[vr a, vr x, vi 0, vi 3, .val .null, vu] [(.ref a)])) rfl hml.symm rfl (hb hby d12_1) (by decide) (W := 0) (wz rfl) (by decide)
  refine Gs st1 ?_
  show Goes _ _ _ _ _ (fT T1 m 4 #[vr a, vr x, vi 0, vi 3, .val .null, vu] [])
  refine gN X1 hx hby d12_4 rfl rfl ?_
  refine Gz (XS.ifYes X1.here hx rfl (pc0 := 5) (pc' := 27) rfl (hb hby d12_5) rfl ((if0 _ _).trans (feq (by decide : ¬ ((3 : Int32) = (0 : Int32)))).2) (by decide) (by decide)) ?_
  obtain ⟨T2, X2, e2, st2⟩ := getS2 X1 hx hZ hown (host := "") (Or.inl (gw hw 51 rfl)) Via.refl e1 sgC (g := (mkF m 27 #[vr a, vr x, vi 0, vi 3, .val .null, vu] [])) rfl (hb hby d12_27)
  refine Gs st2 ?_
  show Goes _ _ _ _ _ (fT T2 m 30 #[vr a, vr x, vi 0, vi 3, .val .null, vu] [(.int cz)])
  refine Gz (XS.ifNo X2.here hx rfl (hb hby d12_30) rfl ((if0 _ _).trans (feq hcz).1)) ?_
  refine gA X2 hx hby d12_33 rfl rfl rfl ?_
  refine gN X2 hx hby d12_34 rfl rfl ?_
  refine gN X2 hx hby d12_35 rfl rfl ?_
  have ltc3_a : a < h0.size := A_a.lt
  have ltc3_x : x < h0.size := V_x.lt
  obtain ⟨_, _, ⟨T3, L3, k3, n3⟩, -, X3, ⟨Lc3, hQ3, l3, y3, z3⟩, st3⟩ := Jvm.LawKit.callS X2 hx (y := mN19) hown (gz hZ hw 53 rfl) (gz hZ hw 54 rfl) (gz hZ hw 55 rfl) (gz hZ hw 56 rfl) (by decide) (backOf (W := 0) (rs_c3_3_0 l Z a0 hw [] x kx c0 c1 c2 h0 n0 Z0 V_x (by first | assumption | decide) (by first | assumption | decide) (by first | assumption | decide) (by first | assumption | decide) sgA sgH sgL) hZ (gw hw 56 rfl) (gw hw 55 rfl) (by decide) (by decide)) (g := (mkF m 36 #[vr a, vr x, vi 0, vi 3, .val .null, vu] [(.int 3), (.int 0), (.ref x)])) rfl hml.symm (argsL := [(.ref x), (.int 0), (.int 3)]) (rest := []) (lenOf own_pd14 rfl) rfl (wz rfl) (hb hby d12_36) (fun _ _ => ⟨rfl, e2, (by decide : 0 + 2 ≤ _), (by decide : 0 + 9 ≤ _)⟩)
  dsimp only [Pt.U, Pt.locs, Pt.cells, Pt.slots] at X3 l3 y3 z3 st3 hQ3
  subst l3 y3 z3
  obtain ⟨y3, ky3, rfl, N3q, K3, V_y3_3', g_y3_3', sz_y3_3'⟩ := hQ3
  have N3 := Fr.app N0 N3q
  replace sgC := own_staK sgC K3 all0
  replace sgA := own_staK sgA K3 all0
  replace sgH := own_staK sgH K3 all0
  replace sgL := own_staK sgL K3 all0
  replace A_a := A_a.keep K3
  replace F_value_a := F_value_a.keep K3 nin0
  replace F_coder_a := F_coder_a.keep K3 nin0
  replace V_x := V_x.keep K3 nin0
  replace KP := KP.trans K3 all0
  replace Z0 := Nat.le_trans Z0 K3.1
  have V_y3 := V_y3_3'
  have g_y3 := g_y3_3'
  have szc_y3 := sz_y3_3'
  have ne_a_y3 : a ≠ y3 := Nat.ne_of_lt (Nat.lt_of_lt_of_le ltc3_a szc_y3)
  have ne_x_y3 : x ≠ y3 := Nat.ne_of_lt (Nat.lt_of_lt_of_le ltc3_x szc_y3)
  refine Gs st3 ?_
  show Goes _ _ _ _ _ (fT T3 m 39 #[vr a, vr x, vi 0, vi 3, .val .null, vu] [(.ref y3)])
  refine Gz (XS.astore X3.here hx rfl (hb hby d12_39) rfl rfl (l' := #[vr a, vr x, vi 0, vi 3, .val .null, vr y3]) rfl) ?_
  refine gA X3 hx hby d12_41 rfl rfl rfl ?_
  refine Gz (XS.aload X3.here hx rfl (hb hby d12_42) rfl rfl) ?_
  refine gN X3 hx hby d12_44 rfl rfl ?_
  obtain ⟨_, _, ⟨T4, L4, k4, n4⟩, -, X4, ⟨Lc4, hQ4, l4, y4, z4⟩, st4⟩ := Jvm.LawKit.callS X3 hx (y := mN20) hown (gz hZ hw 79 rfl) (gz hZ hw 80 rfl) (gz hZ hw 55 rfl) (gz hZ hw 81 rfl) (by decide) (backOf (W := 1) (rs_cf_3_6 l Z a0 hw [] y3 ky3 [(.int (lo8 c0)), (.int (hi8 c0)), (.int (lo8 c1)), (.int (hi8 c1)), (.int (lo8 c2)), (.int (hi8 c2))] T3.heap n0 Z0 V_y3) hZ (gw hw 81 rfl) (gw hw 55 rfl) (by decide) (by decide)) (g := (mkF m 45 #[vr a, vr x, vi 0, vi 3, .val .null, vr y3] [(.int 3), (.ref y3), (.ref a)])) rfl hml.symm (argsL := [(.ref y3), (.int 3)]) (rest := [(.ref a)]) (lenOf own_pd15 rfl) rfl (wz rfl) (hb hby d12_45) (fun _ _ => ⟨rfl, rfl, (by decide : 2 + 0 ≤ _), (by decide : 9 + 0 ≤ _)⟩)
  dsimp only [Pt.U, Pt.locs, Pt.cells, Pt.slots] at X4 l4 y4 z4 st4 hQ4
  subst l4 y4 z4
  obtain ⟨rfl, N4q, e4⟩ := hQ4
  have N4 := Fr.app N3 N4q
  refine Gs st4 ?_
  show Goes _ _ _ _ _ (fT T4 m 48 #[vr a, vr x, vi 0, vi 3, .val .null, vr y3] [(.int 1), (.ref a)])
  obtain ⟨T5, h5, X5, e5, W5, st5⟩ := putFN X4 hx hZ hown (gw hw 26 rfl) Via.refl e4 F_coder_a A_a (Or.inr ⟨(gw hw 22 rfl), rfl, hnm⟩) (gw hw 7 rfl) (ty := .byte) (v' := .int 1) (by decide) rfl rfl (g := (mkF m 48 #[vr a, vr x, vi 0, vi 3, .val .null, vr y3] [(.int 1), (.ref a)])) rfl rfl (hb hby d12_48)
  have N5 := Fr.snoc X5 N4 g_a
  replace A_a := A_a.wr W5
  replace F_value_a := F_value_a.other W5 (Or.inr (slot_ne (Or.inr (gw hw 21 rfl)) (Or.inr (gw hw 22 rfl)) (by decide) (t := (.array .byte)) (t' := .byte) (by decide) (by decide)))
  replace V_x := V_x.other W5 ne_x_a
  replace sgC := sgC.wr W5
  replace sgA := sgA.wr W5
  replace sgH := sgH.wr W5
  replace sgL := sgL.wr W5
  replace V_y3 := V_y3.other W5 (Ne.symm ne_a_y3)
  replace KP := KP.wr W5 (Or.inl (List.mem_of_getElem? (i := 0) rfl))
  replace F_coder_a := F_coder_a.same W5
  replace Z0 : n0 ≤ h5.size := by rw [W5.size]; exact Z0
  refine Gs st5 ?_
  show Goes _ _ _ _ _ (fT T5 m 51 #[vr a, vr x, vi 0, vi 3, .val .null, vr y3] [])
  refine gA X5 hx hby d12_51 rfl rfl rfl ?_
  refine Gz (XS.aload X5.here hx rfl (hb hby d12_52) rfl rfl) ?_
  obtain ⟨T6, h6, X6, e6, W6, st6⟩ := putF X5 hx hZ hown (host := "") (Or.inl (gw hw 25 rfl)) Via.refl e5 F_value_a A_a (Or.inr ⟨(gw hw 21 rfl), rfl, hnm⟩) (gw hw 7 rfl) (ty := (.array .byte)) (by decide) rfl rfl (g := (mkF m 54 #[vr a, vr x, vi 0, vi 3, .val .null, vr y3] [(.ref y3), (.ref a)])) rfl rfl (hb hby d12_54)
  have N6 := Fr.snoc X6 N5 g_a
  replace A_a := A_a.wr W6
  replace F_coder_a := F_coder_a.other W6 (Or.inr (slot_ne (Or.inr (gw hw 22 rfl)) (Or.inr (gw hw 21 rfl)) (by decide) (t := .byte) (t' := (.array .byte)) (by decide) (by decide)))
  replace V_x := V_x.other W6 ne_x_a
  replace sgC := sgC.wr W6
  replace sgA := sgA.wr W6
  replace sgH := sgH.wr W6
  replace sgL := sgL.wr W6
  replace V_y3 := V_y3.other W6 (Ne.symm ne_a_y3)
  replace KP := KP.wr W6 (Or.inl (List.mem_of_getElem? (i := 0) rfl))
  replace F_value_a := F_value_a.same W6
  replace Z0 : n0 ≤ h6.size := by rw [W6.size]; exact Z0
  refine Gs st6 ?_
  show Goes _ _ _ _ _ (fT T6 m 57 #[vr a, vr x, vi 0, vi 3, .val .null, vr y3] [])
  have T_a : StrOf Z h6 a [c0, c1, c2] := StrOf.utf A_a F_value_a F_coder_a V_y3 (by intro c hc; simp only [List.mem_cons, List.not_mem_nil, or_false] at hc; rcases hc with rfl | rfl | rfl <;> first | assumption | (exact own_toLat (by assumption) (by assumption))) rfl rfl (Nat.le_of_ble_eq_true rfl)
  refine Goes.ret X6 none (fun _ => rfl) hlk (by decide) (by decide) ?_ (fun fs hr => ?_)
  ·rw [e6]; exact ⟨rfl, N6, KP, T_a⟩
  ·exact X6.returnOut hx hret (hb hby d12_57) hr
 ·show Goes _ _ _ _ _ (fT s₁ m 0 #[vr a, vr x, vi 0, vi 3, .val .null, vu] [])
  by_cases hn_c1 : (255 : Int32) < c1
  ·show Goes _ _ _ _ _ (fT s₁ m 0 #[vr a, vr x, vi 0, vi 3, .val .null, vu] [])
   refine gA X0 hx hby d12_0 rfl rfl rfl ?_
   obtain ⟨T7, X7, e7, st7⟩ := initO X0 hx hZ hown (gw hw 16 rfl) (gw hw 17 rfl) (gw hw 18 rfl) e0 (g := (mkF m 1 #[vr a, vr x, vi 0, vi 3, .val .null, vu] [(.ref a)])) rfl hml.symm rfl (hb hby d12_1) (by decide) (W := 0) (wz rfl) (by decide)
   refine Gs st7 ?_
   show Goes _ _ _ _ _ (fT T7 m 4 #[vr a, vr x, vi 0, vi 3, .val .null, vu] [])
   refine gN X7 hx hby d12_4 rfl rfl ?_
   refine Gz (XS.ifYes X7.here hx rfl (pc0 := 5) (pc' := 27) rfl (hb hby d12_5) rfl ((if0 _ _).trans (feq (by decide : ¬ ((3 : Int32) = (0 : Int32)))).2) (by decide) (by decide)) ?_
   obtain ⟨T8, X8, e8, st8⟩ := getS2 X7 hx hZ hown (host := "") (Or.inl (gw hw 51 rfl)) Via.refl e7 sgC (g := (mkF m 27 #[vr a, vr x, vi 0, vi 3, .val .null, vu] [])) rfl (hb hby d12_27)
   refine Gs st8 ?_
   show Goes _ _ _ _ _ (fT T8 m 30 #[vr a, vr x, vi 0, vi 3, .val .null, vu] [(.int cz)])
   refine Gz (XS.ifNo X8.here hx rfl (hb hby d12_30) rfl ((if0 _ _).trans (feq hcz).1)) ?_
   refine gA X8 hx hby d12_33 rfl rfl rfl ?_
   refine gN X8 hx hby d12_34 rfl rfl ?_
   refine gN X8 hx hby d12_35 rfl rfl ?_
   have ltc9_a : a < h0.size := A_a.lt
   have ltc9_x : x < h0.size := V_x.lt
   obtain ⟨_, _, ⟨T9, L9, k9, n9⟩, -, X9, ⟨Lc9, hQ9, l9, y9, z9⟩, st9⟩ := Jvm.LawKit.callS X8 hx (y := mN19) hown (gz hZ hw 53 rfl) (gz hZ hw 54 rfl) (gz hZ hw 55 rfl) (gz hZ hw 56 rfl) (by decide) (backOf (W := 0) (rs_c3_3_1 l Z a0 hw [] x kx c0 c1 c2 h0 n0 Z0 V_x (by first | assumption | decide) (by first | assumption | decide) (by first | assumption | decide) (by first | assumption | decide) (by first | assumption | decide) sgA sgH sgL) hZ (gw hw 56 rfl) (gw hw 55 rfl) (by decide) (by decide)) (g := (mkF m 36 #[vr a, vr x, vi 0, vi 3, .val .null, vu] [(.int 3), (.int 0), (.ref x)])) rfl hml.symm (argsL := [(.ref x), (.int 0), (.int 3)]) (rest := []) (lenOf own_pd14 rfl) rfl (wz rfl) (hb hby d12_36) (fun _ _ => ⟨rfl, e8, (by decide : 0 + 2 ≤ _), (by decide : 0 + 9 ≤ _)⟩)
   dsimp only [Pt.U, Pt.locs, Pt.cells, Pt.slots] at X9 l9 y9 z9 st9 hQ9
   subst l9 y9 z9
   obtain ⟨y9, ky9, rfl, N9q, K9, V_y9_9', g_y9_9', sz_y9_9'⟩ := hQ9
   have N9 := Fr.app N0 N9q
   replace sgC := own_staK sgC K9 all0
   replace sgA := own_staK sgA K9 all0
   replace sgH := own_staK sgH K9 all0
   replace sgL := own_staK sgL K9 all0
   replace A_a := A_a.keep K9
   replace F_value_a := F_value_a.keep K9 nin0
   replace F_coder_a := F_coder_a.keep K9 nin0
   replace V_x := V_x.keep K9 nin0
   replace KP := KP.trans K9 all0
   replace Z0 := Nat.le_trans Z0 K9.1
   have V_y9 := V_y9_9'
   have g_y9 := g_y9_9'
   have szc_y9 := sz_y9_9'
   have ne_a_y9 : a ≠ y9 := Nat.ne_of_lt (Nat.lt_of_lt_of_le ltc9_a szc_y9)
   have ne_x_y9 : x ≠ y9 := Nat.ne_of_lt (Nat.lt_of_lt_of_le ltc9_x szc_y9)
   refine Gs st9 ?_
   show Goes _ _ _ _ _ (fT T9 m 39 #[vr a, vr x, vi 0, vi 3, .val .null, vu] [(.ref y9)])
   refine Gz (XS.astore X9.here hx rfl (hb hby d12_39) rfl rfl (l' := #[vr a, vr x, vi 0, vi 3, .val .null, vr y9]) rfl) ?_
   refine gA X9 hx hby d12_41 rfl rfl rfl ?_
   refine Gz (XS.aload X9.here hx rfl (hb hby d12_42) rfl rfl) ?_
   refine gN X9 hx hby d12_44 rfl rfl ?_
   obtain ⟨_, _, ⟨T10, L10, k10, n10⟩, -, X10, ⟨Lc10, hQ10, l10, y10, z10⟩, st10⟩ := Jvm.LawKit.callS X9 hx (y := mN20) hown (gz hZ hw 79 rfl) (gz hZ hw 80 rfl) (gz hZ hw 55 rfl) (gz hZ hw 81 rfl) (by decide) (backOf (W := 1) (rs_cf_3_6 l Z a0 hw [] y9 ky9 [(.int (lo8 c0)), (.int (hi8 c0)), (.int (lo8 c1)), (.int (hi8 c1)), (.int (lo8 c2)), (.int (hi8 c2))] T9.heap n0 Z0 V_y9) hZ (gw hw 81 rfl) (gw hw 55 rfl) (by decide) (by decide)) (g := (mkF m 45 #[vr a, vr x, vi 0, vi 3, .val .null, vr y9] [(.int 3), (.ref y9), (.ref a)])) rfl hml.symm (argsL := [(.ref y9), (.int 3)]) (rest := [(.ref a)]) (lenOf own_pd15 rfl) rfl (wz rfl) (hb hby d12_45) (fun _ _ => ⟨rfl, rfl, (by decide : 2 + 0 ≤ _), (by decide : 9 + 0 ≤ _)⟩)
   dsimp only [Pt.U, Pt.locs, Pt.cells, Pt.slots] at X10 l10 y10 z10 st10 hQ10
   subst l10 y10 z10
   obtain ⟨rfl, N10q, e10⟩ := hQ10
   have N10 := Fr.app N9 N10q
   refine Gs st10 ?_
   show Goes _ _ _ _ _ (fT T10 m 48 #[vr a, vr x, vi 0, vi 3, .val .null, vr y9] [(.int 1), (.ref a)])
   obtain ⟨T11, h11, X11, e11, W11, st11⟩ := putFN X10 hx hZ hown (gw hw 26 rfl) Via.refl e10 F_coder_a A_a (Or.inr ⟨(gw hw 22 rfl), rfl, hnm⟩) (gw hw 7 rfl) (ty := .byte) (v' := .int 1) (by decide) rfl rfl (g := (mkF m 48 #[vr a, vr x, vi 0, vi 3, .val .null, vr y9] [(.int 1), (.ref a)])) rfl rfl (hb hby d12_48)
   have N11 := Fr.snoc X11 N10 g_a
   replace A_a := A_a.wr W11
   replace F_value_a := F_value_a.other W11 (Or.inr (slot_ne (Or.inr (gw hw 21 rfl)) (Or.inr (gw hw 22 rfl)) (by decide) (t := (.array .byte)) (t' := .byte) (by decide) (by decide)))
   replace V_x := V_x.other W11 ne_x_a
   replace sgC := sgC.wr W11
   replace sgA := sgA.wr W11
   replace sgH := sgH.wr W11
   replace sgL := sgL.wr W11
   replace V_y9 := V_y9.other W11 (Ne.symm ne_a_y9)
   replace KP := KP.wr W11 (Or.inl (List.mem_of_getElem? (i := 0) rfl))
   replace F_coder_a := F_coder_a.same W11
   replace Z0 : n0 ≤ h11.size := by rw [W11.size]; exact Z0
   refine Gs st11 ?_
   show Goes _ _ _ _ _ (fT T11 m 51 #[vr a, vr x, vi 0, vi 3, .val .null, vr y9] [])
   refine gA X11 hx hby d12_51 rfl rfl rfl ?_
   refine Gz (XS.aload X11.here hx rfl (hb hby d12_52) rfl rfl) ?_
   obtain ⟨T12, h12, X12, e12, W12, st12⟩ := putF X11 hx hZ hown (host := "") (Or.inl (gw hw 25 rfl)) Via.refl e11 F_value_a A_a (Or.inr ⟨(gw hw 21 rfl), rfl, hnm⟩) (gw hw 7 rfl) (ty := (.array .byte)) (by decide) rfl rfl (g := (mkF m 54 #[vr a, vr x, vi 0, vi 3, .val .null, vr y9] [(.ref y9), (.ref a)])) rfl rfl (hb hby d12_54)
   have N12 := Fr.snoc X12 N11 g_a
   replace A_a := A_a.wr W12
   replace F_coder_a := F_coder_a.other W12 (Or.inr (slot_ne (Or.inr (gw hw 22 rfl)) (Or.inr (gw hw 21 rfl)) (by decide) (t := .byte) (t' := (.array .byte)) (by decide) (by decide)))
   replace V_x := V_x.other W12 ne_x_a
   replace sgC := sgC.wr W12
   replace sgA := sgA.wr W12
   replace sgH := sgH.wr W12
   replace sgL := sgL.wr W12
   replace V_y9 := V_y9.other W12 (Ne.symm ne_a_y9)
   replace KP := KP.wr W12 (Or.inl (List.mem_of_getElem? (i := 0) rfl))
   replace F_value_a := F_value_a.same W12
   replace Z0 : n0 ≤ h12.size := by rw [W12.size]; exact Z0
   refine Gs st12 ?_
   show Goes _ _ _ _ _ (fT T12 m 57 #[vr a, vr x, vi 0, vi 3, .val .null, vr y9] [])
   have T_a : StrOf Z h12 a [c0, c1, c2] := StrOf.utf A_a F_value_a F_coder_a V_y9 (by intro c hc; simp only [List.mem_cons, List.not_mem_nil, or_false] at hc; rcases hc with rfl | rfl | rfl <;> first | assumption | (exact own_toLat (by assumption) (by assumption))) rfl rfl (Nat.le_of_ble_eq_true rfl)
   refine Goes.ret X12 none (fun _ => rfl) hlk (by decide) (by decide) ?_ (fun fs hr => ?_)
   ·rw [e12]; exact ⟨rfl, N12, KP, T_a⟩
   ·exact X12.returnOut hx hret (hb hby d12_57) hr
  ·show Goes _ _ _ _ _ (fT s₁ m 0 #[vr a, vr x, vi 0, vi 3, .val .null, vu] [])
   by_cases hn_c2 : (255 : Int32) < c2
   ·show Goes _ _ _ _ _ (fT s₁ m 0 #[vr a, vr x, vi 0, vi 3, .val .null, vu] [])
    refine gA X0 hx hby d12_0 rfl rfl rfl ?_
    obtain ⟨T13, X13, e13, st13⟩ := initO X0 hx hZ hown (gw hw 16 rfl) (gw hw 17 rfl) (gw hw 18 rfl) e0 (g := (mkF m 1 #[vr a, vr x, vi 0, vi 3, .val .null, vu] [(.ref a)])) rfl hml.symm rfl (hb hby d12_1) (by decide) (W := 0) (wz rfl) (by decide)
    refine Gs st13 ?_
    show Goes _ _ _ _ _ (fT T13 m 4 #[vr a, vr x, vi 0, vi 3, .val .null, vu] [])
    refine gN X13 hx hby d12_4 rfl rfl ?_
    refine Gz (XS.ifYes X13.here hx rfl (pc0 := 5) (pc' := 27) rfl (hb hby d12_5) rfl ((if0 _ _).trans (feq (by decide : ¬ ((3 : Int32) = (0 : Int32)))).2) (by decide) (by decide)) ?_
    obtain ⟨T14, X14, e14, st14⟩ := getS2 X13 hx hZ hown (host := "") (Or.inl (gw hw 51 rfl)) Via.refl e13 sgC (g := (mkF m 27 #[vr a, vr x, vi 0, vi 3, .val .null, vu] [])) rfl (hb hby d12_27)
    refine Gs st14 ?_
    show Goes _ _ _ _ _ (fT T14 m 30 #[vr a, vr x, vi 0, vi 3, .val .null, vu] [(.int cz)])
    refine Gz (XS.ifNo X14.here hx rfl (hb hby d12_30) rfl ((if0 _ _).trans (feq hcz).1)) ?_
    refine gA X14 hx hby d12_33 rfl rfl rfl ?_
    refine gN X14 hx hby d12_34 rfl rfl ?_
    refine gN X14 hx hby d12_35 rfl rfl ?_
    have ltc15_a : a < h0.size := A_a.lt
    have ltc15_x : x < h0.size := V_x.lt
    obtain ⟨_, _, ⟨T15, L15, k15, n15⟩, -, X15, ⟨Lc15, hQ15, l15, y15, z15⟩, st15⟩ := Jvm.LawKit.callS X14 hx (y := mN19) hown (gz hZ hw 53 rfl) (gz hZ hw 54 rfl) (gz hZ hw 55 rfl) (gz hZ hw 56 rfl) (by decide) (backOf (W := 0) (rs_c3_3_2 l Z a0 hw [] x kx c0 c1 c2 h0 n0 Z0 V_x (by first | assumption | decide) (by first | assumption | decide) (by first | assumption | decide) (by first | assumption | decide) (by first | assumption | decide) (by first | assumption | decide) sgA sgH sgL) hZ (gw hw 56 rfl) (gw hw 55 rfl) (by decide) (by decide)) (g := (mkF m 36 #[vr a, vr x, vi 0, vi 3, .val .null, vu] [(.int 3), (.int 0), (.ref x)])) rfl hml.symm (argsL := [(.ref x), (.int 0), (.int 3)]) (rest := []) (lenOf own_pd14 rfl) rfl (wz rfl) (hb hby d12_36) (fun _ _ => ⟨rfl, e14, (by decide : 0 + 2 ≤ _), (by decide : 0 + 9 ≤ _)⟩)
    dsimp only [Pt.U, Pt.locs, Pt.cells, Pt.slots] at X15 l15 y15 z15 st15 hQ15
    subst l15 y15 z15
    obtain ⟨y15, ky15, rfl, N15q, K15, V_y15_15', g_y15_15', sz_y15_15'⟩ := hQ15
    have N15 := Fr.app N0 N15q
    replace sgC := own_staK sgC K15 all0
    replace A_a := A_a.keep K15
    replace F_value_a := F_value_a.keep K15 nin0
    replace F_coder_a := F_coder_a.keep K15 nin0
    replace V_x := V_x.keep K15 nin0
    replace KP := KP.trans K15 all0
    replace Z0 := Nat.le_trans Z0 K15.1
    have V_y15 := V_y15_15'
    have g_y15 := g_y15_15'
    have szc_y15 := sz_y15_15'
    have ne_a_y15 : a ≠ y15 := Nat.ne_of_lt (Nat.lt_of_lt_of_le ltc15_a szc_y15)
    have ne_x_y15 : x ≠ y15 := Nat.ne_of_lt (Nat.lt_of_lt_of_le ltc15_x szc_y15)
    refine Gs st15 ?_
    show Goes _ _ _ _ _ (fT T15 m 39 #[vr a, vr x, vi 0, vi 3, .val .null, vu] [(.ref y15)])
    refine Gz (XS.astore X15.here hx rfl (hb hby d12_39) rfl rfl (l' := #[vr a, vr x, vi 0, vi 3, .val .null, vr y15]) rfl) ?_
    refine gA X15 hx hby d12_41 rfl rfl rfl ?_
    refine Gz (XS.aload X15.here hx rfl (hb hby d12_42) rfl rfl) ?_
    refine gN X15 hx hby d12_44 rfl rfl ?_
    obtain ⟨_, _, ⟨T16, L16, k16, n16⟩, -, X16, ⟨Lc16, hQ16, l16, y16, z16⟩, st16⟩ := Jvm.LawKit.callS X15 hx (y := mN20) hown (gz hZ hw 79 rfl) (gz hZ hw 80 rfl) (gz hZ hw 55 rfl) (gz hZ hw 81 rfl) (by decide) (backOf (W := 1) (rs_cf_3_6 l Z a0 hw [] y15 ky15 [(.int (lo8 c0)), (.int (hi8 c0)), (.int (lo8 c1)), (.int (hi8 c1)), (.int (lo8 c2)), (.int (hi8 c2))] T15.heap n0 Z0 V_y15) hZ (gw hw 81 rfl) (gw hw 55 rfl) (by decide) (by decide)) (g := (mkF m 45 #[vr a, vr x, vi 0, vi 3, .val .null, vr y15] [(.int 3), (.ref y15), (.ref a)])) rfl hml.symm (argsL := [(.ref y15), (.int 3)]) (rest := [(.ref a)]) (lenOf own_pd15 rfl) rfl (wz rfl) (hb hby d12_45) (fun _ _ => ⟨rfl, rfl, (by decide : 2 + 0 ≤ _), (by decide : 9 + 0 ≤ _)⟩)
    dsimp only [Pt.U, Pt.locs, Pt.cells, Pt.slots] at X16 l16 y16 z16 st16 hQ16
    subst l16 y16 z16
    obtain ⟨rfl, N16q, e16⟩ := hQ16
    have N16 := Fr.app N15 N16q
    refine Gs st16 ?_
    show Goes _ _ _ _ _ (fT T16 m 48 #[vr a, vr x, vi 0, vi 3, .val .null, vr y15] [(.int 1), (.ref a)])
    obtain ⟨T17, h17, X17, e17, W17, st17⟩ := putFN X16 hx hZ hown (gw hw 26 rfl) Via.refl e16 F_coder_a A_a (Or.inr ⟨(gw hw 22 rfl), rfl, hnm⟩) (gw hw 7 rfl) (ty := .byte) (v' := .int 1) (by decide) rfl rfl (g := (mkF m 48 #[vr a, vr x, vi 0, vi 3, .val .null, vr y15] [(.int 1), (.ref a)])) rfl rfl (hb hby d12_48)
    have N17 := Fr.snoc X17 N16 g_a
    replace A_a := A_a.wr W17
    replace F_value_a := F_value_a.other W17 (Or.inr (slot_ne (Or.inr (gw hw 21 rfl)) (Or.inr (gw hw 22 rfl)) (by decide) (t := (.array .byte)) (t' := .byte) (by decide) (by decide)))
    replace V_x := V_x.other W17 ne_x_a
    replace sgC := sgC.wr W17
    replace V_y15 := V_y15.other W17 (Ne.symm ne_a_y15)
    replace KP := KP.wr W17 (Or.inl (List.mem_of_getElem? (i := 0) rfl))
    replace F_coder_a := F_coder_a.same W17
    replace Z0 : n0 ≤ h17.size := by rw [W17.size]; exact Z0
    refine Gs st17 ?_
    show Goes _ _ _ _ _ (fT T17 m 51 #[vr a, vr x, vi 0, vi 3, .val .null, vr y15] [])
    refine gA X17 hx hby d12_51 rfl rfl rfl ?_
    refine Gz (XS.aload X17.here hx rfl (hb hby d12_52) rfl rfl) ?_
    obtain ⟨T18, h18, X18, e18, W18, st18⟩ := putF X17 hx hZ hown (host := "") (Or.inl (gw hw 25 rfl)) Via.refl e17 F_value_a A_a (Or.inr ⟨(gw hw 21 rfl), rfl, hnm⟩) (gw hw 7 rfl) (ty := (.array .byte)) (by decide) rfl rfl (g := (mkF m 54 #[vr a, vr x, vi 0, vi 3, .val .null, vr y15] [(.ref y15), (.ref a)])) rfl rfl (hb hby d12_54)
    have N18 := Fr.snoc X18 N17 g_a
    replace A_a := A_a.wr W18
    replace F_coder_a := F_coder_a.other W18 (Or.inr (slot_ne (Or.inr (gw hw 22 rfl)) (Or.inr (gw hw 21 rfl)) (by decide) (t := .byte) (t' := (.array .byte)) (by decide) (by decide)))
    replace V_x := V_x.other W18 ne_x_a
    replace sgC := sgC.wr W18
    replace V_y15 := V_y15.other W18 (Ne.symm ne_a_y15)
    replace KP := KP.wr W18 (Or.inl (List.mem_of_getElem? (i := 0) rfl))
    replace F_value_a := F_value_a.same W18
    replace Z0 : n0 ≤ h18.size := by rw [W18.size]; exact Z0
    refine Gs st18 ?_
    show Goes _ _ _ _ _ (fT T18 m 57 #[vr a, vr x, vi 0, vi 3, .val .null, vr y15] [])
    have T_a : StrOf Z h18 a [c0, c1, c2] := StrOf.utf A_a F_value_a F_coder_a V_y15 (by intro c hc; simp only [List.mem_cons, List.not_mem_nil, or_false] at hc; rcases hc with rfl | rfl | rfl <;> first | assumption | (exact own_toLat (by assumption) (by assumption))) rfl rfl (Nat.le_of_ble_eq_true rfl)
    refine Goes.ret X18 none (fun _ => rfl) hlk (by decide) (by decide) ?_ (fun fs hr => ?_)
    ·rw [e18]; exact ⟨rfl, N18, KP, T_a⟩
    ·exact X18.returnOut hx hret (hb hby d12_57) hr
   ·show Goes _ _ _ _ _ (fT s₁ m 0 #[vr a, vr x, vi 0, vi 3, .val .null, vu] [])
    refine gA X0 hx hby d12_0 rfl rfl rfl ?_
    obtain ⟨T19, X19, e19, st19⟩ := initO X0 hx hZ hown (gw hw 16 rfl) (gw hw 17 rfl) (gw hw 18 rfl) e0 (g := (mkF m 1 #[vr a, vr x, vi 0, vi 3, .val .null, vu] [(.ref a)])) rfl hml.symm rfl (hb hby d12_1) (by decide) (W := 0) (wz rfl) (by decide)
    refine Gs st19 ?_
    show Goes _ _ _ _ _ (fT T19 m 4 #[vr a, vr x, vi 0, vi 3, .val .null, vu] [])
    refine gN X19 hx hby d12_4 rfl rfl ?_
    refine Gz (XS.ifYes X19.here hx rfl (pc0 := 5) (pc' := 27) rfl (hb hby d12_5) rfl ((if0 _ _).trans (feq (by decide : ¬ ((3 : Int32) = (0 : Int32)))).2) (by decide) (by decide)) ?_
    obtain ⟨T20, X20, e20, st20⟩ := getS2 X19 hx hZ hown (host := "") (Or.inl (gw hw 51 rfl)) Via.refl e19 sgC (g := (mkF m 27 #[vr a, vr x, vi 0, vi 3, .val .null, vu] [])) rfl (hb hby d12_27)
    refine Gs st20 ?_
    show Goes _ _ _ _ _ (fT T20 m 30 #[vr a, vr x, vi 0, vi 3, .val .null, vu] [(.int cz)])
    refine Gz (XS.ifNo X20.here hx rfl (hb hby d12_30) rfl ((if0 _ _).trans (feq hcz).1)) ?_
    refine gA X20 hx hby d12_33 rfl rfl rfl ?_
    refine gN X20 hx hby d12_34 rfl rfl ?_
    refine gN X20 hx hby d12_35 rfl rfl ?_
    have ltc21_a : a < h0.size := A_a.lt
    have ltc21_x : x < h0.size := V_x.lt
    obtain ⟨_, _, ⟨T21, L21, k21, n21⟩, -, X21, ⟨Lc21, hQ21, l21, y21, z21⟩, st21⟩ := Jvm.LawKit.callS X20 hx (y := mN19) hown (gz hZ hw 53 rfl) (gz hZ hw 54 rfl) (gz hZ hw 55 rfl) (gz hZ hw 56 rfl) (by decide) (backOf (W := 0) (rs_c3_3_3 l Z a0 hw [] x kx c0 c1 c2 h0 n0 Z0 V_x (by first | assumption | decide) (by first | assumption | decide) (by first | assumption | decide)) hZ (gw hw 56 rfl) (gw hw 55 rfl) (by decide) (by decide)) (g := (mkF m 36 #[vr a, vr x, vi 0, vi 3, .val .null, vu] [(.int 3), (.int 0), (.ref x)])) rfl hml.symm (argsL := [(.ref x), (.int 0), (.int 3)]) (rest := []) (lenOf own_pd14 rfl) rfl (wz rfl) (hb hby d12_36) (fun _ _ => ⟨rfl, e20, (by decide : 0 + 1 ≤ _), (by decide : 0 + 3 ≤ _)⟩)
    dsimp only [Pt.U, Pt.locs, Pt.cells, Pt.slots] at X21 l21 y21 z21 st21 hQ21
    subst l21 y21 z21
    obtain ⟨y21, ky21, rfl, N21q, K21, V_y21_21', g_y21_21', sz_y21_21'⟩ := hQ21
    have N21 := Fr.app N0 N21q
    replace A_a := A_a.keep K21
    replace F_value_a := F_value_a.keep K21 nin0
    replace F_coder_a := F_coder_a.keep K21 nin0
    replace KP := KP.trans K21 all0
    replace Z0 := Nat.le_trans Z0 K21.1
    have V_y21 := V_y21_21'
    have g_y21 := g_y21_21'
    have szc_y21 := sz_y21_21'
    have ne_a_y21 : a ≠ y21 := Nat.ne_of_lt (Nat.lt_of_lt_of_le ltc21_a szc_y21)
    have ne_x_y21 : x ≠ y21 := Nat.ne_of_lt (Nat.lt_of_lt_of_le ltc21_x szc_y21)
    refine Gs st21 ?_
    show Goes _ _ _ _ _ (fT T21 m 39 #[vr a, vr x, vi 0, vi 3, .val .null, vu] [(.ref y21)])
    refine Gz (XS.astore X21.here hx rfl (hb hby d12_39) rfl rfl (l' := #[vr a, vr x, vi 0, vi 3, .val .null, vr y21]) rfl) ?_
    refine gA X21 hx hby d12_41 rfl rfl rfl ?_
    refine Gz (XS.aload X21.here hx rfl (hb hby d12_42) rfl rfl) ?_
    refine gN X21 hx hby d12_44 rfl rfl ?_
    obtain ⟨_, _, ⟨T22, L22, k22, n22⟩, -, X22, ⟨Lc22, hQ22, l22, y22, z22⟩, st22⟩ := Jvm.LawKit.callS X21 hx (y := mN20) hown (gz hZ hw 79 rfl) (gz hZ hw 80 rfl) (gz hZ hw 55 rfl) (gz hZ hw 81 rfl) (by decide) (backOf (W := 1) (rs_cf_3_3 l Z a0 hw [] y21 ky21 [(.int (lo8 c0)), (.int (lo8 c1)), (.int (lo8 c2))] T21.heap n0 Z0 V_y21) hZ (gw hw 81 rfl) (gw hw 55 rfl) (by decide) (by decide)) (g := (mkF m 45 #[vr a, vr x, vi 0, vi 3, .val .null, vr y21] [(.int 3), (.ref y21), (.ref a)])) rfl hml.symm (argsL := [(.ref y21), (.int 3)]) (rest := [(.ref a)]) (lenOf own_pd15 rfl) rfl (wz rfl) (hb hby d12_45) (fun _ _ => ⟨rfl, rfl, (by decide : 1 + 0 ≤ _), (by decide : 3 + 0 ≤ _)⟩)
    dsimp only [Pt.U, Pt.locs, Pt.cells, Pt.slots] at X22 l22 y22 z22 st22 hQ22
    subst l22 y22 z22
    obtain ⟨rfl, N22q, e22⟩ := hQ22
    have N22 := Fr.app N21 N22q
    refine Gs st22 ?_
    show Goes _ _ _ _ _ (fT T22 m 48 #[vr a, vr x, vi 0, vi 3, .val .null, vr y21] [(.int 0), (.ref a)])
    obtain ⟨T23, h23, X23, e23, W23, st23⟩ := putFN X22 hx hZ hown (gw hw 26 rfl) Via.refl e22 F_coder_a A_a (Or.inr ⟨(gw hw 22 rfl), rfl, hnm⟩) (gw hw 7 rfl) (ty := .byte) (v' := .int 0) (by decide) rfl rfl (g := (mkF m 48 #[vr a, vr x, vi 0, vi 3, .val .null, vr y21] [(.int 0), (.ref a)])) rfl rfl (hb hby d12_48)
    have N23 := Fr.snoc X23 N22 g_a
    replace A_a := A_a.wr W23
    replace F_value_a := F_value_a.other W23 (Or.inr (slot_ne (Or.inr (gw hw 21 rfl)) (Or.inr (gw hw 22 rfl)) (by decide) (t := (.array .byte)) (t' := .byte) (by decide) (by decide)))
    replace V_y21 := V_y21.other W23 (Ne.symm ne_a_y21)
    replace KP := KP.wr W23 (Or.inl (List.mem_of_getElem? (i := 0) rfl))
    replace F_coder_a := F_coder_a.same W23
    replace Z0 : n0 ≤ h23.size := by rw [W23.size]; exact Z0
    refine Gs st23 ?_
    show Goes _ _ _ _ _ (fT T23 m 51 #[vr a, vr x, vi 0, vi 3, .val .null, vr y21] [])
    refine gA X23 hx hby d12_51 rfl rfl rfl ?_
    refine Gz (XS.aload X23.here hx rfl (hb hby d12_52) rfl rfl) ?_
    obtain ⟨T24, h24, X24, e24, W24, st24⟩ := putF X23 hx hZ hown (host := "") (Or.inl (gw hw 25 rfl)) Via.refl e23 F_value_a A_a (Or.inr ⟨(gw hw 21 rfl), rfl, hnm⟩) (gw hw 7 rfl) (ty := (.array .byte)) (by decide) rfl rfl (g := (mkF m 54 #[vr a, vr x, vi 0, vi 3, .val .null, vr y21] [(.ref y21), (.ref a)])) rfl rfl (hb hby d12_54)
    have N24 := Fr.snoc X24 N23 g_a
    replace A_a := A_a.wr W24
    replace F_coder_a := F_coder_a.other W24 (Or.inr (slot_ne (Or.inr (gw hw 22 rfl)) (Or.inr (gw hw 21 rfl)) (by decide) (t := .byte) (t' := (.array .byte)) (by decide) (by decide)))
    replace V_y21 := V_y21.other W24 (Ne.symm ne_a_y21)
    replace KP := KP.wr W24 (Or.inl (List.mem_of_getElem? (i := 0) rfl))
    replace F_value_a := F_value_a.same W24
    replace Z0 : n0 ≤ h24.size := by rw [W24.size]; exact Z0
    refine Gs st24 ?_
    show Goes _ _ _ _ _ (fT T24 m 57 #[vr a, vr x, vi 0, vi 3, .val .null, vr y21] [])
    have T_a : StrOf Z h24 a [c0, c1, c2] := StrOf.latin A_a F_value_a F_coder_a V_y21 (by intro c hc; simp only [List.mem_cons, List.not_mem_nil, or_false] at hc; rcases hc with rfl | rfl | rfl <;> first | assumption | (exact own_toLat (by assumption) (by assumption))) rfl rfl (Nat.le_of_ble_eq_true rfl)
    refine Goes.ret X24 none (fun _ => rfl) hlk (by decide) (by decide) ?_ (fun fs hr => ?_)
    ·rw [e24]; exact ⟨rfl, N24, KP, T_a⟩
    ·exact X24.returnOut hx hret (hb hby d12_57) hr
theorem own_ef_rs_i1_3 (m : MethodId) (x0 : Addr) (x1 : Addr) : entryFrame m #[(.ref x0), (.ref x1)] 2 = mkF m 0 #[vr x0, vr x1] [] := by first | (simp [entryFrame, mkF, argsToLocals, Value.category]; done) | rfl
def Q_rs_i1_3 (Z : State) (a : Addr) (x : Addr) (kx : ClassId) (c0 : Int32) (c1 : Int32) (c2 : Int32) (cz : Int32) (h0 : Heap) (n0 : Nat) (v : Option Value) (h : Heap) (L : List Loc) : Prop := v = none ∧ Fr n0 L ∧ Keep h0 h [a] ∧ StrOf Z h a [c0, c1, c2]
set_option maxRecDepth 65536 in
set_option maxHeartbeats 40000000 in
theorem rs_i1_3 (l : Launch) (Z : State) (a0 : Array Value) (hw : HW a0 Z) (ws : List Jvm.Cond) (a : Addr) (x : Addr) (kx : ClassId) (c0 : Int32) (c1 : Int32) (c2 : Int32) (cz : Int32) (h0 : Heap) (n0 : Nat) (Z0 : n0 ≤ h0.size) (A_a : Exa Z h0 a "java/lang/String") (F_value_a : Fld Z h0 a "java/lang/String" "value" "[B" .null) (F_coder_a : Fld Z h0 a "java/lang/String" "coder" "B" (.int 0)) (V_x : Arv Z h0 x kx .char 3 [(.int c0), (.int c1), (.int c2)] (.int 0)) (g_a : n0 ≤ a) (ne_x_a : x ≠ a) (sgC : Sta Z h0 "java/lang/String" "COMPACT_STRINGS" "Z" (.int cz)) (hcz : ¬ (cz = 0)) (hC_c0 : Chr c0) (hC_c1 : Chr c1) (hC_c2 : Chr c2) (sgA : Sta Z h0 "java/lang/StringUTF16" "$assertionsDisabled" "Z" (.int 1)) (sgH : Sta Z h0 "java/lang/StringUTF16" "HI_BYTE_SHIFT" "I" (.int 0)) (sgL : Sta Z h0 "java/lang/StringUTF16" "LO_BYTE_SHIFT" "I" (.int 8)) :
  Met l Z mN13 jdk_42_method_3_code 2 none ({ frames := 5, cells := 2, slots := 9, locals := 74 } : Room) ws #[(.ref a), (.ref x)] h0 (Q_rs_i1_3 Z a x kx c0 c1 c2 cz h0 n0) := by
 refine own_met (plainFor_of_name own_pn0) ?_
 intro p e s m below meth c s₁ hret hx hby hlk hml hown hnm X0 e0 hZ hh
 have N0 := Fr.nil n0
 refine Gz (castTop (own_ef_rs_i1_3 m a x)) ?_
 have KP : Keep h0 h0 [a] := Keep.refl _ _
 show Goes _ _ _ _ _ (fT s₁ m 0 #[vr a, vr x] [])
 refine gA X0 hx hby d13_0 rfl rfl rfl ?_
 refine gA X0 hx hby d13_1 rfl rfl rfl ?_
 refine Gz (XS.iconst X0.here hx rfl (hb hby d13_2)) ?_
 refine gA X0 hx hby d13_3 rfl rfl rfl ?_
 obtain ⟨cl1, Ar1, -, S1, N1z, -, -⟩ := id V_x
 refine Gs (fun _ tk => X0.arraylength hx (by rw [e0]; exact Ar1.1) (State.isArrayOf_alike hZ.alike Ar1.2.1) (g := (mkF m 4 #[vr a, vr x] [(.ref x), (.int 0), (.ref x), (.ref a)])) rfl rfl (hb hby d13_4) _ tk) ?_
 rw [len_of S1 N1z]
 show Goes _ _ _ _ _ (fT s₁ m 5 #[vr a, vr x] [(.int 3), (.int 0), (.ref x), (.ref a)])
 refine Gz (XS.aconstNull X0.here hx rfl (hb hby d13_5)) ?_
 obtain ⟨_, _, ⟨T2, L2, k2, n2⟩, -, X2, ⟨Lc2, hQ2, l2, y2, z2⟩, st2⟩ := X0.specialBack hx (y := mN12) rfl hown (gz hZ hw 12 rfl) (gz hZ hw 13 rfl) (gz hZ hw 15 rfl) (by decide) (backOf (W := 0) (rs_i4_3 l Z a0 hw [] a x kx c0 c1 c2 cz h0 n0 Z0 A_a F_value_a F_coder_a V_x g_a ne_x_a sgC (by first | assumption | decide) (by first | assumption | decide) (by first | assumption | decide) (by first | assumption | decide) sgA sgH sgL) hZ (gw hw 15 rfl) (gw hw 8 rfl) (by decide) (by decide)) (g := (mkF m 6 #[vr a, vr x] [.null, (.int 3), (.int 0), (.ref x), (.ref a)])) rfl hml.symm (Steps.refl _) (a := a) (argsL := [(.ref x), (.int 0), (.int 3), .null]) (rest := []) (lenOf own_pd9 rfl) rfl (wz rfl) (hb hby d13_6) (fun _ _ => ⟨rfl, e0, (by decide : 0 + 2 ≤ _), (by decide : 0 + 9 ≤ _)⟩)
 dsimp only [Pt.U, Pt.locs, Pt.cells, Pt.slots] at X2 l2 y2 z2 st2 hQ2
 subst l2 y2 z2
 obtain ⟨rfl, N2q, K2, T_a_2'⟩ := hQ2
 have N2 := Fr.app N0 N2q
 replace KP := KP.trans K2 (allS (Or.inl (List.mem_of_getElem? (i := 0) rfl)) all0)
 replace Z0 := Nat.le_trans Z0 K2.1
 have T_a := T_a_2'
 refine Gs (fun _ tk => st2.trans tk) ?_
 show Goes _ _ _ _ _ (fT T2 m 9 #[vr a, vr x] [])
 refine Goes.ret X2 none (fun _ => rfl) hlk (by decide) (by decide) ?_ (fun fs hr => ?_)
 ·exact ⟨rfl, N2, KP, T_a⟩
 ·exact X2.returnOut hx hret (hb hby d13_9) hr
theorem own_ef_rs_pc_4_0 (m : MethodId) (x0 : Addr) (x2 : Int32) : entryFrame m #[(.ref x0), (.int 0), (.int x2)] 3 = mkF m 0 #[vr x0, vi 0, vi x2] [] := by first | (simp [entryFrame, mkF, argsToLocals, Value.category]; done) | rfl
def Q_rs_pc_4_0 (Z : State) (y : Addr) (ky : ClassId) (c0 : Int32) (h0 : Heap) (n0 : Nat) (v : Option Value) (h : Heap) (L : List Loc) : Prop := v = none ∧ Fr n0 L ∧ Keep h0 h [y] ∧ Arv Z h y ky .byte 8 [(.int (lo8 c0)), (.int (hi8 c0)), (.int 0), (.int 0), (.int 0), (.int 0), (.int 0), (.int 0)] (.int 0)
set_option maxRecDepth 65536 in
set_option maxHeartbeats 40000000 in
theorem rs_pc_4_0 (l : Launch) (Z : State) (a0 : Array Value) (hw : HW a0 Z) (ws : List Jvm.Cond) (y : Addr) (ky : ClassId) (c0 : Int32) (h0 : Heap) (n0 : Nat) (Z0 : n0 ≤ h0.size) (V_y : Arv Z h0 y ky .byte 8 [(.int 0), (.int 0), (.int 0), (.int 0), (.int 0), (.int 0), (.int 0), (.int 0)] (.int 0)) (g_y : n0 ≤ y) (sgA : Sta Z h0 "java/lang/StringUTF16" "$assertionsDisabled" "Z" (.int 1)) (sgH : Sta Z h0 "java/lang/StringUTF16" "HI_BYTE_SHIFT" "I" (.int 0)) (sgL : Sta Z h0 "java/lang/StringUTF16" "LO_BYTE_SHIFT" "I" (.int 8)) :
  Met l Z mN14 jdk_52_method_4_code 3 none ({ frames := 0, cells := 0, slots := 0, locals := 0 } : Room) ws #[(.ref y), (.int 0), (.int c0)] h0 (Q_rs_pc_4_0 Z y ky c0 h0 n0) := by
 refine own_met (plainFor_of_name own_pn2) ?_
 intro p e s m below meth c s₁ hret hx hby hlk hml hown hnm X0 e0 hZ hh
 have N0 := Fr.nil n0
 refine Gz (castTop (own_ef_rs_pc_4_0 m y c0)) ?_
 have KP : Keep h0 h0 [y] := Keep.refl _ _
 show Goes _ _ _ _ _ (fT s₁ m 0 #[vr y, vi 0, vi c0] [])
 obtain ⟨T1, X1, e1, st1⟩ := getS2 X0 hx hZ hown (host := "") (Or.inl (gw hw 73 rfl)) Via.refl e0 sgA (g := (mkF m 0 #[vr y, vi 0, vi c0] [])) rfl (hb hby d14_0)
 refine Gs st1 ?_
 show Goes _ _ _ _ _ (fT T1 m 3 #[vr y, vi 0, vi c0] [(.int 1)])
 refine Gz (XS.ifYes X1.here hx rfl (pc0 := 3) (pc' := 28) rfl (hb hby d14_3) rfl ((if0 _ _).trans (feq (by decide : ¬ ((1 : Int32) = (0 : Int32)))).2) (by decide) (by decide)) ?_
 refine gN X1 hx hby d14_28 rfl rfl ?_
 refine Gz (XS.iconst X1.here hx rfl (hb hby d14_29)) ?_
 show Goes _ _ _ _ _ (fT T1 m 30 #[vr y, vi 0, vi c0] [(.int 1), (.int 0)])
 refine Gz (XS.ishl X1.here hx rfl (hb hby d14_30) rfl) ?_
 rw [show ((0 : Int32) <<< ((1 : Int32) &&& 31)) = 0 from by decide]
 show Goes _ _ _ _ _ (fT T1 m 31 #[vr y, vi 0, vi c0] [(.int 0)])
 refine Gz (XS.istoreN X1.here hx rfl (hb hby d14_31) rfl (l' := #[vr y, vi 0, vi c0]) rfl) ?_
 refine gA X1 hx hby d14_32 rfl rfl rfl ?_
 refine gN X1 hx hby d14_33 rfl rfl ?_
 show Goes _ _ _ _ _ (fT T1 m 34 #[vr y, vi 0, vi c0] [(.int 0), (.ref y)])
 refine Gz (XS.iinc X1.here hx rfl (hb hby d14_34) rfl (l' := #[vr y, vi ((0 : Int32) + (1 : Int32)), vi c0]) rfl) ?_
 rw [show ((0 : Int32) + (1 : Int32)) = 1 from by decide]
 show Goes _ _ _ _ _ (fT T1 m 37 #[vr y, vi 1, vi c0] [(.int 0), (.ref y)])
 refine gN X1 hx hby d14_37 rfl rfl ?_
 obtain ⟨T2, X2, e2, st2⟩ := getS2 X1 hx hZ hown (host := "") (Or.inl (gw hw 74 rfl)) Via.refl e1 sgH (g := (mkF m 38 #[vr y, vi 1, vi c0] [(.int c0), (.int 0), (.ref y)])) rfl (hb hby d14_38)
 refine Gs st2 ?_
 show Goes _ _ _ _ _ (fT T2 m 41 #[vr y, vi 1, vi c0] [(.int 0), (.int c0), (.int 0), (.ref y)])
 refine Gz (XS.ishr X2.here hx rfl (hb hby d14_41) rfl) ?_
 show Goes _ _ _ _ _ (fT T2 m 42 #[vr y, vi 1, vi c0] [(.int (c0 >>> ((0 : Int32) &&& 31))), (.int 0), (.ref y)])
 rw [own_shr0]
 show Goes _ _ _ _ _ (fT T2 m 42 #[vr y, vi 1, vi c0] [(.int c0), (.int 0), (.ref y)])
 refine Gz (XS.i2b X2.here hx rfl (hb hby d14_42) rfl) ?_
 show Goes _ _ _ _ _ (fT T2 m 43 #[vr y, vi 1, vi c0] [(.int (c0.toInt8.toInt32)), (.int 0), (.ref y)])
 obtain ⟨cl3, Ar3, q3, S3, N3z, H3, G3⟩ := V_y
 have hin3 : ¬ ((0 : Int32) < 0 ∨ cl3.slots.size ≤ ((0 : Int32)).toNatClampNeg) := inb_of S3 ⟨by decide, by decide⟩
 obtain ⟨T3, h3, X3, e3, W3, st3⟩ := stB X2 hx hZ e2 Ar3 (j := (0 : Int32)) hin3 (g := (mkF m 43 #[vr y, vi 1, vi c0] [(.int (c0.toInt8.toInt32)), (.int 0), (.ref y)])) rfl rfl (hb hby d14_43)
 have Vn3 := Arv.set Ar3 q3 S3 N3z H3 G3 (fits_nar_byte _) W3 0 rfl (Nat.le_of_ble_eq_true rfl)
 have N3 := Fr.snoc X3 N0 g_y
 replace sgL := sgL.wr W3
 replace KP := KP.wr W3 (Or.inl (List.mem_of_getElem? (i := 0) rfl))
 have V_y : Arv Z h3 y ky .byte 8 [(.int (lo8 c0)), (.int 0), (.int 0), (.int 0), (.int 0), (.int 0), (.int 0), (.int 0)] (.int 0) := by have q := Vn3; rw [own_nb2] at q; exact q
 replace Z0 : n0 ≤ h3.size := by rw [W3.size]; exact Z0
 refine Gs st3 ?_
 show Goes _ _ _ _ _ (fT T3 m 44 #[vr y, vi 1, vi c0] [])
 refine gA X3 hx hby d14_44 rfl rfl rfl ?_
 refine gN X3 hx hby d14_45 rfl rfl ?_
 refine gN X3 hx hby d14_46 rfl rfl ?_
 obtain ⟨T4, X4, e4, st4⟩ := getS2 X3 hx hZ hown (host := "") (Or.inl (gw hw 75 rfl)) Via.refl e3 sgL (g := (mkF m 47 #[vr y, vi 1, vi c0] [(.int c0), (.int 1), (.ref y)])) rfl (hb hby d14_47)
 refine Gs st4 ?_
 show Goes _ _ _ _ _ (fT T4 m 50 #[vr y, vi 1, vi c0] [(.int 8), (.int c0), (.int 1), (.ref y)])
 refine Gz (XS.ishr X4.here hx rfl (hb hby d14_50) rfl) ?_
 show Goes _ _ _ _ _ (fT T4 m 51 #[vr y, vi 1, vi c0] [(.int (c0 >>> ((8 : Int32) &&& 31))), (.int 1), (.ref y)])
 refine Gz (XS.i2b X4.here hx rfl (hb hby d14_51) rfl) ?_
 show Goes _ _ _ _ _ (fT T4 m 52 #[vr y, vi 1, vi c0] [(.int ((c0 >>> ((8 : Int32) &&& 31)).toInt8.toInt32)), (.int 1), (.ref y)])
 obtain ⟨cl5, Ar5, q5, S5, N5z, H5, G5⟩ := V_y
 have hin5 : ¬ ((1 : Int32) < 0 ∨ cl5.slots.size ≤ ((1 : Int32)).toNatClampNeg) := inb_of S5 ⟨by decide, by decide⟩
 obtain ⟨T5, h5, X5, e5, W5, st5⟩ := stB X4 hx hZ e4 Ar5 (j := (1 : Int32)) hin5 (g := (mkF m 52 #[vr y, vi 1, vi c0] [(.int ((c0 >>> ((8 : Int32) &&& 31)).toInt8.toInt32)), (.int 1), (.ref y)])) rfl rfl (hb hby d14_52)
 have Vn5 := Arv.set Ar5 q5 S5 N5z H5 G5 (fits_nar_byte _) W5 1 rfl (Nat.le_of_ble_eq_true rfl)
 have N5 := Fr.snoc X5 N3 g_y
 replace KP := KP.wr W5 (Or.inl (List.mem_of_getElem? (i := 0) rfl))
 have V_y : Arv Z h5 y ky .byte 8 [(.int (lo8 c0)), (.int (hi8 c0)), (.int 0), (.int 0), (.int 0), (.int 0), (.int 0), (.int 0)] (.int 0) := by have q := Vn5; rw [own_nbh2] at q; exact q
 replace Z0 : n0 ≤ h5.size := by rw [W5.size]; exact Z0
 refine Gs st5 ?_
 show Goes _ _ _ _ _ (fT T5 m 53 #[vr y, vi 1, vi c0] [])
 refine Goes.ret X5 none (fun _ => rfl) hlk (by decide) (by decide) ?_ (fun fs hr => ?_)
 ·rw [e5]; exact ⟨rfl, N5, KP, V_y⟩
 ·exact X5.returnOut hx hret (hb hby d14_53) hr
theorem own_ef_rs_pc_4_1 (m : MethodId) (x0 : Addr) (x2 : Int32) : entryFrame m #[(.ref x0), (.int 1), (.int x2)] 3 = mkF m 0 #[vr x0, vi 1, vi x2] [] := by first | (simp [entryFrame, mkF, argsToLocals, Value.category]; done) | rfl
def Q_rs_pc_4_1 (Z : State) (y : Addr) (ky : ClassId) (c0 : Int32) (c1 : Int32) (h0 : Heap) (n0 : Nat) (v : Option Value) (h : Heap) (L : List Loc) : Prop := v = none ∧ Fr n0 L ∧ Keep h0 h [y] ∧ Arv Z h y ky .byte 8 [(.int (lo8 c0)), (.int (hi8 c0)), (.int (lo8 c1)), (.int (hi8 c1)), (.int 0), (.int 0), (.int 0), (.int 0)] (.int 0)
set_option maxRecDepth 65536 in
set_option maxHeartbeats 40000000 in
theorem rs_pc_4_1 (l : Launch) (Z : State) (a0 : Array Value) (hw : HW a0 Z) (ws : List Jvm.Cond) (y : Addr) (ky : ClassId) (c0 : Int32) (c1 : Int32) (h0 : Heap) (n0 : Nat) (Z0 : n0 ≤ h0.size) (V_y : Arv Z h0 y ky .byte 8 [(.int (lo8 c0)), (.int (hi8 c0)), (.int 0), (.int 0), (.int 0), (.int 0), (.int 0), (.int 0)] (.int 0)) (g_y : n0 ≤ y) (sgA : Sta Z h0 "java/lang/StringUTF16" "$assertionsDisabled" "Z" (.int 1)) (sgH : Sta Z h0 "java/lang/StringUTF16" "HI_BYTE_SHIFT" "I" (.int 0)) (sgL : Sta Z h0 "java/lang/StringUTF16" "LO_BYTE_SHIFT" "I" (.int 8)) :
  Met l Z mN14 jdk_52_method_4_code 3 none ({ frames := 0, cells := 0, slots := 0, locals := 0 } : Room) ws #[(.ref y), (.int 1), (.int c1)] h0 (Q_rs_pc_4_1 Z y ky c0 c1 h0 n0) := by
 refine own_met (plainFor_of_name own_pn2) ?_
 intro p e s m below meth c s₁ hret hx hby hlk hml hown hnm X0 e0 hZ hh
 have N0 := Fr.nil n0
 refine Gz (castTop (own_ef_rs_pc_4_1 m y c1)) ?_
 have KP : Keep h0 h0 [y] := Keep.refl _ _
 show Goes _ _ _ _ _ (fT s₁ m 0 #[vr y, vi 1, vi c1] [])
 obtain ⟨T1, X1, e1, st1⟩ := getS2 X0 hx hZ hown (host := "") (Or.inl (gw hw 73 rfl)) Via.refl e0 sgA (g := (mkF m 0 #[vr y, vi 1, vi c1] [])) rfl (hb hby d14_0)
 refine Gs st1 ?_
 show Goes _ _ _ _ _ (fT T1 m 3 #[vr y, vi 1, vi c1] [(.int 1)])
 refine Gz (XS.ifYes X1.here hx rfl (pc0 := 3) (pc' := 28) rfl (hb hby d14_3) rfl ((if0 _ _).trans (feq (by decide : ¬ ((1 : Int32) = (0 : Int32)))).2) (by decide) (by decide)) ?_
 refine gN X1 hx hby d14_28 rfl rfl ?_
 refine Gz (XS.iconst X1.here hx rfl (hb hby d14_29)) ?_
 show Goes _ _ _ _ _ (fT T1 m 30 #[vr y, vi 1, vi c1] [(.int 1), (.int 1)])
 refine Gz (XS.ishl X1.here hx rfl (hb hby d14_30) rfl) ?_
 rw [show ((1 : Int32) <<< ((1 : Int32) &&& 31)) = 2 from by decide]
 show Goes _ _ _ _ _ (fT T1 m 31 #[vr y, vi 1, vi c1] [(.int 2)])
 refine Gz (XS.istoreN X1.here hx rfl (hb hby d14_31) rfl (l' := #[vr y, vi 2, vi c1]) rfl) ?_
 refine gA X1 hx hby d14_32 rfl rfl rfl ?_
 refine gN X1 hx hby d14_33 rfl rfl ?_
 show Goes _ _ _ _ _ (fT T1 m 34 #[vr y, vi 2, vi c1] [(.int 2), (.ref y)])
 refine Gz (XS.iinc X1.here hx rfl (hb hby d14_34) rfl (l' := #[vr y, vi ((2 : Int32) + (1 : Int32)), vi c1]) rfl) ?_
 rw [show ((2 : Int32) + (1 : Int32)) = 3 from by decide]
 show Goes _ _ _ _ _ (fT T1 m 37 #[vr y, vi 3, vi c1] [(.int 2), (.ref y)])
 refine gN X1 hx hby d14_37 rfl rfl ?_
 obtain ⟨T2, X2, e2, st2⟩ := getS2 X1 hx hZ hown (host := "") (Or.inl (gw hw 74 rfl)) Via.refl e1 sgH (g := (mkF m 38 #[vr y, vi 3, vi c1] [(.int c1), (.int 2), (.ref y)])) rfl (hb hby d14_38)
 refine Gs st2 ?_
 show Goes _ _ _ _ _ (fT T2 m 41 #[vr y, vi 3, vi c1] [(.int 0), (.int c1), (.int 2), (.ref y)])
 refine Gz (XS.ishr X2.here hx rfl (hb hby d14_41) rfl) ?_
 show Goes _ _ _ _ _ (fT T2 m 42 #[vr y, vi 3, vi c1] [(.int (c1 >>> ((0 : Int32) &&& 31))), (.int 2), (.ref y)])
 rw [own_shr0]
 show Goes _ _ _ _ _ (fT T2 m 42 #[vr y, vi 3, vi c1] [(.int c1), (.int 2), (.ref y)])
 refine Gz (XS.i2b X2.here hx rfl (hb hby d14_42) rfl) ?_
 show Goes _ _ _ _ _ (fT T2 m 43 #[vr y, vi 3, vi c1] [(.int (c1.toInt8.toInt32)), (.int 2), (.ref y)])
 obtain ⟨cl3, Ar3, q3, S3, N3z, H3, G3⟩ := V_y
 have hin3 : ¬ ((2 : Int32) < 0 ∨ cl3.slots.size ≤ ((2 : Int32)).toNatClampNeg) := inb_of S3 ⟨by decide, by decide⟩
 obtain ⟨T3, h3, X3, e3, W3, st3⟩ := stB X2 hx hZ e2 Ar3 (j := (2 : Int32)) hin3 (g := (mkF m 43 #[vr y, vi 3, vi c1] [(.int (c1.toInt8.toInt32)), (.int 2), (.ref y)])) rfl rfl (hb hby d14_43)
 have Vn3 := Arv.set Ar3 q3 S3 N3z H3 G3 (fits_nar_byte _) W3 2 rfl (Nat.le_of_ble_eq_true rfl)
 have N3 := Fr.snoc X3 N0 g_y
 replace sgL := sgL.wr W3
 replace KP := KP.wr W3 (Or.inl (List.mem_of_getElem? (i := 0) rfl))
 have V_y : Arv Z h3 y ky .byte 8 [(.int (lo8 c0)), (.int (hi8 c0)), (.int (lo8 c1)), (.int 0), (.int 0), (.int 0), (.int 0), (.int 0)] (.int 0) := by have q := Vn3; rw [own_nb2] at q; exact q
 replace Z0 : n0 ≤ h3.size := by rw [W3.size]; exact Z0
 refine Gs st3 ?_
 show Goes _ _ _ _ _ (fT T3 m 44 #[vr y, vi 3, vi c1] [])
 refine gA X3 hx hby d14_44 rfl rfl rfl ?_
 refine gN X3 hx hby d14_45 rfl rfl ?_
 refine gN X3 hx hby d14_46 rfl rfl ?_
 obtain ⟨T4, X4, e4, st4⟩ := getS2 X3 hx hZ hown (host := "") (Or.inl (gw hw 75 rfl)) Via.refl e3 sgL (g := (mkF m 47 #[vr y, vi 3, vi c1] [(.int c1), (.int 3), (.ref y)])) rfl (hb hby d14_47)
 refine Gs st4 ?_
 show Goes _ _ _ _ _ (fT T4 m 50 #[vr y, vi 3, vi c1] [(.int 8), (.int c1), (.int 3), (.ref y)])
 refine Gz (XS.ishr X4.here hx rfl (hb hby d14_50) rfl) ?_
 show Goes _ _ _ _ _ (fT T4 m 51 #[vr y, vi 3, vi c1] [(.int (c1 >>> ((8 : Int32) &&& 31))), (.int 3), (.ref y)])
 refine Gz (XS.i2b X4.here hx rfl (hb hby d14_51) rfl) ?_
 show Goes _ _ _ _ _ (fT T4 m 52 #[vr y, vi 3, vi c1] [(.int ((c1 >>> ((8 : Int32) &&& 31)).toInt8.toInt32)), (.int 3), (.ref y)])
 obtain ⟨cl5, Ar5, q5, S5, N5z, H5, G5⟩ := V_y
 have hin5 : ¬ ((3 : Int32) < 0 ∨ cl5.slots.size ≤ ((3 : Int32)).toNatClampNeg) := inb_of S5 ⟨by decide, by decide⟩
 obtain ⟨T5, h5, X5, e5, W5, st5⟩ := stB X4 hx hZ e4 Ar5 (j := (3 : Int32)) hin5 (g := (mkF m 52 #[vr y, vi 3, vi c1] [(.int ((c1 >>> ((8 : Int32) &&& 31)).toInt8.toInt32)), (.int 3), (.ref y)])) rfl rfl (hb hby d14_52)
 have Vn5 := Arv.set Ar5 q5 S5 N5z H5 G5 (fits_nar_byte _) W5 3 rfl (Nat.le_of_ble_eq_true rfl)
 have N5 := Fr.snoc X5 N3 g_y
 replace KP := KP.wr W5 (Or.inl (List.mem_of_getElem? (i := 0) rfl))
 have V_y : Arv Z h5 y ky .byte 8 [(.int (lo8 c0)), (.int (hi8 c0)), (.int (lo8 c1)), (.int (hi8 c1)), (.int 0), (.int 0), (.int 0), (.int 0)] (.int 0) := by have q := Vn5; rw [own_nbh2] at q; exact q
 replace Z0 : n0 ≤ h5.size := by rw [W5.size]; exact Z0
 refine Gs st5 ?_
 show Goes _ _ _ _ _ (fT T5 m 53 #[vr y, vi 3, vi c1] [])
 refine Goes.ret X5 none (fun _ => rfl) hlk (by decide) (by decide) ?_ (fun fs hr => ?_)
 ·rw [e5]; exact ⟨rfl, N5, KP, V_y⟩
 ·exact X5.returnOut hx hret (hb hby d14_53) hr
theorem own_ef_rs_pc_4_2 (m : MethodId) (x0 : Addr) (x2 : Int32) : entryFrame m #[(.ref x0), (.int 2), (.int x2)] 3 = mkF m 0 #[vr x0, vi 2, vi x2] [] := by first | (simp [entryFrame, mkF, argsToLocals, Value.category]; done) | rfl
def Q_rs_pc_4_2 (Z : State) (y : Addr) (ky : ClassId) (c0 : Int32) (c1 : Int32) (c2 : Int32) (h0 : Heap) (n0 : Nat) (v : Option Value) (h : Heap) (L : List Loc) : Prop := v = none ∧ Fr n0 L ∧ Keep h0 h [y] ∧ Arv Z h y ky .byte 8 [(.int (lo8 c0)), (.int (hi8 c0)), (.int (lo8 c1)), (.int (hi8 c1)), (.int (lo8 c2)), (.int (hi8 c2)), (.int 0), (.int 0)] (.int 0)
set_option maxRecDepth 65536 in
set_option maxHeartbeats 40000000 in
theorem rs_pc_4_2 (l : Launch) (Z : State) (a0 : Array Value) (hw : HW a0 Z) (ws : List Jvm.Cond) (y : Addr) (ky : ClassId) (c0 : Int32) (c1 : Int32) (c2 : Int32) (h0 : Heap) (n0 : Nat) (Z0 : n0 ≤ h0.size) (V_y : Arv Z h0 y ky .byte 8 [(.int (lo8 c0)), (.int (hi8 c0)), (.int (lo8 c1)), (.int (hi8 c1)), (.int 0), (.int 0), (.int 0), (.int 0)] (.int 0)) (g_y : n0 ≤ y) (sgA : Sta Z h0 "java/lang/StringUTF16" "$assertionsDisabled" "Z" (.int 1)) (sgH : Sta Z h0 "java/lang/StringUTF16" "HI_BYTE_SHIFT" "I" (.int 0)) (sgL : Sta Z h0 "java/lang/StringUTF16" "LO_BYTE_SHIFT" "I" (.int 8)) :
  Met l Z mN14 jdk_52_method_4_code 3 none ({ frames := 0, cells := 0, slots := 0, locals := 0 } : Room) ws #[(.ref y), (.int 2), (.int c2)] h0 (Q_rs_pc_4_2 Z y ky c0 c1 c2 h0 n0) := by
 refine own_met (plainFor_of_name own_pn2) ?_
 intro p e s m below meth c s₁ hret hx hby hlk hml hown hnm X0 e0 hZ hh
 have N0 := Fr.nil n0
 refine Gz (castTop (own_ef_rs_pc_4_2 m y c2)) ?_
 have KP : Keep h0 h0 [y] := Keep.refl _ _
 show Goes _ _ _ _ _ (fT s₁ m 0 #[vr y, vi 2, vi c2] [])
 obtain ⟨T1, X1, e1, st1⟩ := getS2 X0 hx hZ hown (host := "") (Or.inl (gw hw 73 rfl)) Via.refl e0 sgA (g := (mkF m 0 #[vr y, vi 2, vi c2] [])) rfl (hb hby d14_0)
 refine Gs st1 ?_
 show Goes _ _ _ _ _ (fT T1 m 3 #[vr y, vi 2, vi c2] [(.int 1)])
 refine Gz (XS.ifYes X1.here hx rfl (pc0 := 3) (pc' := 28) rfl (hb hby d14_3) rfl ((if0 _ _).trans (feq (by decide : ¬ ((1 : Int32) = (0 : Int32)))).2) (by decide) (by decide)) ?_
 refine gN X1 hx hby d14_28 rfl rfl ?_
 refine Gz (XS.iconst X1.here hx rfl (hb hby d14_29)) ?_
 show Goes _ _ _ _ _ (fT T1 m 30 #[vr y, vi 2, vi c2] [(.int 1), (.int 2)])
 refine Gz (XS.ishl X1.here hx rfl (hb hby d14_30) rfl) ?_
 rw [show ((2 : Int32) <<< ((1 : Int32) &&& 31)) = 4 from by decide]
 show Goes _ _ _ _ _ (fT T1 m 31 #[vr y, vi 2, vi c2] [(.int 4)])
 refine Gz (XS.istoreN X1.here hx rfl (hb hby d14_31) rfl (l' := #[vr y, vi 4, vi c2]) rfl) ?_
 refine gA X1 hx hby d14_32 rfl rfl rfl ?_
 refine gN X1 hx hby d14_33 rfl rfl ?_
 show Goes _ _ _ _ _ (fT T1 m 34 #[vr y, vi 4, vi c2] [(.int 4), (.ref y)])
 refine Gz (XS.iinc X1.here hx rfl (hb hby d14_34) rfl (l' := #[vr y, vi ((4 : Int32) + (1 : Int32)), vi c2]) rfl) ?_
 rw [show ((4 : Int32) + (1 : Int32)) = 5 from by decide]
 show Goes _ _ _ _ _ (fT T1 m 37 #[vr y, vi 5, vi c2] [(.int 4), (.ref y)])
 refine gN X1 hx hby d14_37 rfl rfl ?_
 obtain ⟨T2, X2, e2, st2⟩ := getS2 X1 hx hZ hown (host := "") (Or.inl (gw hw 74 rfl)) Via.refl e1 sgH (g := (mkF m 38 #[vr y, vi 5, vi c2] [(.int c2), (.int 4), (.ref y)])) rfl (hb hby d14_38)
 refine Gs st2 ?_
 show Goes _ _ _ _ _ (fT T2 m 41 #[vr y, vi 5, vi c2] [(.int 0), (.int c2), (.int 4), (.ref y)])
 refine Gz (XS.ishr X2.here hx rfl (hb hby d14_41) rfl) ?_
 show Goes _ _ _ _ _ (fT T2 m 42 #[vr y, vi 5, vi c2] [(.int (c2 >>> ((0 : Int32) &&& 31))), (.int 4), (.ref y)])
 rw [own_shr0]
 show Goes _ _ _ _ _ (fT T2 m 42 #[vr y, vi 5, vi c2] [(.int c2), (.int 4), (.ref y)])
 refine Gz (XS.i2b X2.here hx rfl (hb hby d14_42) rfl) ?_
 show Goes _ _ _ _ _ (fT T2 m 43 #[vr y, vi 5, vi c2] [(.int (c2.toInt8.toInt32)), (.int 4), (.ref y)])
 obtain ⟨cl3, Ar3, q3, S3, N3z, H3, G3⟩ := V_y
 have hin3 : ¬ ((4 : Int32) < 0 ∨ cl3.slots.size ≤ ((4 : Int32)).toNatClampNeg) := inb_of S3 ⟨by decide, by decide⟩
 obtain ⟨T3, h3, X3, e3, W3, st3⟩ := stB X2 hx hZ e2 Ar3 (j := (4 : Int32)) hin3 (g := (mkF m 43 #[vr y, vi 5, vi c2] [(.int (c2.toInt8.toInt32)), (.int 4), (.ref y)])) rfl rfl (hb hby d14_43)
 have Vn3 := Arv.set Ar3 q3 S3 N3z H3 G3 (fits_nar_byte _) W3 4 rfl (Nat.le_of_ble_eq_true rfl)
 have N3 := Fr.snoc X3 N0 g_y
 replace sgL := sgL.wr W3
 replace KP := KP.wr W3 (Or.inl (List.mem_of_getElem? (i := 0) rfl))
 have V_y : Arv Z h3 y ky .byte 8 [(.int (lo8 c0)), (.int (hi8 c0)), (.int (lo8 c1)), (.int (hi8 c1)), (.int (lo8 c2)), (.int 0), (.int 0), (.int 0)] (.int 0) := by have q := Vn3; rw [own_nb2] at q; exact q
 replace Z0 : n0 ≤ h3.size := by rw [W3.size]; exact Z0
 refine Gs st3 ?_
 show Goes _ _ _ _ _ (fT T3 m 44 #[vr y, vi 5, vi c2] [])
 refine gA X3 hx hby d14_44 rfl rfl rfl ?_
 refine gN X3 hx hby d14_45 rfl rfl ?_
 refine gN X3 hx hby d14_46 rfl rfl ?_
 obtain ⟨T4, X4, e4, st4⟩ := getS2 X3 hx hZ hown (host := "") (Or.inl (gw hw 75 rfl)) Via.refl e3 sgL (g := (mkF m 47 #[vr y, vi 5, vi c2] [(.int c2), (.int 5), (.ref y)])) rfl (hb hby d14_47)
 refine Gs st4 ?_
 show Goes _ _ _ _ _ (fT T4 m 50 #[vr y, vi 5, vi c2] [(.int 8), (.int c2), (.int 5), (.ref y)])
 refine Gz (XS.ishr X4.here hx rfl (hb hby d14_50) rfl) ?_
 show Goes _ _ _ _ _ (fT T4 m 51 #[vr y, vi 5, vi c2] [(.int (c2 >>> ((8 : Int32) &&& 31))), (.int 5), (.ref y)])
 refine Gz (XS.i2b X4.here hx rfl (hb hby d14_51) rfl) ?_
 show Goes _ _ _ _ _ (fT T4 m 52 #[vr y, vi 5, vi c2] [(.int ((c2 >>> ((8 : Int32) &&& 31)).toInt8.toInt32)), (.int 5), (.ref y)])
 obtain ⟨cl5, Ar5, q5, S5, N5z, H5, G5⟩ := V_y
 have hin5 : ¬ ((5 : Int32) < 0 ∨ cl5.slots.size ≤ ((5 : Int32)).toNatClampNeg) := inb_of S5 ⟨by decide, by decide⟩
 obtain ⟨T5, h5, X5, e5, W5, st5⟩ := stB X4 hx hZ e4 Ar5 (j := (5 : Int32)) hin5 (g := (mkF m 52 #[vr y, vi 5, vi c2] [(.int ((c2 >>> ((8 : Int32) &&& 31)).toInt8.toInt32)), (.int 5), (.ref y)])) rfl rfl (hb hby d14_52)
 have Vn5 := Arv.set Ar5 q5 S5 N5z H5 G5 (fits_nar_byte _) W5 5 rfl (Nat.le_of_ble_eq_true rfl)
 have N5 := Fr.snoc X5 N3 g_y
 replace KP := KP.wr W5 (Or.inl (List.mem_of_getElem? (i := 0) rfl))
 have V_y : Arv Z h5 y ky .byte 8 [(.int (lo8 c0)), (.int (hi8 c0)), (.int (lo8 c1)), (.int (hi8 c1)), (.int (lo8 c2)), (.int (hi8 c2)), (.int 0), (.int 0)] (.int 0) := by have q := Vn5; rw [own_nbh2] at q; exact q
 replace Z0 : n0 ≤ h5.size := by rw [W5.size]; exact Z0
 refine Gs st5 ?_
 show Goes _ _ _ _ _ (fT T5 m 53 #[vr y, vi 5, vi c2] [])
 refine Goes.ret X5 none (fun _ => rfl) hlk (by decide) (by decide) ?_ (fun fs hr => ?_)
 ·rw [e5]; exact ⟨rfl, N5, KP, V_y⟩
 ·exact X5.returnOut hx hret (hb hby d14_53) hr
theorem own_ef_rs_pc_4_3 (m : MethodId) (x0 : Addr) (x2 : Int32) : entryFrame m #[(.ref x0), (.int 3), (.int x2)] 3 = mkF m 0 #[vr x0, vi 3, vi x2] [] := by first | (simp [entryFrame, mkF, argsToLocals, Value.category]; done) | rfl
def Q_rs_pc_4_3 (Z : State) (y : Addr) (ky : ClassId) (c0 : Int32) (c1 : Int32) (c2 : Int32) (c3 : Int32) (h0 : Heap) (n0 : Nat) (v : Option Value) (h : Heap) (L : List Loc) : Prop := v = none ∧ Fr n0 L ∧ Keep h0 h [y] ∧ Arv Z h y ky .byte 8 [(.int (lo8 c0)), (.int (hi8 c0)), (.int (lo8 c1)), (.int (hi8 c1)), (.int (lo8 c2)), (.int (hi8 c2)), (.int (lo8 c3)), (.int (hi8 c3))] (.int 0)
set_option maxRecDepth 65536 in
set_option maxHeartbeats 40000000 in
theorem rs_pc_4_3 (l : Launch) (Z : State) (a0 : Array Value) (hw : HW a0 Z) (ws : List Jvm.Cond) (y : Addr) (ky : ClassId) (c0 : Int32) (c1 : Int32) (c2 : Int32) (c3 : Int32) (h0 : Heap) (n0 : Nat) (Z0 : n0 ≤ h0.size) (V_y : Arv Z h0 y ky .byte 8 [(.int (lo8 c0)), (.int (hi8 c0)), (.int (lo8 c1)), (.int (hi8 c1)), (.int (lo8 c2)), (.int (hi8 c2)), (.int 0), (.int 0)] (.int 0)) (g_y : n0 ≤ y) (sgA : Sta Z h0 "java/lang/StringUTF16" "$assertionsDisabled" "Z" (.int 1)) (sgH : Sta Z h0 "java/lang/StringUTF16" "HI_BYTE_SHIFT" "I" (.int 0)) (sgL : Sta Z h0 "java/lang/StringUTF16" "LO_BYTE_SHIFT" "I" (.int 8)) :
  Met l Z mN14 jdk_52_method_4_code 3 none ({ frames := 0, cells := 0, slots := 0, locals := 0 } : Room) ws #[(.ref y), (.int 3), (.int c3)] h0 (Q_rs_pc_4_3 Z y ky c0 c1 c2 c3 h0 n0) := by
 refine own_met (plainFor_of_name own_pn2) ?_
 intro p e s m below meth c s₁ hret hx hby hlk hml hown hnm X0 e0 hZ hh
 have N0 := Fr.nil n0
 refine Gz (castTop (own_ef_rs_pc_4_3 m y c3)) ?_
 have KP : Keep h0 h0 [y] := Keep.refl _ _
 show Goes _ _ _ _ _ (fT s₁ m 0 #[vr y, vi 3, vi c3] [])
 obtain ⟨T1, X1, e1, st1⟩ := getS2 X0 hx hZ hown (host := "") (Or.inl (gw hw 73 rfl)) Via.refl e0 sgA (g := (mkF m 0 #[vr y, vi 3, vi c3] [])) rfl (hb hby d14_0)
 refine Gs st1 ?_
 show Goes _ _ _ _ _ (fT T1 m 3 #[vr y, vi 3, vi c3] [(.int 1)])
 refine Gz (XS.ifYes X1.here hx rfl (pc0 := 3) (pc' := 28) rfl (hb hby d14_3) rfl ((if0 _ _).trans (feq (by decide : ¬ ((1 : Int32) = (0 : Int32)))).2) (by decide) (by decide)) ?_
 refine gN X1 hx hby d14_28 rfl rfl ?_
 refine Gz (XS.iconst X1.here hx rfl (hb hby d14_29)) ?_
 show Goes _ _ _ _ _ (fT T1 m 30 #[vr y, vi 3, vi c3] [(.int 1), (.int 3)])
 refine Gz (XS.ishl X1.here hx rfl (hb hby d14_30) rfl) ?_
 rw [show ((3 : Int32) <<< ((1 : Int32) &&& 31)) = 6 from by decide]
 show Goes _ _ _ _ _ (fT T1 m 31 #[vr y, vi 3, vi c3] [(.int 6)])
 refine Gz (XS.istoreN X1.here hx rfl (hb hby d14_31) rfl (l' := #[vr y, vi 6, vi c3]) rfl) ?_
 refine gA X1 hx hby d14_32 rfl rfl rfl ?_
 refine gN X1 hx hby d14_33 rfl rfl ?_
 show Goes _ _ _ _ _ (fT T1 m 34 #[vr y, vi 6, vi c3] [(.int 6), (.ref y)])
 refine Gz (XS.iinc X1.here hx rfl (hb hby d14_34) rfl (l' := #[vr y, vi ((6 : Int32) + (1 : Int32)), vi c3]) rfl) ?_
 rw [show ((6 : Int32) + (1 : Int32)) = 7 from by decide]
 show Goes _ _ _ _ _ (fT T1 m 37 #[vr y, vi 7, vi c3] [(.int 6), (.ref y)])
 refine gN X1 hx hby d14_37 rfl rfl ?_
 obtain ⟨T2, X2, e2, st2⟩ := getS2 X1 hx hZ hown (host := "") (Or.inl (gw hw 74 rfl)) Via.refl e1 sgH (g := (mkF m 38 #[vr y, vi 7, vi c3] [(.int c3), (.int 6), (.ref y)])) rfl (hb hby d14_38)
 refine Gs st2 ?_
 show Goes _ _ _ _ _ (fT T2 m 41 #[vr y, vi 7, vi c3] [(.int 0), (.int c3), (.int 6), (.ref y)])
 refine Gz (XS.ishr X2.here hx rfl (hb hby d14_41) rfl) ?_
 show Goes _ _ _ _ _ (fT T2 m 42 #[vr y, vi 7, vi c3] [(.int (c3 >>> ((0 : Int32) &&& 31))), (.int 6), (.ref y)])
 rw [own_shr0]
 show Goes _ _ _ _ _ (fT T2 m 42 #[vr y, vi 7, vi c3] [(.int c3), (.int 6), (.ref y)])
 refine Gz (XS.i2b X2.here hx rfl (hb hby d14_42) rfl) ?_
 show Goes _ _ _ _ _ (fT T2 m 43 #[vr y, vi 7, vi c3] [(.int (c3.toInt8.toInt32)), (.int 6), (.ref y)])
 obtain ⟨cl3, Ar3, q3, S3, N3z, H3, G3⟩ := V_y
 have hin3 : ¬ ((6 : Int32) < 0 ∨ cl3.slots.size ≤ ((6 : Int32)).toNatClampNeg) := inb_of S3 ⟨by decide, by decide⟩
 obtain ⟨T3, h3, X3, e3, W3, st3⟩ := stB X2 hx hZ e2 Ar3 (j := (6 : Int32)) hin3 (g := (mkF m 43 #[vr y, vi 7, vi c3] [(.int (c3.toInt8.toInt32)), (.int 6), (.ref y)])) rfl rfl (hb hby d14_43)
 have Vn3 := Arv.set Ar3 q3 S3 N3z H3 G3 (fits_nar_byte _) W3 6 rfl (Nat.le_of_ble_eq_true rfl)
 have N3 := Fr.snoc X3 N0 g_y
 replace sgL := sgL.wr W3
 replace KP := KP.wr W3 (Or.inl (List.mem_of_getElem? (i := 0) rfl))
 have V_y : Arv Z h3 y ky .byte 8 [(.int (lo8 c0)), (.int (hi8 c0)), (.int (lo8 c1)), (.int (hi8 c1)), (.int (lo8 c2)), (.int (hi8 c2)), (.int (lo8 c3)), (.int 0)] (.int 0) := by have q := Vn3; rw [own_nb2] at q; exact q
 replace Z0 : n0 ≤ h3.size := by rw [W3.size]; exact Z0
 refine Gs st3 ?_
 show Goes _ _ _ _ _ (fT T3 m 44 #[vr y, vi 7, vi c3] [])
 refine gA X3 hx hby d14_44 rfl rfl rfl ?_
 refine gN X3 hx hby d14_45 rfl rfl ?_
 refine gN X3 hx hby d14_46 rfl rfl ?_
 obtain ⟨T4, X4, e4, st4⟩ := getS2 X3 hx hZ hown (host := "") (Or.inl (gw hw 75 rfl)) Via.refl e3 sgL (g := (mkF m 47 #[vr y, vi 7, vi c3] [(.int c3), (.int 7), (.ref y)])) rfl (hb hby d14_47)
 refine Gs st4 ?_
 show Goes _ _ _ _ _ (fT T4 m 50 #[vr y, vi 7, vi c3] [(.int 8), (.int c3), (.int 7), (.ref y)])
 refine Gz (XS.ishr X4.here hx rfl (hb hby d14_50) rfl) ?_
 show Goes _ _ _ _ _ (fT T4 m 51 #[vr y, vi 7, vi c3] [(.int (c3 >>> ((8 : Int32) &&& 31))), (.int 7), (.ref y)])
 refine Gz (XS.i2b X4.here hx rfl (hb hby d14_51) rfl) ?_
 show Goes _ _ _ _ _ (fT T4 m 52 #[vr y, vi 7, vi c3] [(.int ((c3 >>> ((8 : Int32) &&& 31)).toInt8.toInt32)), (.int 7), (.ref y)])
 obtain ⟨cl5, Ar5, q5, S5, N5z, H5, G5⟩ := V_y
 have hin5 : ¬ ((7 : Int32) < 0 ∨ cl5.slots.size ≤ ((7 : Int32)).toNatClampNeg) := inb_of S5 ⟨by decide, by decide⟩
 obtain ⟨T5, h5, X5, e5, W5, st5⟩ := stB X4 hx hZ e4 Ar5 (j := (7 : Int32)) hin5 (g := (mkF m 52 #[vr y, vi 7, vi c3] [(.int ((c3 >>> ((8 : Int32) &&& 31)).toInt8.toInt32)), (.int 7), (.ref y)])) rfl rfl (hb hby d14_52)
 have Vn5 := Arv.set Ar5 q5 S5 N5z H5 G5 (fits_nar_byte _) W5 7 rfl (Nat.le_of_ble_eq_true rfl)
 have N5 := Fr.snoc X5 N3 g_y
 replace KP := KP.wr W5 (Or.inl (List.mem_of_getElem? (i := 0) rfl))
 have V_y : Arv Z h5 y ky .byte 8 [(.int (lo8 c0)), (.int (hi8 c0)), (.int (lo8 c1)), (.int (hi8 c1)), (.int (lo8 c2)), (.int (hi8 c2)), (.int (lo8 c3)), (.int (hi8 c3))] (.int 0) := by have q := Vn5; rw [own_nbh2] at q; exact q
 replace Z0 : n0 ≤ h5.size := by rw [W5.size]; exact Z0
 refine Gs st5 ?_
 show Goes _ _ _ _ _ (fT T5 m 53 #[vr y, vi 7, vi c3] [])
 refine Goes.ret X5 none (fun _ => rfl) hlk (by decide) (by decide) ?_ (fun fs hr => ?_)
 ·rw [e5]; exact ⟨rfl, N5, KP, V_y⟩
 ·exact X5.returnOut hx hret (hb hby d14_53) hr
theorem own_ef_rs_nbl_4 (m : MethodId)  : entryFrame m #[(.int 4)] 1 = mkF m 0 #[vi 4] [] := by first | (simp [entryFrame, mkF, argsToLocals, Value.category]; done) | rfl
def Q_rs_nbl_4 (Z : State)  (h0 : Heap) (n0 : Nat) (v : Option Value) (h : Heap) (L : List Loc) : Prop := v = some (.int 8) ∧ Fr n0 L ∧ h = h0
set_option maxRecDepth 65536 in
set_option maxHeartbeats 40000000 in
theorem rs_nbl_4 (l : Launch) (Z : State) (a0 : Array Value) (hw : HW a0 Z) (ws : List Jvm.Cond)  (h0 : Heap) (n0 : Nat) (Z0 : n0 ≤ h0.size) :
  Met l Z mN15 jdk_52_method_3_code 1 (some .int) ({ frames := 0, cells := 0, slots := 0, locals := 0 } : Room) ws #[(.int 4)] h0 (Q_rs_nbl_4 Z  h0 n0) := by
 refine own_met (plainFor_of_name own_pn2) ?_
 intro p e s m below meth c s₁ hret hx hby hlk hml hown hnm X0 e0 hZ hh
 have N0 := Fr.nil n0
 refine Gz (castTop (own_ef_rs_nbl_4 m )) ?_
 show Goes _ _ _ _ _ (fT s₁ m 0 #[vi 4] [])
 refine gN X0 hx hby d15_0 rfl rfl ?_
 refine Gz (XS.ifYes X0.here hx rfl (pc0 := 1) (pc' := 12) rfl (hb hby d15_1) rfl ((if0 _ _).trans (flt (by decide : ¬ ((4 : Int32) < (0 : Int32)))).2.1) (by decide) (by decide)) ?_
 refine gN X0 hx hby d15_12 rfl rfl ?_
 refine Gz (Jvm.Stand.ldcI X0 hx hown (gz hZ hw 69 rfl) rfl (hb hby d15_13)) ?_
 show Goes _ _ _ _ _ (fT s₁ m 15 #[vi 4] [(.int 1073741823), (.int 4)])
 refine Gz (XS.icmpYes X0.here hx rfl (pc0 := 15) (pc' := 55) rfl (hb hby d15_15) rfl (tlt (by decide : ((4 : Int32) < (1073741823 : Int32)))).1 (by decide) (by decide)) ?_
 refine gN X0 hx hby d15_55 rfl rfl ?_
 refine Gz (XS.iconst X0.here hx rfl (hb hby d15_56)) ?_
 show Goes _ _ _ _ _ (fT s₁ m 57 #[vi 4] [(.int 1), (.int 4)])
 refine Gz (XS.ishl X0.here hx rfl (hb hby d15_57) rfl) ?_
 rw [show ((4 : Int32) <<< ((1 : Int32) &&& 31)) = 8 from by decide]
 show Goes _ _ _ _ _ (fT s₁ m 58 #[vi 4] [(.int 8)])
 refine Goes.ret X0 (some (.int 8)) (fun h => by rw [hret] at h; cases h) hlk (by decide) (by decide) ?_ (fun fs hr => ?_)
 ·exact ⟨rfl, N0, e0⟩
 ·exact retI X0 hx hret (hb hby d15_58) hr
theorem own_ef_rs_nbf_4 (m : MethodId)  : entryFrame m #[(.int 4)] 1 = mkF m 0 #[vi 4] [] := by first | (simp [entryFrame, mkF, argsToLocals, Value.category]; done) | rfl
def Q_rs_nbf_4 (Z : State)  (h0 : Heap) (n0 : Nat) (v : Option Value) (h : Heap) (L : List Loc) : Prop := ∃ y : Addr, ∃ ky : ClassId, v = some (.ref y) ∧ Fr n0 L ∧ Keep h0 h [] ∧ Arv Z h y ky .byte 8 [(.int 0), (.int 0), (.int 0), (.int 0), (.int 0), (.int 0), (.int 0), (.int 0)] (.int 0) ∧ n0 ≤ y ∧ h0.size ≤ y
set_option maxRecDepth 65536 in
set_option maxHeartbeats 40000000 in
theorem rs_nbf_4 (l : Launch) (Z : State) (a0 : Array Value) (hw : HW a0 Z) (ws : List Jvm.Cond)  (h0 : Heap) (n0 : Nat) (Z0 : n0 ≤ h0.size) :
  Met l Z mN16 jdk_52_method_2_code 1 (some (.array .byte)) ({ frames := 1, cells := 1, slots := 8, locals := 12 } : Room) ws #[(.int 4)] h0 (Q_rs_nbf_4 Z  h0 n0) := by
 refine own_met (plainFor_of_name own_pn2) ?_
 intro p e s m below meth c s₁ hret hx hby hlk hml hown hnm X0 e0 hZ hh
 have N0 := Fr.nil n0
 refine Gz (castTop (own_ef_rs_nbf_4 m )) ?_
 have KP : Keep h0 h0 [] := Keep.refl _ _
 show Goes _ _ _ _ _ (fT s₁ m 0 #[vi 4] [])
 refine gN X0 hx hby d16_0 rfl rfl ?_
 obtain ⟨_, _, ⟨T1, L1, k1, n1⟩, -, X1, ⟨Lc1, hQ1, l1, y1, z1⟩, st1⟩ := Jvm.LawKit.callS X0 hx (y := mN15) hown (gz hZ hw 66 rfl) (gz hZ hw 67 rfl) (gz hZ hw 55 rfl) (gz hZ hw 68 rfl) (by decide) (backOf (W := 0) (rs_nbl_4 l Z a0 hw []  h0 n0 Z0) hZ (gw hw 68 rfl) (gw hw 55 rfl) (by decide) (by decide)) (g := (mkF m 1 #[vi 4] [(.int 4)])) rfl hml.symm (argsL := [(.int 4)]) (rest := []) (lenOf own_pd10 rfl) rfl (wz rfl) (hb hby d16_1) (fun _ _ => ⟨rfl, e0, z0, z0⟩)
 dsimp only [Pt.U, Pt.locs, Pt.cells, Pt.slots] at X1 l1 y1 z1 st1 hQ1
 subst l1 y1 z1
 obtain ⟨rfl, N1q, e1⟩ := hQ1
 have N1 := Fr.app N0 N1q
 refine Gs st1 ?_
 show Goes _ _ _ _ _ (fT T1 m 4 #[vi 4] [(.int 8)])
 obtain ⟨T2, h2, k2, X2, e2, E2, A2, st2⟩ := newP X1 hx hZ (gw hw 20 rfl) e1 (g := (mkF m 4 #[vi 4] [(.int 8)])) rfl (hb hby d16_4) rfl (by decide) (cap := 8) (by decide) (by decide) (by decide) (by decide)
 obtain ⟨b2, gq2⟩ : ∃ z, z = h0.size := ⟨_, rfl⟩
 rw [← gq2] at A2 st2
 have g_b2 : n0 ≤ b2 := by rw [gq2]; exact Z0
 have sz_b2 : h0.size ≤ b2 := by rw [gq2]; exact KP.1
 replace KP := KP.ext E2
 replace Z0 : n0 ≤ h2.size := Nat.le_trans Z0 E2.1
 have V_b2 : Arv Z h2 b2 k2 .byte 8 [(.int 0), (.int 0), (.int 0), (.int 0), (.int 0), (.int 0), (.int 0), (.int 0)] (.int 0) := (Arv.new A2 (by decide)).pad (pad_rep [] (.int 0) 8)
 refine Gs st2 ?_
 show Goes _ _ _ _ _ (fT T2 m 6 #[vi 4] [(.ref b2)])
 refine Goes.ret X2 (some (.ref b2)) (fun h => by rw [hret] at h; cases h) hlk (by decide) (by decide) ?_ (fun fs hr => ?_)
 ·rw [e2]; exact ⟨b2, k2, rfl, N1, KP, V_b2, g_b2, sz_b2⟩
 ·exact own_retA X2 hx hret rfl rfl (hb hby d16_6) hr
theorem own_ef_rs_tb_4 (m : MethodId) (x0 : Addr) : entryFrame m #[(.ref x0), (.int 0), (.int 4)] 5 = mkF m 0 #[vr x0, vi 0, vi 4, vu, vu] [] := by first | (simp [entryFrame, mkF, argsToLocals, Value.category]; done) | rfl
def Q_rs_tb_4 (Z : State) (x : Addr) (kx : ClassId) (c0 : Int32) (c1 : Int32) (c2 : Int32) (c3 : Int32) (h0 : Heap) (n0 : Nat) (v : Option Value) (h : Heap) (L : List Loc) : Prop := ∃ y : Addr, ∃ ky : ClassId, v = some (.ref y) ∧ Fr n0 L ∧ Keep h0 h [] ∧ Arv Z h y ky .byte 8 [(.int (lo8 c0)), (.int (hi8 c0)), (.int (lo8 c1)), (.int (hi8 c1)), (.int (lo8 c2)), (.int (hi8 c2)), (.int (lo8 c3)), (.int (hi8 c3))] (.int 0) ∧ n0 ≤ y ∧ h0.size ≤ y
set_option maxRecDepth 65536 in
set_option maxHeartbeats 40000000 in
theorem rs_tb_4 (l : Launch) (Z : State) (a0 : Array Value) (hw : HW a0 Z) (ws : List Jvm.Cond) (x : Addr) (kx : ClassId) (c0 : Int32) (c1 : Int32) (c2 : Int32) (c3 : Int32) (h0 : Heap) (n0 : Nat) (Z0 : n0 ≤ h0.size) (V_x : Arv Z h0 x kx .char 4 [(.int c0), (.int c1), (.int c2), (.int c3)] (.int 0)) (sgA : Sta Z h0 "java/lang/StringUTF16" "$assertionsDisabled" "Z" (.int 1)) (sgH : Sta Z h0 "java/lang/StringUTF16" "HI_BYTE_SHIFT" "I" (.int 0)) (sgL : Sta Z h0 "java/lang/StringUTF16" "LO_BYTE_SHIFT" "I" (.int 8)) :
  Met l Z mN17 jdk_52_method_14_code 5 (some (.array .byte)) ({ frames := 2, cells := 1, slots := 8, locals := 24 } : Room) ws #[(.ref x), (.int 0), (.int 4)] h0 (Q_rs_tb_4 Z x kx c0 c1 c2 c3 h0 n0) := by
 refine own_met (plainFor_of_name own_pn2) ?_
 intro p e s m below meth c s₁ hret hx hby hlk hml hown hnm X0 e0 hZ hh
 have N0 := Fr.nil n0
 refine Gz (castTop (own_ef_rs_tb_4 m x)) ?_
 have KP : Keep h0 h0 [] := Keep.refl _ _
 show Goes _ _ _ _ _ (fT s₁ m 0 #[vr x, vi 0, vi 4, vu, vu] [])
 refine gN X0 hx hby d17_0 rfl rfl ?_
 have ltc1_x : x < h0.size := V_x.lt
 have szs1 : h0.size ≤ h0.size := KP.1
 obtain ⟨_, _, ⟨T1, L1, k1, n1⟩, -, X1, ⟨Lc1, hQ1, l1, y1, z1⟩, st1⟩ := Jvm.LawKit.callS X0 hx (y := mN16) hown (gz hZ hw 63 rfl) (gz hZ hw 64 rfl) (gz hZ hw 55 rfl) (gz hZ hw 65 rfl) (by decide) (backOf (W := 0) (rs_nbf_4 l Z a0 hw []  h0 n0 Z0) hZ (gw hw 65 rfl) (gw hw 55 rfl) (by decide) (by decide)) (g := (mkF m 1 #[vr x, vi 0, vi 4, vu, vu] [(.int 4)])) rfl hml.symm (argsL := [(.int 4)]) (rest := []) (lenOf own_pd11 rfl) rfl (wz rfl) (hb hby d17_1) (fun _ _ => ⟨rfl, e0, (by decide : 0 + 1 ≤ _), (by decide : 0 + 8 ≤ _)⟩)
 dsimp only [Pt.U, Pt.locs, Pt.cells, Pt.slots] at X1 l1 y1 z1 st1 hQ1
 subst l1 y1 z1
 obtain ⟨y1, ky1, rfl, N1q, K1, V_y1_1', g_y1_1', sz_y1_1'⟩ := hQ1
 have N1 := Fr.app N0 N1q
 replace sgA := own_staK sgA K1 all0
 replace sgH := own_staK sgH K1 all0
 replace sgL := own_staK sgL K1 all0
 replace V_x := V_x.keep K1 nin0
 replace KP := KP.trans K1 all0
 replace Z0 := Nat.le_trans Z0 K1.1
 have V_y1 := V_y1_1'
 have g_y1 := g_y1_1'
 have szc_y1 := sz_y1_1'
 have ne_x_y1 : x ≠ y1 := Nat.ne_of_lt (Nat.lt_of_lt_of_le ltc1_x szc_y1)
 have sz_y1 : h0.size ≤ y1 := Nat.le_trans szs1 szc_y1
 refine Gs st1 ?_
 show Goes _ _ _ _ _ (fT T1 m 4 #[vr x, vi 0, vi 4, vu, vu] [(.ref y1)])
 refine Gz (XS.astoreN X1.here hx rfl (hb hby d17_4) rfl rfl (l' := #[vr x, vi 0, vi 4, vr y1, vu]) rfl) ?_
 refine Gz (XS.iconst X1.here hx rfl (hb hby d17_5)) ?_
 refine Gz (XS.istore X1.here hx rfl (hb hby d17_6) rfl (l' := #[vr x, vi 0, vi 4, vr y1, vi 0]) rfl) ?_
 refine gI X1 hx hby d17_8 rfl rfl ?_
 refine gN X1 hx hby d17_10 rfl rfl ?_
 refine Gz (XS.icmpNo X1.here hx rfl (hb hby d17_11) rfl (tlt (by decide : ((0 : Int32) < (4 : Int32)))).2.1) ?_
 show Goes _ _ _ _ _ (fT T1 m 14 #[vr x, vi 0, vi 4, vr y1, vi 0] [])
 refine gA X1 hx hby d17_14 rfl rfl rfl ?_
 refine gI X1 hx hby d17_15 rfl rfl ?_
 refine gA X1 hx hby d17_17 rfl rfl rfl ?_
 refine gN X1 hx hby d17_18 rfl rfl ?_
 obtain ⟨cl2, Ar2, -, S2, N2z, H2, -⟩ := id V_x
 have hin2 : ¬ ((0 : Int32) < 0 ∨ cl2.slots.size ≤ ((0 : Int32)).toNatClampNeg) := inb_of S2 ⟨by decide, by decide⟩
 have hat2 : cl2.slots[((0 : Int32)).toNatClampNeg]? = some (.int c0) := Has.at H2 hin2 rfl
 refine Gs (fun _ tk => X1.caload hx (j := (0 : Int32)) (v := (.int c0)) Ar2.1 (State.isArrayOf_alike hZ.alike Ar2.2.1) Ar2.2.2 hin2 hat2 (g := (mkF m 19 #[vr x, vi 0, vi 4, vr y1, vi 0] [(.int 0), (.ref x), (.int 0), (.ref y1)])) rfl rfl (hb hby d17_19) _ tk) ?_
 show Goes _ _ _ _ _ (fT T1 m 20 #[vr x, vi 0, vi 4, vr y1, vi 0] [(.int c0), (.int 0), (.ref y1)])
 obtain ⟨_, _, ⟨T3, L3, k3, n3⟩, -, X3, ⟨Lc3, hQ3, l3, y3, z3⟩, st3⟩ := Jvm.LawKit.callS X1 hx (y := mN14) hown (gz hZ hw 70 rfl) (gz hZ hw 71 rfl) (gz hZ hw 55 rfl) (gz hZ hw 72 rfl) (by decide) (backOf (W := 0) (rs_pc_4_0 l Z a0 hw [] y1 ky1 c0 T1.heap n0 Z0 V_y1 g_y1 sgA sgH sgL) hZ (gw hw 72 rfl) (gw hw 55 rfl) (by decide) (by decide)) (g := (mkF m 20 #[vr x, vi 0, vi 4, vr y1, vi 0] [(.int c0), (.int 0), (.ref y1)])) rfl hml.symm (argsL := [(.ref y1), (.int 0), (.int c0)]) (rest := []) (lenOf own_pd12 rfl) rfl (wz rfl) (hb hby d17_20) (fun _ _ => ⟨rfl, rfl, (by decide : 1 + 0 ≤ _), (by decide : 8 + 0 ≤ _)⟩)
 dsimp only [Pt.U, Pt.locs, Pt.cells, Pt.slots] at X3 l3 y3 z3 st3 hQ3
 subst l3 y3 z3
 obtain ⟨rfl, N3q, K3, V_y1_3'⟩ := hQ3
 have N3 := Fr.app N1 N3q
 replace sgA := own_staK sgA K3 (allS (own_obA V_y1) all0)
 replace sgH := own_staK sgH K3 (allS (own_obA V_y1) all0)
 replace sgL := own_staK sgL K3 (allS (own_obA V_y1) all0)
 replace V_x := V_x.keep K3 (ninS ne_x_y1 nin0)
 replace KP := KP.trans K3 (allS (Or.inr sz_y1) all0)
 replace Z0 := Nat.le_trans Z0 K3.1
 have V_y1 := V_y1_3'
 refine Gs st3 ?_
 show Goes _ _ _ _ _ (fT T3 m 23 #[vr x, vi 0, vi 4, vr y1, vi 0] [])
 refine Gz (XS.iinc X3.here hx rfl (hb hby d17_23) rfl (l' := #[vr x, vi ((0 : Int32) + (1 : Int32)), vi 4, vr y1, vi 0]) rfl) ?_
 rw [show ((0 : Int32) + (1 : Int32)) = 1 from by decide]
 show Goes _ _ _ _ _ (fT T3 m 26 #[vr x, vi 1, vi 4, vr y1, vi 0] [])
 refine Gz (XS.iinc X3.here hx rfl (hb hby d17_26) rfl (l' := #[vr x, vi 1, vi 4, vr y1, vi ((0 : Int32) + (1 : Int32))]) rfl) ?_
 rw [show ((0 : Int32) + (1 : Int32)) = 1 from by decide]
 show Goes _ _ _ _ _ (fT T3 m 29 #[vr x, vi 1, vi 4, vr y1, vi 1] [])
 refine Gz (XS.goto X3.here hx rfl (pc0 := 29) (pc' := 8) rfl (hb hby d17_29) (by decide) (by decide)) ?_
 refine gI X3 hx hby d17_8 rfl rfl ?_
 refine gN X3 hx hby d17_10 rfl rfl ?_
 refine Gz (XS.icmpNo X3.here hx rfl (hb hby d17_11) rfl (tlt (by decide : ((1 : Int32) < (4 : Int32)))).2.1) ?_
 refine gA X3 hx hby d17_14 rfl rfl rfl ?_
 refine gI X3 hx hby d17_15 rfl rfl ?_
 show Goes _ _ _ _ _ (fT T3 m 17 #[vr x, vi 1, vi 4, vr y1, vi 1] [(.int 1), (.ref y1)])
 refine gA X3 hx hby d17_17 rfl rfl rfl ?_
 refine gN X3 hx hby d17_18 rfl rfl ?_
 obtain ⟨cl4, Ar4, -, S4, N4z, H4, -⟩ := id V_x
 have hin4 : ¬ ((1 : Int32) < 0 ∨ cl4.slots.size ≤ ((1 : Int32)).toNatClampNeg) := inb_of S4 ⟨by decide, by decide⟩
 have hat4 : cl4.slots[((1 : Int32)).toNatClampNeg]? = some (.int c1) := Has.at H4 hin4 rfl
 refine Gs (fun _ tk => X3.caload hx (j := (1 : Int32)) (v := (.int c1)) Ar4.1 (State.isArrayOf_alike hZ.alike Ar4.2.1) Ar4.2.2 hin4 hat4 (g := (mkF m 19 #[vr x, vi 1, vi 4, vr y1, vi 1] [(.int 1), (.ref x), (.int 1), (.ref y1)])) rfl rfl (hb hby d17_19) _ tk) ?_
 show Goes _ _ _ _ _ (fT T3 m 20 #[vr x, vi 1, vi 4, vr y1, vi 1] [(.int c1), (.int 1), (.ref y1)])
 obtain ⟨_, _, ⟨T5, L5, k5, n5⟩, -, X5, ⟨Lc5, hQ5, l5, y5, z5⟩, st5⟩ := Jvm.LawKit.callS X3 hx (y := mN14) hown (gz hZ hw 70 rfl) (gz hZ hw 71 rfl) (gz hZ hw 55 rfl) (gz hZ hw 72 rfl) (by decide) (backOf (W := 0) (rs_pc_4_1 l Z a0 hw [] y1 ky1 c0 c1 T3.heap n0 Z0 V_y1 g_y1 sgA sgH sgL) hZ (gw hw 72 rfl) (gw hw 55 rfl) (by decide) (by decide)) (g := (mkF m 20 #[vr x, vi 1, vi 4, vr y1, vi 1] [(.int c1), (.int 1), (.ref y1)])) rfl hml.symm (argsL := [(.ref y1), (.int 1), (.int c1)]) (rest := []) (lenOf own_pd12 rfl) rfl (wz rfl) (hb hby d17_20) (fun _ _ => ⟨rfl, rfl, (by decide : 1 + 0 ≤ _), (by decide : 8 + 0 ≤ _)⟩)
 dsimp only [Pt.U, Pt.locs, Pt.cells, Pt.slots] at X5 l5 y5 z5 st5 hQ5
 subst l5 y5 z5
 obtain ⟨rfl, N5q, K5, V_y1_5'⟩ := hQ5
 have N5 := Fr.app N3 N5q
 replace sgA := own_staK sgA K5 (allS (own_obA V_y1) all0)
 replace sgH := own_staK sgH K5 (allS (own_obA V_y1) all0)
 replace sgL := own_staK sgL K5 (allS (own_obA V_y1) all0)
 replace V_x := V_x.keep K5 (ninS ne_x_y1 nin0)
 replace KP := KP.trans K5 (allS (Or.inr sz_y1) all0)
 replace Z0 := Nat.le_trans Z0 K5.1
 have V_y1 := V_y1_5'
 refine Gs st5 ?_
 show Goes _ _ _ _ _ (fT T5 m 23 #[vr x, vi 1, vi 4, vr y1, vi 1] [])
 refine Gz (XS.iinc X5.here hx rfl (hb hby d17_23) rfl (l' := #[vr x, vi ((1 : Int32) + (1 : Int32)), vi 4, vr y1, vi 1]) rfl) ?_
 rw [show ((1 : Int32) + (1 : Int32)) = 2 from by decide]
 show Goes _ _ _ _ _ (fT T5 m 26 #[vr x, vi 2, vi 4, vr y1, vi 1] [])
 refine Gz (XS.iinc X5.here hx rfl (hb hby d17_26) rfl (l' := #[vr x, vi 2, vi 4, vr y1, vi ((1 : Int32) + (1 : Int32))]) rfl) ?_
 rw [show ((1 : Int32) + (1 : Int32)) = 2 from by decide]
 show Goes _ _ _ _ _ (fT T5 m 29 #[vr x, vi 2, vi 4, vr y1, vi 2] [])
 refine Gz (XS.goto X5.here hx rfl (pc0 := 29) (pc' := 8) rfl (hb hby d17_29) (by decide) (by decide)) ?_
 refine gI X5 hx hby d17_8 rfl rfl ?_
 refine gN X5 hx hby d17_10 rfl rfl ?_
 refine Gz (XS.icmpNo X5.here hx rfl (hb hby d17_11) rfl (tlt (by decide : ((2 : Int32) < (4 : Int32)))).2.1) ?_
 refine gA X5 hx hby d17_14 rfl rfl rfl ?_
 refine gI X5 hx hby d17_15 rfl rfl ?_
 show Goes _ _ _ _ _ (fT T5 m 17 #[vr x, vi 2, vi 4, vr y1, vi 2] [(.int 2), (.ref y1)])
 refine gA X5 hx hby d17_17 rfl rfl rfl ?_
 refine gN X5 hx hby d17_18 rfl rfl ?_
 obtain ⟨cl6, Ar6, -, S6, N6z, H6, -⟩ := id V_x
 have hin6 : ¬ ((2 : Int32) < 0 ∨ cl6.slots.size ≤ ((2 : Int32)).toNatClampNeg) := inb_of S6 ⟨by decide, by decide⟩
 have hat6 : cl6.slots[((2 : Int32)).toNatClampNeg]? = some (.int c2) := Has.at H6 hin6 rfl
 refine Gs (fun _ tk => X5.caload hx (j := (2 : Int32)) (v := (.int c2)) Ar6.1 (State.isArrayOf_alike hZ.alike Ar6.2.1) Ar6.2.2 hin6 hat6 (g := (mkF m 19 #[vr x, vi 2, vi 4, vr y1, vi 2] [(.int 2), (.ref x), (.int 2), (.ref y1)])) rfl rfl (hb hby d17_19) _ tk) ?_
 show Goes _ _ _ _ _ (fT T5 m 20 #[vr x, vi 2, vi 4, vr y1, vi 2] [(.int c2), (.int 2), (.ref y1)])
 obtain ⟨_, _, ⟨T7, L7, k7, n7⟩, -, X7, ⟨Lc7, hQ7, l7, y7, z7⟩, st7⟩ := Jvm.LawKit.callS X5 hx (y := mN14) hown (gz hZ hw 70 rfl) (gz hZ hw 71 rfl) (gz hZ hw 55 rfl) (gz hZ hw 72 rfl) (by decide) (backOf (W := 0) (rs_pc_4_2 l Z a0 hw [] y1 ky1 c0 c1 c2 T5.heap n0 Z0 V_y1 g_y1 sgA sgH sgL) hZ (gw hw 72 rfl) (gw hw 55 rfl) (by decide) (by decide)) (g := (mkF m 20 #[vr x, vi 2, vi 4, vr y1, vi 2] [(.int c2), (.int 2), (.ref y1)])) rfl hml.symm (argsL := [(.ref y1), (.int 2), (.int c2)]) (rest := []) (lenOf own_pd12 rfl) rfl (wz rfl) (hb hby d17_20) (fun _ _ => ⟨rfl, rfl, (by decide : 1 + 0 ≤ _), (by decide : 8 + 0 ≤ _)⟩)
 dsimp only [Pt.U, Pt.locs, Pt.cells, Pt.slots] at X7 l7 y7 z7 st7 hQ7
 subst l7 y7 z7
 obtain ⟨rfl, N7q, K7, V_y1_7'⟩ := hQ7
 have N7 := Fr.app N5 N7q
 replace sgA := own_staK sgA K7 (allS (own_obA V_y1) all0)
 replace sgH := own_staK sgH K7 (allS (own_obA V_y1) all0)
 replace sgL := own_staK sgL K7 (allS (own_obA V_y1) all0)
 replace V_x := V_x.keep K7 (ninS ne_x_y1 nin0)
 replace KP := KP.trans K7 (allS (Or.inr sz_y1) all0)
 replace Z0 := Nat.le_trans Z0 K7.1
 have V_y1 := V_y1_7'
 refine Gs st7 ?_
 show Goes _ _ _ _ _ (fT T7 m 23 #[vr x, vi 2, vi 4, vr y1, vi 2] [])
 refine Gz (XS.iinc X7.here hx rfl (hb hby d17_23) rfl (l' := #[vr x, vi ((2 : Int32) + (1 : Int32)), vi 4, vr y1, vi 2]) rfl) ?_
 rw [show ((2 : Int32) + (1 : Int32)) = 3 from by decide]
 show Goes _ _ _ _ _ (fT T7 m 26 #[vr x, vi 3, vi 4, vr y1, vi 2] [])
 refine Gz (XS.iinc X7.here hx rfl (hb hby d17_26) rfl (l' := #[vr x, vi 3, vi 4, vr y1, vi ((2 : Int32) + (1 : Int32))]) rfl) ?_
 rw [show ((2 : Int32) + (1 : Int32)) = 3 from by decide]
 show Goes _ _ _ _ _ (fT T7 m 29 #[vr x, vi 3, vi 4, vr y1, vi 3] [])
 refine Gz (XS.goto X7.here hx rfl (pc0 := 29) (pc' := 8) rfl (hb hby d17_29) (by decide) (by decide)) ?_
 refine gI X7 hx hby d17_8 rfl rfl ?_
 refine gN X7 hx hby d17_10 rfl rfl ?_
 refine Gz (XS.icmpNo X7.here hx rfl (hb hby d17_11) rfl (tlt (by decide : ((3 : Int32) < (4 : Int32)))).2.1) ?_
 refine gA X7 hx hby d17_14 rfl rfl rfl ?_
 refine gI X7 hx hby d17_15 rfl rfl ?_
 show Goes _ _ _ _ _ (fT T7 m 17 #[vr x, vi 3, vi 4, vr y1, vi 3] [(.int 3), (.ref y1)])
 refine gA X7 hx hby d17_17 rfl rfl rfl ?_
 refine gN X7 hx hby d17_18 rfl rfl ?_
 obtain ⟨cl8, Ar8, -, S8, N8z, H8, -⟩ := id V_x
 have hin8 : ¬ ((3 : Int32) < 0 ∨ cl8.slots.size ≤ ((3 : Int32)).toNatClampNeg) := inb_of S8 ⟨by decide, by decide⟩
 have hat8 : cl8.slots[((3 : Int32)).toNatClampNeg]? = some (.int c3) := Has.at H8 hin8 rfl
 refine Gs (fun _ tk => X7.caload hx (j := (3 : Int32)) (v := (.int c3)) Ar8.1 (State.isArrayOf_alike hZ.alike Ar8.2.1) Ar8.2.2 hin8 hat8 (g := (mkF m 19 #[vr x, vi 3, vi 4, vr y1, vi 3] [(.int 3), (.ref x), (.int 3), (.ref y1)])) rfl rfl (hb hby d17_19) _ tk) ?_
 show Goes _ _ _ _ _ (fT T7 m 20 #[vr x, vi 3, vi 4, vr y1, vi 3] [(.int c3), (.int 3), (.ref y1)])
 obtain ⟨_, _, ⟨T9, L9, k9, n9⟩, -, X9, ⟨Lc9, hQ9, l9, y9, z9⟩, st9⟩ := Jvm.LawKit.callS X7 hx (y := mN14) hown (gz hZ hw 70 rfl) (gz hZ hw 71 rfl) (gz hZ hw 55 rfl) (gz hZ hw 72 rfl) (by decide) (backOf (W := 0) (rs_pc_4_3 l Z a0 hw [] y1 ky1 c0 c1 c2 c3 T7.heap n0 Z0 V_y1 g_y1 sgA sgH sgL) hZ (gw hw 72 rfl) (gw hw 55 rfl) (by decide) (by decide)) (g := (mkF m 20 #[vr x, vi 3, vi 4, vr y1, vi 3] [(.int c3), (.int 3), (.ref y1)])) rfl hml.symm (argsL := [(.ref y1), (.int 3), (.int c3)]) (rest := []) (lenOf own_pd12 rfl) rfl (wz rfl) (hb hby d17_20) (fun _ _ => ⟨rfl, rfl, (by decide : 1 + 0 ≤ _), (by decide : 8 + 0 ≤ _)⟩)
 dsimp only [Pt.U, Pt.locs, Pt.cells, Pt.slots] at X9 l9 y9 z9 st9 hQ9
 subst l9 y9 z9
 obtain ⟨rfl, N9q, K9, V_y1_9'⟩ := hQ9
 have N9 := Fr.app N7 N9q
 replace KP := KP.trans K9 (allS (Or.inr sz_y1) all0)
 replace Z0 := Nat.le_trans Z0 K9.1
 have V_y1 := V_y1_9'
 refine Gs st9 ?_
 show Goes _ _ _ _ _ (fT T9 m 23 #[vr x, vi 3, vi 4, vr y1, vi 3] [])
 refine Gz (XS.iinc X9.here hx rfl (hb hby d17_23) rfl (l' := #[vr x, vi ((3 : Int32) + (1 : Int32)), vi 4, vr y1, vi 3]) rfl) ?_
 rw [show ((3 : Int32) + (1 : Int32)) = 4 from by decide]
 show Goes _ _ _ _ _ (fT T9 m 26 #[vr x, vi 4, vi 4, vr y1, vi 3] [])
 refine Gz (XS.iinc X9.here hx rfl (hb hby d17_26) rfl (l' := #[vr x, vi 4, vi 4, vr y1, vi ((3 : Int32) + (1 : Int32))]) rfl) ?_
 rw [show ((3 : Int32) + (1 : Int32)) = 4 from by decide]
 show Goes _ _ _ _ _ (fT T9 m 29 #[vr x, vi 4, vi 4, vr y1, vi 4] [])
 refine Gz (XS.goto X9.here hx rfl (pc0 := 29) (pc' := 8) rfl (hb hby d17_29) (by decide) (by decide)) ?_
 refine gI X9 hx hby d17_8 rfl rfl ?_
 refine gN X9 hx hby d17_10 rfl rfl ?_
 refine Gz (XS.icmpYes X9.here hx rfl (pc0 := 11) (pc' := 32) rfl (hb hby d17_11) rfl (flt (by decide : ¬ ((4 : Int32) < (4 : Int32)))).2.1 (by decide) (by decide)) ?_
 refine gA X9 hx hby d17_32 rfl rfl rfl ?_
 refine Goes.ret X9 (some (.ref y1)) (fun h => by rw [hret] at h; cases h) hlk (by decide) (by decide) ?_ (fun fs hr => ?_)
 ·exact ⟨y1, ky1, rfl, N9, KP, V_y1, g_y1, sz_y1⟩
 ·exact own_retA X9 hx hret rfl rfl (hb hby d17_33) hr
theorem own_ef_rs_c5_4_0 (m : MethodId) (x0 : Addr) (x2 : Addr) : entryFrame m #[(.ref x0), (.int 0), (.ref x2), (.int 0), (.int 4)] 7 = mkF m 0 #[vr x0, vi 0, vr x2, vi 0, vi 4, vu, vu] [] := by first | (simp [entryFrame, mkF, argsToLocals, Value.category]; done) | rfl
def Q_rs_c5_4_0 (Z : State) (x : Addr) (kx : ClassId) (y : Addr) (ky : ClassId) (c0 : Int32) (c1 : Int32) (c2 : Int32) (c3 : Int32) (h0 : Heap) (n0 : Nat) (v : Option Value) (h : Heap) (L : List Loc) : Prop := v = some (.int 0) ∧ Fr n0 L ∧ Keep h0 h [y] ∧ Arv Z h y ky .byte 4 [(.int 0), (.int 0), (.int 0), (.int 0)] (.int 0)
set_option maxRecDepth 65536 in
set_option maxHeartbeats 40000000 in
theorem rs_c5_4_0 (l : Launch) (Z : State) (a0 : Array Value) (hw : HW a0 Z) (ws : List Jvm.Cond) (x : Addr) (kx : ClassId) (y : Addr) (ky : ClassId) (c0 : Int32) (c1 : Int32) (c2 : Int32) (c3 : Int32) (h0 : Heap) (n0 : Nat) (Z0 : n0 ≤ h0.size) (V_x : Arv Z h0 x kx .char 4 [(.int c0), (.int c1), (.int c2), (.int c3)] (.int 0)) (V_y : Arv Z h0 y ky .byte 4 [(.int 0), (.int 0), (.int 0), (.int 0)] (.int 0)) (g_y : n0 ≤ y) (ne_x_y : x ≠ y) (hn_c0 : (255 : Int32) < c0) :
  Met l Z mN18 jdk_52_method_21_code 7 (some .int) ({ frames := 0, cells := 0, slots := 0, locals := 0 } : Room) ws #[(.ref x), (.int 0), (.ref y), (.int 0), (.int 4)] h0 (Q_rs_c5_4_0 Z x kx y ky c0 c1 c2 c3 h0 n0) := by
 refine own_met (plainFor_of_name own_pn2) ?_
 intro p e s m below meth c s₁ hret hx hby hlk hml hown hnm X0 e0 hZ hh
 have N0 := Fr.nil n0
 refine Gz (castTop (own_ef_rs_c5_4_0 m x y)) ?_
 have KP : Keep h0 h0 [y] := Keep.refl _ _
 show Goes _ _ _ _ _ (fT s₁ m 0 #[vr x, vi 0, vr y, vi 0, vi 4, vu, vu] [])
 refine Gz (XS.iconst X0.here hx rfl (hb hby d18_0)) ?_
 refine Gz (XS.istore X0.here hx rfl (hb hby d18_1) rfl (l' := #[vr x, vi 0, vr y, vi 0, vi 4, vi 0, vu]) rfl) ?_
 refine gI X0 hx hby d18_3 rfl rfl ?_
 refine gI X0 hx hby d18_5 rfl rfl ?_
 refine Gz (XS.icmpNo X0.here hx rfl (hb hby d18_7) rfl (tlt (by decide : ((0 : Int32) < (4 : Int32)))).2.1) ?_
 refine gA X0 hx hby d18_10 rfl rfl rfl ?_
 show Goes _ _ _ _ _ (fT s₁ m 11 #[vr x, vi 0, vr y, vi 0, vi 4, vi 0, vu] [(.ref x)])
 refine gN X0 hx hby d18_11 rfl rfl ?_
 obtain ⟨cl1, Ar1, -, S1, N1z, H1, -⟩ := id V_x
 have hin1 : ¬ ((0 : Int32) < 0 ∨ cl1.slots.size ≤ ((0 : Int32)).toNatClampNeg) := inb_of S1 ⟨by decide, by decide⟩
 have hat1 : cl1.slots[((0 : Int32)).toNatClampNeg]? = some (.int c0) := Has.at H1 hin1 rfl
 refine Gs (fun _ tk => X0.caload hx (j := (0 : Int32)) (v := (.int c0)) (by rw [e0]; exact Ar1.1) (State.isArrayOf_alike hZ.alike Ar1.2.1) Ar1.2.2 hin1 hat1 (g := (mkF m 12 #[vr x, vi 0, vr y, vi 0, vi 4, vi 0, vu] [(.int 0), (.ref x)])) rfl rfl (hb hby d18_12) _ tk) ?_
 show Goes _ _ _ _ _ (fT s₁ m 13 #[vr x, vi 0, vr y, vi 0, vi 4, vi 0, vu] [(.int c0)])
 refine Gz (XS.istore X0.here hx rfl (hb hby d18_13) rfl (l' := #[vr x, vi 0, vr y, vi 0, vi 4, vi 0, vi c0]) rfl) ?_
 refine gI X0 hx hby d18_15 rfl rfl ?_
 refine Gz (XS.sipush X0.here hx rfl (hb hby d18_17)) ?_
 refine Gz (XS.icmpNo X0.here hx rfl (hb hby d18_20) rfl (tlt hn_c0).2.2.2) ?_
 refine gI X0 hx hby d18_23 rfl rfl ?_
 refine Goes.ret X0 (some (.int 0)) (fun h => by rw [hret] at h; cases h) hlk (by decide) (by decide) ?_ (fun fs hr => ?_)
 ·rw [e0]; exact ⟨rfl, N0, KP, V_y⟩
 ·exact retI X0 hx hret (hb hby d18_25) hr
theorem own_ef_rs_c3_4_0 (m : MethodId) (x0 : Addr) : entryFrame m #[(.ref x0), (.int 0), (.int 4)] 6 = mkF m 0 #[vr x0, vi 0, vi 4, vu, vu, vu] [] := by first | (simp [entryFrame, mkF, argsToLocals, Value.category]; done) | rfl
def Q_rs_c3_4_0 (Z : State) (x : Addr) (kx : ClassId) (c0 : Int32) (c1 : Int32) (c2 : Int32) (c3 : Int32) (h0 : Heap) (n0 : Nat) (v : Option Value) (h : Heap) (L : List Loc) : Prop := ∃ y : Addr, ∃ ky : ClassId, v = some (.ref y) ∧ Fr n0 L ∧ Keep h0 h [] ∧ Arv Z h y ky .byte 8 [(.int (lo8 c0)), (.int (hi8 c0)), (.int (lo8 c1)), (.int (hi8 c1)), (.int (lo8 c2)), (.int (hi8 c2)), (.int (lo8 c3)), (.int (hi8 c3))] (.int 0) ∧ n0 ≤ y ∧ h0.size ≤ y
set_option maxRecDepth 65536 in
set_option maxHeartbeats 40000000 in
theorem rs_c3_4_0 (l : Launch) (Z : State) (a0 : Array Value) (hw : HW a0 Z) (ws : List Jvm.Cond) (x : Addr) (kx : ClassId) (c0 : Int32) (c1 : Int32) (c2 : Int32) (c3 : Int32) (h0 : Heap) (n0 : Nat) (Z0 : n0 ≤ h0.size) (V_x : Arv Z h0 x kx .char 4 [(.int c0), (.int c1), (.int c2), (.int c3)] (.int 0)) (hn_c0 : (255 : Int32) < c0) (hC_c0 : Chr c0) (hC_c1 : Chr c1) (hC_c2 : Chr c2) (hC_c3 : Chr c3) (sgA : Sta Z h0 "java/lang/StringUTF16" "$assertionsDisabled" "Z" (.int 1)) (sgH : Sta Z h0 "java/lang/StringUTF16" "HI_BYTE_SHIFT" "I" (.int 0)) (sgL : Sta Z h0 "java/lang/StringUTF16" "LO_BYTE_SHIFT" "I" (.int 8)) :
  Met l Z mN19 jdk_52_method_16_code 6 (some (.array .byte)) ({ frames := 3, cells := 2, slots := 12, locals := 40 } : Room) ws #[(.ref x), (.int 0), (.int 4)] h0 (Q_rs_c3_4_0 Z x kx c0 c1 c2 c3 h0 n0) := by
 refine own_met (plainFor_of_name own_pn2) ?_
 intro p e s m below meth c s₁ hret hx hby hlk hml hown hnm X0 e0 hZ hh
 have N0 := Fr.nil n0
 refine Gz (castTop (own_ef_rs_c3_4_0 m x)) ?_
 have KP : Keep h0 h0 [] := Keep.refl _ _
 show Goes _ _ _ _ _ (fT s₁ m 0 #[vr x, vi 0, vi 4, vu, vu, vu] [])
 refine gN X0 hx hby d19_0 rfl rfl ?_
 obtain ⟨T1, h1, k1, X1, e1, E1, A1, st1⟩ := newP X0 hx hZ (gw hw 20 rfl) e0 (g := (mkF m 1 #[vr x, vi 0, vi 4, vu, vu, vu] [(.int 4)])) rfl (hb hby d19_1) rfl (by decide) (cap := 4) (by decide) (by decide) (by decide) (by decide)
 obtain ⟨b1, gq1⟩ : ∃ z, z = h0.size := ⟨_, rfl⟩
 rw [← gq1] at A1 st1
 have g_b1 : n0 ≤ b1 := by rw [gq1]; exact Z0
 have sz_b1 : h0.size ≤ b1 := by rw [gq1]; exact KP.1
 have ne_x_b1 : x ≠ b1 := by rw [gq1]; exact Nat.ne_of_lt V_x.lt
 replace V_x := V_x.ext E1
 replace sgA := sgA.ext E1
 replace sgH := sgH.ext E1
 replace sgL := sgL.ext E1
 replace KP := KP.ext E1
 replace Z0 : n0 ≤ h1.size := Nat.le_trans Z0 E1.1
 have V_b1 : Arv Z h1 b1 k1 .byte 4 [(.int 0), (.int 0), (.int 0), (.int 0)] (.int 0) := (Arv.new A1 (by decide)).pad (pad_rep [] (.int 0) 4)
 refine Gs st1 ?_
 show Goes _ _ _ _ _ (fT T1 m 3 #[vr x, vi 0, vi 4, vu, vu, vu] [(.ref b1)])
 refine Gz (XS.astoreN X1.here hx rfl (hb hby d19_3) rfl rfl (l' := #[vr x, vi 0, vi 4, vr b1, vu, vu]) rfl) ?_
 refine gA X1 hx hby d19_4 rfl rfl rfl ?_
 refine gN X1 hx hby d19_5 rfl rfl ?_
 refine gA X1 hx hby d19_6 rfl rfl rfl ?_
 refine Gz (XS.iconst X1.here hx rfl (hb hby d19_7)) ?_
 refine gN X1 hx hby d19_8 rfl rfl ?_
 show Goes _ _ _ _ _ (fT T1 m 9 #[vr x, vi 0, vi 4, vr b1, vu, vu] [(.int 4), (.int 0), (.ref b1), (.int 0), (.ref x)])
 obtain ⟨_, _, ⟨T2, L2, k2, n2⟩, -, X2, ⟨Lc2, hQ2, l2, y2, z2⟩, st2⟩ := Jvm.LawKit.callS X1 hx (y := mN18) hown (gz hZ hw 57 rfl) (gz hZ hw 58 rfl) (gz hZ hw 55 rfl) (gz hZ hw 59 rfl) (by decide) (backOf (W := 0) (rs_c5_4_0 l Z a0 hw [] x kx b1 k1 c0 c1 c2 c3 h1 n0 Z0 V_x V_b1 g_b1 ne_x_b1 (by first | assumption | decide)) hZ (gw hw 59 rfl) (gw hw 55 rfl) (by decide) (by decide)) (g := (mkF m 9 #[vr x, vi 0, vi 4, vr b1, vu, vu] [(.int 4), (.int 0), (.ref b1), (.int 0), (.ref x)])) rfl hml.symm (argsL := [(.ref x), (.int 0), (.ref b1), (.int 0), (.int 4)]) (rest := []) (lenOf own_pd13 rfl) rfl (wz rfl) (hb hby d19_9) (fun _ _ => ⟨rfl, e1, (by decide : 1 + 0 ≤ _), (by decide : 4 + 0 ≤ _)⟩)
 dsimp only [Pt.U, Pt.locs, Pt.cells, Pt.slots] at X2 l2 y2 z2 st2 hQ2
 subst l2 y2 z2
 obtain ⟨rfl, N2q, K2, V_b1_2'⟩ := hQ2
 have N2 := Fr.app N0 N2q
 replace sgA := own_staK sgA K2 (allS (own_obA V_b1) all0)
 replace sgH := own_staK sgH K2 (allS (own_obA V_b1) all0)
 replace sgL := own_staK sgL K2 (allS (own_obA V_b1) all0)
 replace V_x := V_x.keep K2 (ninS ne_x_b1 nin0)
 replace KP := KP.trans K2 (allS (Or.inr sz_b1) all0)
 replace Z0 := Nat.le_trans Z0 K2.1
 have V_b1 := V_b1_2'
 refine Gs st2 ?_
 show Goes _ _ _ _ _ (fT T2 m 12 #[vr x, vi 0, vi 4, vr b1, vu, vu] [(.int 0)])
 refine Gz (XS.istore X2.here hx rfl (hb hby d19_12) rfl (l' := #[vr x, vi 0, vi 4, vr b1, vi 0, vu]) rfl) ?_
 refine gI X2 hx hby d19_14 rfl rfl ?_
 refine gN X2 hx hby d19_16 rfl rfl ?_
 refine Gz (XS.icmpNo X2.here hx rfl (hb hby d19_17) rfl (feq (by decide : ¬ ((0 : Int32) = (4 : Int32)))).1) ?_
 refine gA X2 hx hby d19_20 rfl rfl rfl ?_
 refine gN X2 hx hby d19_21 rfl rfl ?_
 show Goes _ _ _ _ _ (fT T2 m 22 #[vr x, vi 0, vi 4, vr b1, vi 0, vu] [(.int 0), (.ref x)])
 refine gN X2 hx hby d19_22 rfl rfl ?_
 have ltc3_x : x < T2.heap.size := V_x.lt
 have ltc3_b1 : b1 < T2.heap.size := V_b1.lt
 have szs3 : h0.size ≤ T2.heap.size := KP.1
 obtain ⟨_, _, ⟨T3, L3, k3, n3⟩, -, X3, ⟨Lc3, hQ3, l3, y3, z3⟩, st3⟩ := Jvm.LawKit.callS X2 hx (y := mN17) hown (gz hZ hw 60 rfl) (gz hZ hw 61 rfl) (gz hZ hw 55 rfl) (gz hZ hw 62 rfl) (by decide) (backOf (W := 0) (rs_tb_4 l Z a0 hw [] x kx c0 c1 c2 c3 T2.heap n0 Z0 V_x sgA sgH sgL) hZ (gw hw 62 rfl) (gw hw 55 rfl) (by decide) (by decide)) (g := (mkF m 23 #[vr x, vi 0, vi 4, vr b1, vi 0, vu] [(.int 4), (.int 0), (.ref x)])) rfl hml.symm (argsL := [(.ref x), (.int 0), (.int 4)]) (rest := []) (lenOf own_pd14 rfl) rfl (wz rfl) (hb hby d19_23) (fun _ _ => ⟨rfl, rfl, (by decide : 1 + 1 ≤ _), (by decide : 4 + 8 ≤ _)⟩)
 dsimp only [Pt.U, Pt.locs, Pt.cells, Pt.slots] at X3 l3 y3 z3 st3 hQ3
 subst l3 y3 z3
 obtain ⟨y3, ky3, rfl, N3q, K3, V_y3_3', g_y3_3', sz_y3_3'⟩ := hQ3
 have N3 := Fr.app N2 N3q
 replace sgA := own_staK sgA K3 all0
 replace sgH := own_staK sgH K3 all0
 replace sgL := own_staK sgL K3 all0
 replace KP := KP.trans K3 all0
 replace Z0 := Nat.le_trans Z0 K3.1
 have V_y3 := V_y3_3'
 have g_y3 := g_y3_3'
 have szc_y3 := sz_y3_3'
 have ne_x_y3 : x ≠ y3 := Nat.ne_of_lt (Nat.lt_of_lt_of_le ltc3_x szc_y3)
 have ne_b1_y3 : b1 ≠ y3 := Nat.ne_of_lt (Nat.lt_of_lt_of_le ltc3_b1 szc_y3)
 have sz_y3 : h0.size ≤ y3 := Nat.le_trans szs3 szc_y3
 refine Gs st3 ?_
 show Goes _ _ _ _ _ (fT T3 m 26 #[vr x, vi 0, vi 4, vr b1, vi 0, vu] [(.ref y3)])
 refine Gz (XS.astore X3.here hx rfl (hb hby d19_26) rfl rfl (l' := #[vr x, vi 0, vi 4, vr b1, vi 0, vr y3]) rfl) ?_
 refine Gz (XS.aload X3.here hx rfl (hb hby d19_28) rfl rfl) ?_
 refine gI X3 hx hby d19_30 rfl rfl ?_
 obtain ⟨_, _, ⟨T4, L4, k4, n4⟩, -, X4, ⟨Lc4, hQ4, l4, y4, z4⟩, st4⟩ := Jvm.LawKit.callS X3 hx (y := mN5) hown (gz hZ hw 76 rfl) (gz hZ hw 77 rfl) (gz hZ hw 55 rfl) (gz hZ hw 78 rfl) (by decide) (backOf (W := 0) (rs_gch l Z a0 hw [] y3 ky3 [c0, c1, c2, c3] (0 : Int32) c0 T3.heap n0 Z0 V_y3 (by first | assumption | decide) (own_il 0 _ (by decide) (by simp) (Nat.le_of_ble_eq_true rfl)) rfl (Nat.le_of_ble_eq_true rfl) hC_c0 sgA sgH sgL) hZ (gw hw 78 rfl) (gw hw 55 rfl) (by decide) (by decide)) (g := (mkF m 32 #[vr x, vi 0, vi 4, vr b1, vi 0, vr y3] [(.int 0), (.ref y3)])) rfl hml.symm (argsL := [(.ref y3), (.int 0)]) (rest := []) (lenOf own_pd2 rfl) rfl (wz rfl) (hb hby d19_32) (fun _ _ => ⟨rfl, rfl, (by decide : 2 + 0 ≤ _), (by decide : 12 + 0 ≤ _)⟩)
 dsimp only [Pt.U, Pt.locs, Pt.cells, Pt.slots] at X4 l4 y4 z4 st4 hQ4
 subst l4 y4 z4
 obtain ⟨rfl, N4q, e4⟩ := hQ4
 have N4 := Fr.app N3 N4q
 refine Gs st4 ?_
 show Goes _ _ _ _ _ (fT T4 m 35 #[vr x, vi 0, vi 4, vr b1, vi 0, vr y3] [(.int c0)])
 refine Gz (XS.sipush X4.here hx rfl (hb hby d19_35)) ?_
 refine Gz (XS.icmpYes X4.here hx rfl (pc0 := 38) (pc' := 54) rfl (hb hby d19_38) rfl (tlt hn_c0).2.2.1 (by decide) (by decide)) ?_
 refine Gz (XS.aload X4.here hx rfl (hb hby d19_54) rfl rfl) ?_
 refine Goes.ret X4 (some (.ref y3)) (fun h => by rw [hret] at h; cases h) hlk (by decide) (by decide) ?_ (fun fs hr => ?_)
 ·rw [e4]; exact ⟨y3, ky3, rfl, N4, KP, V_y3, g_y3, sz_y3⟩
 ·exact own_retA X4 hx hret rfl rfl (hb hby d19_56) hr
theorem own_ef_rs_c5_4_1 (m : MethodId) (x0 : Addr) (x2 : Addr) : entryFrame m #[(.ref x0), (.int 0), (.ref x2), (.int 0), (.int 4)] 7 = mkF m 0 #[vr x0, vi 0, vr x2, vi 0, vi 4, vu, vu] [] := by first | (simp [entryFrame, mkF, argsToLocals, Value.category]; done) | rfl
def Q_rs_c5_4_1 (Z : State) (x : Addr) (kx : ClassId) (y : Addr) (ky : ClassId) (c0 : Int32) (c1 : Int32) (c2 : Int32) (c3 : Int32) (h0 : Heap) (n0 : Nat) (v : Option Value) (h : Heap) (L : List Loc) : Prop := v = some (.int 1) ∧ Fr n0 L ∧ Keep h0 h [y] ∧ Arv Z h y ky .byte 4 [(.int (lo8 c0)), (.int 0), (.int 0), (.int 0)] (.int 0)
set_option maxRecDepth 65536 in
set_option maxHeartbeats 40000000 in
theorem rs_c5_4_1 (l : Launch) (Z : State) (a0 : Array Value) (hw : HW a0 Z) (ws : List Jvm.Cond) (x : Addr) (kx : ClassId) (y : Addr) (ky : ClassId) (c0 : Int32) (c1 : Int32) (c2 : Int32) (c3 : Int32) (h0 : Heap) (n0 : Nat) (Z0 : n0 ≤ h0.size) (V_x : Arv Z h0 x kx .char 4 [(.int c0), (.int c1), (.int c2), (.int c3)] (.int 0)) (V_y : Arv Z h0 y ky .byte 4 [(.int 0), (.int 0), (.int 0), (.int 0)] (.int 0)) (g_y : n0 ≤ y) (ne_x_y : x ≠ y) (hn_c0 : ¬ ((255 : Int32) < c0)) (hn_c1 : (255 : Int32) < c1) :
  Met l Z mN18 jdk_52_method_21_code 7 (some .int) ({ frames := 0, cells := 0, slots := 0, locals := 0 } : Room) ws #[(.ref x), (.int 0), (.ref y), (.int 0), (.int 4)] h0 (Q_rs_c5_4_1 Z x kx y ky c0 c1 c2 c3 h0 n0) := by
 refine own_met (plainFor_of_name own_pn2) ?_
 intro p e s m below meth c s₁ hret hx hby hlk hml hown hnm X0 e0 hZ hh
 have N0 := Fr.nil n0
 refine Gz (castTop (own_ef_rs_c5_4_1 m x y)) ?_
 have KP : Keep h0 h0 [y] := Keep.refl _ _
 show Goes _ _ _ _ _ (fT s₁ m 0 #[vr x, vi 0, vr y, vi 0, vi 4, vu, vu] [])
 refine Gz (XS.iconst X0.here hx rfl (hb hby d18_0)) ?_
 refine Gz (XS.istore X0.here hx rfl (hb hby d18_1) rfl (l' := #[vr x, vi 0, vr y, vi 0, vi 4, vi 0, vu]) rfl) ?_
 refine gI X0 hx hby d18_3 rfl rfl ?_
 refine gI X0 hx hby d18_5 rfl rfl ?_
 refine Gz (XS.icmpNo X0.here hx rfl (hb hby d18_7) rfl (tlt (by decide : ((0 : Int32) < (4 : Int32)))).2.1) ?_
 refine gA X0 hx hby d18_10 rfl rfl rfl ?_
 show Goes _ _ _ _ _ (fT s₁ m 11 #[vr x, vi 0, vr y, vi 0, vi 4, vi 0, vu] [(.ref x)])
 refine gN X0 hx hby d18_11 rfl rfl ?_
 obtain ⟨cl1, Ar1, -, S1, N1z, H1, -⟩ := id V_x
 have hin1 : ¬ ((0 : Int32) < 0 ∨ cl1.slots.size ≤ ((0 : Int32)).toNatClampNeg) := inb_of S1 ⟨by decide, by decide⟩
 have hat1 : cl1.slots[((0 : Int32)).toNatClampNeg]? = some (.int c0) := Has.at H1 hin1 rfl
 refine Gs (fun _ tk => X0.caload hx (j := (0 : Int32)) (v := (.int c0)) (by rw [e0]; exact Ar1.1) (State.isArrayOf_alike hZ.alike Ar1.2.1) Ar1.2.2 hin1 hat1 (g := (mkF m 12 #[vr x, vi 0, vr y, vi 0, vi 4, vi 0, vu] [(.int 0), (.ref x)])) rfl rfl (hb hby d18_12) _ tk) ?_
 show Goes _ _ _ _ _ (fT s₁ m 13 #[vr x, vi 0, vr y, vi 0, vi 4, vi 0, vu] [(.int c0)])
 refine Gz (XS.istore X0.here hx rfl (hb hby d18_13) rfl (l' := #[vr x, vi 0, vr y, vi 0, vi 4, vi 0, vi c0]) rfl) ?_
 refine gI X0 hx hby d18_15 rfl rfl ?_
 refine Gz (XS.sipush X0.here hx rfl (hb hby d18_17)) ?_
 refine Gz (XS.icmpYes X0.here hx rfl (pc0 := 20) (pc' := 26) rfl (hb hby d18_20) rfl (flt hn_c0).2.2.2 (by decide) (by decide)) ?_
 refine gA X0 hx hby d18_26 rfl rfl rfl ?_
 refine gN X0 hx hby d18_27 rfl rfl ?_
 show Goes _ _ _ _ _ (fT s₁ m 28 #[vr x, vi 0, vr y, vi 0, vi 4, vi 0, vi c0] [(.int 0), (.ref y)])
 refine gI X0 hx hby d18_28 rfl rfl ?_
 show Goes _ _ _ _ _ (fT s₁ m 30 #[vr x, vi 0, vr y, vi 0, vi 4, vi 0, vi c0] [(.int c0), (.int 0), (.ref y)])
 refine Gz (XS.i2b X0.here hx rfl (hb hby d18_30) rfl) ?_
 show Goes _ _ _ _ _ (fT s₁ m 31 #[vr x, vi 0, vr y, vi 0, vi 4, vi 0, vi c0] [(.int (c0.toInt8.toInt32)), (.int 0), (.ref y)])
 obtain ⟨cl2, Ar2, q2, S2, N2z, H2, G2⟩ := V_y
 have hin2 : ¬ ((0 : Int32) < 0 ∨ cl2.slots.size ≤ ((0 : Int32)).toNatClampNeg) := inb_of S2 ⟨by decide, by decide⟩
 obtain ⟨T2, h2, X2, e2, W2, st2⟩ := stB X0 hx hZ e0 Ar2 (j := (0 : Int32)) hin2 (g := (mkF m 31 #[vr x, vi 0, vr y, vi 0, vi 4, vi 0, vi c0] [(.int (c0.toInt8.toInt32)), (.int 0), (.ref y)])) rfl rfl (hb hby d18_31)
 have Vn2 := Arv.set Ar2 q2 S2 N2z H2 G2 (fits_nar_byte _) W2 0 rfl (Nat.le_of_ble_eq_true rfl)
 have N2 := Fr.snoc X2 N0 g_y
 replace V_x := V_x.other W2 ne_x_y
 replace KP := KP.wr W2 (Or.inl (List.mem_of_getElem? (i := 0) rfl))
 have V_y : Arv Z h2 y ky .byte 4 [(.int (lo8 c0)), (.int 0), (.int 0), (.int 0)] (.int 0) := by have q := Vn2; rw [own_nb2] at q; exact q
 replace Z0 : n0 ≤ h2.size := by rw [W2.size]; exact Z0
 refine Gs st2 ?_
 show Goes _ _ _ _ _ (fT T2 m 32 #[vr x, vi 0, vr y, vi 0, vi 4, vi 0, vi c0] [])
 refine Gz (XS.iinc X2.here hx rfl (hb hby d18_32) rfl (l' := #[vr x, vi ((0 : Int32) + (1 : Int32)), vr y, vi 0, vi 4, vi 0, vi c0]) rfl) ?_
 rw [show ((0 : Int32) + (1 : Int32)) = 1 from by decide]
 show Goes _ _ _ _ _ (fT T2 m 35 #[vr x, vi 1, vr y, vi 0, vi 4, vi 0, vi c0] [])
 refine Gz (XS.iinc X2.here hx rfl (hb hby d18_35) rfl (l' := #[vr x, vi 1, vr y, vi ((0 : Int32) + (1 : Int32)), vi 4, vi 0, vi c0]) rfl) ?_
 rw [show ((0 : Int32) + (1 : Int32)) = 1 from by decide]
 show Goes _ _ _ _ _ (fT T2 m 38 #[vr x, vi 1, vr y, vi 1, vi 4, vi 0, vi c0] [])
 refine Gz (XS.iinc X2.here hx rfl (hb hby d18_38) rfl (l' := #[vr x, vi 1, vr y, vi 1, vi 4, vi ((0 : Int32) + (1 : Int32)), vi c0]) rfl) ?_
 rw [show ((0 : Int32) + (1 : Int32)) = 1 from by decide]
 show Goes _ _ _ _ _ (fT T2 m 41 #[vr x, vi 1, vr y, vi 1, vi 4, vi 1, vi c0] [])
 refine Gz (XS.goto X2.here hx rfl (pc0 := 41) (pc' := 3) rfl (hb hby d18_41) (by decide) (by decide)) ?_
 refine gI X2 hx hby d18_3 rfl rfl ?_
 refine gI X2 hx hby d18_5 rfl rfl ?_
 refine Gz (XS.icmpNo X2.here hx rfl (hb hby d18_7) rfl (tlt (by decide : ((1 : Int32) < (4 : Int32)))).2.1) ?_
 refine gA X2 hx hby d18_10 rfl rfl rfl ?_
 refine gN X2 hx hby d18_11 rfl rfl ?_
 show Goes _ _ _ _ _ (fT T2 m 12 #[vr x, vi 1, vr y, vi 1, vi 4, vi 1, vi c0] [(.int 1), (.ref x)])
 obtain ⟨cl3, Ar3, -, S3, N3z, H3, -⟩ := id V_x
 have hin3 : ¬ ((1 : Int32) < 0 ∨ cl3.slots.size ≤ ((1 : Int32)).toNatClampNeg) := inb_of S3 ⟨by decide, by decide⟩
 have hat3 : cl3.slots[((1 : Int32)).toNatClampNeg]? = some (.int c1) := Has.at H3 hin3 rfl
 refine Gs (fun _ tk => X2.caload hx (j := (1 : Int32)) (v := (.int c1)) (by rw [e2]; exact Ar3.1) (State.isArrayOf_alike hZ.alike Ar3.2.1) Ar3.2.2 hin3 hat3 (g := (mkF m 12 #[vr x, vi 1, vr y, vi 1, vi 4, vi 1, vi c0] [(.int 1), (.ref x)])) rfl rfl (hb hby d18_12) _ tk) ?_
 show Goes _ _ _ _ _ (fT T2 m 13 #[vr x, vi 1, vr y, vi 1, vi 4, vi 1, vi c0] [(.int c1)])
 refine Gz (XS.istore X2.here hx rfl (hb hby d18_13) rfl (l' := #[vr x, vi 1, vr y, vi 1, vi 4, vi 1, vi c1]) rfl) ?_
 refine gI X2 hx hby d18_15 rfl rfl ?_
 refine Gz (XS.sipush X2.here hx rfl (hb hby d18_17)) ?_
 refine Gz (XS.icmpNo X2.here hx rfl (hb hby d18_20) rfl (tlt hn_c1).2.2.2) ?_
 refine gI X2 hx hby d18_23 rfl rfl ?_
 refine Goes.ret X2 (some (.int 1)) (fun h => by rw [hret] at h; cases h) hlk (by decide) (by decide) ?_ (fun fs hr => ?_)
 ·rw [e2]; exact ⟨rfl, N2, KP, V_y⟩
 ·exact retI X2 hx hret (hb hby d18_25) hr
theorem own_ef_rs_c3_4_1 (m : MethodId) (x0 : Addr) : entryFrame m #[(.ref x0), (.int 0), (.int 4)] 6 = mkF m 0 #[vr x0, vi 0, vi 4, vu, vu, vu] [] := by first | (simp [entryFrame, mkF, argsToLocals, Value.category]; done) | rfl
def Q_rs_c3_4_1 (Z : State) (x : Addr) (kx : ClassId) (c0 : Int32) (c1 : Int32) (c2 : Int32) (c3 : Int32) (h0 : Heap) (n0 : Nat) (v : Option Value) (h : Heap) (L : List Loc) : Prop := ∃ y : Addr, ∃ ky : ClassId, v = some (.ref y) ∧ Fr n0 L ∧ Keep h0 h [] ∧ Arv Z h y ky .byte 8 [(.int (lo8 c0)), (.int (hi8 c0)), (.int (lo8 c1)), (.int (hi8 c1)), (.int (lo8 c2)), (.int (hi8 c2)), (.int (lo8 c3)), (.int (hi8 c3))] (.int 0) ∧ n0 ≤ y ∧ h0.size ≤ y
set_option maxRecDepth 65536 in
set_option maxHeartbeats 40000000 in
theorem rs_c3_4_1 (l : Launch) (Z : State) (a0 : Array Value) (hw : HW a0 Z) (ws : List Jvm.Cond) (x : Addr) (kx : ClassId) (c0 : Int32) (c1 : Int32) (c2 : Int32) (c3 : Int32) (h0 : Heap) (n0 : Nat) (Z0 : n0 ≤ h0.size) (V_x : Arv Z h0 x kx .char 4 [(.int c0), (.int c1), (.int c2), (.int c3)] (.int 0)) (hn_c0 : ¬ ((255 : Int32) < c0)) (hn_c1 : (255 : Int32) < c1) (hC_c0 : Chr c0) (hC_c1 : Chr c1) (hC_c2 : Chr c2) (hC_c3 : Chr c3) (sgA : Sta Z h0 "java/lang/StringUTF16" "$assertionsDisabled" "Z" (.int 1)) (sgH : Sta Z h0 "java/lang/StringUTF16" "HI_BYTE_SHIFT" "I" (.int 0)) (sgL : Sta Z h0 "java/lang/StringUTF16" "LO_BYTE_SHIFT" "I" (.int 8)) :
  Met l Z mN19 jdk_52_method_16_code 6 (some (.array .byte)) ({ frames := 3, cells := 2, slots := 12, locals := 40 } : Room) ws #[(.ref x), (.int 0), (.int 4)] h0 (Q_rs_c3_4_1 Z x kx c0 c1 c2 c3 h0 n0) := by
 refine own_met (plainFor_of_name own_pn2) ?_
 intro p e s m below meth c s₁ hret hx hby hlk hml hown hnm X0 e0 hZ hh
 have N0 := Fr.nil n0
 refine Gz (castTop (own_ef_rs_c3_4_1 m x)) ?_
 have KP : Keep h0 h0 [] := Keep.refl _ _
 show Goes _ _ _ _ _ (fT s₁ m 0 #[vr x, vi 0, vi 4, vu, vu, vu] [])
 refine gN X0 hx hby d19_0 rfl rfl ?_
 obtain ⟨T1, h1, k1, X1, e1, E1, A1, st1⟩ := newP X0 hx hZ (gw hw 20 rfl) e0 (g := (mkF m 1 #[vr x, vi 0, vi 4, vu, vu, vu] [(.int 4)])) rfl (hb hby d19_1) rfl (by decide) (cap := 4) (by decide) (by decide) (by decide) (by decide)
 obtain ⟨b1, gq1⟩ : ∃ z, z = h0.size := ⟨_, rfl⟩
 rw [← gq1] at A1 st1
 have g_b1 : n0 ≤ b1 := by rw [gq1]; exact Z0
 have sz_b1 : h0.size ≤ b1 := by rw [gq1]; exact KP.1
 have ne_x_b1 : x ≠ b1 := by rw [gq1]; exact Nat.ne_of_lt V_x.lt
 replace V_x := V_x.ext E1
 replace sgA := sgA.ext E1
 replace sgH := sgH.ext E1
 replace sgL := sgL.ext E1
 replace KP := KP.ext E1
 replace Z0 : n0 ≤ h1.size := Nat.le_trans Z0 E1.1
 have V_b1 : Arv Z h1 b1 k1 .byte 4 [(.int 0), (.int 0), (.int 0), (.int 0)] (.int 0) := (Arv.new A1 (by decide)).pad (pad_rep [] (.int 0) 4)
 refine Gs st1 ?_
 show Goes _ _ _ _ _ (fT T1 m 3 #[vr x, vi 0, vi 4, vu, vu, vu] [(.ref b1)])
 refine Gz (XS.astoreN X1.here hx rfl (hb hby d19_3) rfl rfl (l' := #[vr x, vi 0, vi 4, vr b1, vu, vu]) rfl) ?_
 refine gA X1 hx hby d19_4 rfl rfl rfl ?_
 refine gN X1 hx hby d19_5 rfl rfl ?_
 refine gA X1 hx hby d19_6 rfl rfl rfl ?_
 refine Gz (XS.iconst X1.here hx rfl (hb hby d19_7)) ?_
 refine gN X1 hx hby d19_8 rfl rfl ?_
 show Goes _ _ _ _ _ (fT T1 m 9 #[vr x, vi 0, vi 4, vr b1, vu, vu] [(.int 4), (.int 0), (.ref b1), (.int 0), (.ref x)])
 obtain ⟨_, _, ⟨T2, L2, k2, n2⟩, -, X2, ⟨Lc2, hQ2, l2, y2, z2⟩, st2⟩ := Jvm.LawKit.callS X1 hx (y := mN18) hown (gz hZ hw 57 rfl) (gz hZ hw 58 rfl) (gz hZ hw 55 rfl) (gz hZ hw 59 rfl) (by decide) (backOf (W := 0) (rs_c5_4_1 l Z a0 hw [] x kx b1 k1 c0 c1 c2 c3 h1 n0 Z0 V_x V_b1 g_b1 ne_x_b1 (by first | assumption | decide) (by first | assumption | decide)) hZ (gw hw 59 rfl) (gw hw 55 rfl) (by decide) (by decide)) (g := (mkF m 9 #[vr x, vi 0, vi 4, vr b1, vu, vu] [(.int 4), (.int 0), (.ref b1), (.int 0), (.ref x)])) rfl hml.symm (argsL := [(.ref x), (.int 0), (.ref b1), (.int 0), (.int 4)]) (rest := []) (lenOf own_pd13 rfl) rfl (wz rfl) (hb hby d19_9) (fun _ _ => ⟨rfl, e1, (by decide : 1 + 0 ≤ _), (by decide : 4 + 0 ≤ _)⟩)
 dsimp only [Pt.U, Pt.locs, Pt.cells, Pt.slots] at X2 l2 y2 z2 st2 hQ2
 subst l2 y2 z2
 obtain ⟨rfl, N2q, K2, V_b1_2'⟩ := hQ2
 have N2 := Fr.app N0 N2q
 replace sgA := own_staK sgA K2 (allS (own_obA V_b1) all0)
 replace sgH := own_staK sgH K2 (allS (own_obA V_b1) all0)
 replace sgL := own_staK sgL K2 (allS (own_obA V_b1) all0)
 replace V_x := V_x.keep K2 (ninS ne_x_b1 nin0)
 replace KP := KP.trans K2 (allS (Or.inr sz_b1) all0)
 replace Z0 := Nat.le_trans Z0 K2.1
 have V_b1 := V_b1_2'
 refine Gs st2 ?_
 show Goes _ _ _ _ _ (fT T2 m 12 #[vr x, vi 0, vi 4, vr b1, vu, vu] [(.int 1)])
 refine Gz (XS.istore X2.here hx rfl (hb hby d19_12) rfl (l' := #[vr x, vi 0, vi 4, vr b1, vi 1, vu]) rfl) ?_
 refine gI X2 hx hby d19_14 rfl rfl ?_
 refine gN X2 hx hby d19_16 rfl rfl ?_
 refine Gz (XS.icmpNo X2.here hx rfl (hb hby d19_17) rfl (feq (by decide : ¬ ((1 : Int32) = (4 : Int32)))).1) ?_
 refine gA X2 hx hby d19_20 rfl rfl rfl ?_
 refine gN X2 hx hby d19_21 rfl rfl ?_
 show Goes _ _ _ _ _ (fT T2 m 22 #[vr x, vi 0, vi 4, vr b1, vi 1, vu] [(.int 0), (.ref x)])
 refine gN X2 hx hby d19_22 rfl rfl ?_
 have ltc3_x : x < T2.heap.size := V_x.lt
 have ltc3_b1 : b1 < T2.heap.size := V_b1.lt
 have szs3 : h0.size ≤ T2.heap.size := KP.1
 obtain ⟨_, _, ⟨T3, L3, k3, n3⟩, -, X3, ⟨Lc3, hQ3, l3, y3, z3⟩, st3⟩ := Jvm.LawKit.callS X2 hx (y := mN17) hown (gz hZ hw 60 rfl) (gz hZ hw 61 rfl) (gz hZ hw 55 rfl) (gz hZ hw 62 rfl) (by decide) (backOf (W := 0) (rs_tb_4 l Z a0 hw [] x kx c0 c1 c2 c3 T2.heap n0 Z0 V_x sgA sgH sgL) hZ (gw hw 62 rfl) (gw hw 55 rfl) (by decide) (by decide)) (g := (mkF m 23 #[vr x, vi 0, vi 4, vr b1, vi 1, vu] [(.int 4), (.int 0), (.ref x)])) rfl hml.symm (argsL := [(.ref x), (.int 0), (.int 4)]) (rest := []) (lenOf own_pd14 rfl) rfl (wz rfl) (hb hby d19_23) (fun _ _ => ⟨rfl, rfl, (by decide : 1 + 1 ≤ _), (by decide : 4 + 8 ≤ _)⟩)
 dsimp only [Pt.U, Pt.locs, Pt.cells, Pt.slots] at X3 l3 y3 z3 st3 hQ3
 subst l3 y3 z3
 obtain ⟨y3, ky3, rfl, N3q, K3, V_y3_3', g_y3_3', sz_y3_3'⟩ := hQ3
 have N3 := Fr.app N2 N3q
 replace sgA := own_staK sgA K3 all0
 replace sgH := own_staK sgH K3 all0
 replace sgL := own_staK sgL K3 all0
 replace KP := KP.trans K3 all0
 replace Z0 := Nat.le_trans Z0 K3.1
 have V_y3 := V_y3_3'
 have g_y3 := g_y3_3'
 have szc_y3 := sz_y3_3'
 have ne_x_y3 : x ≠ y3 := Nat.ne_of_lt (Nat.lt_of_lt_of_le ltc3_x szc_y3)
 have ne_b1_y3 : b1 ≠ y3 := Nat.ne_of_lt (Nat.lt_of_lt_of_le ltc3_b1 szc_y3)
 have sz_y3 : h0.size ≤ y3 := Nat.le_trans szs3 szc_y3
 refine Gs st3 ?_
 show Goes _ _ _ _ _ (fT T3 m 26 #[vr x, vi 0, vi 4, vr b1, vi 1, vu] [(.ref y3)])
 refine Gz (XS.astore X3.here hx rfl (hb hby d19_26) rfl rfl (l' := #[vr x, vi 0, vi 4, vr b1, vi 1, vr y3]) rfl) ?_
 refine Gz (XS.aload X3.here hx rfl (hb hby d19_28) rfl rfl) ?_
 refine gI X3 hx hby d19_30 rfl rfl ?_
 obtain ⟨_, _, ⟨T4, L4, k4, n4⟩, -, X4, ⟨Lc4, hQ4, l4, y4, z4⟩, st4⟩ := Jvm.LawKit.callS X3 hx (y := mN5) hown (gz hZ hw 76 rfl) (gz hZ hw 77 rfl) (gz hZ hw 55 rfl) (gz hZ hw 78 rfl) (by decide) (backOf (W := 0) (rs_gch l Z a0 hw [] y3 ky3 [c0, c1, c2, c3] (1 : Int32) c1 T3.heap n0 Z0 V_y3 (by first | assumption | decide) (own_il 1 _ (by decide) (by simp) (Nat.le_of_ble_eq_true rfl)) rfl (Nat.le_of_ble_eq_true rfl) hC_c1 sgA sgH sgL) hZ (gw hw 78 rfl) (gw hw 55 rfl) (by decide) (by decide)) (g := (mkF m 32 #[vr x, vi 0, vi 4, vr b1, vi 1, vr y3] [(.int 1), (.ref y3)])) rfl hml.symm (argsL := [(.ref y3), (.int 1)]) (rest := []) (lenOf own_pd2 rfl) rfl (wz rfl) (hb hby d19_32) (fun _ _ => ⟨rfl, rfl, (by decide : 2 + 0 ≤ _), (by decide : 12 + 0 ≤ _)⟩)
 dsimp only [Pt.U, Pt.locs, Pt.cells, Pt.slots] at X4 l4 y4 z4 st4 hQ4
 subst l4 y4 z4
 obtain ⟨rfl, N4q, e4⟩ := hQ4
 have N4 := Fr.app N3 N4q
 refine Gs st4 ?_
 show Goes _ _ _ _ _ (fT T4 m 35 #[vr x, vi 0, vi 4, vr b1, vi 1, vr y3] [(.int c1)])
 refine Gz (XS.sipush X4.here hx rfl (hb hby d19_35)) ?_
 refine Gz (XS.icmpYes X4.here hx rfl (pc0 := 38) (pc' := 54) rfl (hb hby d19_38) rfl (tlt hn_c1).2.2.1 (by decide) (by decide)) ?_
 refine Gz (XS.aload X4.here hx rfl (hb hby d19_54) rfl rfl) ?_
 refine Goes.ret X4 (some (.ref y3)) (fun h => by rw [hret] at h; cases h) hlk (by decide) (by decide) ?_ (fun fs hr => ?_)
 ·rw [e4]; exact ⟨y3, ky3, rfl, N4, KP, V_y3, g_y3, sz_y3⟩
 ·exact own_retA X4 hx hret rfl rfl (hb hby d19_56) hr
theorem own_ef_rs_c5_4_2 (m : MethodId) (x0 : Addr) (x2 : Addr) : entryFrame m #[(.ref x0), (.int 0), (.ref x2), (.int 0), (.int 4)] 7 = mkF m 0 #[vr x0, vi 0, vr x2, vi 0, vi 4, vu, vu] [] := by first | (simp [entryFrame, mkF, argsToLocals, Value.category]; done) | rfl
def Q_rs_c5_4_2 (Z : State) (x : Addr) (kx : ClassId) (y : Addr) (ky : ClassId) (c0 : Int32) (c1 : Int32) (c2 : Int32) (c3 : Int32) (h0 : Heap) (n0 : Nat) (v : Option Value) (h : Heap) (L : List Loc) : Prop := v = some (.int 2) ∧ Fr n0 L ∧ Keep h0 h [y] ∧ Arv Z h y ky .byte 4 [(.int (lo8 c0)), (.int (lo8 c1)), (.int 0), (.int 0)] (.int 0)
set_option maxRecDepth 65536 in
set_option maxHeartbeats 40000000 in
theorem rs_c5_4_2 (l : Launch) (Z : State) (a0 : Array Value) (hw : HW a0 Z) (ws : List Jvm.Cond) (x : Addr) (kx : ClassId) (y : Addr) (ky : ClassId) (c0 : Int32) (c1 : Int32) (c2 : Int32) (c3 : Int32) (h0 : Heap) (n0 : Nat) (Z0 : n0 ≤ h0.size) (V_x : Arv Z h0 x kx .char 4 [(.int c0), (.int c1), (.int c2), (.int c3)] (.int 0)) (V_y : Arv Z h0 y ky .byte 4 [(.int 0), (.int 0), (.int 0), (.int 0)] (.int 0)) (g_y : n0 ≤ y) (ne_x_y : x ≠ y) (hn_c0 : ¬ ((255 : Int32) < c0)) (hn_c1 : ¬ ((255 : Int32) < c1)) (hn_c2 : (255 : Int32) < c2) :
  Met l Z mN18 jdk_52_method_21_code 7 (some .int) ({ frames := 0, cells := 0, slots := 0, locals := 0 } : Room) ws #[(.ref x), (.int 0), (.ref y), (.int 0), (.int 4)] h0 (Q_rs_c5_4_2 Z x kx y ky c0 c1 c2 c3 h0 n0) := by
 refine own_met (plainFor_of_name own_pn2) ?_
 intro p e s m below meth c s₁ hret hx hby hlk hml hown hnm X0 e0 hZ hh
 have N0 := Fr.nil n0
 refine Gz (castTop (own_ef_rs_c5_4_2 m x y)) ?_
 have KP : Keep h0 h0 [y] := Keep.refl _ _
 show Goes _ _ _ _ _ (fT s₁ m 0 #[vr x, vi 0, vr y, vi 0, vi 4, vu, vu] [])
 refine Gz (XS.iconst X0.here hx rfl (hb hby d18_0)) ?_
 refine Gz (XS.istore X0.here hx rfl (hb hby d18_1) rfl (l' := #[vr x, vi 0, vr y, vi 0, vi 4, vi 0, vu]) rfl) ?_
 refine gI X0 hx hby d18_3 rfl rfl ?_
 refine gI X0 hx hby d18_5 rfl rfl ?_
 refine Gz (XS.icmpNo X0.here hx rfl (hb hby d18_7) rfl (tlt (by decide : ((0 : Int32) < (4 : Int32)))).2.1) ?_
 refine gA X0 hx hby d18_10 rfl rfl rfl ?_
 show Goes _ _ _ _ _ (fT s₁ m 11 #[vr x, vi 0, vr y, vi 0, vi 4, vi 0, vu] [(.ref x)])
 refine gN X0 hx hby d18_11 rfl rfl ?_
 obtain ⟨cl1, Ar1, -, S1, N1z, H1, -⟩ := id V_x
 have hin1 : ¬ ((0 : Int32) < 0 ∨ cl1.slots.size ≤ ((0 : Int32)).toNatClampNeg) := inb_of S1 ⟨by decide, by decide⟩
 have hat1 : cl1.slots[((0 : Int32)).toNatClampNeg]? = some (.int c0) := Has.at H1 hin1 rfl
 refine Gs (fun _ tk => X0.caload hx (j := (0 : Int32)) (v := (.int c0)) (by rw [e0]; exact Ar1.1) (State.isArrayOf_alike hZ.alike Ar1.2.1) Ar1.2.2 hin1 hat1 (g := (mkF m 12 #[vr x, vi 0, vr y, vi 0, vi 4, vi 0, vu] [(.int 0), (.ref x)])) rfl rfl (hb hby d18_12) _ tk) ?_
 show Goes _ _ _ _ _ (fT s₁ m 13 #[vr x, vi 0, vr y, vi 0, vi 4, vi 0, vu] [(.int c0)])
 refine Gz (XS.istore X0.here hx rfl (hb hby d18_13) rfl (l' := #[vr x, vi 0, vr y, vi 0, vi 4, vi 0, vi c0]) rfl) ?_
 refine gI X0 hx hby d18_15 rfl rfl ?_
 refine Gz (XS.sipush X0.here hx rfl (hb hby d18_17)) ?_
 refine Gz (XS.icmpYes X0.here hx rfl (pc0 := 20) (pc' := 26) rfl (hb hby d18_20) rfl (flt hn_c0).2.2.2 (by decide) (by decide)) ?_
 refine gA X0 hx hby d18_26 rfl rfl rfl ?_
 refine gN X0 hx hby d18_27 rfl rfl ?_
 show Goes _ _ _ _ _ (fT s₁ m 28 #[vr x, vi 0, vr y, vi 0, vi 4, vi 0, vi c0] [(.int 0), (.ref y)])
 refine gI X0 hx hby d18_28 rfl rfl ?_
 show Goes _ _ _ _ _ (fT s₁ m 30 #[vr x, vi 0, vr y, vi 0, vi 4, vi 0, vi c0] [(.int c0), (.int 0), (.ref y)])
 refine Gz (XS.i2b X0.here hx rfl (hb hby d18_30) rfl) ?_
 show Goes _ _ _ _ _ (fT s₁ m 31 #[vr x, vi 0, vr y, vi 0, vi 4, vi 0, vi c0] [(.int (c0.toInt8.toInt32)), (.int 0), (.ref y)])
 obtain ⟨cl2, Ar2, q2, S2, N2z, H2, G2⟩ := V_y
 have hin2 : ¬ ((0 : Int32) < 0 ∨ cl2.slots.size ≤ ((0 : Int32)).toNatClampNeg) := inb_of S2 ⟨by decide, by decide⟩
 obtain ⟨T2, h2, X2, e2, W2, st2⟩ := stB X0 hx hZ e0 Ar2 (j := (0 : Int32)) hin2 (g := (mkF m 31 #[vr x, vi 0, vr y, vi 0, vi 4, vi 0, vi c0] [(.int (c0.toInt8.toInt32)), (.int 0), (.ref y)])) rfl rfl (hb hby d18_31)
 have Vn2 := Arv.set Ar2 q2 S2 N2z H2 G2 (fits_nar_byte _) W2 0 rfl (Nat.le_of_ble_eq_true rfl)
 have N2 := Fr.snoc X2 N0 g_y
 replace V_x := V_x.other W2 ne_x_y
 replace KP := KP.wr W2 (Or.inl (List.mem_of_getElem? (i := 0) rfl))
 have V_y : Arv Z h2 y ky .byte 4 [(.int (lo8 c0)), (.int 0), (.int 0), (.int 0)] (.int 0) := by have q := Vn2; rw [own_nb2] at q; exact q
 replace Z0 : n0 ≤ h2.size := by rw [W2.size]; exact Z0
 refine Gs st2 ?_
 show Goes _ _ _ _ _ (fT T2 m 32 #[vr x, vi 0, vr y, vi 0, vi 4, vi 0, vi c0] [])
 refine Gz (XS.iinc X2.here hx rfl (hb hby d18_32) rfl (l' := #[vr x, vi ((0 : Int32) + (1 : Int32)), vr y, vi 0, vi 4, vi 0, vi c0]) rfl) ?_
 rw [show ((0 : Int32) + (1 : Int32)) = 1 from by decide]
 show Goes _ _ _ _ _ (fT T2 m 35 #[vr x, vi 1, vr y, vi 0, vi 4, vi 0, vi c0] [])
 refine Gz (XS.iinc X2.here hx rfl (hb hby d18_35) rfl (l' := #[vr x, vi 1, vr y, vi ((0 : Int32) + (1 : Int32)), vi 4, vi 0, vi c0]) rfl) ?_
 rw [show ((0 : Int32) + (1 : Int32)) = 1 from by decide]
 show Goes _ _ _ _ _ (fT T2 m 38 #[vr x, vi 1, vr y, vi 1, vi 4, vi 0, vi c0] [])
 refine Gz (XS.iinc X2.here hx rfl (hb hby d18_38) rfl (l' := #[vr x, vi 1, vr y, vi 1, vi 4, vi ((0 : Int32) + (1 : Int32)), vi c0]) rfl) ?_
 rw [show ((0 : Int32) + (1 : Int32)) = 1 from by decide]
 show Goes _ _ _ _ _ (fT T2 m 41 #[vr x, vi 1, vr y, vi 1, vi 4, vi 1, vi c0] [])
 refine Gz (XS.goto X2.here hx rfl (pc0 := 41) (pc' := 3) rfl (hb hby d18_41) (by decide) (by decide)) ?_
 refine gI X2 hx hby d18_3 rfl rfl ?_
 refine gI X2 hx hby d18_5 rfl rfl ?_
 refine Gz (XS.icmpNo X2.here hx rfl (hb hby d18_7) rfl (tlt (by decide : ((1 : Int32) < (4 : Int32)))).2.1) ?_
 refine gA X2 hx hby d18_10 rfl rfl rfl ?_
 refine gN X2 hx hby d18_11 rfl rfl ?_
 show Goes _ _ _ _ _ (fT T2 m 12 #[vr x, vi 1, vr y, vi 1, vi 4, vi 1, vi c0] [(.int 1), (.ref x)])
 obtain ⟨cl3, Ar3, -, S3, N3z, H3, -⟩ := id V_x
 have hin3 : ¬ ((1 : Int32) < 0 ∨ cl3.slots.size ≤ ((1 : Int32)).toNatClampNeg) := inb_of S3 ⟨by decide, by decide⟩
 have hat3 : cl3.slots[((1 : Int32)).toNatClampNeg]? = some (.int c1) := Has.at H3 hin3 rfl
 refine Gs (fun _ tk => X2.caload hx (j := (1 : Int32)) (v := (.int c1)) (by rw [e2]; exact Ar3.1) (State.isArrayOf_alike hZ.alike Ar3.2.1) Ar3.2.2 hin3 hat3 (g := (mkF m 12 #[vr x, vi 1, vr y, vi 1, vi 4, vi 1, vi c0] [(.int 1), (.ref x)])) rfl rfl (hb hby d18_12) _ tk) ?_
 show Goes _ _ _ _ _ (fT T2 m 13 #[vr x, vi 1, vr y, vi 1, vi 4, vi 1, vi c0] [(.int c1)])
 refine Gz (XS.istore X2.here hx rfl (hb hby d18_13) rfl (l' := #[vr x, vi 1, vr y, vi 1, vi 4, vi 1, vi c1]) rfl) ?_
 refine gI X2 hx hby d18_15 rfl rfl ?_
 refine Gz (XS.sipush X2.here hx rfl (hb hby d18_17)) ?_
 refine Gz (XS.icmpYes X2.here hx rfl (pc0 := 20) (pc' := 26) rfl (hb hby d18_20) rfl (flt hn_c1).2.2.2 (by decide) (by decide)) ?_
 refine gA X2 hx hby d18_26 rfl rfl rfl ?_
 refine gN X2 hx hby d18_27 rfl rfl ?_
 show Goes _ _ _ _ _ (fT T2 m 28 #[vr x, vi 1, vr y, vi 1, vi 4, vi 1, vi c1] [(.int 1), (.ref y)])
 refine gI X2 hx hby d18_28 rfl rfl ?_
 show Goes _ _ _ _ _ (fT T2 m 30 #[vr x, vi 1, vr y, vi 1, vi 4, vi 1, vi c1] [(.int c1), (.int 1), (.ref y)])
 refine Gz (XS.i2b X2.here hx rfl (hb hby d18_30) rfl) ?_
 show Goes _ _ _ _ _ (fT T2 m 31 #[vr x, vi 1, vr y, vi 1, vi 4, vi 1, vi c1] [(.int (c1.toInt8.toInt32)), (.int 1), (.ref y)])
 obtain ⟨cl4, Ar4, q4, S4, N4z, H4, G4⟩ := V_y
 have hin4 : ¬ ((1 : Int32) < 0 ∨ cl4.slots.size ≤ ((1 : Int32)).toNatClampNeg) := inb_of S4 ⟨by decide, by decide⟩
 obtain ⟨T4, h4, X4, e4, W4, st4⟩ := stB X2 hx hZ e2 Ar4 (j := (1 : Int32)) hin4 (g := (mkF m 31 #[vr x, vi 1, vr y, vi 1, vi 4, vi 1, vi c1] [(.int (c1.toInt8.toInt32)), (.int 1), (.ref y)])) rfl rfl (hb hby d18_31)
 have Vn4 := Arv.set Ar4 q4 S4 N4z H4 G4 (fits_nar_byte _) W4 1 rfl (Nat.le_of_ble_eq_true rfl)
 have N4 := Fr.snoc X4 N2 g_y
 replace V_x := V_x.other W4 ne_x_y
 replace KP := KP.wr W4 (Or.inl (List.mem_of_getElem? (i := 0) rfl))
 have V_y : Arv Z h4 y ky .byte 4 [(.int (lo8 c0)), (.int (lo8 c1)), (.int 0), (.int 0)] (.int 0) := by have q := Vn4; rw [own_nb2] at q; exact q
 replace Z0 : n0 ≤ h4.size := by rw [W4.size]; exact Z0
 refine Gs st4 ?_
 show Goes _ _ _ _ _ (fT T4 m 32 #[vr x, vi 1, vr y, vi 1, vi 4, vi 1, vi c1] [])
 refine Gz (XS.iinc X4.here hx rfl (hb hby d18_32) rfl (l' := #[vr x, vi ((1 : Int32) + (1 : Int32)), vr y, vi 1, vi 4, vi 1, vi c1]) rfl) ?_
 rw [show ((1 : Int32) + (1 : Int32)) = 2 from by decide]
 show Goes _ _ _ _ _ (fT T4 m 35 #[vr x, vi 2, vr y, vi 1, vi 4, vi 1, vi c1] [])
 refine Gz (XS.iinc X4.here hx rfl (hb hby d18_35) rfl (l' := #[vr x, vi 2, vr y, vi ((1 : Int32) + (1 : Int32)), vi 4, vi 1, vi c1]) rfl) ?_
 rw [show ((1 : Int32) + (1 : Int32)) = 2 from by decide]
 show Goes _ _ _ _ _ (fT T4 m 38 #[vr x, vi 2, vr y, vi 2, vi 4, vi 1, vi c1] [])
 refine Gz (XS.iinc X4.here hx rfl (hb hby d18_38) rfl (l' := #[vr x, vi 2, vr y, vi 2, vi 4, vi ((1 : Int32) + (1 : Int32)), vi c1]) rfl) ?_
 rw [show ((1 : Int32) + (1 : Int32)) = 2 from by decide]
 show Goes _ _ _ _ _ (fT T4 m 41 #[vr x, vi 2, vr y, vi 2, vi 4, vi 2, vi c1] [])
 refine Gz (XS.goto X4.here hx rfl (pc0 := 41) (pc' := 3) rfl (hb hby d18_41) (by decide) (by decide)) ?_
 refine gI X4 hx hby d18_3 rfl rfl ?_
 refine gI X4 hx hby d18_5 rfl rfl ?_
 refine Gz (XS.icmpNo X4.here hx rfl (hb hby d18_7) rfl (tlt (by decide : ((2 : Int32) < (4 : Int32)))).2.1) ?_
 refine gA X4 hx hby d18_10 rfl rfl rfl ?_
 refine gN X4 hx hby d18_11 rfl rfl ?_
 show Goes _ _ _ _ _ (fT T4 m 12 #[vr x, vi 2, vr y, vi 2, vi 4, vi 2, vi c1] [(.int 2), (.ref x)])
 obtain ⟨cl5, Ar5, -, S5, N5z, H5, -⟩ := id V_x
 have hin5 : ¬ ((2 : Int32) < 0 ∨ cl5.slots.size ≤ ((2 : Int32)).toNatClampNeg) := inb_of S5 ⟨by decide, by decide⟩
 have hat5 : cl5.slots[((2 : Int32)).toNatClampNeg]? = some (.int c2) := Has.at H5 hin5 rfl
 refine Gs (fun _ tk => X4.caload hx (j := (2 : Int32)) (v := (.int c2)) (by rw [e4]; exact Ar5.1) (State.isArrayOf_alike hZ.alike Ar5.2.1) Ar5.2.2 hin5 hat5 (g := (mkF m 12 #[vr x, vi 2, vr y, vi 2, vi 4, vi 2, vi c1] [(.int 2), (.ref x)])) rfl rfl (hb hby d18_12) _ tk) ?_
 show Goes _ _ _ _ _ (fT T4 m 13 #[vr x, vi 2, vr y, vi 2, vi 4, vi 2, vi c1] [(.int c2)])
 refine Gz (XS.istore X4.here hx rfl (hb hby d18_13) rfl (l' := #[vr x, vi 2, vr y, vi 2, vi 4, vi 2, vi c2]) rfl) ?_
 refine gI X4 hx hby d18_15 rfl rfl ?_
 refine Gz (XS.sipush X4.here hx rfl (hb hby d18_17)) ?_
 refine Gz (XS.icmpNo X4.here hx rfl (hb hby d18_20) rfl (tlt hn_c2).2.2.2) ?_
 refine gI X4 hx hby d18_23 rfl rfl ?_
 refine Goes.ret X4 (some (.int 2)) (fun h => by rw [hret] at h; cases h) hlk (by decide) (by decide) ?_ (fun fs hr => ?_)
 ·rw [e4]; exact ⟨rfl, N4, KP, V_y⟩
 ·exact retI X4 hx hret (hb hby d18_25) hr
theorem own_ef_rs_c3_4_2 (m : MethodId) (x0 : Addr) : entryFrame m #[(.ref x0), (.int 0), (.int 4)] 6 = mkF m 0 #[vr x0, vi 0, vi 4, vu, vu, vu] [] := by first | (simp [entryFrame, mkF, argsToLocals, Value.category]; done) | rfl
def Q_rs_c3_4_2 (Z : State) (x : Addr) (kx : ClassId) (c0 : Int32) (c1 : Int32) (c2 : Int32) (c3 : Int32) (h0 : Heap) (n0 : Nat) (v : Option Value) (h : Heap) (L : List Loc) : Prop := ∃ y : Addr, ∃ ky : ClassId, v = some (.ref y) ∧ Fr n0 L ∧ Keep h0 h [] ∧ Arv Z h y ky .byte 8 [(.int (lo8 c0)), (.int (hi8 c0)), (.int (lo8 c1)), (.int (hi8 c1)), (.int (lo8 c2)), (.int (hi8 c2)), (.int (lo8 c3)), (.int (hi8 c3))] (.int 0) ∧ n0 ≤ y ∧ h0.size ≤ y
set_option maxRecDepth 65536 in
set_option maxHeartbeats 40000000 in
theorem rs_c3_4_2 (l : Launch) (Z : State) (a0 : Array Value) (hw : HW a0 Z) (ws : List Jvm.Cond) (x : Addr) (kx : ClassId) (c0 : Int32) (c1 : Int32) (c2 : Int32) (c3 : Int32) (h0 : Heap) (n0 : Nat) (Z0 : n0 ≤ h0.size) (V_x : Arv Z h0 x kx .char 4 [(.int c0), (.int c1), (.int c2), (.int c3)] (.int 0)) (hn_c0 : ¬ ((255 : Int32) < c0)) (hn_c1 : ¬ ((255 : Int32) < c1)) (hn_c2 : (255 : Int32) < c2) (hC_c0 : Chr c0) (hC_c1 : Chr c1) (hC_c2 : Chr c2) (hC_c3 : Chr c3) (sgA : Sta Z h0 "java/lang/StringUTF16" "$assertionsDisabled" "Z" (.int 1)) (sgH : Sta Z h0 "java/lang/StringUTF16" "HI_BYTE_SHIFT" "I" (.int 0)) (sgL : Sta Z h0 "java/lang/StringUTF16" "LO_BYTE_SHIFT" "I" (.int 8)) :
  Met l Z mN19 jdk_52_method_16_code 6 (some (.array .byte)) ({ frames := 3, cells := 2, slots := 12, locals := 40 } : Room) ws #[(.ref x), (.int 0), (.int 4)] h0 (Q_rs_c3_4_2 Z x kx c0 c1 c2 c3 h0 n0) := by
 refine own_met (plainFor_of_name own_pn2) ?_
 intro p e s m below meth c s₁ hret hx hby hlk hml hown hnm X0 e0 hZ hh
 have N0 := Fr.nil n0
 refine Gz (castTop (own_ef_rs_c3_4_2 m x)) ?_
 have KP : Keep h0 h0 [] := Keep.refl _ _
 show Goes _ _ _ _ _ (fT s₁ m 0 #[vr x, vi 0, vi 4, vu, vu, vu] [])
 refine gN X0 hx hby d19_0 rfl rfl ?_
 obtain ⟨T1, h1, k1, X1, e1, E1, A1, st1⟩ := newP X0 hx hZ (gw hw 20 rfl) e0 (g := (mkF m 1 #[vr x, vi 0, vi 4, vu, vu, vu] [(.int 4)])) rfl (hb hby d19_1) rfl (by decide) (cap := 4) (by decide) (by decide) (by decide) (by decide)
 obtain ⟨b1, gq1⟩ : ∃ z, z = h0.size := ⟨_, rfl⟩
 rw [← gq1] at A1 st1
 have g_b1 : n0 ≤ b1 := by rw [gq1]; exact Z0
 have sz_b1 : h0.size ≤ b1 := by rw [gq1]; exact KP.1
 have ne_x_b1 : x ≠ b1 := by rw [gq1]; exact Nat.ne_of_lt V_x.lt
 replace V_x := V_x.ext E1
 replace sgA := sgA.ext E1
 replace sgH := sgH.ext E1
 replace sgL := sgL.ext E1
 replace KP := KP.ext E1
 replace Z0 : n0 ≤ h1.size := Nat.le_trans Z0 E1.1
 have V_b1 : Arv Z h1 b1 k1 .byte 4 [(.int 0), (.int 0), (.int 0), (.int 0)] (.int 0) := (Arv.new A1 (by decide)).pad (pad_rep [] (.int 0) 4)
 refine Gs st1 ?_
 show Goes _ _ _ _ _ (fT T1 m 3 #[vr x, vi 0, vi 4, vu, vu, vu] [(.ref b1)])
 refine Gz (XS.astoreN X1.here hx rfl (hb hby d19_3) rfl rfl (l' := #[vr x, vi 0, vi 4, vr b1, vu, vu]) rfl) ?_
 refine gA X1 hx hby d19_4 rfl rfl rfl ?_
 refine gN X1 hx hby d19_5 rfl rfl ?_
 refine gA X1 hx hby d19_6 rfl rfl rfl ?_
 refine Gz (XS.iconst X1.here hx rfl (hb hby d19_7)) ?_
 refine gN X1 hx hby d19_8 rfl rfl ?_
 show Goes _ _ _ _ _ (fT T1 m 9 #[vr x, vi 0, vi 4, vr b1, vu, vu] [(.int 4), (.int 0), (.ref b1), (.int 0), (.ref x)])
 obtain ⟨_, _, ⟨T2, L2, k2, n2⟩, -, X2, ⟨Lc2, hQ2, l2, y2, z2⟩, st2⟩ := Jvm.LawKit.callS X1 hx (y := mN18) hown (gz hZ hw 57 rfl) (gz hZ hw 58 rfl) (gz hZ hw 55 rfl) (gz hZ hw 59 rfl) (by decide) (backOf (W := 0) (rs_c5_4_2 l Z a0 hw [] x kx b1 k1 c0 c1 c2 c3 h1 n0 Z0 V_x V_b1 g_b1 ne_x_b1 (by first | assumption | decide) (by first | assumption | decide) (by first | assumption | decide)) hZ (gw hw 59 rfl) (gw hw 55 rfl) (by decide) (by decide)) (g := (mkF m 9 #[vr x, vi 0, vi 4, vr b1, vu, vu] [(.int 4), (.int 0), (.ref b1), (.int 0), (.ref x)])) rfl hml.symm (argsL := [(.ref x), (.int 0), (.ref b1), (.int 0), (.int 4)]) (rest := []) (lenOf own_pd13 rfl) rfl (wz rfl) (hb hby d19_9) (fun _ _ => ⟨rfl, e1, (by decide : 1 + 0 ≤ _), (by decide : 4 + 0 ≤ _)⟩)
 dsimp only [Pt.U, Pt.locs, Pt.cells, Pt.slots] at X2 l2 y2 z2 st2 hQ2
 subst l2 y2 z2
 obtain ⟨rfl, N2q, K2, V_b1_2'⟩ := hQ2
 have N2 := Fr.app N0 N2q
 replace sgA := own_staK sgA K2 (allS (own_obA V_b1) all0)
 replace sgH := own_staK sgH K2 (allS (own_obA V_b1) all0)
 replace sgL := own_staK sgL K2 (allS (own_obA V_b1) all0)
 replace V_x := V_x.keep K2 (ninS ne_x_b1 nin0)
 replace KP := KP.trans K2 (allS (Or.inr sz_b1) all0)
 replace Z0 := Nat.le_trans Z0 K2.1
 have V_b1 := V_b1_2'
 refine Gs st2 ?_
 show Goes _ _ _ _ _ (fT T2 m 12 #[vr x, vi 0, vi 4, vr b1, vu, vu] [(.int 2)])
 refine Gz (XS.istore X2.here hx rfl (hb hby d19_12) rfl (l' := #[vr x, vi 0, vi 4, vr b1, vi 2, vu]) rfl) ?_
 refine gI X2 hx hby d19_14 rfl rfl ?_
 refine gN X2 hx hby d19_16 rfl rfl ?_
 refine Gz (XS.icmpNo X2.here hx rfl (hb hby d19_17) rfl (feq (by decide : ¬ ((2 : Int32) = (4 : Int32)))).1) ?_
 refine gA X2 hx hby d19_20 rfl rfl rfl ?_
 refine gN X2 hx hby d19_21 rfl rfl ?_
 show Goes _ _ _ _ _ (fT T2 m 22 #[vr x, vi 0, vi 4, vr b1, vi 2, vu] [(.int 0), (.ref x)])
 refine gN X2 hx hby d19_22 rfl rfl ?_
 have ltc3_x : x < T2.heap.size := V_x.lt
 have ltc3_b1 : b1 < T2.heap.size := V_b1.lt
 have szs3 : h0.size ≤ T2.heap.size := KP.1
 obtain ⟨_, _, ⟨T3, L3, k3, n3⟩, -, X3, ⟨Lc3, hQ3, l3, y3, z3⟩, st3⟩ := Jvm.LawKit.callS X2 hx (y := mN17) hown (gz hZ hw 60 rfl) (gz hZ hw 61 rfl) (gz hZ hw 55 rfl) (gz hZ hw 62 rfl) (by decide) (backOf (W := 0) (rs_tb_4 l Z a0 hw [] x kx c0 c1 c2 c3 T2.heap n0 Z0 V_x sgA sgH sgL) hZ (gw hw 62 rfl) (gw hw 55 rfl) (by decide) (by decide)) (g := (mkF m 23 #[vr x, vi 0, vi 4, vr b1, vi 2, vu] [(.int 4), (.int 0), (.ref x)])) rfl hml.symm (argsL := [(.ref x), (.int 0), (.int 4)]) (rest := []) (lenOf own_pd14 rfl) rfl (wz rfl) (hb hby d19_23) (fun _ _ => ⟨rfl, rfl, (by decide : 1 + 1 ≤ _), (by decide : 4 + 8 ≤ _)⟩)
 dsimp only [Pt.U, Pt.locs, Pt.cells, Pt.slots] at X3 l3 y3 z3 st3 hQ3
 subst l3 y3 z3
 obtain ⟨y3, ky3, rfl, N3q, K3, V_y3_3', g_y3_3', sz_y3_3'⟩ := hQ3
 have N3 := Fr.app N2 N3q
 replace sgA := own_staK sgA K3 all0
 replace sgH := own_staK sgH K3 all0
 replace sgL := own_staK sgL K3 all0
 replace KP := KP.trans K3 all0
 replace Z0 := Nat.le_trans Z0 K3.1
 have V_y3 := V_y3_3'
 have g_y3 := g_y3_3'
 have szc_y3 := sz_y3_3'
 have ne_x_y3 : x ≠ y3 := Nat.ne_of_lt (Nat.lt_of_lt_of_le ltc3_x szc_y3)
 have ne_b1_y3 : b1 ≠ y3 := Nat.ne_of_lt (Nat.lt_of_lt_of_le ltc3_b1 szc_y3)
 have sz_y3 : h0.size ≤ y3 := Nat.le_trans szs3 szc_y3
 refine Gs st3 ?_
 show Goes _ _ _ _ _ (fT T3 m 26 #[vr x, vi 0, vi 4, vr b1, vi 2, vu] [(.ref y3)])
 refine Gz (XS.astore X3.here hx rfl (hb hby d19_26) rfl rfl (l' := #[vr x, vi 0, vi 4, vr b1, vi 2, vr y3]) rfl) ?_
 refine Gz (XS.aload X3.here hx rfl (hb hby d19_28) rfl rfl) ?_
 refine gI X3 hx hby d19_30 rfl rfl ?_
 obtain ⟨_, _, ⟨T4, L4, k4, n4⟩, -, X4, ⟨Lc4, hQ4, l4, y4, z4⟩, st4⟩ := Jvm.LawKit.callS X3 hx (y := mN5) hown (gz hZ hw 76 rfl) (gz hZ hw 77 rfl) (gz hZ hw 55 rfl) (gz hZ hw 78 rfl) (by decide) (backOf (W := 0) (rs_gch l Z a0 hw [] y3 ky3 [c0, c1, c2, c3] (2 : Int32) c2 T3.heap n0 Z0 V_y3 (by first | assumption | decide) (own_il 2 _ (by decide) (by simp) (Nat.le_of_ble_eq_true rfl)) rfl (Nat.le_of_ble_eq_true rfl) hC_c2 sgA sgH sgL) hZ (gw hw 78 rfl) (gw hw 55 rfl) (by decide) (by decide)) (g := (mkF m 32 #[vr x, vi 0, vi 4, vr b1, vi 2, vr y3] [(.int 2), (.ref y3)])) rfl hml.symm (argsL := [(.ref y3), (.int 2)]) (rest := []) (lenOf own_pd2 rfl) rfl (wz rfl) (hb hby d19_32) (fun _ _ => ⟨rfl, rfl, (by decide : 2 + 0 ≤ _), (by decide : 12 + 0 ≤ _)⟩)
 dsimp only [Pt.U, Pt.locs, Pt.cells, Pt.slots] at X4 l4 y4 z4 st4 hQ4
 subst l4 y4 z4
 obtain ⟨rfl, N4q, e4⟩ := hQ4
 have N4 := Fr.app N3 N4q
 refine Gs st4 ?_
 show Goes _ _ _ _ _ (fT T4 m 35 #[vr x, vi 0, vi 4, vr b1, vi 2, vr y3] [(.int c2)])
 refine Gz (XS.sipush X4.here hx rfl (hb hby d19_35)) ?_
 refine Gz (XS.icmpYes X4.here hx rfl (pc0 := 38) (pc' := 54) rfl (hb hby d19_38) rfl (tlt hn_c2).2.2.1 (by decide) (by decide)) ?_
 refine Gz (XS.aload X4.here hx rfl (hb hby d19_54) rfl rfl) ?_
 refine Goes.ret X4 (some (.ref y3)) (fun h => by rw [hret] at h; cases h) hlk (by decide) (by decide) ?_ (fun fs hr => ?_)
 ·rw [e4]; exact ⟨y3, ky3, rfl, N4, KP, V_y3, g_y3, sz_y3⟩
 ·exact own_retA X4 hx hret rfl rfl (hb hby d19_56) hr
theorem own_ef_rs_c5_4_3 (m : MethodId) (x0 : Addr) (x2 : Addr) : entryFrame m #[(.ref x0), (.int 0), (.ref x2), (.int 0), (.int 4)] 7 = mkF m 0 #[vr x0, vi 0, vr x2, vi 0, vi 4, vu, vu] [] := by first | (simp [entryFrame, mkF, argsToLocals, Value.category]; done) | rfl
def Q_rs_c5_4_3 (Z : State) (x : Addr) (kx : ClassId) (y : Addr) (ky : ClassId) (c0 : Int32) (c1 : Int32) (c2 : Int32) (c3 : Int32) (h0 : Heap) (n0 : Nat) (v : Option Value) (h : Heap) (L : List Loc) : Prop := v = some (.int 3) ∧ Fr n0 L ∧ Keep h0 h [y] ∧ Arv Z h y ky .byte 4 [(.int (lo8 c0)), (.int (lo8 c1)), (.int (lo8 c2)), (.int 0)] (.int 0)
set_option maxRecDepth 65536 in
set_option maxHeartbeats 40000000 in
theorem rs_c5_4_3 (l : Launch) (Z : State) (a0 : Array Value) (hw : HW a0 Z) (ws : List Jvm.Cond) (x : Addr) (kx : ClassId) (y : Addr) (ky : ClassId) (c0 : Int32) (c1 : Int32) (c2 : Int32) (c3 : Int32) (h0 : Heap) (n0 : Nat) (Z0 : n0 ≤ h0.size) (V_x : Arv Z h0 x kx .char 4 [(.int c0), (.int c1), (.int c2), (.int c3)] (.int 0)) (V_y : Arv Z h0 y ky .byte 4 [(.int 0), (.int 0), (.int 0), (.int 0)] (.int 0)) (g_y : n0 ≤ y) (ne_x_y : x ≠ y) (hn_c0 : ¬ ((255 : Int32) < c0)) (hn_c1 : ¬ ((255 : Int32) < c1)) (hn_c2 : ¬ ((255 : Int32) < c2)) (hn_c3 : (255 : Int32) < c3) :
  Met l Z mN18 jdk_52_method_21_code 7 (some .int) ({ frames := 0, cells := 0, slots := 0, locals := 0 } : Room) ws #[(.ref x), (.int 0), (.ref y), (.int 0), (.int 4)] h0 (Q_rs_c5_4_3 Z x kx y ky c0 c1 c2 c3 h0 n0) := by
 refine own_met (plainFor_of_name own_pn2) ?_
 intro p e s m below meth c s₁ hret hx hby hlk hml hown hnm X0 e0 hZ hh
 have N0 := Fr.nil n0
 refine Gz (castTop (own_ef_rs_c5_4_3 m x y)) ?_
 have KP : Keep h0 h0 [y] := Keep.refl _ _
 show Goes _ _ _ _ _ (fT s₁ m 0 #[vr x, vi 0, vr y, vi 0, vi 4, vu, vu] [])
 refine Gz (XS.iconst X0.here hx rfl (hb hby d18_0)) ?_
 refine Gz (XS.istore X0.here hx rfl (hb hby d18_1) rfl (l' := #[vr x, vi 0, vr y, vi 0, vi 4, vi 0, vu]) rfl) ?_
 refine gI X0 hx hby d18_3 rfl rfl ?_
 refine gI X0 hx hby d18_5 rfl rfl ?_
 refine Gz (XS.icmpNo X0.here hx rfl (hb hby d18_7) rfl (tlt (by decide : ((0 : Int32) < (4 : Int32)))).2.1) ?_
 refine gA X0 hx hby d18_10 rfl rfl rfl ?_
 show Goes _ _ _ _ _ (fT s₁ m 11 #[vr x, vi 0, vr y, vi 0, vi 4, vi 0, vu] [(.ref x)])
 refine gN X0 hx hby d18_11 rfl rfl ?_
 obtain ⟨cl1, Ar1, -, S1, N1z, H1, -⟩ := id V_x
 have hin1 : ¬ ((0 : Int32) < 0 ∨ cl1.slots.size ≤ ((0 : Int32)).toNatClampNeg) := inb_of S1 ⟨by decide, by decide⟩
 have hat1 : cl1.slots[((0 : Int32)).toNatClampNeg]? = some (.int c0) := Has.at H1 hin1 rfl
 refine Gs (fun _ tk => X0.caload hx (j := (0 : Int32)) (v := (.int c0)) (by rw [e0]; exact Ar1.1) (State.isArrayOf_alike hZ.alike Ar1.2.1) Ar1.2.2 hin1 hat1 (g := (mkF m 12 #[vr x, vi 0, vr y, vi 0, vi 4, vi 0, vu] [(.int 0), (.ref x)])) rfl rfl (hb hby d18_12) _ tk) ?_
 show Goes _ _ _ _ _ (fT s₁ m 13 #[vr x, vi 0, vr y, vi 0, vi 4, vi 0, vu] [(.int c0)])
 refine Gz (XS.istore X0.here hx rfl (hb hby d18_13) rfl (l' := #[vr x, vi 0, vr y, vi 0, vi 4, vi 0, vi c0]) rfl) ?_
 refine gI X0 hx hby d18_15 rfl rfl ?_
 refine Gz (XS.sipush X0.here hx rfl (hb hby d18_17)) ?_
 refine Gz (XS.icmpYes X0.here hx rfl (pc0 := 20) (pc' := 26) rfl (hb hby d18_20) rfl (flt hn_c0).2.2.2 (by decide) (by decide)) ?_
 refine gA X0 hx hby d18_26 rfl rfl rfl ?_
 refine gN X0 hx hby d18_27 rfl rfl ?_
 show Goes _ _ _ _ _ (fT s₁ m 28 #[vr x, vi 0, vr y, vi 0, vi 4, vi 0, vi c0] [(.int 0), (.ref y)])
 refine gI X0 hx hby d18_28 rfl rfl ?_
 show Goes _ _ _ _ _ (fT s₁ m 30 #[vr x, vi 0, vr y, vi 0, vi 4, vi 0, vi c0] [(.int c0), (.int 0), (.ref y)])
 refine Gz (XS.i2b X0.here hx rfl (hb hby d18_30) rfl) ?_
 show Goes _ _ _ _ _ (fT s₁ m 31 #[vr x, vi 0, vr y, vi 0, vi 4, vi 0, vi c0] [(.int (c0.toInt8.toInt32)), (.int 0), (.ref y)])
 obtain ⟨cl2, Ar2, q2, S2, N2z, H2, G2⟩ := V_y
 have hin2 : ¬ ((0 : Int32) < 0 ∨ cl2.slots.size ≤ ((0 : Int32)).toNatClampNeg) := inb_of S2 ⟨by decide, by decide⟩
 obtain ⟨T2, h2, X2, e2, W2, st2⟩ := stB X0 hx hZ e0 Ar2 (j := (0 : Int32)) hin2 (g := (mkF m 31 #[vr x, vi 0, vr y, vi 0, vi 4, vi 0, vi c0] [(.int (c0.toInt8.toInt32)), (.int 0), (.ref y)])) rfl rfl (hb hby d18_31)
 have Vn2 := Arv.set Ar2 q2 S2 N2z H2 G2 (fits_nar_byte _) W2 0 rfl (Nat.le_of_ble_eq_true rfl)
 have N2 := Fr.snoc X2 N0 g_y
 replace V_x := V_x.other W2 ne_x_y
 replace KP := KP.wr W2 (Or.inl (List.mem_of_getElem? (i := 0) rfl))
 have V_y : Arv Z h2 y ky .byte 4 [(.int (lo8 c0)), (.int 0), (.int 0), (.int 0)] (.int 0) := by have q := Vn2; rw [own_nb2] at q; exact q
 replace Z0 : n0 ≤ h2.size := by rw [W2.size]; exact Z0
 refine Gs st2 ?_
 show Goes _ _ _ _ _ (fT T2 m 32 #[vr x, vi 0, vr y, vi 0, vi 4, vi 0, vi c0] [])
 refine Gz (XS.iinc X2.here hx rfl (hb hby d18_32) rfl (l' := #[vr x, vi ((0 : Int32) + (1 : Int32)), vr y, vi 0, vi 4, vi 0, vi c0]) rfl) ?_
 rw [show ((0 : Int32) + (1 : Int32)) = 1 from by decide]
 show Goes _ _ _ _ _ (fT T2 m 35 #[vr x, vi 1, vr y, vi 0, vi 4, vi 0, vi c0] [])
 refine Gz (XS.iinc X2.here hx rfl (hb hby d18_35) rfl (l' := #[vr x, vi 1, vr y, vi ((0 : Int32) + (1 : Int32)), vi 4, vi 0, vi c0]) rfl) ?_
 rw [show ((0 : Int32) + (1 : Int32)) = 1 from by decide]
 show Goes _ _ _ _ _ (fT T2 m 38 #[vr x, vi 1, vr y, vi 1, vi 4, vi 0, vi c0] [])
 refine Gz (XS.iinc X2.here hx rfl (hb hby d18_38) rfl (l' := #[vr x, vi 1, vr y, vi 1, vi 4, vi ((0 : Int32) + (1 : Int32)), vi c0]) rfl) ?_
 rw [show ((0 : Int32) + (1 : Int32)) = 1 from by decide]
 show Goes _ _ _ _ _ (fT T2 m 41 #[vr x, vi 1, vr y, vi 1, vi 4, vi 1, vi c0] [])
 refine Gz (XS.goto X2.here hx rfl (pc0 := 41) (pc' := 3) rfl (hb hby d18_41) (by decide) (by decide)) ?_
 refine gI X2 hx hby d18_3 rfl rfl ?_
 refine gI X2 hx hby d18_5 rfl rfl ?_
 refine Gz (XS.icmpNo X2.here hx rfl (hb hby d18_7) rfl (tlt (by decide : ((1 : Int32) < (4 : Int32)))).2.1) ?_
 refine gA X2 hx hby d18_10 rfl rfl rfl ?_
 refine gN X2 hx hby d18_11 rfl rfl ?_
 show Goes _ _ _ _ _ (fT T2 m 12 #[vr x, vi 1, vr y, vi 1, vi 4, vi 1, vi c0] [(.int 1), (.ref x)])
 obtain ⟨cl3, Ar3, -, S3, N3z, H3, -⟩ := id V_x
 have hin3 : ¬ ((1 : Int32) < 0 ∨ cl3.slots.size ≤ ((1 : Int32)).toNatClampNeg) := inb_of S3 ⟨by decide, by decide⟩
 have hat3 : cl3.slots[((1 : Int32)).toNatClampNeg]? = some (.int c1) := Has.at H3 hin3 rfl
 refine Gs (fun _ tk => X2.caload hx (j := (1 : Int32)) (v := (.int c1)) (by rw [e2]; exact Ar3.1) (State.isArrayOf_alike hZ.alike Ar3.2.1) Ar3.2.2 hin3 hat3 (g := (mkF m 12 #[vr x, vi 1, vr y, vi 1, vi 4, vi 1, vi c0] [(.int 1), (.ref x)])) rfl rfl (hb hby d18_12) _ tk) ?_
 show Goes _ _ _ _ _ (fT T2 m 13 #[vr x, vi 1, vr y, vi 1, vi 4, vi 1, vi c0] [(.int c1)])
 refine Gz (XS.istore X2.here hx rfl (hb hby d18_13) rfl (l' := #[vr x, vi 1, vr y, vi 1, vi 4, vi 1, vi c1]) rfl) ?_
 refine gI X2 hx hby d18_15 rfl rfl ?_
 refine Gz (XS.sipush X2.here hx rfl (hb hby d18_17)) ?_
 refine Gz (XS.icmpYes X2.here hx rfl (pc0 := 20) (pc' := 26) rfl (hb hby d18_20) rfl (flt hn_c1).2.2.2 (by decide) (by decide)) ?_
 refine gA X2 hx hby d18_26 rfl rfl rfl ?_
 refine gN X2 hx hby d18_27 rfl rfl ?_
 show Goes _ _ _ _ _ (fT T2 m 28 #[vr x, vi 1, vr y, vi 1, vi 4, vi 1, vi c1] [(.int 1), (.ref y)])
 refine gI X2 hx hby d18_28 rfl rfl ?_
 show Goes _ _ _ _ _ (fT T2 m 30 #[vr x, vi 1, vr y, vi 1, vi 4, vi 1, vi c1] [(.int c1), (.int 1), (.ref y)])
 refine Gz (XS.i2b X2.here hx rfl (hb hby d18_30) rfl) ?_
 show Goes _ _ _ _ _ (fT T2 m 31 #[vr x, vi 1, vr y, vi 1, vi 4, vi 1, vi c1] [(.int (c1.toInt8.toInt32)), (.int 1), (.ref y)])
 obtain ⟨cl4, Ar4, q4, S4, N4z, H4, G4⟩ := V_y
 have hin4 : ¬ ((1 : Int32) < 0 ∨ cl4.slots.size ≤ ((1 : Int32)).toNatClampNeg) := inb_of S4 ⟨by decide, by decide⟩
 obtain ⟨T4, h4, X4, e4, W4, st4⟩ := stB X2 hx hZ e2 Ar4 (j := (1 : Int32)) hin4 (g := (mkF m 31 #[vr x, vi 1, vr y, vi 1, vi 4, vi 1, vi c1] [(.int (c1.toInt8.toInt32)), (.int 1), (.ref y)])) rfl rfl (hb hby d18_31)
 have Vn4 := Arv.set Ar4 q4 S4 N4z H4 G4 (fits_nar_byte _) W4 1 rfl (Nat.le_of_ble_eq_true rfl)
 have N4 := Fr.snoc X4 N2 g_y
 replace V_x := V_x.other W4 ne_x_y
 replace KP := KP.wr W4 (Or.inl (List.mem_of_getElem? (i := 0) rfl))
 have V_y : Arv Z h4 y ky .byte 4 [(.int (lo8 c0)), (.int (lo8 c1)), (.int 0), (.int 0)] (.int 0) := by have q := Vn4; rw [own_nb2] at q; exact q
 replace Z0 : n0 ≤ h4.size := by rw [W4.size]; exact Z0
 refine Gs st4 ?_
 show Goes _ _ _ _ _ (fT T4 m 32 #[vr x, vi 1, vr y, vi 1, vi 4, vi 1, vi c1] [])
 refine Gz (XS.iinc X4.here hx rfl (hb hby d18_32) rfl (l' := #[vr x, vi ((1 : Int32) + (1 : Int32)), vr y, vi 1, vi 4, vi 1, vi c1]) rfl) ?_
 rw [show ((1 : Int32) + (1 : Int32)) = 2 from by decide]
 show Goes _ _ _ _ _ (fT T4 m 35 #[vr x, vi 2, vr y, vi 1, vi 4, vi 1, vi c1] [])
 refine Gz (XS.iinc X4.here hx rfl (hb hby d18_35) rfl (l' := #[vr x, vi 2, vr y, vi ((1 : Int32) + (1 : Int32)), vi 4, vi 1, vi c1]) rfl) ?_
 rw [show ((1 : Int32) + (1 : Int32)) = 2 from by decide]
 show Goes _ _ _ _ _ (fT T4 m 38 #[vr x, vi 2, vr y, vi 2, vi 4, vi 1, vi c1] [])
 refine Gz (XS.iinc X4.here hx rfl (hb hby d18_38) rfl (l' := #[vr x, vi 2, vr y, vi 2, vi 4, vi ((1 : Int32) + (1 : Int32)), vi c1]) rfl) ?_
 rw [show ((1 : Int32) + (1 : Int32)) = 2 from by decide]
 show Goes _ _ _ _ _ (fT T4 m 41 #[vr x, vi 2, vr y, vi 2, vi 4, vi 2, vi c1] [])
 refine Gz (XS.goto X4.here hx rfl (pc0 := 41) (pc' := 3) rfl (hb hby d18_41) (by decide) (by decide)) ?_
 refine gI X4 hx hby d18_3 rfl rfl ?_
 refine gI X4 hx hby d18_5 rfl rfl ?_
 refine Gz (XS.icmpNo X4.here hx rfl (hb hby d18_7) rfl (tlt (by decide : ((2 : Int32) < (4 : Int32)))).2.1) ?_
 refine gA X4 hx hby d18_10 rfl rfl rfl ?_
 refine gN X4 hx hby d18_11 rfl rfl ?_
 show Goes _ _ _ _ _ (fT T4 m 12 #[vr x, vi 2, vr y, vi 2, vi 4, vi 2, vi c1] [(.int 2), (.ref x)])
 obtain ⟨cl5, Ar5, -, S5, N5z, H5, -⟩ := id V_x
 have hin5 : ¬ ((2 : Int32) < 0 ∨ cl5.slots.size ≤ ((2 : Int32)).toNatClampNeg) := inb_of S5 ⟨by decide, by decide⟩
 have hat5 : cl5.slots[((2 : Int32)).toNatClampNeg]? = some (.int c2) := Has.at H5 hin5 rfl
 refine Gs (fun _ tk => X4.caload hx (j := (2 : Int32)) (v := (.int c2)) (by rw [e4]; exact Ar5.1) (State.isArrayOf_alike hZ.alike Ar5.2.1) Ar5.2.2 hin5 hat5 (g := (mkF m 12 #[vr x, vi 2, vr y, vi 2, vi 4, vi 2, vi c1] [(.int 2), (.ref x)])) rfl rfl (hb hby d18_12) _ tk) ?_
 show Goes _ _ _ _ _ (fT T4 m 13 #[vr x, vi 2, vr y, vi 2, vi 4, vi 2, vi c1] [(.int c2)])
 refine Gz (XS.istore X4.here hx rfl (hb hby d18_13) rfl (l' := #[vr x, vi 2, vr y, vi 2, vi 4, vi 2, vi c2]) rfl) ?_
 refine gI X4 hx hby d18_15 rfl rfl ?_
 refine Gz (XS.sipush X4.here hx rfl (hb hby d18_17)) ?_
 refine Gz (XS.icmpYes X4.here hx rfl (pc0 := 20) (pc' := 26) rfl (hb hby d18_20) rfl (flt hn_c2).2.2.2 (by decide) (by decide)) ?_
 refine gA X4 hx hby d18_26 rfl rfl rfl ?_
 refine gN X4 hx hby d18_27 rfl rfl ?_
 show Goes _ _ _ _ _ (fT T4 m 28 #[vr x, vi 2, vr y, vi 2, vi 4, vi 2, vi c2] [(.int 2), (.ref y)])
 refine gI X4 hx hby d18_28 rfl rfl ?_
 show Goes _ _ _ _ _ (fT T4 m 30 #[vr x, vi 2, vr y, vi 2, vi 4, vi 2, vi c2] [(.int c2), (.int 2), (.ref y)])
 refine Gz (XS.i2b X4.here hx rfl (hb hby d18_30) rfl) ?_
 show Goes _ _ _ _ _ (fT T4 m 31 #[vr x, vi 2, vr y, vi 2, vi 4, vi 2, vi c2] [(.int (c2.toInt8.toInt32)), (.int 2), (.ref y)])
 obtain ⟨cl6, Ar6, q6, S6, N6z, H6, G6⟩ := V_y
 have hin6 : ¬ ((2 : Int32) < 0 ∨ cl6.slots.size ≤ ((2 : Int32)).toNatClampNeg) := inb_of S6 ⟨by decide, by decide⟩
 obtain ⟨T6, h6, X6, e6, W6, st6⟩ := stB X4 hx hZ e4 Ar6 (j := (2 : Int32)) hin6 (g := (mkF m 31 #[vr x, vi 2, vr y, vi 2, vi 4, vi 2, vi c2] [(.int (c2.toInt8.toInt32)), (.int 2), (.ref y)])) rfl rfl (hb hby d18_31)
 have Vn6 := Arv.set Ar6 q6 S6 N6z H6 G6 (fits_nar_byte _) W6 2 rfl (Nat.le_of_ble_eq_true rfl)
 have N6 := Fr.snoc X6 N4 g_y
 replace V_x := V_x.other W6 ne_x_y
 replace KP := KP.wr W6 (Or.inl (List.mem_of_getElem? (i := 0) rfl))
 have V_y : Arv Z h6 y ky .byte 4 [(.int (lo8 c0)), (.int (lo8 c1)), (.int (lo8 c2)), (.int 0)] (.int 0) := by have q := Vn6; rw [own_nb2] at q; exact q
 replace Z0 : n0 ≤ h6.size := by rw [W6.size]; exact Z0
 refine Gs st6 ?_
 show Goes _ _ _ _ _ (fT T6 m 32 #[vr x, vi 2, vr y, vi 2, vi 4, vi 2, vi c2] [])
 refine Gz (XS.iinc X6.here hx rfl (hb hby d18_32) rfl (l' := #[vr x, vi ((2 : Int32) + (1 : Int32)), vr y, vi 2, vi 4, vi 2, vi c2]) rfl) ?_
 rw [show ((2 : Int32) + (1 : Int32)) = 3 from by decide]
 show Goes _ _ _ _ _ (fT T6 m 35 #[vr x, vi 3, vr y, vi 2, vi 4, vi 2, vi c2] [])
 refine Gz (XS.iinc X6.here hx rfl (hb hby d18_35) rfl (l' := #[vr x, vi 3, vr y, vi ((2 : Int32) + (1 : Int32)), vi 4, vi 2, vi c2]) rfl) ?_
 rw [show ((2 : Int32) + (1 : Int32)) = 3 from by decide]
 show Goes _ _ _ _ _ (fT T6 m 38 #[vr x, vi 3, vr y, vi 3, vi 4, vi 2, vi c2] [])
 refine Gz (XS.iinc X6.here hx rfl (hb hby d18_38) rfl (l' := #[vr x, vi 3, vr y, vi 3, vi 4, vi ((2 : Int32) + (1 : Int32)), vi c2]) rfl) ?_
 rw [show ((2 : Int32) + (1 : Int32)) = 3 from by decide]
 show Goes _ _ _ _ _ (fT T6 m 41 #[vr x, vi 3, vr y, vi 3, vi 4, vi 3, vi c2] [])
 refine Gz (XS.goto X6.here hx rfl (pc0 := 41) (pc' := 3) rfl (hb hby d18_41) (by decide) (by decide)) ?_
 refine gI X6 hx hby d18_3 rfl rfl ?_
 refine gI X6 hx hby d18_5 rfl rfl ?_
 refine Gz (XS.icmpNo X6.here hx rfl (hb hby d18_7) rfl (tlt (by decide : ((3 : Int32) < (4 : Int32)))).2.1) ?_
 refine gA X6 hx hby d18_10 rfl rfl rfl ?_
 refine gN X6 hx hby d18_11 rfl rfl ?_
 show Goes _ _ _ _ _ (fT T6 m 12 #[vr x, vi 3, vr y, vi 3, vi 4, vi 3, vi c2] [(.int 3), (.ref x)])
 obtain ⟨cl7, Ar7, -, S7, N7z, H7, -⟩ := id V_x
 have hin7 : ¬ ((3 : Int32) < 0 ∨ cl7.slots.size ≤ ((3 : Int32)).toNatClampNeg) := inb_of S7 ⟨by decide, by decide⟩
 have hat7 : cl7.slots[((3 : Int32)).toNatClampNeg]? = some (.int c3) := Has.at H7 hin7 rfl
 refine Gs (fun _ tk => X6.caload hx (j := (3 : Int32)) (v := (.int c3)) (by rw [e6]; exact Ar7.1) (State.isArrayOf_alike hZ.alike Ar7.2.1) Ar7.2.2 hin7 hat7 (g := (mkF m 12 #[vr x, vi 3, vr y, vi 3, vi 4, vi 3, vi c2] [(.int 3), (.ref x)])) rfl rfl (hb hby d18_12) _ tk) ?_
 show Goes _ _ _ _ _ (fT T6 m 13 #[vr x, vi 3, vr y, vi 3, vi 4, vi 3, vi c2] [(.int c3)])
 refine Gz (XS.istore X6.here hx rfl (hb hby d18_13) rfl (l' := #[vr x, vi 3, vr y, vi 3, vi 4, vi 3, vi c3]) rfl) ?_
 refine gI X6 hx hby d18_15 rfl rfl ?_
 refine Gz (XS.sipush X6.here hx rfl (hb hby d18_17)) ?_
 refine Gz (XS.icmpNo X6.here hx rfl (hb hby d18_20) rfl (tlt hn_c3).2.2.2) ?_
 refine gI X6 hx hby d18_23 rfl rfl ?_
 refine Goes.ret X6 (some (.int 3)) (fun h => by rw [hret] at h; cases h) hlk (by decide) (by decide) ?_ (fun fs hr => ?_)
 ·rw [e6]; exact ⟨rfl, N6, KP, V_y⟩
 ·exact retI X6 hx hret (hb hby d18_25) hr
theorem own_ef_rs_c3_4_3 (m : MethodId) (x0 : Addr) : entryFrame m #[(.ref x0), (.int 0), (.int 4)] 6 = mkF m 0 #[vr x0, vi 0, vi 4, vu, vu, vu] [] := by first | (simp [entryFrame, mkF, argsToLocals, Value.category]; done) | rfl
def Q_rs_c3_4_3 (Z : State) (x : Addr) (kx : ClassId) (c0 : Int32) (c1 : Int32) (c2 : Int32) (c3 : Int32) (h0 : Heap) (n0 : Nat) (v : Option Value) (h : Heap) (L : List Loc) : Prop := ∃ y : Addr, ∃ ky : ClassId, v = some (.ref y) ∧ Fr n0 L ∧ Keep h0 h [] ∧ Arv Z h y ky .byte 8 [(.int (lo8 c0)), (.int (hi8 c0)), (.int (lo8 c1)), (.int (hi8 c1)), (.int (lo8 c2)), (.int (hi8 c2)), (.int (lo8 c3)), (.int (hi8 c3))] (.int 0) ∧ n0 ≤ y ∧ h0.size ≤ y
set_option maxRecDepth 65536 in
set_option maxHeartbeats 40000000 in
theorem rs_c3_4_3 (l : Launch) (Z : State) (a0 : Array Value) (hw : HW a0 Z) (ws : List Jvm.Cond) (x : Addr) (kx : ClassId) (c0 : Int32) (c1 : Int32) (c2 : Int32) (c3 : Int32) (h0 : Heap) (n0 : Nat) (Z0 : n0 ≤ h0.size) (V_x : Arv Z h0 x kx .char 4 [(.int c0), (.int c1), (.int c2), (.int c3)] (.int 0)) (hn_c0 : ¬ ((255 : Int32) < c0)) (hn_c1 : ¬ ((255 : Int32) < c1)) (hn_c2 : ¬ ((255 : Int32) < c2)) (hn_c3 : (255 : Int32) < c3) (hC_c0 : Chr c0) (hC_c1 : Chr c1) (hC_c2 : Chr c2) (hC_c3 : Chr c3) (sgA : Sta Z h0 "java/lang/StringUTF16" "$assertionsDisabled" "Z" (.int 1)) (sgH : Sta Z h0 "java/lang/StringUTF16" "HI_BYTE_SHIFT" "I" (.int 0)) (sgL : Sta Z h0 "java/lang/StringUTF16" "LO_BYTE_SHIFT" "I" (.int 8)) :
  Met l Z mN19 jdk_52_method_16_code 6 (some (.array .byte)) ({ frames := 3, cells := 2, slots := 12, locals := 40 } : Room) ws #[(.ref x), (.int 0), (.int 4)] h0 (Q_rs_c3_4_3 Z x kx c0 c1 c2 c3 h0 n0) := by
 refine own_met (plainFor_of_name own_pn2) ?_
 intro p e s m below meth c s₁ hret hx hby hlk hml hown hnm X0 e0 hZ hh
 have N0 := Fr.nil n0
 refine Gz (castTop (own_ef_rs_c3_4_3 m x)) ?_
 have KP : Keep h0 h0 [] := Keep.refl _ _
 show Goes _ _ _ _ _ (fT s₁ m 0 #[vr x, vi 0, vi 4, vu, vu, vu] [])
 refine gN X0 hx hby d19_0 rfl rfl ?_
 obtain ⟨T1, h1, k1, X1, e1, E1, A1, st1⟩ := newP X0 hx hZ (gw hw 20 rfl) e0 (g := (mkF m 1 #[vr x, vi 0, vi 4, vu, vu, vu] [(.int 4)])) rfl (hb hby d19_1) rfl (by decide) (cap := 4) (by decide) (by decide) (by decide) (by decide)
 obtain ⟨b1, gq1⟩ : ∃ z, z = h0.size := ⟨_, rfl⟩
 rw [← gq1] at A1 st1
 have g_b1 : n0 ≤ b1 := by rw [gq1]; exact Z0
 have sz_b1 : h0.size ≤ b1 := by rw [gq1]; exact KP.1
 have ne_x_b1 : x ≠ b1 := by rw [gq1]; exact Nat.ne_of_lt V_x.lt
 replace V_x := V_x.ext E1
 replace sgA := sgA.ext E1
 replace sgH := sgH.ext E1
 replace sgL := sgL.ext E1
 replace KP := KP.ext E1
 replace Z0 : n0 ≤ h1.size := Nat.le_trans Z0 E1.1
 have V_b1 : Arv Z h1 b1 k1 .byte 4 [(.int 0), (.int 0), (.int 0), (.int 0)] (.int 0) := (Arv.new A1 (by decide)).pad (pad_rep [] (.int 0) 4)
 refine Gs st1 ?_
 show Goes _ _ _ _ _ (fT T1 m 3 #[vr x, vi 0, vi 4, vu, vu, vu] [(.ref b1)])
 refine Gz (XS.astoreN X1.here hx rfl (hb hby d19_3) rfl rfl (l' := #[vr x, vi 0, vi 4, vr b1, vu, vu]) rfl) ?_
 refine gA X1 hx hby d19_4 rfl rfl rfl ?_
 refine gN X1 hx hby d19_5 rfl rfl ?_
 refine gA X1 hx hby d19_6 rfl rfl rfl ?_
 refine Gz (XS.iconst X1.here hx rfl (hb hby d19_7)) ?_
 refine gN X1 hx hby d19_8 rfl rfl ?_
 show Goes _ _ _ _ _ (fT T1 m 9 #[vr x, vi 0, vi 4, vr b1, vu, vu] [(.int 4), (.int 0), (.ref b1), (.int 0), (.ref x)])
 obtain ⟨_, _, ⟨T2, L2, k2, n2⟩, -, X2, ⟨Lc2, hQ2, l2, y2, z2⟩, st2⟩ := Jvm.LawKit.callS X1 hx (y := mN18) hown (gz hZ hw 57 rfl) (gz hZ hw 58 rfl) (gz hZ hw 55 rfl) (gz hZ hw 59 rfl) (by decide) (backOf (W := 0) (rs_c5_4_3 l Z a0 hw [] x kx b1 k1 c0 c1 c2 c3 h1 n0 Z0 V_x V_b1 g_b1 ne_x_b1 (by first | assumption | decide) (by first | assumption | decide) (by first | assumption | decide) (by first | assumption | decide)) hZ (gw hw 59 rfl) (gw hw 55 rfl) (by decide) (by decide)) (g := (mkF m 9 #[vr x, vi 0, vi 4, vr b1, vu, vu] [(.int 4), (.int 0), (.ref b1), (.int 0), (.ref x)])) rfl hml.symm (argsL := [(.ref x), (.int 0), (.ref b1), (.int 0), (.int 4)]) (rest := []) (lenOf own_pd13 rfl) rfl (wz rfl) (hb hby d19_9) (fun _ _ => ⟨rfl, e1, (by decide : 1 + 0 ≤ _), (by decide : 4 + 0 ≤ _)⟩)
 dsimp only [Pt.U, Pt.locs, Pt.cells, Pt.slots] at X2 l2 y2 z2 st2 hQ2
 subst l2 y2 z2
 obtain ⟨rfl, N2q, K2, V_b1_2'⟩ := hQ2
 have N2 := Fr.app N0 N2q
 replace sgA := own_staK sgA K2 (allS (own_obA V_b1) all0)
 replace sgH := own_staK sgH K2 (allS (own_obA V_b1) all0)
 replace sgL := own_staK sgL K2 (allS (own_obA V_b1) all0)
 replace V_x := V_x.keep K2 (ninS ne_x_b1 nin0)
 replace KP := KP.trans K2 (allS (Or.inr sz_b1) all0)
 replace Z0 := Nat.le_trans Z0 K2.1
 have V_b1 := V_b1_2'
 refine Gs st2 ?_
 show Goes _ _ _ _ _ (fT T2 m 12 #[vr x, vi 0, vi 4, vr b1, vu, vu] [(.int 3)])
 refine Gz (XS.istore X2.here hx rfl (hb hby d19_12) rfl (l' := #[vr x, vi 0, vi 4, vr b1, vi 3, vu]) rfl) ?_
 refine gI X2 hx hby d19_14 rfl rfl ?_
 refine gN X2 hx hby d19_16 rfl rfl ?_
 refine Gz (XS.icmpNo X2.here hx rfl (hb hby d19_17) rfl (feq (by decide : ¬ ((3 : Int32) = (4 : Int32)))).1) ?_
 refine gA X2 hx hby d19_20 rfl rfl rfl ?_
 refine gN X2 hx hby d19_21 rfl rfl ?_
 show Goes _ _ _ _ _ (fT T2 m 22 #[vr x, vi 0, vi 4, vr b1, vi 3, vu] [(.int 0), (.ref x)])
 refine gN X2 hx hby d19_22 rfl rfl ?_
 have ltc3_x : x < T2.heap.size := V_x.lt
 have ltc3_b1 : b1 < T2.heap.size := V_b1.lt
 have szs3 : h0.size ≤ T2.heap.size := KP.1
 obtain ⟨_, _, ⟨T3, L3, k3, n3⟩, -, X3, ⟨Lc3, hQ3, l3, y3, z3⟩, st3⟩ := Jvm.LawKit.callS X2 hx (y := mN17) hown (gz hZ hw 60 rfl) (gz hZ hw 61 rfl) (gz hZ hw 55 rfl) (gz hZ hw 62 rfl) (by decide) (backOf (W := 0) (rs_tb_4 l Z a0 hw [] x kx c0 c1 c2 c3 T2.heap n0 Z0 V_x sgA sgH sgL) hZ (gw hw 62 rfl) (gw hw 55 rfl) (by decide) (by decide)) (g := (mkF m 23 #[vr x, vi 0, vi 4, vr b1, vi 3, vu] [(.int 4), (.int 0), (.ref x)])) rfl hml.symm (argsL := [(.ref x), (.int 0), (.int 4)]) (rest := []) (lenOf own_pd14 rfl) rfl (wz rfl) (hb hby d19_23) (fun _ _ => ⟨rfl, rfl, (by decide : 1 + 1 ≤ _), (by decide : 4 + 8 ≤ _)⟩)
 dsimp only [Pt.U, Pt.locs, Pt.cells, Pt.slots] at X3 l3 y3 z3 st3 hQ3
 subst l3 y3 z3
 obtain ⟨y3, ky3, rfl, N3q, K3, V_y3_3', g_y3_3', sz_y3_3'⟩ := hQ3
 have N3 := Fr.app N2 N3q
 replace sgA := own_staK sgA K3 all0
 replace sgH := own_staK sgH K3 all0
 replace sgL := own_staK sgL K3 all0
 replace KP := KP.trans K3 all0
 replace Z0 := Nat.le_trans Z0 K3.1
 have V_y3 := V_y3_3'
 have g_y3 := g_y3_3'
 have szc_y3 := sz_y3_3'
 have ne_x_y3 : x ≠ y3 := Nat.ne_of_lt (Nat.lt_of_lt_of_le ltc3_x szc_y3)
 have ne_b1_y3 : b1 ≠ y3 := Nat.ne_of_lt (Nat.lt_of_lt_of_le ltc3_b1 szc_y3)
 have sz_y3 : h0.size ≤ y3 := Nat.le_trans szs3 szc_y3
 refine Gs st3 ?_
 show Goes _ _ _ _ _ (fT T3 m 26 #[vr x, vi 0, vi 4, vr b1, vi 3, vu] [(.ref y3)])
 refine Gz (XS.astore X3.here hx rfl (hb hby d19_26) rfl rfl (l' := #[vr x, vi 0, vi 4, vr b1, vi 3, vr y3]) rfl) ?_
 refine Gz (XS.aload X3.here hx rfl (hb hby d19_28) rfl rfl) ?_
 refine gI X3 hx hby d19_30 rfl rfl ?_
 obtain ⟨_, _, ⟨T4, L4, k4, n4⟩, -, X4, ⟨Lc4, hQ4, l4, y4, z4⟩, st4⟩ := Jvm.LawKit.callS X3 hx (y := mN5) hown (gz hZ hw 76 rfl) (gz hZ hw 77 rfl) (gz hZ hw 55 rfl) (gz hZ hw 78 rfl) (by decide) (backOf (W := 0) (rs_gch l Z a0 hw [] y3 ky3 [c0, c1, c2, c3] (3 : Int32) c3 T3.heap n0 Z0 V_y3 (by first | assumption | decide) (own_il 3 _ (by decide) (by simp) (Nat.le_of_ble_eq_true rfl)) rfl (Nat.le_of_ble_eq_true rfl) hC_c3 sgA sgH sgL) hZ (gw hw 78 rfl) (gw hw 55 rfl) (by decide) (by decide)) (g := (mkF m 32 #[vr x, vi 0, vi 4, vr b1, vi 3, vr y3] [(.int 3), (.ref y3)])) rfl hml.symm (argsL := [(.ref y3), (.int 3)]) (rest := []) (lenOf own_pd2 rfl) rfl (wz rfl) (hb hby d19_32) (fun _ _ => ⟨rfl, rfl, (by decide : 2 + 0 ≤ _), (by decide : 12 + 0 ≤ _)⟩)
 dsimp only [Pt.U, Pt.locs, Pt.cells, Pt.slots] at X4 l4 y4 z4 st4 hQ4
 subst l4 y4 z4
 obtain ⟨rfl, N4q, e4⟩ := hQ4
 have N4 := Fr.app N3 N4q
 refine Gs st4 ?_
 show Goes _ _ _ _ _ (fT T4 m 35 #[vr x, vi 0, vi 4, vr b1, vi 3, vr y3] [(.int c3)])
 refine Gz (XS.sipush X4.here hx rfl (hb hby d19_35)) ?_
 refine Gz (XS.icmpYes X4.here hx rfl (pc0 := 38) (pc' := 54) rfl (hb hby d19_38) rfl (tlt hn_c3).2.2.1 (by decide) (by decide)) ?_
 refine Gz (XS.aload X4.here hx rfl (hb hby d19_54) rfl rfl) ?_
 refine Goes.ret X4 (some (.ref y3)) (fun h => by rw [hret] at h; cases h) hlk (by decide) (by decide) ?_ (fun fs hr => ?_)
 ·rw [e4]; exact ⟨y3, ky3, rfl, N4, KP, V_y3, g_y3, sz_y3⟩
 ·exact own_retA X4 hx hret rfl rfl (hb hby d19_56) hr
theorem own_ef_rs_c5_4_4 (m : MethodId) (x0 : Addr) (x2 : Addr) : entryFrame m #[(.ref x0), (.int 0), (.ref x2), (.int 0), (.int 4)] 7 = mkF m 0 #[vr x0, vi 0, vr x2, vi 0, vi 4, vu, vu] [] := by first | (simp [entryFrame, mkF, argsToLocals, Value.category]; done) | rfl
def Q_rs_c5_4_4 (Z : State) (x : Addr) (kx : ClassId) (y : Addr) (ky : ClassId) (c0 : Int32) (c1 : Int32) (c2 : Int32) (c3 : Int32) (h0 : Heap) (n0 : Nat) (v : Option Value) (h : Heap) (L : List Loc) : Prop := v = some (.int 4) ∧ Fr n0 L ∧ Keep h0 h [y] ∧ Arv Z h y ky .byte 4 [(.int (lo8 c0)), (.int (lo8 c1)), (.int (lo8 c2)), (.int (lo8 c3))] (.int 0)
set_option maxRecDepth 65536 in
set_option maxHeartbeats 40000000 in
theorem rs_c5_4_4 (l : Launch) (Z : State) (a0 : Array Value) (hw : HW a0 Z) (ws : List Jvm.Cond) (x : Addr) (kx : ClassId) (y : Addr) (ky : ClassId) (c0 : Int32) (c1 : Int32) (c2 : Int32) (c3 : Int32) (h0 : Heap) (n0 : Nat) (Z0 : n0 ≤ h0.size) (V_x : Arv Z h0 x kx .char 4 [(.int c0), (.int c1), (.int c2), (.int c3)] (.int 0)) (V_y : Arv Z h0 y ky .byte 4 [(.int 0), (.int 0), (.int 0), (.int 0)] (.int 0)) (g_y : n0 ≤ y) (ne_x_y : x ≠ y) (hn_c0 : ¬ ((255 : Int32) < c0)) (hn_c1 : ¬ ((255 : Int32) < c1)) (hn_c2 : ¬ ((255 : Int32) < c2)) (hn_c3 : ¬ ((255 : Int32) < c3)) :
  Met l Z mN18 jdk_52_method_21_code 7 (some .int) ({ frames := 0, cells := 0, slots := 0, locals := 0 } : Room) ws #[(.ref x), (.int 0), (.ref y), (.int 0), (.int 4)] h0 (Q_rs_c5_4_4 Z x kx y ky c0 c1 c2 c3 h0 n0) := by
 refine own_met (plainFor_of_name own_pn2) ?_
 intro p e s m below meth c s₁ hret hx hby hlk hml hown hnm X0 e0 hZ hh
 have N0 := Fr.nil n0
 refine Gz (castTop (own_ef_rs_c5_4_4 m x y)) ?_
 have KP : Keep h0 h0 [y] := Keep.refl _ _
 show Goes _ _ _ _ _ (fT s₁ m 0 #[vr x, vi 0, vr y, vi 0, vi 4, vu, vu] [])
 refine Gz (XS.iconst X0.here hx rfl (hb hby d18_0)) ?_
 refine Gz (XS.istore X0.here hx rfl (hb hby d18_1) rfl (l' := #[vr x, vi 0, vr y, vi 0, vi 4, vi 0, vu]) rfl) ?_
 refine gI X0 hx hby d18_3 rfl rfl ?_
 refine gI X0 hx hby d18_5 rfl rfl ?_
 refine Gz (XS.icmpNo X0.here hx rfl (hb hby d18_7) rfl (tlt (by decide : ((0 : Int32) < (4 : Int32)))).2.1) ?_
 refine gA X0 hx hby d18_10 rfl rfl rfl ?_
 show Goes _ _ _ _ _ (fT s₁ m 11 #[vr x, vi 0, vr y, vi 0, vi 4, vi 0, vu] [(.ref x)])
 refine gN X0 hx hby d18_11 rfl rfl ?_
 obtain ⟨cl1, Ar1, -, S1, N1z, H1, -⟩ := id V_x
 have hin1 : ¬ ((0 : Int32) < 0 ∨ cl1.slots.size ≤ ((0 : Int32)).toNatClampNeg) := inb_of S1 ⟨by decide, by decide⟩
 have hat1 : cl1.slots[((0 : Int32)).toNatClampNeg]? = some (.int c0) := Has.at H1 hin1 rfl
 refine Gs (fun _ tk => X0.caload hx (j := (0 : Int32)) (v := (.int c0)) (by rw [e0]; exact Ar1.1) (State.isArrayOf_alike hZ.alike Ar1.2.1) Ar1.2.2 hin1 hat1 (g := (mkF m 12 #[vr x, vi 0, vr y, vi 0, vi 4, vi 0, vu] [(.int 0), (.ref x)])) rfl rfl (hb hby d18_12) _ tk) ?_
 show Goes _ _ _ _ _ (fT s₁ m 13 #[vr x, vi 0, vr y, vi 0, vi 4, vi 0, vu] [(.int c0)])
 refine Gz (XS.istore X0.here hx rfl (hb hby d18_13) rfl (l' := #[vr x, vi 0, vr y, vi 0, vi 4, vi 0, vi c0]) rfl) ?_
 refine gI X0 hx hby d18_15 rfl rfl ?_
 refine Gz (XS.sipush X0.here hx rfl (hb hby d18_17)) ?_
 refine Gz (XS.icmpYes X0.here hx rfl (pc0 := 20) (pc' := 26) rfl (hb hby d18_20) rfl (flt hn_c0).2.2.2 (by decide) (by decide)) ?_
 refine gA X0 hx hby d18_26 rfl rfl rfl ?_
 refine gN X0 hx hby d18_27 rfl rfl ?_
 show Goes _ _ _ _ _ (fT s₁ m 28 #[vr x, vi 0, vr y, vi 0, vi 4, vi 0, vi c0] [(.int 0), (.ref y)])
 refine gI X0 hx hby d18_28 rfl rfl ?_
 show Goes _ _ _ _ _ (fT s₁ m 30 #[vr x, vi 0, vr y, vi 0, vi 4, vi 0, vi c0] [(.int c0), (.int 0), (.ref y)])
 refine Gz (XS.i2b X0.here hx rfl (hb hby d18_30) rfl) ?_
 show Goes _ _ _ _ _ (fT s₁ m 31 #[vr x, vi 0, vr y, vi 0, vi 4, vi 0, vi c0] [(.int (c0.toInt8.toInt32)), (.int 0), (.ref y)])
 obtain ⟨cl2, Ar2, q2, S2, N2z, H2, G2⟩ := V_y
 have hin2 : ¬ ((0 : Int32) < 0 ∨ cl2.slots.size ≤ ((0 : Int32)).toNatClampNeg) := inb_of S2 ⟨by decide, by decide⟩
 obtain ⟨T2, h2, X2, e2, W2, st2⟩ := stB X0 hx hZ e0 Ar2 (j := (0 : Int32)) hin2 (g := (mkF m 31 #[vr x, vi 0, vr y, vi 0, vi 4, vi 0, vi c0] [(.int (c0.toInt8.toInt32)), (.int 0), (.ref y)])) rfl rfl (hb hby d18_31)
 have Vn2 := Arv.set Ar2 q2 S2 N2z H2 G2 (fits_nar_byte _) W2 0 rfl (Nat.le_of_ble_eq_true rfl)
 have N2 := Fr.snoc X2 N0 g_y
 replace V_x := V_x.other W2 ne_x_y
 replace KP := KP.wr W2 (Or.inl (List.mem_of_getElem? (i := 0) rfl))
 have V_y : Arv Z h2 y ky .byte 4 [(.int (lo8 c0)), (.int 0), (.int 0), (.int 0)] (.int 0) := by have q := Vn2; rw [own_nb2] at q; exact q
 replace Z0 : n0 ≤ h2.size := by rw [W2.size]; exact Z0
 refine Gs st2 ?_
 show Goes _ _ _ _ _ (fT T2 m 32 #[vr x, vi 0, vr y, vi 0, vi 4, vi 0, vi c0] [])
 refine Gz (XS.iinc X2.here hx rfl (hb hby d18_32) rfl (l' := #[vr x, vi ((0 : Int32) + (1 : Int32)), vr y, vi 0, vi 4, vi 0, vi c0]) rfl) ?_
 rw [show ((0 : Int32) + (1 : Int32)) = 1 from by decide]
 show Goes _ _ _ _ _ (fT T2 m 35 #[vr x, vi 1, vr y, vi 0, vi 4, vi 0, vi c0] [])
 refine Gz (XS.iinc X2.here hx rfl (hb hby d18_35) rfl (l' := #[vr x, vi 1, vr y, vi ((0 : Int32) + (1 : Int32)), vi 4, vi 0, vi c0]) rfl) ?_
 rw [show ((0 : Int32) + (1 : Int32)) = 1 from by decide]
 show Goes _ _ _ _ _ (fT T2 m 38 #[vr x, vi 1, vr y, vi 1, vi 4, vi 0, vi c0] [])
 refine Gz (XS.iinc X2.here hx rfl (hb hby d18_38) rfl (l' := #[vr x, vi 1, vr y, vi 1, vi 4, vi ((0 : Int32) + (1 : Int32)), vi c0]) rfl) ?_
 rw [show ((0 : Int32) + (1 : Int32)) = 1 from by decide]
 show Goes _ _ _ _ _ (fT T2 m 41 #[vr x, vi 1, vr y, vi 1, vi 4, vi 1, vi c0] [])
 refine Gz (XS.goto X2.here hx rfl (pc0 := 41) (pc' := 3) rfl (hb hby d18_41) (by decide) (by decide)) ?_
 refine gI X2 hx hby d18_3 rfl rfl ?_
 refine gI X2 hx hby d18_5 rfl rfl ?_
 refine Gz (XS.icmpNo X2.here hx rfl (hb hby d18_7) rfl (tlt (by decide : ((1 : Int32) < (4 : Int32)))).2.1) ?_
 refine gA X2 hx hby d18_10 rfl rfl rfl ?_
 refine gN X2 hx hby d18_11 rfl rfl ?_
 show Goes _ _ _ _ _ (fT T2 m 12 #[vr x, vi 1, vr y, vi 1, vi 4, vi 1, vi c0] [(.int 1), (.ref x)])
 obtain ⟨cl3, Ar3, -, S3, N3z, H3, -⟩ := id V_x
 have hin3 : ¬ ((1 : Int32) < 0 ∨ cl3.slots.size ≤ ((1 : Int32)).toNatClampNeg) := inb_of S3 ⟨by decide, by decide⟩
 have hat3 : cl3.slots[((1 : Int32)).toNatClampNeg]? = some (.int c1) := Has.at H3 hin3 rfl
 refine Gs (fun _ tk => X2.caload hx (j := (1 : Int32)) (v := (.int c1)) (by rw [e2]; exact Ar3.1) (State.isArrayOf_alike hZ.alike Ar3.2.1) Ar3.2.2 hin3 hat3 (g := (mkF m 12 #[vr x, vi 1, vr y, vi 1, vi 4, vi 1, vi c0] [(.int 1), (.ref x)])) rfl rfl (hb hby d18_12) _ tk) ?_
 show Goes _ _ _ _ _ (fT T2 m 13 #[vr x, vi 1, vr y, vi 1, vi 4, vi 1, vi c0] [(.int c1)])
 refine Gz (XS.istore X2.here hx rfl (hb hby d18_13) rfl (l' := #[vr x, vi 1, vr y, vi 1, vi 4, vi 1, vi c1]) rfl) ?_
 refine gI X2 hx hby d18_15 rfl rfl ?_
 refine Gz (XS.sipush X2.here hx rfl (hb hby d18_17)) ?_
 refine Gz (XS.icmpYes X2.here hx rfl (pc0 := 20) (pc' := 26) rfl (hb hby d18_20) rfl (flt hn_c1).2.2.2 (by decide) (by decide)) ?_
 refine gA X2 hx hby d18_26 rfl rfl rfl ?_
 refine gN X2 hx hby d18_27 rfl rfl ?_
 show Goes _ _ _ _ _ (fT T2 m 28 #[vr x, vi 1, vr y, vi 1, vi 4, vi 1, vi c1] [(.int 1), (.ref y)])
 refine gI X2 hx hby d18_28 rfl rfl ?_
 show Goes _ _ _ _ _ (fT T2 m 30 #[vr x, vi 1, vr y, vi 1, vi 4, vi 1, vi c1] [(.int c1), (.int 1), (.ref y)])
 refine Gz (XS.i2b X2.here hx rfl (hb hby d18_30) rfl) ?_
 show Goes _ _ _ _ _ (fT T2 m 31 #[vr x, vi 1, vr y, vi 1, vi 4, vi 1, vi c1] [(.int (c1.toInt8.toInt32)), (.int 1), (.ref y)])
 obtain ⟨cl4, Ar4, q4, S4, N4z, H4, G4⟩ := V_y
 have hin4 : ¬ ((1 : Int32) < 0 ∨ cl4.slots.size ≤ ((1 : Int32)).toNatClampNeg) := inb_of S4 ⟨by decide, by decide⟩
 obtain ⟨T4, h4, X4, e4, W4, st4⟩ := stB X2 hx hZ e2 Ar4 (j := (1 : Int32)) hin4 (g := (mkF m 31 #[vr x, vi 1, vr y, vi 1, vi 4, vi 1, vi c1] [(.int (c1.toInt8.toInt32)), (.int 1), (.ref y)])) rfl rfl (hb hby d18_31)
 have Vn4 := Arv.set Ar4 q4 S4 N4z H4 G4 (fits_nar_byte _) W4 1 rfl (Nat.le_of_ble_eq_true rfl)
 have N4 := Fr.snoc X4 N2 g_y
 replace V_x := V_x.other W4 ne_x_y
 replace KP := KP.wr W4 (Or.inl (List.mem_of_getElem? (i := 0) rfl))
 have V_y : Arv Z h4 y ky .byte 4 [(.int (lo8 c0)), (.int (lo8 c1)), (.int 0), (.int 0)] (.int 0) := by have q := Vn4; rw [own_nb2] at q; exact q
 replace Z0 : n0 ≤ h4.size := by rw [W4.size]; exact Z0
 refine Gs st4 ?_
 show Goes _ _ _ _ _ (fT T4 m 32 #[vr x, vi 1, vr y, vi 1, vi 4, vi 1, vi c1] [])
 refine Gz (XS.iinc X4.here hx rfl (hb hby d18_32) rfl (l' := #[vr x, vi ((1 : Int32) + (1 : Int32)), vr y, vi 1, vi 4, vi 1, vi c1]) rfl) ?_
 rw [show ((1 : Int32) + (1 : Int32)) = 2 from by decide]
 show Goes _ _ _ _ _ (fT T4 m 35 #[vr x, vi 2, vr y, vi 1, vi 4, vi 1, vi c1] [])
 refine Gz (XS.iinc X4.here hx rfl (hb hby d18_35) rfl (l' := #[vr x, vi 2, vr y, vi ((1 : Int32) + (1 : Int32)), vi 4, vi 1, vi c1]) rfl) ?_
 rw [show ((1 : Int32) + (1 : Int32)) = 2 from by decide]
 show Goes _ _ _ _ _ (fT T4 m 38 #[vr x, vi 2, vr y, vi 2, vi 4, vi 1, vi c1] [])
 refine Gz (XS.iinc X4.here hx rfl (hb hby d18_38) rfl (l' := #[vr x, vi 2, vr y, vi 2, vi 4, vi ((1 : Int32) + (1 : Int32)), vi c1]) rfl) ?_
 rw [show ((1 : Int32) + (1 : Int32)) = 2 from by decide]
 show Goes _ _ _ _ _ (fT T4 m 41 #[vr x, vi 2, vr y, vi 2, vi 4, vi 2, vi c1] [])
 refine Gz (XS.goto X4.here hx rfl (pc0 := 41) (pc' := 3) rfl (hb hby d18_41) (by decide) (by decide)) ?_
 refine gI X4 hx hby d18_3 rfl rfl ?_
 refine gI X4 hx hby d18_5 rfl rfl ?_
 refine Gz (XS.icmpNo X4.here hx rfl (hb hby d18_7) rfl (tlt (by decide : ((2 : Int32) < (4 : Int32)))).2.1) ?_
 refine gA X4 hx hby d18_10 rfl rfl rfl ?_
 refine gN X4 hx hby d18_11 rfl rfl ?_
 show Goes _ _ _ _ _ (fT T4 m 12 #[vr x, vi 2, vr y, vi 2, vi 4, vi 2, vi c1] [(.int 2), (.ref x)])
 obtain ⟨cl5, Ar5, -, S5, N5z, H5, -⟩ := id V_x
 have hin5 : ¬ ((2 : Int32) < 0 ∨ cl5.slots.size ≤ ((2 : Int32)).toNatClampNeg) := inb_of S5 ⟨by decide, by decide⟩
 have hat5 : cl5.slots[((2 : Int32)).toNatClampNeg]? = some (.int c2) := Has.at H5 hin5 rfl
 refine Gs (fun _ tk => X4.caload hx (j := (2 : Int32)) (v := (.int c2)) (by rw [e4]; exact Ar5.1) (State.isArrayOf_alike hZ.alike Ar5.2.1) Ar5.2.2 hin5 hat5 (g := (mkF m 12 #[vr x, vi 2, vr y, vi 2, vi 4, vi 2, vi c1] [(.int 2), (.ref x)])) rfl rfl (hb hby d18_12) _ tk) ?_
 show Goes _ _ _ _ _ (fT T4 m 13 #[vr x, vi 2, vr y, vi 2, vi 4, vi 2, vi c1] [(.int c2)])
 refine Gz (XS.istore X4.here hx rfl (hb hby d18_13) rfl (l' := #[vr x, vi 2, vr y, vi 2, vi 4, vi 2, vi c2]) rfl) ?_
 refine gI X4 hx hby d18_15 rfl rfl ?_
 refine Gz (XS.sipush X4.here hx rfl (hb hby d18_17)) ?_
 refine Gz (XS.icmpYes X4.here hx rfl (pc0 := 20) (pc' := 26) rfl (hb hby d18_20) rfl (flt hn_c2).2.2.2 (by decide) (by decide)) ?_
 refine gA X4 hx hby d18_26 rfl rfl rfl ?_
 refine gN X4 hx hby d18_27 rfl rfl ?_
 show Goes _ _ _ _ _ (fT T4 m 28 #[vr x, vi 2, vr y, vi 2, vi 4, vi 2, vi c2] [(.int 2), (.ref y)])
 refine gI X4 hx hby d18_28 rfl rfl ?_
 show Goes _ _ _ _ _ (fT T4 m 30 #[vr x, vi 2, vr y, vi 2, vi 4, vi 2, vi c2] [(.int c2), (.int 2), (.ref y)])
 refine Gz (XS.i2b X4.here hx rfl (hb hby d18_30) rfl) ?_
 show Goes _ _ _ _ _ (fT T4 m 31 #[vr x, vi 2, vr y, vi 2, vi 4, vi 2, vi c2] [(.int (c2.toInt8.toInt32)), (.int 2), (.ref y)])
 obtain ⟨cl6, Ar6, q6, S6, N6z, H6, G6⟩ := V_y
 have hin6 : ¬ ((2 : Int32) < 0 ∨ cl6.slots.size ≤ ((2 : Int32)).toNatClampNeg) := inb_of S6 ⟨by decide, by decide⟩
 obtain ⟨T6, h6, X6, e6, W6, st6⟩ := stB X4 hx hZ e4 Ar6 (j := (2 : Int32)) hin6 (g := (mkF m 31 #[vr x, vi 2, vr y, vi 2, vi 4, vi 2, vi c2] [(.int (c2.toInt8.toInt32)), (.int 2), (.ref y)])) rfl rfl (hb hby d18_31)
 have Vn6 := Arv.set Ar6 q6 S6 N6z H6 G6 (fits_nar_byte _) W6 2 rfl (Nat.le_of_ble_eq_true rfl)
 have N6 := Fr.snoc X6 N4 g_y
 replace V_x := V_x.other W6 ne_x_y
 replace KP := KP.wr W6 (Or.inl (List.mem_of_getElem? (i := 0) rfl))
 have V_y : Arv Z h6 y ky .byte 4 [(.int (lo8 c0)), (.int (lo8 c1)), (.int (lo8 c2)), (.int 0)] (.int 0) := by have q := Vn6; rw [own_nb2] at q; exact q
 replace Z0 : n0 ≤ h6.size := by rw [W6.size]; exact Z0
 refine Gs st6 ?_
 show Goes _ _ _ _ _ (fT T6 m 32 #[vr x, vi 2, vr y, vi 2, vi 4, vi 2, vi c2] [])
 refine Gz (XS.iinc X6.here hx rfl (hb hby d18_32) rfl (l' := #[vr x, vi ((2 : Int32) + (1 : Int32)), vr y, vi 2, vi 4, vi 2, vi c2]) rfl) ?_
 rw [show ((2 : Int32) + (1 : Int32)) = 3 from by decide]
 show Goes _ _ _ _ _ (fT T6 m 35 #[vr x, vi 3, vr y, vi 2, vi 4, vi 2, vi c2] [])
 refine Gz (XS.iinc X6.here hx rfl (hb hby d18_35) rfl (l' := #[vr x, vi 3, vr y, vi ((2 : Int32) + (1 : Int32)), vi 4, vi 2, vi c2]) rfl) ?_
 rw [show ((2 : Int32) + (1 : Int32)) = 3 from by decide]
 show Goes _ _ _ _ _ (fT T6 m 38 #[vr x, vi 3, vr y, vi 3, vi 4, vi 2, vi c2] [])
 refine Gz (XS.iinc X6.here hx rfl (hb hby d18_38) rfl (l' := #[vr x, vi 3, vr y, vi 3, vi 4, vi ((2 : Int32) + (1 : Int32)), vi c2]) rfl) ?_
 rw [show ((2 : Int32) + (1 : Int32)) = 3 from by decide]
 show Goes _ _ _ _ _ (fT T6 m 41 #[vr x, vi 3, vr y, vi 3, vi 4, vi 3, vi c2] [])
 refine Gz (XS.goto X6.here hx rfl (pc0 := 41) (pc' := 3) rfl (hb hby d18_41) (by decide) (by decide)) ?_
 refine gI X6 hx hby d18_3 rfl rfl ?_
 refine gI X6 hx hby d18_5 rfl rfl ?_
 refine Gz (XS.icmpNo X6.here hx rfl (hb hby d18_7) rfl (tlt (by decide : ((3 : Int32) < (4 : Int32)))).2.1) ?_
 refine gA X6 hx hby d18_10 rfl rfl rfl ?_
 refine gN X6 hx hby d18_11 rfl rfl ?_
 show Goes _ _ _ _ _ (fT T6 m 12 #[vr x, vi 3, vr y, vi 3, vi 4, vi 3, vi c2] [(.int 3), (.ref x)])
 obtain ⟨cl7, Ar7, -, S7, N7z, H7, -⟩ := id V_x
 have hin7 : ¬ ((3 : Int32) < 0 ∨ cl7.slots.size ≤ ((3 : Int32)).toNatClampNeg) := inb_of S7 ⟨by decide, by decide⟩
 have hat7 : cl7.slots[((3 : Int32)).toNatClampNeg]? = some (.int c3) := Has.at H7 hin7 rfl
 refine Gs (fun _ tk => X6.caload hx (j := (3 : Int32)) (v := (.int c3)) (by rw [e6]; exact Ar7.1) (State.isArrayOf_alike hZ.alike Ar7.2.1) Ar7.2.2 hin7 hat7 (g := (mkF m 12 #[vr x, vi 3, vr y, vi 3, vi 4, vi 3, vi c2] [(.int 3), (.ref x)])) rfl rfl (hb hby d18_12) _ tk) ?_
 show Goes _ _ _ _ _ (fT T6 m 13 #[vr x, vi 3, vr y, vi 3, vi 4, vi 3, vi c2] [(.int c3)])
 refine Gz (XS.istore X6.here hx rfl (hb hby d18_13) rfl (l' := #[vr x, vi 3, vr y, vi 3, vi 4, vi 3, vi c3]) rfl) ?_
 refine gI X6 hx hby d18_15 rfl rfl ?_
 refine Gz (XS.sipush X6.here hx rfl (hb hby d18_17)) ?_
 refine Gz (XS.icmpYes X6.here hx rfl (pc0 := 20) (pc' := 26) rfl (hb hby d18_20) rfl (flt hn_c3).2.2.2 (by decide) (by decide)) ?_
 refine gA X6 hx hby d18_26 rfl rfl rfl ?_
 refine gN X6 hx hby d18_27 rfl rfl ?_
 show Goes _ _ _ _ _ (fT T6 m 28 #[vr x, vi 3, vr y, vi 3, vi 4, vi 3, vi c3] [(.int 3), (.ref y)])
 refine gI X6 hx hby d18_28 rfl rfl ?_
 show Goes _ _ _ _ _ (fT T6 m 30 #[vr x, vi 3, vr y, vi 3, vi 4, vi 3, vi c3] [(.int c3), (.int 3), (.ref y)])
 refine Gz (XS.i2b X6.here hx rfl (hb hby d18_30) rfl) ?_
 show Goes _ _ _ _ _ (fT T6 m 31 #[vr x, vi 3, vr y, vi 3, vi 4, vi 3, vi c3] [(.int (c3.toInt8.toInt32)), (.int 3), (.ref y)])
 obtain ⟨cl8, Ar8, q8, S8, N8z, H8, G8⟩ := V_y
 have hin8 : ¬ ((3 : Int32) < 0 ∨ cl8.slots.size ≤ ((3 : Int32)).toNatClampNeg) := inb_of S8 ⟨by decide, by decide⟩
 obtain ⟨T8, h8, X8, e8, W8, st8⟩ := stB X6 hx hZ e6 Ar8 (j := (3 : Int32)) hin8 (g := (mkF m 31 #[vr x, vi 3, vr y, vi 3, vi 4, vi 3, vi c3] [(.int (c3.toInt8.toInt32)), (.int 3), (.ref y)])) rfl rfl (hb hby d18_31)
 have Vn8 := Arv.set Ar8 q8 S8 N8z H8 G8 (fits_nar_byte _) W8 3 rfl (Nat.le_of_ble_eq_true rfl)
 have N8 := Fr.snoc X8 N6 g_y
 replace KP := KP.wr W8 (Or.inl (List.mem_of_getElem? (i := 0) rfl))
 have V_y : Arv Z h8 y ky .byte 4 [(.int (lo8 c0)), (.int (lo8 c1)), (.int (lo8 c2)), (.int (lo8 c3))] (.int 0) := by have q := Vn8; rw [own_nb2] at q; exact q
 replace Z0 : n0 ≤ h8.size := by rw [W8.size]; exact Z0
 refine Gs st8 ?_
 show Goes _ _ _ _ _ (fT T8 m 32 #[vr x, vi 3, vr y, vi 3, vi 4, vi 3, vi c3] [])
 refine Gz (XS.iinc X8.here hx rfl (hb hby d18_32) rfl (l' := #[vr x, vi ((3 : Int32) + (1 : Int32)), vr y, vi 3, vi 4, vi 3, vi c3]) rfl) ?_
 rw [show ((3 : Int32) + (1 : Int32)) = 4 from by decide]
 show Goes _ _ _ _ _ (fT T8 m 35 #[vr x, vi 4, vr y, vi 3, vi 4, vi 3, vi c3] [])
 refine Gz (XS.iinc X8.here hx rfl (hb hby d18_35) rfl (l' := #[vr x, vi 4, vr y, vi ((3 : Int32) + (1 : Int32)), vi 4, vi 3, vi c3]) rfl) ?_
 rw [show ((3 : Int32) + (1 : Int32)) = 4 from by decide]
 show Goes _ _ _ _ _ (fT T8 m 38 #[vr x, vi 4, vr y, vi 4, vi 4, vi 3, vi c3] [])
 refine Gz (XS.iinc X8.here hx rfl (hb hby d18_38) rfl (l' := #[vr x, vi 4, vr y, vi 4, vi 4, vi ((3 : Int32) + (1 : Int32)), vi c3]) rfl) ?_
 rw [show ((3 : Int32) + (1 : Int32)) = 4 from by decide]
 show Goes _ _ _ _ _ (fT T8 m 41 #[vr x, vi 4, vr y, vi 4, vi 4, vi 4, vi c3] [])
 refine Gz (XS.goto X8.here hx rfl (pc0 := 41) (pc' := 3) rfl (hb hby d18_41) (by decide) (by decide)) ?_
 refine gI X8 hx hby d18_3 rfl rfl ?_
 refine gI X8 hx hby d18_5 rfl rfl ?_
 refine Gz (XS.icmpYes X8.here hx rfl (pc0 := 7) (pc' := 44) rfl (hb hby d18_7) rfl (flt (by decide : ¬ ((4 : Int32) < (4 : Int32)))).2.1 (by decide) (by decide)) ?_
 refine gI X8 hx hby d18_44 rfl rfl ?_
 refine Goes.ret X8 (some (.int 4)) (fun h => by rw [hret] at h; cases h) hlk (by decide) (by decide) ?_ (fun fs hr => ?_)
 ·rw [e8]; exact ⟨rfl, N8, KP, V_y⟩
 ·exact retI X8 hx hret (hb hby d18_46) hr
theorem own_ef_rs_c3_4_4 (m : MethodId) (x0 : Addr) : entryFrame m #[(.ref x0), (.int 0), (.int 4)] 6 = mkF m 0 #[vr x0, vi 0, vi 4, vu, vu, vu] [] := by first | (simp [entryFrame, mkF, argsToLocals, Value.category]; done) | rfl
def Q_rs_c3_4_4 (Z : State) (x : Addr) (kx : ClassId) (c0 : Int32) (c1 : Int32) (c2 : Int32) (c3 : Int32) (h0 : Heap) (n0 : Nat) (v : Option Value) (h : Heap) (L : List Loc) : Prop := ∃ y : Addr, ∃ ky : ClassId, v = some (.ref y) ∧ Fr n0 L ∧ Keep h0 h [] ∧ Arv Z h y ky .byte 4 [(.int (lo8 c0)), (.int (lo8 c1)), (.int (lo8 c2)), (.int (lo8 c3))] (.int 0) ∧ n0 ≤ y ∧ h0.size ≤ y
set_option maxRecDepth 65536 in
set_option maxHeartbeats 40000000 in
theorem rs_c3_4_4 (l : Launch) (Z : State) (a0 : Array Value) (hw : HW a0 Z) (ws : List Jvm.Cond) (x : Addr) (kx : ClassId) (c0 : Int32) (c1 : Int32) (c2 : Int32) (c3 : Int32) (h0 : Heap) (n0 : Nat) (Z0 : n0 ≤ h0.size) (V_x : Arv Z h0 x kx .char 4 [(.int c0), (.int c1), (.int c2), (.int c3)] (.int 0)) (hn_c0 : ¬ ((255 : Int32) < c0)) (hn_c1 : ¬ ((255 : Int32) < c1)) (hn_c2 : ¬ ((255 : Int32) < c2)) (hn_c3 : ¬ ((255 : Int32) < c3)) :
  Met l Z mN19 jdk_52_method_16_code 6 (some (.array .byte)) ({ frames := 1, cells := 1, slots := 4, locals := 18 } : Room) ws #[(.ref x), (.int 0), (.int 4)] h0 (Q_rs_c3_4_4 Z x kx c0 c1 c2 c3 h0 n0) := by
 refine own_met (plainFor_of_name own_pn2) ?_
 intro p e s m below meth c s₁ hret hx hby hlk hml hown hnm X0 e0 hZ hh
 have N0 := Fr.nil n0
 refine Gz (castTop (own_ef_rs_c3_4_4 m x)) ?_
 have KP : Keep h0 h0 [] := Keep.refl _ _
 show Goes _ _ _ _ _ (fT s₁ m 0 #[vr x, vi 0, vi 4, vu, vu, vu] [])
 refine gN X0 hx hby d19_0 rfl rfl ?_
 obtain ⟨T1, h1, k1, X1, e1, E1, A1, st1⟩ := newP X0 hx hZ (gw hw 20 rfl) e0 (g := (mkF m 1 #[vr x, vi 0, vi 4, vu, vu, vu] [(.int 4)])) rfl (hb hby d19_1) rfl (by decide) (cap := 4) (by decide) (by decide) (by decide) (by decide)
 obtain ⟨b1, gq1⟩ : ∃ z, z = h0.size := ⟨_, rfl⟩
 rw [← gq1] at A1 st1
 have g_b1 : n0 ≤ b1 := by rw [gq1]; exact Z0
 have sz_b1 : h0.size ≤ b1 := by rw [gq1]; exact KP.1
 have ne_x_b1 : x ≠ b1 := by rw [gq1]; exact Nat.ne_of_lt V_x.lt
 replace V_x := V_x.ext E1
 replace KP := KP.ext E1
 replace Z0 : n0 ≤ h1.size := Nat.le_trans Z0 E1.1
 have V_b1 : Arv Z h1 b1 k1 .byte 4 [(.int 0), (.int 0), (.int 0), (.int 0)] (.int 0) := (Arv.new A1 (by decide)).pad (pad_rep [] (.int 0) 4)
 refine Gs st1 ?_
 show Goes _ _ _ _ _ (fT T1 m 3 #[vr x, vi 0, vi 4, vu, vu, vu] [(.ref b1)])
 refine Gz (XS.astoreN X1.here hx rfl (hb hby d19_3) rfl rfl (l' := #[vr x, vi 0, vi 4, vr b1, vu, vu]) rfl) ?_
 refine gA X1 hx hby d19_4 rfl rfl rfl ?_
 refine gN X1 hx hby d19_5 rfl rfl ?_
 refine gA X1 hx hby d19_6 rfl rfl rfl ?_
 refine Gz (XS.iconst X1.here hx rfl (hb hby d19_7)) ?_
 refine gN X1 hx hby d19_8 rfl rfl ?_
 show Goes _ _ _ _ _ (fT T1 m 9 #[vr x, vi 0, vi 4, vr b1, vu, vu] [(.int 4), (.int 0), (.ref b1), (.int 0), (.ref x)])
 obtain ⟨_, _, ⟨T2, L2, k2, n2⟩, -, X2, ⟨Lc2, hQ2, l2, y2, z2⟩, st2⟩ := Jvm.LawKit.callS X1 hx (y := mN18) hown (gz hZ hw 57 rfl) (gz hZ hw 58 rfl) (gz hZ hw 55 rfl) (gz hZ hw 59 rfl) (by decide) (backOf (W := 0) (rs_c5_4_4 l Z a0 hw [] x kx b1 k1 c0 c1 c2 c3 h1 n0 Z0 V_x V_b1 g_b1 ne_x_b1 (by first | assumption | decide) (by first | assumption | decide) (by first | assumption | decide) (by first | assumption | decide)) hZ (gw hw 59 rfl) (gw hw 55 rfl) (by decide) (by decide)) (g := (mkF m 9 #[vr x, vi 0, vi 4, vr b1, vu, vu] [(.int 4), (.int 0), (.ref b1), (.int 0), (.ref x)])) rfl hml.symm (argsL := [(.ref x), (.int 0), (.ref b1), (.int 0), (.int 4)]) (rest := []) (lenOf own_pd13 rfl) rfl (wz rfl) (hb hby d19_9) (fun _ _ => ⟨rfl, e1, (by decide : 1 + 0 ≤ _), (by decide : 4 + 0 ≤ _)⟩)
 dsimp only [Pt.U, Pt.locs, Pt.cells, Pt.slots] at X2 l2 y2 z2 st2 hQ2
 subst l2 y2 z2
 obtain ⟨rfl, N2q, K2, V_b1_2'⟩ := hQ2
 have N2 := Fr.app N0 N2q
 replace KP := KP.trans K2 (allS (Or.inr sz_b1) all0)
 replace Z0 := Nat.le_trans Z0 K2.1
 have V_b1 := V_b1_2'
 refine Gs st2 ?_
 show Goes _ _ _ _ _ (fT T2 m 12 #[vr x, vi 0, vi 4, vr b1, vu, vu] [(.int 4)])
 refine Gz (XS.istore X2.here hx rfl (hb hby d19_12) rfl (l' := #[vr x, vi 0, vi 4, vr b1, vi 4, vu]) rfl) ?_
 refine gI X2 hx hby d19_14 rfl rfl ?_
 refine gN X2 hx hby d19_16 rfl rfl ?_
 refine Gz (XS.icmpYes X2.here hx rfl (pc0 := 17) (pc' := 57) rfl (hb hby d19_17) rfl (teq (by decide : ((4 : Int32) = (4 : Int32)))).1 (by decide) (by decide)) ?_
 refine gA X2 hx hby d19_57 rfl rfl rfl ?_
 refine Goes.ret X2 (some (.ref b1)) (fun h => by rw [hret] at h; cases h) hlk (by decide) (by decide) ?_ (fun fs hr => ?_)
 ·exact ⟨b1, k1, rfl, N2, KP, V_b1, g_b1, sz_b1⟩
 ·exact own_retA X2 hx hret rfl rfl (hb hby d19_58) hr
theorem own_ef_rs_cf_4_4 (m : MethodId) (x0 : Addr) : entryFrame m #[(.ref x0), (.int 4)] 2 = mkF m 0 #[vr x0, vi 4] [] := by first | (simp [entryFrame, mkF, argsToLocals, Value.category]; done) | rfl
def Q_rs_cf_4_4 (Z : State) (y : Addr) (ky : ClassId) (vs : List Value) (h0 : Heap) (n0 : Nat) (v : Option Value) (h : Heap) (L : List Loc) : Prop := v = some (.int 0) ∧ Fr n0 L ∧ h = h0
set_option maxRecDepth 65536 in
set_option maxHeartbeats 40000000 in
theorem rs_cf_4_4 (l : Launch) (Z : State) (a0 : Array Value) (hw : HW a0 Z) (ws : List Jvm.Cond) (y : Addr) (ky : ClassId) (vs : List Value) (h0 : Heap) (n0 : Nat) (Z0 : n0 ≤ h0.size) (V_y : Arv Z h0 y ky .byte 4 vs (.int 0)) :
  Met l Z mN20 jdk_52_method_15_code 2 (some .byte) ({ frames := 0, cells := 0, slots := 0, locals := 0 } : Room) ws #[(.ref y), (.int 4)] h0 (Q_rs_cf_4_4 Z y ky vs h0 n0) := by
 refine own_met (plainFor_of_name own_pn2) ?_
 intro p e s m below meth c s₁ hret hx hby hlk hml hown hnm X0 e0 hZ hh
 have N0 := Fr.nil n0
 refine Gz (castTop (own_ef_rs_cf_4_4 m y)) ?_
 show Goes _ _ _ _ _ (fT s₁ m 0 #[vr y, vi 4] [])
 refine gN X0 hx hby d20_0 rfl rfl ?_
 refine gA X0 hx hby d20_1 rfl rfl rfl ?_
 obtain ⟨cl1, Ar1, -, S1, N1z, -, -⟩ := id V_y
 refine Gs (fun _ tk => X0.arraylength hx (by rw [e0]; exact Ar1.1) (State.isArrayOf_alike hZ.alike Ar1.2.1) (g := (mkF m 2 #[vr y, vi 4] [(.ref y), (.int 4)])) rfl rfl (hb hby d20_2) _ tk) ?_
 rw [len_of S1 N1z]
 show Goes _ _ _ _ _ (fT s₁ m 3 #[vr y, vi 4] [(.int 4), (.int 4)])
 refine Gz (XS.isub X0.here hx rfl (hb hby d20_3) rfl) ?_
 rw [show ((4 : Int32) - (4 : Int32)) = 0 from by decide]
 show Goes _ _ _ _ _ (fT s₁ m 4 #[vr y, vi 4] [(.int 0)])
 refine Gz (XS.bipush X0.here hx rfl (hb hby d20_4)) ?_
 show Goes _ _ _ _ _ (fT s₁ m 6 #[vr y, vi 4] [(.int 31), (.int 0)])
 refine Gz (XS.iushr X0.here hx rfl (hb hby d20_6) rfl) ?_
 rw [show (((0 : Int32).toUInt32 >>> ((31 : Int32) &&& 31).toUInt32).toInt32) = (0 : Int32) from by decide]
 show Goes _ _ _ _ _ (fT s₁ m 7 #[vr y, vi 4] [(.int 0)])
 refine Gz (XS.i2b X0.here hx rfl (hb hby d20_7) rfl) ?_
 rw [show ((0 : Int32).toInt8.toInt32) = (0 : Int32) from by decide]
 show Goes _ _ _ _ _ (fT s₁ m 8 #[vr y, vi 4] [(.int 0)])
 refine Goes.ret X0 (some (.int 0)) (fun h => by rw [hret] at h; cases h) hlk (by decide) (by decide) ?_ (fun fs hr => ?_)
 ·exact ⟨rfl, N0, e0⟩
 ·exact own_retN X0 hx (t := .byte) hret (by simp) rfl (hb hby d20_8) hr
theorem own_ef_rs_cf_4_8 (m : MethodId) (x0 : Addr) : entryFrame m #[(.ref x0), (.int 4)] 2 = mkF m 0 #[vr x0, vi 4] [] := by first | (simp [entryFrame, mkF, argsToLocals, Value.category]; done) | rfl
def Q_rs_cf_4_8 (Z : State) (y : Addr) (ky : ClassId) (vs : List Value) (h0 : Heap) (n0 : Nat) (v : Option Value) (h : Heap) (L : List Loc) : Prop := v = some (.int 1) ∧ Fr n0 L ∧ h = h0
set_option maxRecDepth 65536 in
set_option maxHeartbeats 40000000 in
theorem rs_cf_4_8 (l : Launch) (Z : State) (a0 : Array Value) (hw : HW a0 Z) (ws : List Jvm.Cond) (y : Addr) (ky : ClassId) (vs : List Value) (h0 : Heap) (n0 : Nat) (Z0 : n0 ≤ h0.size) (V_y : Arv Z h0 y ky .byte 8 vs (.int 0)) :
  Met l Z mN20 jdk_52_method_15_code 2 (some .byte) ({ frames := 0, cells := 0, slots := 0, locals := 0 } : Room) ws #[(.ref y), (.int 4)] h0 (Q_rs_cf_4_8 Z y ky vs h0 n0) := by
 refine own_met (plainFor_of_name own_pn2) ?_
 intro p e s m below meth c s₁ hret hx hby hlk hml hown hnm X0 e0 hZ hh
 have N0 := Fr.nil n0
 refine Gz (castTop (own_ef_rs_cf_4_8 m y)) ?_
 show Goes _ _ _ _ _ (fT s₁ m 0 #[vr y, vi 4] [])
 refine gN X0 hx hby d20_0 rfl rfl ?_
 refine gA X0 hx hby d20_1 rfl rfl rfl ?_
 obtain ⟨cl1, Ar1, -, S1, N1z, -, -⟩ := id V_y
 refine Gs (fun _ tk => X0.arraylength hx (by rw [e0]; exact Ar1.1) (State.isArrayOf_alike hZ.alike Ar1.2.1) (g := (mkF m 2 #[vr y, vi 4] [(.ref y), (.int 4)])) rfl rfl (hb hby d20_2) _ tk) ?_
 rw [len_of S1 N1z]
 show Goes _ _ _ _ _ (fT s₁ m 3 #[vr y, vi 4] [(.int 8), (.int 4)])
 refine Gz (XS.isub X0.here hx rfl (hb hby d20_3) rfl) ?_
 rw [show ((4 : Int32) - (8 : Int32)) = (-4 : Int32) from by decide]
 show Goes _ _ _ _ _ (fT s₁ m 4 #[vr y, vi 4] [(.int (-4 : Int32))])
 refine Gz (XS.bipush X0.here hx rfl (hb hby d20_4)) ?_
 show Goes _ _ _ _ _ (fT s₁ m 6 #[vr y, vi 4] [(.int 31), (.int (-4 : Int32))])
 refine Gz (XS.iushr X0.here hx rfl (hb hby d20_6) rfl) ?_
 rw [show (((-4 : Int32).toUInt32 >>> ((31 : Int32) &&& 31).toUInt32).toInt32) = (1 : Int32) from by decide]
 show Goes _ _ _ _ _ (fT s₁ m 7 #[vr y, vi 4] [(.int 1)])
 refine Gz (XS.i2b X0.here hx rfl (hb hby d20_7) rfl) ?_
 rw [show ((1 : Int32).toInt8.toInt32) = (1 : Int32) from by decide]
 show Goes _ _ _ _ _ (fT s₁ m 8 #[vr y, vi 4] [(.int 1)])
 refine Goes.ret X0 (some (.int 1)) (fun h => by rw [hret] at h; cases h) hlk (by decide) (by decide) ?_ (fun fs hr => ?_)
 ·exact ⟨rfl, N0, e0⟩
 ·exact own_retN X0 hx (t := .byte) hret (by simp) rfl (hb hby d20_8) hr
theorem own_ef_rs_i4_4 (m : MethodId) (x0 : Addr) (x1 : Addr) : entryFrame m #[(.ref x0), (.ref x1), (.int 0), (.int 4), .null] 6 = mkF m 0 #[vr x0, vr x1, vi 0, vi 4, .val .null, vu] [] := by first | (simp [entryFrame, mkF, argsToLocals, Value.category]; done) | rfl
def Q_rs_i4_4 (Z : State) (a : Addr) (x : Addr) (kx : ClassId) (c0 : Int32) (c1 : Int32) (c2 : Int32) (c3 : Int32) (cz : Int32) (h0 : Heap) (n0 : Nat) (v : Option Value) (h : Heap) (L : List Loc) : Prop := v = none ∧ Fr n0 L ∧ Keep h0 h [a] ∧ StrOf Z h a [c0, c1, c2, c3]
set_option maxRecDepth 65536 in
set_option maxHeartbeats 40000000 in
theorem rs_i4_4 (l : Launch) (Z : State) (a0 : Array Value) (hw : HW a0 Z) (ws : List Jvm.Cond) (a : Addr) (x : Addr) (kx : ClassId) (c0 : Int32) (c1 : Int32) (c2 : Int32) (c3 : Int32) (cz : Int32) (h0 : Heap) (n0 : Nat) (Z0 : n0 ≤ h0.size) (A_a : Exa Z h0 a "java/lang/String") (F_value_a : Fld Z h0 a "java/lang/String" "value" "[B" .null) (F_coder_a : Fld Z h0 a "java/lang/String" "coder" "B" (.int 0)) (V_x : Arv Z h0 x kx .char 4 [(.int c0), (.int c1), (.int c2), (.int c3)] (.int 0)) (g_a : n0 ≤ a) (ne_x_a : x ≠ a) (sgC : Sta Z h0 "java/lang/String" "COMPACT_STRINGS" "Z" (.int cz)) (hcz : ¬ (cz = 0)) (hC_c0 : Chr c0) (hC_c1 : Chr c1) (hC_c2 : Chr c2) (hC_c3 : Chr c3) (sgA : Sta Z h0 "java/lang/StringUTF16" "$assertionsDisabled" "Z" (.int 1)) (sgH : Sta Z h0 "java/lang/StringUTF16" "HI_BYTE_SHIFT" "I" (.int 0)) (sgL : Sta Z h0 "java/lang/StringUTF16" "LO_BYTE_SHIFT" "I" (.int 8)) :
  Met l Z mN12 jdk_42_method_149_code 6 none ({ frames := 4, cells := 2, slots := 12, locals := 57 } : Room) ws #[(.ref a), (.ref x), (.int 0), (.int 4), .null] h0 (Q_rs_i4_4 Z a x kx c0 c1 c2 c3 cz h0 n0) := by
 refine own_met (plainFor_of_name own_pn0) ?_
 intro p e s m below meth c s₁ hret hx hby hlk hml hown hnm X0 e0 hZ hh
 have N0 := Fr.nil n0
 refine Gz (castTop (own_ef_rs_i4_4 m a x)) ?_
 have KP : Keep h0 h0 [a] := Keep.refl _ _
 show Goes _ _ _ _ _ (fT s₁ m 0 #[vr a, vr x, vi 0, vi 4, .val .null, vu] [])
 by_cases hn_c0 : (255 : Int32) < c0
 ·show Goes _ _ _ _ _ (fT s₁ m 0 #[vr a, vr x, vi 0, vi 4, .val .null, vu] [])
  refine gA X0 hx hby d12_0 rfl rfl rfl ?_
  obtain ⟨T1, X1, e1, st1⟩ := initO X0 hx hZ hown (gw hw 16 rfl) (gw hw 17 rfl) (gw hw 18 rfl) e0 (g := (mkF m 1 #[vr a, vr x, vi 0, vi 4, .val .null, vu] [(.ref a)])) rfl hml.symm rfl (hb hby d12_1) (by decide) (W := 0) (wz rfl) (by decide)
  refine Gs st1 ?_
  show Goes _ _ _ _ _ (fT T1 m 4 #[vr a, vr x, vi 0, vi 4, .val .null, vu] [])
  refine gN X1 hx hby d12_4 rfl rfl ?_
  refine Gz (XS.ifYes X1.here hx rfl (pc0 := 5) (pc' := 27) rfl (hb hby d12_5) rfl ((if0 _ _).trans (feq (by decide : ¬ ((4 : Int32) = (0 : Int32)))).2) (by decide) (by decide)) ?_
  obtain ⟨T2, X2, e2, st2⟩ := getS2 X1 hx hZ hown (host := "") (Or.inl (gw hw 51 rfl)) Via.refl e1 sgC (g := (mkF m 27 #[vr a, vr x, vi 0, vi 4, .val .null, vu] [])) rfl (hb hby d12_27)
  refine Gs st2 ?_
  show Goes _ _ _ _ _ (fT T2 m 30 #[vr a, vr x, vi 0, vi 4, .val .null, vu] [(.int cz)])
  refine Gz (XS.ifNo X2.here hx rfl (hb hby d12_30) rfl ((if0 _ _).trans (feq hcz).1)) ?_
  refine gA X2 hx hby d12_33 rfl rfl rfl ?_
  refine gN X2 hx hby d12_34 rfl rfl ?_
  refine gN X2 hx hby d12_35 rfl rfl ?_
  have ltc3_a : a < h0.size := A_a.lt
  have ltc3_x : x < h0.size := V_x.lt
  obtain ⟨_, _, ⟨T3, L3, k3, n3⟩, -, X3, ⟨Lc3, hQ3, l3, y3, z3⟩, st3⟩ := Jvm.LawKit.callS X2 hx (y := mN19) hown (gz hZ hw 53 rfl) (gz hZ hw 54 rfl) (gz hZ hw 55 rfl) (gz hZ hw 56 rfl) (by decide) (backOf (W := 0) (rs_c3_4_0 l Z a0 hw [] x kx c0 c1 c2 c3 h0 n0 Z0 V_x (by first | assumption | decide) (by first | assumption | decide) (by first | assumption | decide) (by first | assumption | decide) (by first | assumption | decide) sgA sgH sgL) hZ (gw hw 56 rfl) (gw hw 55 rfl) (by decide) (by decide)) (g := (mkF m 36 #[vr a, vr x, vi 0, vi 4, .val .null, vu] [(.int 4), (.int 0), (.ref x)])) rfl hml.symm (argsL := [(.ref x), (.int 0), (.int 4)]) (rest := []) (lenOf own_pd14 rfl) rfl (wz rfl) (hb hby d12_36) (fun _ _ => ⟨rfl, e2, (by decide : 0 + 2 ≤ _), (by decide : 0 + 12 ≤ _)⟩)
  dsimp only [Pt.U, Pt.locs, Pt.cells, Pt.slots] at X3 l3 y3 z3 st3 hQ3
  subst l3 y3 z3
  obtain ⟨y3, ky3, rfl, N3q, K3, V_y3_3', g_y3_3', sz_y3_3'⟩ := hQ3
  have N3 := Fr.app N0 N3q
  replace sgC := own_staK sgC K3 all0
  replace sgA := own_staK sgA K3 all0
  replace sgH := own_staK sgH K3 all0
  replace sgL := own_staK sgL K3 all0
  replace A_a := A_a.keep K3
  replace F_value_a := F_value_a.keep K3 nin0
  replace F_coder_a := F_coder_a.keep K3 nin0
  replace V_x := V_x.keep K3 nin0
  replace KP := KP.trans K3 all0
  replace Z0 := Nat.le_trans Z0 K3.1
  have V_y3 := V_y3_3'
  have g_y3 := g_y3_3'
  have szc_y3 := sz_y3_3'
  have ne_a_y3 : a ≠ y3 := Nat.ne_of_lt (Nat.lt_of_lt_of_le ltc3_a szc_y3)
  have ne_x_y3 : x ≠ y3 := Nat.ne_of_lt (Nat.lt_of_lt_of_le ltc3_x szc_y3)
  refine Gs st3 ?_
  show Goes _ _ _ _ _ (fT T3 m 39 #[vr a, vr x, vi 0, vi 4, .val .null, vu] [(.ref y3)])
  refine Gz (XS.astore X3.here hx rfl (hb hby d12_39) rfl rfl (l' := #[vr a, vr x, vi 0, vi 4, .val .null, vr y3]) rfl) ?_
  refine gA X3 hx hby d12_41 rfl rfl rfl ?_
  refine Gz (XS.aload X3.here hx rfl (hb hby d12_42) rfl rfl) ?_
  refine gN X3 hx hby d12_44 rfl rfl ?_
  obtain ⟨_, _, ⟨T4, L4, k4, n4⟩, -, X4, ⟨Lc4, hQ4, l4, y4, z4⟩, st4⟩ := Jvm.LawKit.callS X3 hx (y := mN20) hown (gz hZ hw 79 rfl) (gz hZ hw 80 rfl) (gz hZ hw 55 rfl) (gz hZ hw 81 rfl) (by decide) (backOf (W := 1) (rs_cf_4_8 l Z a0 hw [] y3 ky3 [(.int (lo8 c0)), (.int (hi8 c0)), (.int (lo8 c1)), (.int (hi8 c1)), (.int (lo8 c2)), (.int (hi8 c2)), (.int (lo8 c3)), (.int (hi8 c3))] T3.heap n0 Z0 V_y3) hZ (gw hw 81 rfl) (gw hw 55 rfl) (by decide) (by decide)) (g := (mkF m 45 #[vr a, vr x, vi 0, vi 4, .val .null, vr y3] [(.int 4), (.ref y3), (.ref a)])) rfl hml.symm (argsL := [(.ref y3), (.int 4)]) (rest := [(.ref a)]) (lenOf own_pd15 rfl) rfl (wz rfl) (hb hby d12_45) (fun _ _ => ⟨rfl, rfl, (by decide : 2 + 0 ≤ _), (by decide : 12 + 0 ≤ _)⟩)
  dsimp only [Pt.U, Pt.locs, Pt.cells, Pt.slots] at X4 l4 y4 z4 st4 hQ4
  subst l4 y4 z4
  obtain ⟨rfl, N4q, e4⟩ := hQ4
  have N4 := Fr.app N3 N4q
  refine Gs st4 ?_
  show Goes _ _ _ _ _ (fT T4 m 48 #[vr a, vr x, vi 0, vi 4, .val .null, vr y3] [(.int 1), (.ref a)])
  obtain ⟨T5, h5, X5, e5, W5, st5⟩ := putFN X4 hx hZ hown (gw hw 26 rfl) Via.refl e4 F_coder_a A_a (Or.inr ⟨(gw hw 22 rfl), rfl, hnm⟩) (gw hw 7 rfl) (ty := .byte) (v' := .int 1) (by decide) rfl rfl (g := (mkF m 48 #[vr a, vr x, vi 0, vi 4, .val .null, vr y3] [(.int 1), (.ref a)])) rfl rfl (hb hby d12_48)
  have N5 := Fr.snoc X5 N4 g_a
  replace A_a := A_a.wr W5
  replace F_value_a := F_value_a.other W5 (Or.inr (slot_ne (Or.inr (gw hw 21 rfl)) (Or.inr (gw hw 22 rfl)) (by decide) (t := (.array .byte)) (t' := .byte) (by decide) (by decide)))
  replace V_x := V_x.other W5 ne_x_a
  replace sgC := sgC.wr W5
  replace sgA := sgA.wr W5
  replace sgH := sgH.wr W5
  replace sgL := sgL.wr W5
  replace V_y3 := V_y3.other W5 (Ne.symm ne_a_y3)
  replace KP := KP.wr W5 (Or.inl (List.mem_of_getElem? (i := 0) rfl))
  replace F_coder_a := F_coder_a.same W5
  replace Z0 : n0 ≤ h5.size := by rw [W5.size]; exact Z0
  refine Gs st5 ?_
  show Goes _ _ _ _ _ (fT T5 m 51 #[vr a, vr x, vi 0, vi 4, .val .null, vr y3] [])
  refine gA X5 hx hby d12_51 rfl rfl rfl ?_
  refine Gz (XS.aload X5.here hx rfl (hb hby d12_52) rfl rfl) ?_
  obtain ⟨T6, h6, X6, e6, W6, st6⟩ := putF X5 hx hZ hown (host := "") (Or.inl (gw hw 25 rfl)) Via.refl e5 F_value_a A_a (Or.inr ⟨(gw hw 21 rfl), rfl, hnm⟩) (gw hw 7 rfl) (ty := (.array .byte)) (by decide) rfl rfl (g := (mkF m 54 #[vr a, vr x, vi 0, vi 4, .val .null, vr y3] [(.ref y3), (.ref a)])) rfl rfl (hb hby d12_54)
  have N6 := Fr.snoc X6 N5 g_a
  replace A_a := A_a.wr W6
  replace F_coder_a := F_coder_a.other W6 (Or.inr (slot_ne (Or.inr (gw hw 22 rfl)) (Or.inr (gw hw 21 rfl)) (by decide) (t := .byte) (t' := (.array .byte)) (by decide) (by decide)))
  replace V_x := V_x.other W6 ne_x_a
  replace sgC := sgC.wr W6
  replace sgA := sgA.wr W6
  replace sgH := sgH.wr W6
  replace sgL := sgL.wr W6
  replace V_y3 := V_y3.other W6 (Ne.symm ne_a_y3)
  replace KP := KP.wr W6 (Or.inl (List.mem_of_getElem? (i := 0) rfl))
  replace F_value_a := F_value_a.same W6
  replace Z0 : n0 ≤ h6.size := by rw [W6.size]; exact Z0
  refine Gs st6 ?_
  show Goes _ _ _ _ _ (fT T6 m 57 #[vr a, vr x, vi 0, vi 4, .val .null, vr y3] [])
  have T_a : StrOf Z h6 a [c0, c1, c2, c3] := StrOf.utf A_a F_value_a F_coder_a V_y3 (by intro c hc; simp only [List.mem_cons, List.not_mem_nil, or_false] at hc; rcases hc with rfl | rfl | rfl | rfl <;> first | assumption | (exact own_toLat (by assumption) (by assumption))) rfl rfl (Nat.le_of_ble_eq_true rfl)
  refine Goes.ret X6 none (fun _ => rfl) hlk (by decide) (by decide) ?_ (fun fs hr => ?_)
  ·rw [e6]; exact ⟨rfl, N6, KP, T_a⟩
  ·exact X6.returnOut hx hret (hb hby d12_57) hr
 ·show Goes _ _ _ _ _ (fT s₁ m 0 #[vr a, vr x, vi 0, vi 4, .val .null, vu] [])
  by_cases hn_c1 : (255 : Int32) < c1
  ·show Goes _ _ _ _ _ (fT s₁ m 0 #[vr a, vr x, vi 0, vi 4, .val .null, vu] [])
   refine gA X0 hx hby d12_0 rfl rfl rfl ?_
   obtain ⟨T7, X7, e7, st7⟩ := initO X0 hx hZ hown (gw hw 16 rfl) (gw hw 17 rfl) (gw hw 18 rfl) e0 (g := (mkF m 1 #[vr a, vr x, vi 0, vi 4, .val .null, vu] [(.ref a)])) rfl hml.symm rfl (hb hby d12_1) (by decide) (W := 0) (wz rfl) (by decide)
   refine Gs st7 ?_
   show Goes _ _ _ _ _ (fT T7 m 4 #[vr a, vr x, vi 0, vi 4, .val .null, vu] [])
   refine gN X7 hx hby d12_4 rfl rfl ?_
   refine Gz (XS.ifYes X7.here hx rfl (pc0 := 5) (pc' := 27) rfl (hb hby d12_5) rfl ((if0 _ _).trans (feq (by decide : ¬ ((4 : Int32) = (0 : Int32)))).2) (by decide) (by decide)) ?_
   obtain ⟨T8, X8, e8, st8⟩ := getS2 X7 hx hZ hown (host := "") (Or.inl (gw hw 51 rfl)) Via.refl e7 sgC (g := (mkF m 27 #[vr a, vr x, vi 0, vi 4, .val .null, vu] [])) rfl (hb hby d12_27)
   refine Gs st8 ?_
   show Goes _ _ _ _ _ (fT T8 m 30 #[vr a, vr x, vi 0, vi 4, .val .null, vu] [(.int cz)])
   refine Gz (XS.ifNo X8.here hx rfl (hb hby d12_30) rfl ((if0 _ _).trans (feq hcz).1)) ?_
   refine gA X8 hx hby d12_33 rfl rfl rfl ?_
   refine gN X8 hx hby d12_34 rfl rfl ?_
   refine gN X8 hx hby d12_35 rfl rfl ?_
   have ltc9_a : a < h0.size := A_a.lt
   have ltc9_x : x < h0.size := V_x.lt
   obtain ⟨_, _, ⟨T9, L9, k9, n9⟩, -, X9, ⟨Lc9, hQ9, l9, y9, z9⟩, st9⟩ := Jvm.LawKit.callS X8 hx (y := mN19) hown (gz hZ hw 53 rfl) (gz hZ hw 54 rfl) (gz hZ hw 55 rfl) (gz hZ hw 56 rfl) (by decide) (backOf (W := 0) (rs_c3_4_1 l Z a0 hw [] x kx c0 c1 c2 c3 h0 n0 Z0 V_x (by first | assumption | decide) (by first | assumption | decide) (by first | assumption | decide) (by first | assumption | decide) (by first | assumption | decide) (by first | assumption | decide) sgA sgH sgL) hZ (gw hw 56 rfl) (gw hw 55 rfl) (by decide) (by decide)) (g := (mkF m 36 #[vr a, vr x, vi 0, vi 4, .val .null, vu] [(.int 4), (.int 0), (.ref x)])) rfl hml.symm (argsL := [(.ref x), (.int 0), (.int 4)]) (rest := []) (lenOf own_pd14 rfl) rfl (wz rfl) (hb hby d12_36) (fun _ _ => ⟨rfl, e8, (by decide : 0 + 2 ≤ _), (by decide : 0 + 12 ≤ _)⟩)
   dsimp only [Pt.U, Pt.locs, Pt.cells, Pt.slots] at X9 l9 y9 z9 st9 hQ9
   subst l9 y9 z9
   obtain ⟨y9, ky9, rfl, N9q, K9, V_y9_9', g_y9_9', sz_y9_9'⟩ := hQ9
   have N9 := Fr.app N0 N9q
   replace sgC := own_staK sgC K9 all0
   replace sgA := own_staK sgA K9 all0
   replace sgH := own_staK sgH K9 all0
   replace sgL := own_staK sgL K9 all0
   replace A_a := A_a.keep K9
   replace F_value_a := F_value_a.keep K9 nin0
   replace F_coder_a := F_coder_a.keep K9 nin0
   replace V_x := V_x.keep K9 nin0
   replace KP := KP.trans K9 all0
   replace Z0 := Nat.le_trans Z0 K9.1
   have V_y9 := V_y9_9'
   have g_y9 := g_y9_9'
   have szc_y9 := sz_y9_9'
   have ne_a_y9 : a ≠ y9 := Nat.ne_of_lt (Nat.lt_of_lt_of_le ltc9_a szc_y9)
   have ne_x_y9 : x ≠ y9 := Nat.ne_of_lt (Nat.lt_of_lt_of_le ltc9_x szc_y9)
   refine Gs st9 ?_
   show Goes _ _ _ _ _ (fT T9 m 39 #[vr a, vr x, vi 0, vi 4, .val .null, vu] [(.ref y9)])
   refine Gz (XS.astore X9.here hx rfl (hb hby d12_39) rfl rfl (l' := #[vr a, vr x, vi 0, vi 4, .val .null, vr y9]) rfl) ?_
   refine gA X9 hx hby d12_41 rfl rfl rfl ?_
   refine Gz (XS.aload X9.here hx rfl (hb hby d12_42) rfl rfl) ?_
   refine gN X9 hx hby d12_44 rfl rfl ?_
   obtain ⟨_, _, ⟨T10, L10, k10, n10⟩, -, X10, ⟨Lc10, hQ10, l10, y10, z10⟩, st10⟩ := Jvm.LawKit.callS X9 hx (y := mN20) hown (gz hZ hw 79 rfl) (gz hZ hw 80 rfl) (gz hZ hw 55 rfl) (gz hZ hw 81 rfl) (by decide) (backOf (W := 1) (rs_cf_4_8 l Z a0 hw [] y9 ky9 [(.int (lo8 c0)), (.int (hi8 c0)), (.int (lo8 c1)), (.int (hi8 c1)), (.int (lo8 c2)), (.int (hi8 c2)), (.int (lo8 c3)), (.int (hi8 c3))] T9.heap n0 Z0 V_y9) hZ (gw hw 81 rfl) (gw hw 55 rfl) (by decide) (by decide)) (g := (mkF m 45 #[vr a, vr x, vi 0, vi 4, .val .null, vr y9] [(.int 4), (.ref y9), (.ref a)])) rfl hml.symm (argsL := [(.ref y9), (.int 4)]) (rest := [(.ref a)]) (lenOf own_pd15 rfl) rfl (wz rfl) (hb hby d12_45) (fun _ _ => ⟨rfl, rfl, (by decide : 2 + 0 ≤ _), (by decide : 12 + 0 ≤ _)⟩)
   dsimp only [Pt.U, Pt.locs, Pt.cells, Pt.slots] at X10 l10 y10 z10 st10 hQ10
   subst l10 y10 z10
   obtain ⟨rfl, N10q, e10⟩ := hQ10
   have N10 := Fr.app N9 N10q
   refine Gs st10 ?_
   show Goes _ _ _ _ _ (fT T10 m 48 #[vr a, vr x, vi 0, vi 4, .val .null, vr y9] [(.int 1), (.ref a)])
   obtain ⟨T11, h11, X11, e11, W11, st11⟩ := putFN X10 hx hZ hown (gw hw 26 rfl) Via.refl e10 F_coder_a A_a (Or.inr ⟨(gw hw 22 rfl), rfl, hnm⟩) (gw hw 7 rfl) (ty := .byte) (v' := .int 1) (by decide) rfl rfl (g := (mkF m 48 #[vr a, vr x, vi 0, vi 4, .val .null, vr y9] [(.int 1), (.ref a)])) rfl rfl (hb hby d12_48)
   have N11 := Fr.snoc X11 N10 g_a
   replace A_a := A_a.wr W11
   replace F_value_a := F_value_a.other W11 (Or.inr (slot_ne (Or.inr (gw hw 21 rfl)) (Or.inr (gw hw 22 rfl)) (by decide) (t := (.array .byte)) (t' := .byte) (by decide) (by decide)))
   replace V_x := V_x.other W11 ne_x_a
   replace sgC := sgC.wr W11
   replace sgA := sgA.wr W11
   replace sgH := sgH.wr W11
   replace sgL := sgL.wr W11
   replace V_y9 := V_y9.other W11 (Ne.symm ne_a_y9)
   replace KP := KP.wr W11 (Or.inl (List.mem_of_getElem? (i := 0) rfl))
   replace F_coder_a := F_coder_a.same W11
   replace Z0 : n0 ≤ h11.size := by rw [W11.size]; exact Z0
   refine Gs st11 ?_
   show Goes _ _ _ _ _ (fT T11 m 51 #[vr a, vr x, vi 0, vi 4, .val .null, vr y9] [])
   refine gA X11 hx hby d12_51 rfl rfl rfl ?_
   refine Gz (XS.aload X11.here hx rfl (hb hby d12_52) rfl rfl) ?_
   obtain ⟨T12, h12, X12, e12, W12, st12⟩ := putF X11 hx hZ hown (host := "") (Or.inl (gw hw 25 rfl)) Via.refl e11 F_value_a A_a (Or.inr ⟨(gw hw 21 rfl), rfl, hnm⟩) (gw hw 7 rfl) (ty := (.array .byte)) (by decide) rfl rfl (g := (mkF m 54 #[vr a, vr x, vi 0, vi 4, .val .null, vr y9] [(.ref y9), (.ref a)])) rfl rfl (hb hby d12_54)
   have N12 := Fr.snoc X12 N11 g_a
   replace A_a := A_a.wr W12
   replace F_coder_a := F_coder_a.other W12 (Or.inr (slot_ne (Or.inr (gw hw 22 rfl)) (Or.inr (gw hw 21 rfl)) (by decide) (t := .byte) (t' := (.array .byte)) (by decide) (by decide)))
   replace V_x := V_x.other W12 ne_x_a
   replace sgC := sgC.wr W12
   replace sgA := sgA.wr W12
   replace sgH := sgH.wr W12
   replace sgL := sgL.wr W12
   replace V_y9 := V_y9.other W12 (Ne.symm ne_a_y9)
   replace KP := KP.wr W12 (Or.inl (List.mem_of_getElem? (i := 0) rfl))
   replace F_value_a := F_value_a.same W12
   replace Z0 : n0 ≤ h12.size := by rw [W12.size]; exact Z0
   refine Gs st12 ?_
   show Goes _ _ _ _ _ (fT T12 m 57 #[vr a, vr x, vi 0, vi 4, .val .null, vr y9] [])
   have T_a : StrOf Z h12 a [c0, c1, c2, c3] := StrOf.utf A_a F_value_a F_coder_a V_y9 (by intro c hc; simp only [List.mem_cons, List.not_mem_nil, or_false] at hc; rcases hc with rfl | rfl | rfl | rfl <;> first | assumption | (exact own_toLat (by assumption) (by assumption))) rfl rfl (Nat.le_of_ble_eq_true rfl)
   refine Goes.ret X12 none (fun _ => rfl) hlk (by decide) (by decide) ?_ (fun fs hr => ?_)
   ·rw [e12]; exact ⟨rfl, N12, KP, T_a⟩
   ·exact X12.returnOut hx hret (hb hby d12_57) hr
  ·show Goes _ _ _ _ _ (fT s₁ m 0 #[vr a, vr x, vi 0, vi 4, .val .null, vu] [])
   by_cases hn_c2 : (255 : Int32) < c2
   ·show Goes _ _ _ _ _ (fT s₁ m 0 #[vr a, vr x, vi 0, vi 4, .val .null, vu] [])
    refine gA X0 hx hby d12_0 rfl rfl rfl ?_
    obtain ⟨T13, X13, e13, st13⟩ := initO X0 hx hZ hown (gw hw 16 rfl) (gw hw 17 rfl) (gw hw 18 rfl) e0 (g := (mkF m 1 #[vr a, vr x, vi 0, vi 4, .val .null, vu] [(.ref a)])) rfl hml.symm rfl (hb hby d12_1) (by decide) (W := 0) (wz rfl) (by decide)
    refine Gs st13 ?_
    show Goes _ _ _ _ _ (fT T13 m 4 #[vr a, vr x, vi 0, vi 4, .val .null, vu] [])
    refine gN X13 hx hby d12_4 rfl rfl ?_
    refine Gz (XS.ifYes X13.here hx rfl (pc0 := 5) (pc' := 27) rfl (hb hby d12_5) rfl ((if0 _ _).trans (feq (by decide : ¬ ((4 : Int32) = (0 : Int32)))).2) (by decide) (by decide)) ?_
    obtain ⟨T14, X14, e14, st14⟩ := getS2 X13 hx hZ hown (host := "") (Or.inl (gw hw 51 rfl)) Via.refl e13 sgC (g := (mkF m 27 #[vr a, vr x, vi 0, vi 4, .val .null, vu] [])) rfl (hb hby d12_27)
    refine Gs st14 ?_
    show Goes _ _ _ _ _ (fT T14 m 30 #[vr a, vr x, vi 0, vi 4, .val .null, vu] [(.int cz)])
    refine Gz (XS.ifNo X14.here hx rfl (hb hby d12_30) rfl ((if0 _ _).trans (feq hcz).1)) ?_
    refine gA X14 hx hby d12_33 rfl rfl rfl ?_
    refine gN X14 hx hby d12_34 rfl rfl ?_
    refine gN X14 hx hby d12_35 rfl rfl ?_
    have ltc15_a : a < h0.size := A_a.lt
    have ltc15_x : x < h0.size := V_x.lt
    obtain ⟨_, _, ⟨T15, L15, k15, n15⟩, -, X15, ⟨Lc15, hQ15, l15, y15, z15⟩, st15⟩ := Jvm.LawKit.callS X14 hx (y := mN19) hown (gz hZ hw 53 rfl) (gz hZ hw 54 rfl) (gz hZ hw 55 rfl) (gz hZ hw 56 rfl) (by decide) (backOf (W := 0) (rs_c3_4_2 l Z a0 hw [] x kx c0 c1 c2 c3 h0 n0 Z0 V_x (by first | assumption | decide) (by first | assumption | decide) (by first | assumption | decide) (by first | assumption | decide) (by first | assumption | decide) (by first | assumption | decide) (by first | assumption | decide) sgA sgH sgL) hZ (gw hw 56 rfl) (gw hw 55 rfl) (by decide) (by decide)) (g := (mkF m 36 #[vr a, vr x, vi 0, vi 4, .val .null, vu] [(.int 4), (.int 0), (.ref x)])) rfl hml.symm (argsL := [(.ref x), (.int 0), (.int 4)]) (rest := []) (lenOf own_pd14 rfl) rfl (wz rfl) (hb hby d12_36) (fun _ _ => ⟨rfl, e14, (by decide : 0 + 2 ≤ _), (by decide : 0 + 12 ≤ _)⟩)
    dsimp only [Pt.U, Pt.locs, Pt.cells, Pt.slots] at X15 l15 y15 z15 st15 hQ15
    subst l15 y15 z15
    obtain ⟨y15, ky15, rfl, N15q, K15, V_y15_15', g_y15_15', sz_y15_15'⟩ := hQ15
    have N15 := Fr.app N0 N15q
    replace sgC := own_staK sgC K15 all0
    replace sgA := own_staK sgA K15 all0
    replace sgH := own_staK sgH K15 all0
    replace sgL := own_staK sgL K15 all0
    replace A_a := A_a.keep K15
    replace F_value_a := F_value_a.keep K15 nin0
    replace F_coder_a := F_coder_a.keep K15 nin0
    replace V_x := V_x.keep K15 nin0
    replace KP := KP.trans K15 all0
    replace Z0 := Nat.le_trans Z0 K15.1
    have V_y15 := V_y15_15'
    have g_y15 := g_y15_15'
    have szc_y15 := sz_y15_15'
    have ne_a_y15 : a ≠ y15 := Nat.ne_of_lt (Nat.lt_of_lt_of_le ltc15_a szc_y15)
    have ne_x_y15 : x ≠ y15 := Nat.ne_of_lt (Nat.lt_of_lt_of_le ltc15_x szc_y15)
    refine Gs st15 ?_
    show Goes _ _ _ _ _ (fT T15 m 39 #[vr a, vr x, vi 0, vi 4, .val .null, vu] [(.ref y15)])
    refine Gz (XS.astore X15.here hx rfl (hb hby d12_39) rfl rfl (l' := #[vr a, vr x, vi 0, vi 4, .val .null, vr y15]) rfl) ?_
    refine gA X15 hx hby d12_41 rfl rfl rfl ?_
    refine Gz (XS.aload X15.here hx rfl (hb hby d12_42) rfl rfl) ?_
    refine gN X15 hx hby d12_44 rfl rfl ?_
    obtain ⟨_, _, ⟨T16, L16, k16, n16⟩, -, X16, ⟨Lc16, hQ16, l16, y16, z16⟩, st16⟩ := Jvm.LawKit.callS X15 hx (y := mN20) hown (gz hZ hw 79 rfl) (gz hZ hw 80 rfl) (gz hZ hw 55 rfl) (gz hZ hw 81 rfl) (by decide) (backOf (W := 1) (rs_cf_4_8 l Z a0 hw [] y15 ky15 [(.int (lo8 c0)), (.int (hi8 c0)), (.int (lo8 c1)), (.int (hi8 c1)), (.int (lo8 c2)), (.int (hi8 c2)), (.int (lo8 c3)), (.int (hi8 c3))] T15.heap n0 Z0 V_y15) hZ (gw hw 81 rfl) (gw hw 55 rfl) (by decide) (by decide)) (g := (mkF m 45 #[vr a, vr x, vi 0, vi 4, .val .null, vr y15] [(.int 4), (.ref y15), (.ref a)])) rfl hml.symm (argsL := [(.ref y15), (.int 4)]) (rest := [(.ref a)]) (lenOf own_pd15 rfl) rfl (wz rfl) (hb hby d12_45) (fun _ _ => ⟨rfl, rfl, (by decide : 2 + 0 ≤ _), (by decide : 12 + 0 ≤ _)⟩)
    dsimp only [Pt.U, Pt.locs, Pt.cells, Pt.slots] at X16 l16 y16 z16 st16 hQ16
    subst l16 y16 z16
    obtain ⟨rfl, N16q, e16⟩ := hQ16
    have N16 := Fr.app N15 N16q
    refine Gs st16 ?_
    show Goes _ _ _ _ _ (fT T16 m 48 #[vr a, vr x, vi 0, vi 4, .val .null, vr y15] [(.int 1), (.ref a)])
    obtain ⟨T17, h17, X17, e17, W17, st17⟩ := putFN X16 hx hZ hown (gw hw 26 rfl) Via.refl e16 F_coder_a A_a (Or.inr ⟨(gw hw 22 rfl), rfl, hnm⟩) (gw hw 7 rfl) (ty := .byte) (v' := .int 1) (by decide) rfl rfl (g := (mkF m 48 #[vr a, vr x, vi 0, vi 4, .val .null, vr y15] [(.int 1), (.ref a)])) rfl rfl (hb hby d12_48)
    have N17 := Fr.snoc X17 N16 g_a
    replace A_a := A_a.wr W17
    replace F_value_a := F_value_a.other W17 (Or.inr (slot_ne (Or.inr (gw hw 21 rfl)) (Or.inr (gw hw 22 rfl)) (by decide) (t := (.array .byte)) (t' := .byte) (by decide) (by decide)))
    replace V_x := V_x.other W17 ne_x_a
    replace sgC := sgC.wr W17
    replace sgA := sgA.wr W17
    replace sgH := sgH.wr W17
    replace sgL := sgL.wr W17
    replace V_y15 := V_y15.other W17 (Ne.symm ne_a_y15)
    replace KP := KP.wr W17 (Or.inl (List.mem_of_getElem? (i := 0) rfl))
    replace F_coder_a := F_coder_a.same W17
    replace Z0 : n0 ≤ h17.size := by rw [W17.size]; exact Z0
    refine Gs st17 ?_
    show Goes _ _ _ _ _ (fT T17 m 51 #[vr a, vr x, vi 0, vi 4, .val .null, vr y15] [])
    refine gA X17 hx hby d12_51 rfl rfl rfl ?_
    refine Gz (XS.aload X17.here hx rfl (hb hby d12_52) rfl rfl) ?_
    obtain ⟨T18, h18, X18, e18, W18, st18⟩ := putF X17 hx hZ hown (host := "") (Or.inl (gw hw 25 rfl)) Via.refl e17 F_value_a A_a (Or.inr ⟨(gw hw 21 rfl), rfl, hnm⟩) (gw hw 7 rfl) (ty := (.array .byte)) (by decide) rfl rfl (g := (mkF m 54 #[vr a, vr x, vi 0, vi 4, .val .null, vr y15] [(.ref y15), (.ref a)])) rfl rfl (hb hby d12_54)
    have N18 := Fr.snoc X18 N17 g_a
    replace A_a := A_a.wr W18
    replace F_coder_a := F_coder_a.other W18 (Or.inr (slot_ne (Or.inr (gw hw 22 rfl)) (Or.inr (gw hw 21 rfl)) (by decide) (t := .byte) (t' := (.array .byte)) (by decide) (by decide)))
    replace V_x := V_x.other W18 ne_x_a
    replace sgC := sgC.wr W18
    replace sgA := sgA.wr W18
    replace sgH := sgH.wr W18
    replace sgL := sgL.wr W18
    replace V_y15 := V_y15.other W18 (Ne.symm ne_a_y15)
    replace KP := KP.wr W18 (Or.inl (List.mem_of_getElem? (i := 0) rfl))
    replace F_value_a := F_value_a.same W18
    replace Z0 : n0 ≤ h18.size := by rw [W18.size]; exact Z0
    refine Gs st18 ?_
    show Goes _ _ _ _ _ (fT T18 m 57 #[vr a, vr x, vi 0, vi 4, .val .null, vr y15] [])
    have T_a : StrOf Z h18 a [c0, c1, c2, c3] := StrOf.utf A_a F_value_a F_coder_a V_y15 (by intro c hc; simp only [List.mem_cons, List.not_mem_nil, or_false] at hc; rcases hc with rfl | rfl | rfl | rfl <;> first | assumption | (exact own_toLat (by assumption) (by assumption))) rfl rfl (Nat.le_of_ble_eq_true rfl)
    refine Goes.ret X18 none (fun _ => rfl) hlk (by decide) (by decide) ?_ (fun fs hr => ?_)
    ·rw [e18]; exact ⟨rfl, N18, KP, T_a⟩
    ·exact X18.returnOut hx hret (hb hby d12_57) hr
   ·show Goes _ _ _ _ _ (fT s₁ m 0 #[vr a, vr x, vi 0, vi 4, .val .null, vu] [])
    by_cases hn_c3 : (255 : Int32) < c3
    ·show Goes _ _ _ _ _ (fT s₁ m 0 #[vr a, vr x, vi 0, vi 4, .val .null, vu] [])
     refine gA X0 hx hby d12_0 rfl rfl rfl ?_
     obtain ⟨T19, X19, e19, st19⟩ := initO X0 hx hZ hown (gw hw 16 rfl) (gw hw 17 rfl) (gw hw 18 rfl) e0 (g := (mkF m 1 #[vr a, vr x, vi 0, vi 4, .val .null, vu] [(.ref a)])) rfl hml.symm rfl (hb hby d12_1) (by decide) (W := 0) (wz rfl) (by decide)
     refine Gs st19 ?_
     show Goes _ _ _ _ _ (fT T19 m 4 #[vr a, vr x, vi 0, vi 4, .val .null, vu] [])
     refine gN X19 hx hby d12_4 rfl rfl ?_
     refine Gz (XS.ifYes X19.here hx rfl (pc0 := 5) (pc' := 27) rfl (hb hby d12_5) rfl ((if0 _ _).trans (feq (by decide : ¬ ((4 : Int32) = (0 : Int32)))).2) (by decide) (by decide)) ?_
     obtain ⟨T20, X20, e20, st20⟩ := getS2 X19 hx hZ hown (host := "") (Or.inl (gw hw 51 rfl)) Via.refl e19 sgC (g := (mkF m 27 #[vr a, vr x, vi 0, vi 4, .val .null, vu] [])) rfl (hb hby d12_27)
     refine Gs st20 ?_
     show Goes _ _ _ _ _ (fT T20 m 30 #[vr a, vr x, vi 0, vi 4, .val .null, vu] [(.int cz)])
     refine Gz (XS.ifNo X20.here hx rfl (hb hby d12_30) rfl ((if0 _ _).trans (feq hcz).1)) ?_
     refine gA X20 hx hby d12_33 rfl rfl rfl ?_
     refine gN X20 hx hby d12_34 rfl rfl ?_
     refine gN X20 hx hby d12_35 rfl rfl ?_
     have ltc21_a : a < h0.size := A_a.lt
     have ltc21_x : x < h0.size := V_x.lt
     obtain ⟨_, _, ⟨T21, L21, k21, n21⟩, -, X21, ⟨Lc21, hQ21, l21, y21, z21⟩, st21⟩ := Jvm.LawKit.callS X20 hx (y := mN19) hown (gz hZ hw 53 rfl) (gz hZ hw 54 rfl) (gz hZ hw 55 rfl) (gz hZ hw 56 rfl) (by decide) (backOf (W := 0) (rs_c3_4_3 l Z a0 hw [] x kx c0 c1 c2 c3 h0 n0 Z0 V_x (by first | assumption | decide) (by first | assumption | decide) (by first | assumption | decide) (by first | assumption | decide) (by first | assumption | decide) (by first | assumption | decide) (by first | assumption | decide) (by first | assumption | decide) sgA sgH sgL) hZ (gw hw 56 rfl) (gw hw 55 rfl) (by decide) (by decide)) (g := (mkF m 36 #[vr a, vr x, vi 0, vi 4, .val .null, vu] [(.int 4), (.int 0), (.ref x)])) rfl hml.symm (argsL := [(.ref x), (.int 0), (.int 4)]) (rest := []) (lenOf own_pd14 rfl) rfl (wz rfl) (hb hby d12_36) (fun _ _ => ⟨rfl, e20, (by decide : 0 + 2 ≤ _), (by decide : 0 + 12 ≤ _)⟩)
     dsimp only [Pt.U, Pt.locs, Pt.cells, Pt.slots] at X21 l21 y21 z21 st21 hQ21
     subst l21 y21 z21
     obtain ⟨y21, ky21, rfl, N21q, K21, V_y21_21', g_y21_21', sz_y21_21'⟩ := hQ21
     have N21 := Fr.app N0 N21q
     replace sgC := own_staK sgC K21 all0
     replace A_a := A_a.keep K21
     replace F_value_a := F_value_a.keep K21 nin0
     replace F_coder_a := F_coder_a.keep K21 nin0
     replace V_x := V_x.keep K21 nin0
     replace KP := KP.trans K21 all0
     replace Z0 := Nat.le_trans Z0 K21.1
     have V_y21 := V_y21_21'
     have g_y21 := g_y21_21'
     have szc_y21 := sz_y21_21'
     have ne_a_y21 : a ≠ y21 := Nat.ne_of_lt (Nat.lt_of_lt_of_le ltc21_a szc_y21)
     have ne_x_y21 : x ≠ y21 := Nat.ne_of_lt (Nat.lt_of_lt_of_le ltc21_x szc_y21)
     refine Gs st21 ?_
     show Goes _ _ _ _ _ (fT T21 m 39 #[vr a, vr x, vi 0, vi 4, .val .null, vu] [(.ref y21)])
     refine Gz (XS.astore X21.here hx rfl (hb hby d12_39) rfl rfl (l' := #[vr a, vr x, vi 0, vi 4, .val .null, vr y21]) rfl) ?_
     refine gA X21 hx hby d12_41 rfl rfl rfl ?_
     refine Gz (XS.aload X21.here hx rfl (hb hby d12_42) rfl rfl) ?_
     refine gN X21 hx hby d12_44 rfl rfl ?_
     obtain ⟨_, _, ⟨T22, L22, k22, n22⟩, -, X22, ⟨Lc22, hQ22, l22, y22, z22⟩, st22⟩ := Jvm.LawKit.callS X21 hx (y := mN20) hown (gz hZ hw 79 rfl) (gz hZ hw 80 rfl) (gz hZ hw 55 rfl) (gz hZ hw 81 rfl) (by decide) (backOf (W := 1) (rs_cf_4_8 l Z a0 hw [] y21 ky21 [(.int (lo8 c0)), (.int (hi8 c0)), (.int (lo8 c1)), (.int (hi8 c1)), (.int (lo8 c2)), (.int (hi8 c2)), (.int (lo8 c3)), (.int (hi8 c3))] T21.heap n0 Z0 V_y21) hZ (gw hw 81 rfl) (gw hw 55 rfl) (by decide) (by decide)) (g := (mkF m 45 #[vr a, vr x, vi 0, vi 4, .val .null, vr y21] [(.int 4), (.ref y21), (.ref a)])) rfl hml.symm (argsL := [(.ref y21), (.int 4)]) (rest := [(.ref a)]) (lenOf own_pd15 rfl) rfl (wz rfl) (hb hby d12_45) (fun _ _ => ⟨rfl, rfl, (by decide : 2 + 0 ≤ _), (by decide : 12 + 0 ≤ _)⟩)
     dsimp only [Pt.U, Pt.locs, Pt.cells, Pt.slots] at X22 l22 y22 z22 st22 hQ22
     subst l22 y22 z22
     obtain ⟨rfl, N22q, e22⟩ := hQ22
     have N22 := Fr.app N21 N22q
     refine Gs st22 ?_
     show Goes _ _ _ _ _ (fT T22 m 48 #[vr a, vr x, vi 0, vi 4, .val .null, vr y21] [(.int 1), (.ref a)])
     obtain ⟨T23, h23, X23, e23, W23, st23⟩ := putFN X22 hx hZ hown (gw hw 26 rfl) Via.refl e22 F_coder_a A_a (Or.inr ⟨(gw hw 22 rfl), rfl, hnm⟩) (gw hw 7 rfl) (ty := .byte) (v' := .int 1) (by decide) rfl rfl (g := (mkF m 48 #[vr a, vr x, vi 0, vi 4, .val .null, vr y21] [(.int 1), (.ref a)])) rfl rfl (hb hby d12_48)
     have N23 := Fr.snoc X23 N22 g_a
     replace A_a := A_a.wr W23
     replace F_value_a := F_value_a.other W23 (Or.inr (slot_ne (Or.inr (gw hw 21 rfl)) (Or.inr (gw hw 22 rfl)) (by decide) (t := (.array .byte)) (t' := .byte) (by decide) (by decide)))
     replace V_x := V_x.other W23 ne_x_a
     replace sgC := sgC.wr W23
     replace V_y21 := V_y21.other W23 (Ne.symm ne_a_y21)
     replace KP := KP.wr W23 (Or.inl (List.mem_of_getElem? (i := 0) rfl))
     replace F_coder_a := F_coder_a.same W23
     replace Z0 : n0 ≤ h23.size := by rw [W23.size]; exact Z0
     refine Gs st23 ?_
     show Goes _ _ _ _ _ (fT T23 m 51 #[vr a, vr x, vi 0, vi 4, .val .null, vr y21] [])
     refine gA X23 hx hby d12_51 rfl rfl rfl ?_
     refine Gz (XS.aload X23.here hx rfl (hb hby d12_52) rfl rfl) ?_
     obtain ⟨T24, h24, X24, e24, W24, st24⟩ := putF X23 hx hZ hown (host := "") (Or.inl (gw hw 25 rfl)) Via.refl e23 F_value_a A_a (Or.inr ⟨(gw hw 21 rfl), rfl, hnm⟩) (gw hw 7 rfl) (ty := (.array .byte)) (by decide) rfl rfl (g := (mkF m 54 #[vr a, vr x, vi 0, vi 4, .val .null, vr y21] [(.ref y21), (.ref a)])) rfl rfl (hb hby d12_54)
     have N24 := Fr.snoc X24 N23 g_a
     replace A_a := A_a.wr W24
     replace F_coder_a := F_coder_a.other W24 (Or.inr (slot_ne (Or.inr (gw hw 22 rfl)) (Or.inr (gw hw 21 rfl)) (by decide) (t := .byte) (t' := (.array .byte)) (by decide) (by decide)))
     replace V_x := V_x.other W24 ne_x_a
     replace sgC := sgC.wr W24
     replace V_y21 := V_y21.other W24 (Ne.symm ne_a_y21)
     replace KP := KP.wr W24 (Or.inl (List.mem_of_getElem? (i := 0) rfl))
     replace F_value_a := F_value_a.same W24
     replace Z0 : n0 ≤ h24.size := by rw [W24.size]; exact Z0
     refine Gs st24 ?_
     show Goes _ _ _ _ _ (fT T24 m 57 #[vr a, vr x, vi 0, vi 4, .val .null, vr y21] [])
     have T_a : StrOf Z h24 a [c0, c1, c2, c3] := StrOf.utf A_a F_value_a F_coder_a V_y21 (by intro c hc; simp only [List.mem_cons, List.not_mem_nil, or_false] at hc; rcases hc with rfl | rfl | rfl | rfl <;> first | assumption | (exact own_toLat (by assumption) (by assumption))) rfl rfl (Nat.le_of_ble_eq_true rfl)
     refine Goes.ret X24 none (fun _ => rfl) hlk (by decide) (by decide) ?_ (fun fs hr => ?_)
     ·rw [e24]; exact ⟨rfl, N24, KP, T_a⟩
     ·exact X24.returnOut hx hret (hb hby d12_57) hr
    ·show Goes _ _ _ _ _ (fT s₁ m 0 #[vr a, vr x, vi 0, vi 4, .val .null, vu] [])
     refine gA X0 hx hby d12_0 rfl rfl rfl ?_
     obtain ⟨T25, X25, e25, st25⟩ := initO X0 hx hZ hown (gw hw 16 rfl) (gw hw 17 rfl) (gw hw 18 rfl) e0 (g := (mkF m 1 #[vr a, vr x, vi 0, vi 4, .val .null, vu] [(.ref a)])) rfl hml.symm rfl (hb hby d12_1) (by decide) (W := 0) (wz rfl) (by decide)
     refine Gs st25 ?_
     show Goes _ _ _ _ _ (fT T25 m 4 #[vr a, vr x, vi 0, vi 4, .val .null, vu] [])
     refine gN X25 hx hby d12_4 rfl rfl ?_
     refine Gz (XS.ifYes X25.here hx rfl (pc0 := 5) (pc' := 27) rfl (hb hby d12_5) rfl ((if0 _ _).trans (feq (by decide : ¬ ((4 : Int32) = (0 : Int32)))).2) (by decide) (by decide)) ?_
     obtain ⟨T26, X26, e26, st26⟩ := getS2 X25 hx hZ hown (host := "") (Or.inl (gw hw 51 rfl)) Via.refl e25 sgC (g := (mkF m 27 #[vr a, vr x, vi 0, vi 4, .val .null, vu] [])) rfl (hb hby d12_27)
     refine Gs st26 ?_
     show Goes _ _ _ _ _ (fT T26 m 30 #[vr a, vr x, vi 0, vi 4, .val .null, vu] [(.int cz)])
     refine Gz (XS.ifNo X26.here hx rfl (hb hby d12_30) rfl ((if0 _ _).trans (feq hcz).1)) ?_
     refine gA X26 hx hby d12_33 rfl rfl rfl ?_
     refine gN X26 hx hby d12_34 rfl rfl ?_
     refine gN X26 hx hby d12_35 rfl rfl ?_
     have ltc27_a : a < h0.size := A_a.lt
     have ltc27_x : x < h0.size := V_x.lt
     obtain ⟨_, _, ⟨T27, L27, k27, n27⟩, -, X27, ⟨Lc27, hQ27, l27, y27, z27⟩, st27⟩ := Jvm.LawKit.callS X26 hx (y := mN19) hown (gz hZ hw 53 rfl) (gz hZ hw 54 rfl) (gz hZ hw 55 rfl) (gz hZ hw 56 rfl) (by decide) (backOf (W := 0) (rs_c3_4_4 l Z a0 hw [] x kx c0 c1 c2 c3 h0 n0 Z0 V_x (by first | assumption | decide) (by first | assumption | decide) (by first | assumption | decide) (by first | assumption | decide)) hZ (gw hw 56 rfl) (gw hw 55 rfl) (by decide) (by decide)) (g := (mkF m 36 #[vr a, vr x, vi 0, vi 4, .val .null, vu] [(.int 4), (.int 0), (.ref x)])) rfl hml.symm (argsL := [(.ref x), (.int 0), (.int 4)]) (rest := []) (lenOf own_pd14 rfl) rfl (wz rfl) (hb hby d12_36) (fun _ _ => ⟨rfl, e26, (by decide : 0 + 1 ≤ _), (by decide : 0 + 4 ≤ _)⟩)
     dsimp only [Pt.U, Pt.locs, Pt.cells, Pt.slots] at X27 l27 y27 z27 st27 hQ27
     subst l27 y27 z27
     obtain ⟨y27, ky27, rfl, N27q, K27, V_y27_27', g_y27_27', sz_y27_27'⟩ := hQ27
     have N27 := Fr.app N0 N27q
     replace A_a := A_a.keep K27
     replace F_value_a := F_value_a.keep K27 nin0
     replace F_coder_a := F_coder_a.keep K27 nin0
     replace KP := KP.trans K27 all0
     replace Z0 := Nat.le_trans Z0 K27.1
     have V_y27 := V_y27_27'
     have g_y27 := g_y27_27'
     have szc_y27 := sz_y27_27'
     have ne_a_y27 : a ≠ y27 := Nat.ne_of_lt (Nat.lt_of_lt_of_le ltc27_a szc_y27)
     have ne_x_y27 : x ≠ y27 := Nat.ne_of_lt (Nat.lt_of_lt_of_le ltc27_x szc_y27)
     refine Gs st27 ?_
     show Goes _ _ _ _ _ (fT T27 m 39 #[vr a, vr x, vi 0, vi 4, .val .null, vu] [(.ref y27)])
     refine Gz (XS.astore X27.here hx rfl (hb hby d12_39) rfl rfl (l' := #[vr a, vr x, vi 0, vi 4, .val .null, vr y27]) rfl) ?_
     refine gA X27 hx hby d12_41 rfl rfl rfl ?_
     refine Gz (XS.aload X27.here hx rfl (hb hby d12_42) rfl rfl) ?_
     refine gN X27 hx hby d12_44 rfl rfl ?_
     obtain ⟨_, _, ⟨T28, L28, k28, n28⟩, -, X28, ⟨Lc28, hQ28, l28, y28, z28⟩, st28⟩ := Jvm.LawKit.callS X27 hx (y := mN20) hown (gz hZ hw 79 rfl) (gz hZ hw 80 rfl) (gz hZ hw 55 rfl) (gz hZ hw 81 rfl) (by decide) (backOf (W := 1) (rs_cf_4_4 l Z a0 hw [] y27 ky27 [(.int (lo8 c0)), (.int (lo8 c1)), (.int (lo8 c2)), (.int (lo8 c3))] T27.heap n0 Z0 V_y27) hZ (gw hw 81 rfl) (gw hw 55 rfl) (by decide) (by decide)) (g := (mkF m 45 #[vr a, vr x, vi 0, vi 4, .val .null, vr y27] [(.int 4), (.ref y27), (.ref a)])) rfl hml.symm (argsL := [(.ref y27), (.int 4)]) (rest := [(.ref a)]) (lenOf own_pd15 rfl) rfl (wz rfl) (hb hby d12_45) (fun _ _ => ⟨rfl, rfl, (by decide : 1 + 0 ≤ _), (by decide : 4 + 0 ≤ _)⟩)
     dsimp only [Pt.U, Pt.locs, Pt.cells, Pt.slots] at X28 l28 y28 z28 st28 hQ28
     subst l28 y28 z28
     obtain ⟨rfl, N28q, e28⟩ := hQ28
     have N28 := Fr.app N27 N28q
     refine Gs st28 ?_
     show Goes _ _ _ _ _ (fT T28 m 48 #[vr a, vr x, vi 0, vi 4, .val .null, vr y27] [(.int 0), (.ref a)])
     obtain ⟨T29, h29, X29, e29, W29, st29⟩ := putFN X28 hx hZ hown (gw hw 26 rfl) Via.refl e28 F_coder_a A_a (Or.inr ⟨(gw hw 22 rfl), rfl, hnm⟩) (gw hw 7 rfl) (ty := .byte) (v' := .int 0) (by decide) rfl rfl (g := (mkF m 48 #[vr a, vr x, vi 0, vi 4, .val .null, vr y27] [(.int 0), (.ref a)])) rfl rfl (hb hby d12_48)
     have N29 := Fr.snoc X29 N28 g_a
     replace A_a := A_a.wr W29
     replace F_value_a := F_value_a.other W29 (Or.inr (slot_ne (Or.inr (gw hw 21 rfl)) (Or.inr (gw hw 22 rfl)) (by decide) (t := (.array .byte)) (t' := .byte) (by decide) (by decide)))
     replace V_y27 := V_y27.other W29 (Ne.symm ne_a_y27)
     replace KP := KP.wr W29 (Or.inl (List.mem_of_getElem? (i := 0) rfl))
     replace F_coder_a := F_coder_a.same W29
     replace Z0 : n0 ≤ h29.size := by rw [W29.size]; exact Z0
     refine Gs st29 ?_
     show Goes _ _ _ _ _ (fT T29 m 51 #[vr a, vr x, vi 0, vi 4, .val .null, vr y27] [])
     refine gA X29 hx hby d12_51 rfl rfl rfl ?_
     refine Gz (XS.aload X29.here hx rfl (hb hby d12_52) rfl rfl) ?_
     obtain ⟨T30, h30, X30, e30, W30, st30⟩ := putF X29 hx hZ hown (host := "") (Or.inl (gw hw 25 rfl)) Via.refl e29 F_value_a A_a (Or.inr ⟨(gw hw 21 rfl), rfl, hnm⟩) (gw hw 7 rfl) (ty := (.array .byte)) (by decide) rfl rfl (g := (mkF m 54 #[vr a, vr x, vi 0, vi 4, .val .null, vr y27] [(.ref y27), (.ref a)])) rfl rfl (hb hby d12_54)
     have N30 := Fr.snoc X30 N29 g_a
     replace A_a := A_a.wr W30
     replace F_coder_a := F_coder_a.other W30 (Or.inr (slot_ne (Or.inr (gw hw 22 rfl)) (Or.inr (gw hw 21 rfl)) (by decide) (t := .byte) (t' := (.array .byte)) (by decide) (by decide)))
     replace V_y27 := V_y27.other W30 (Ne.symm ne_a_y27)
     replace KP := KP.wr W30 (Or.inl (List.mem_of_getElem? (i := 0) rfl))
     replace F_value_a := F_value_a.same W30
     replace Z0 : n0 ≤ h30.size := by rw [W30.size]; exact Z0
     refine Gs st30 ?_
     show Goes _ _ _ _ _ (fT T30 m 57 #[vr a, vr x, vi 0, vi 4, .val .null, vr y27] [])
     have T_a : StrOf Z h30 a [c0, c1, c2, c3] := StrOf.latin A_a F_value_a F_coder_a V_y27 (by intro c hc; simp only [List.mem_cons, List.not_mem_nil, or_false] at hc; rcases hc with rfl | rfl | rfl | rfl <;> first | assumption | (exact own_toLat (by assumption) (by assumption))) rfl rfl (Nat.le_of_ble_eq_true rfl)
     refine Goes.ret X30 none (fun _ => rfl) hlk (by decide) (by decide) ?_ (fun fs hr => ?_)
     ·rw [e30]; exact ⟨rfl, N30, KP, T_a⟩
     ·exact X30.returnOut hx hret (hb hby d12_57) hr
theorem own_ef_rs_i1_4 (m : MethodId) (x0 : Addr) (x1 : Addr) : entryFrame m #[(.ref x0), (.ref x1)] 2 = mkF m 0 #[vr x0, vr x1] [] := by first | (simp [entryFrame, mkF, argsToLocals, Value.category]; done) | rfl
def Q_rs_i1_4 (Z : State) (a : Addr) (x : Addr) (kx : ClassId) (c0 : Int32) (c1 : Int32) (c2 : Int32) (c3 : Int32) (cz : Int32) (h0 : Heap) (n0 : Nat) (v : Option Value) (h : Heap) (L : List Loc) : Prop := v = none ∧ Fr n0 L ∧ Keep h0 h [a] ∧ StrOf Z h a [c0, c1, c2, c3]
set_option maxRecDepth 65536 in
set_option maxHeartbeats 40000000 in
theorem rs_i1_4 (l : Launch) (Z : State) (a0 : Array Value) (hw : HW a0 Z) (ws : List Jvm.Cond) (a : Addr) (x : Addr) (kx : ClassId) (c0 : Int32) (c1 : Int32) (c2 : Int32) (c3 : Int32) (cz : Int32) (h0 : Heap) (n0 : Nat) (Z0 : n0 ≤ h0.size) (A_a : Exa Z h0 a "java/lang/String") (F_value_a : Fld Z h0 a "java/lang/String" "value" "[B" .null) (F_coder_a : Fld Z h0 a "java/lang/String" "coder" "B" (.int 0)) (V_x : Arv Z h0 x kx .char 4 [(.int c0), (.int c1), (.int c2), (.int c3)] (.int 0)) (g_a : n0 ≤ a) (ne_x_a : x ≠ a) (sgC : Sta Z h0 "java/lang/String" "COMPACT_STRINGS" "Z" (.int cz)) (hcz : ¬ (cz = 0)) (hC_c0 : Chr c0) (hC_c1 : Chr c1) (hC_c2 : Chr c2) (hC_c3 : Chr c3) (sgA : Sta Z h0 "java/lang/StringUTF16" "$assertionsDisabled" "Z" (.int 1)) (sgH : Sta Z h0 "java/lang/StringUTF16" "HI_BYTE_SHIFT" "I" (.int 0)) (sgL : Sta Z h0 "java/lang/StringUTF16" "LO_BYTE_SHIFT" "I" (.int 8)) :
  Met l Z mN13 jdk_42_method_3_code 2 none ({ frames := 5, cells := 2, slots := 12, locals := 74 } : Room) ws #[(.ref a), (.ref x)] h0 (Q_rs_i1_4 Z a x kx c0 c1 c2 c3 cz h0 n0) := by
 refine own_met (plainFor_of_name own_pn0) ?_
 intro p e s m below meth c s₁ hret hx hby hlk hml hown hnm X0 e0 hZ hh
 have N0 := Fr.nil n0
 refine Gz (castTop (own_ef_rs_i1_4 m a x)) ?_
 have KP : Keep h0 h0 [a] := Keep.refl _ _
 show Goes _ _ _ _ _ (fT s₁ m 0 #[vr a, vr x] [])
 refine gA X0 hx hby d13_0 rfl rfl rfl ?_
 refine gA X0 hx hby d13_1 rfl rfl rfl ?_
 refine Gz (XS.iconst X0.here hx rfl (hb hby d13_2)) ?_
 refine gA X0 hx hby d13_3 rfl rfl rfl ?_
 obtain ⟨cl1, Ar1, -, S1, N1z, -, -⟩ := id V_x
 refine Gs (fun _ tk => X0.arraylength hx (by rw [e0]; exact Ar1.1) (State.isArrayOf_alike hZ.alike Ar1.2.1) (g := (mkF m 4 #[vr a, vr x] [(.ref x), (.int 0), (.ref x), (.ref a)])) rfl rfl (hb hby d13_4) _ tk) ?_
 rw [len_of S1 N1z]
 show Goes _ _ _ _ _ (fT s₁ m 5 #[vr a, vr x] [(.int 4), (.int 0), (.ref x), (.ref a)])
 refine Gz (XS.aconstNull X0.here hx rfl (hb hby d13_5)) ?_
 obtain ⟨_, _, ⟨T2, L2, k2, n2⟩, -, X2, ⟨Lc2, hQ2, l2, y2, z2⟩, st2⟩ := X0.specialBack hx (y := mN12) rfl hown (gz hZ hw 12 rfl) (gz hZ hw 13 rfl) (gz hZ hw 15 rfl) (by decide) (backOf (W := 0) (rs_i4_4 l Z a0 hw [] a x kx c0 c1 c2 c3 cz h0 n0 Z0 A_a F_value_a F_coder_a V_x g_a ne_x_a sgC (by first | assumption | decide) (by first | assumption | decide) (by first | assumption | decide) (by first | assumption | decide) (by first | assumption | decide) sgA sgH sgL) hZ (gw hw 15 rfl) (gw hw 8 rfl) (by decide) (by decide)) (g := (mkF m 6 #[vr a, vr x] [.null, (.int 4), (.int 0), (.ref x), (.ref a)])) rfl hml.symm (Steps.refl _) (a := a) (argsL := [(.ref x), (.int 0), (.int 4), .null]) (rest := []) (lenOf own_pd9 rfl) rfl (wz rfl) (hb hby d13_6) (fun _ _ => ⟨rfl, e0, (by decide : 0 + 2 ≤ _), (by decide : 0 + 12 ≤ _)⟩)
 dsimp only [Pt.U, Pt.locs, Pt.cells, Pt.slots] at X2 l2 y2 z2 st2 hQ2
 subst l2 y2 z2
 obtain ⟨rfl, N2q, K2, T_a_2'⟩ := hQ2
 have N2 := Fr.app N0 N2q
 replace KP := KP.trans K2 (allS (Or.inl (List.mem_of_getElem? (i := 0) rfl)) all0)
 replace Z0 := Nat.le_trans Z0 K2.1
 have T_a := T_a_2'
 refine Gs (fun _ tk => st2.trans tk) ?_
 show Goes _ _ _ _ _ (fT T2 m 9 #[vr a, vr x] [])
 refine Goes.ret X2 none (fun _ => rfl) hlk (by decide) (by decide) ?_ (fun fs hr => ?_)
 ·exact ⟨rfl, N2, KP, T_a⟩
 ·exact X2.returnOut hx hret (hb hby d13_9) hr
theorem d21_0 : decode method_2_code 0 = .ok (.iload_n 0, 1) := by decide +kernel
theorem d21_1 : decode method_2_code 1 = .ok (.bipush 7, 2) := by decide +kernel
theorem d21_3 : decode method_2_code 3 = .ok (.iand, 1) := by decide +kernel
theorem d21_4 : decode method_2_code 4 = .ok (.istore_n 1, 1) := by decide +kernel
theorem d21_5 : decode method_2_code 5 = .ok (.iload_n 0, 1) := by decide +kernel
theorem d21_6 : decode method_2_code 6 = .ok (.iconst 3, 1) := by decide +kernel
theorem d21_7 : decode method_2_code 7 = .ok (.iushr, 1) := by decide +kernel
theorem d21_8 : decode method_2_code 8 = .ok (.istore_n 2, 1) := by decide +kernel
theorem d21_9 : decode method_2_code 9 = .ok (.iload_n 1, 1) := by decide +kernel
theorem d21_10 : decode method_2_code 10 = .ok (.ifCond .ne 6, 3) := by decide +kernel
theorem d21_13 : decode method_2_code 13 = .ok (.bipush 9, 2) := by decide +kernel
theorem d21_15 : decode method_2_code 15 = .ok (.ireturn, 1) := by decide +kernel
theorem d21_16 : decode method_2_code 16 = .ok (.iload_n 1, 1) := by decide +kernel
theorem d21_17 : decode method_2_code 17 = .ok (.iconst 1, 1) := by decide +kernel
theorem d21_18 : decode method_2_code 18 = .ok (.if_icmp .ne 6, 3) := by decide +kernel
theorem d21_21 : decode method_2_code 21 = .ok (.bipush 13, 2) := by decide +kernel
theorem d21_23 : decode method_2_code 23 = .ok (.ireturn, 1) := by decide +kernel
theorem d21_24 : decode method_2_code 24 = .ok (.iload_n 1, 1) := by decide +kernel
theorem d21_25 : decode method_2_code 25 = .ok (.iconst 2, 1) := by decide +kernel
theorem d21_26 : decode method_2_code 26 = .ok (.if_icmp .ne 6, 3) := by decide +kernel
theorem d21_29 : decode method_2_code 29 = .ok (.bipush 10, 2) := by decide +kernel
theorem d21_31 : decode method_2_code 31 = .ok (.ireturn, 1) := by decide +kernel
theorem d21_32 : decode method_2_code 32 = .ok (.iload_n 1, 1) := by decide +kernel
theorem d21_33 : decode method_2_code 33 = .ok (.iconst 3, 1) := by decide +kernel
theorem d21_34 : decode method_2_code 34 = .ok (.if_icmp .ne 13, 3) := by decide +kernel
theorem d21_37 : decode method_2_code 37 = .ok (.ldc 7, 2) := by decide +kernel
theorem d21_39 : decode method_2_code 39 = .ok (.iload_n 2, 1) := by decide +kernel
theorem d21_40 : decode method_2_code 40 = .ok (.sipush 1023, 3) := by decide +kernel
theorem d21_43 : decode method_2_code 43 = .ok (.iand, 1) := by decide +kernel
theorem d21_44 : decode method_2_code 44 = .ok (.iadd, 1) := by decide +kernel
theorem d21_45 : decode method_2_code 45 = .ok (.i2c, 1) := by decide +kernel
theorem d21_46 : decode method_2_code 46 = .ok (.ireturn, 1) := by decide +kernel
theorem d21_47 : decode method_2_code 47 = .ok (.iload_n 1, 1) := by decide +kernel
theorem d21_48 : decode method_2_code 48 = .ok (.iconst 4, 1) := by decide +kernel
theorem d21_49 : decode method_2_code 49 = .ok (.if_icmp .ne 13, 3) := by decide +kernel
theorem d21_52 : decode method_2_code 52 = .ok (.ldc 8, 2) := by decide +kernel
theorem d21_54 : decode method_2_code 54 = .ok (.iload_n 2, 1) := by decide +kernel
theorem d21_55 : decode method_2_code 55 = .ok (.sipush 1023, 3) := by decide +kernel
theorem d21_58 : decode method_2_code 58 = .ok (.iand, 1) := by decide +kernel
theorem d21_59 : decode method_2_code 59 = .ok (.iadd, 1) := by decide +kernel
theorem d21_60 : decode method_2_code 60 = .ok (.i2c, 1) := by decide +kernel
theorem d21_61 : decode method_2_code 61 = .ok (.ireturn, 1) := by decide +kernel
theorem d21_62 : decode method_2_code 62 = .ok (.iload_n 2, 1) := by decide +kernel
theorem d21_63 : decode method_2_code 63 = .ok (.ldc 9, 2) := by decide +kernel
theorem d21_65 : decode method_2_code 65 = .ok (.iand, 1) := by decide +kernel
theorem d21_66 : decode method_2_code 66 = .ok (.i2c, 1) := by decide +kernel
theorem d21_67 : decode method_2_code 67 = .ok (.ireturn, 1) := by decide +kernel
theorem own_pn4 : plainName "com/example/tandemtrie/tandemtrie/io/KeyFileCanHoldPinLaw" = true := by first | (simp [plainName, overriddenIn]; done) | decide +kernel
theorem own_ef_rm_draw (m : MethodId) (x0 : Int32) : entryFrame m #[(.int x0)] 3 = mkF m 0 #[vi x0, vu, vu] [] := by first | (simp [entryFrame, mkF, argsToLocals, Value.category]; done) | rfl
def Q_rm_draw (Z : State) (q : Int32) (h0 : Heap) (n0 : Nat) (v : Option Value) (h : Heap) (L : List Loc) : Prop := ∃ r : Int32, v = some (.int r) ∧ Fr n0 L ∧ h = h0 ∧ Chr r
set_option maxRecDepth 65536 in
set_option maxHeartbeats 40000000 in
theorem rm_draw (l : Launch) (Z : State) (a0 : Array Value) (hw : HW a0 Z) (ws : List Jvm.Cond) (q : Int32) (h0 : Heap) (n0 : Nat) (Z0 : n0 ≤ h0.size) :
  Met l Z mN21 method_2_code 3 (some .char) ({ frames := 0, cells := 0, slots := 0, locals := 0 } : Room) ws #[(.int q)] h0 (Q_rm_draw Z q h0 n0) := by
 refine own_met (plainFor_of_name own_pn4) ?_
 intro p e s m below meth c s₁ hret hx hby hlk hml hown hnm X0 e0 hZ hh
 have N0 := Fr.nil n0
 refine Gz (castTop (own_ef_rm_draw m q)) ?_
 show Goes _ _ _ _ _ (fT s₁ m 0 #[vi q, vu, vu] [])
 refine gN X0 hx hby d21_0 rfl rfl ?_
 refine Gz (XS.bipush X0.here hx rfl (hb hby d21_1)) ?_
 show Goes _ _ _ _ _ (fT s₁ m 3 #[vi q, vu, vu] [(.int 7), (.int q)])
 refine Gz (XS.iand X0.here hx rfl (hb hby d21_3) rfl) ?_
 show Goes _ _ _ _ _ (fT s₁ m 4 #[vi q, vu, vu] [(.int (q &&& 7))])
 refine Gz (XS.istoreN X0.here hx rfl (hb hby d21_4) rfl (l' := #[vi q, vi (q &&& 7), vu]) rfl) ?_
 refine gN X0 hx hby d21_5 rfl rfl ?_
 refine Gz (XS.iconst X0.here hx rfl (hb hby d21_6)) ?_
 show Goes _ _ _ _ _ (fT s₁ m 7 #[vi q, vi (q &&& 7), vu] [(.int 3), (.int q)])
 refine Gz (XS.iushr X0.here hx rfl (hb hby d21_7) rfl) ?_
 show Goes _ _ _ _ _ (fT s₁ m 8 #[vi q, vi (q &&& 7), vu] [(.int ((q.toUInt32 >>> ((3 : Int32) &&& 31).toUInt32).toInt32))])
 refine Gz (XS.istoreN X0.here hx rfl (hb hby d21_8) rfl (l' := #[vi q, vi (q &&& 7), vi ((q.toUInt32 >>> ((3 : Int32) &&& 31).toUInt32).toInt32)]) rfl) ?_
 refine gN X0 hx hby d21_9 rfl rfl ?_
 by_cases hc10_1 : (q &&& 7) = 0
 ·refine Gz (XS.ifNo X0.here hx rfl (hb hby d21_10) rfl ((if0 _ _).trans (teq hc10_1).2)) ?_
  refine Gz (XS.bipush X0.here hx rfl (hb hby d21_13)) ?_
  refine Goes.ret X0 (some (.int 9)) (fun h => by rw [hret] at h; cases h) hlk (by decide) (by decide) ?_ (fun fs hr => ?_)
  ·exact ⟨(9 : Int32), rfl, N0, e0, ⟨by decide, by decide⟩⟩
  ·exact own_retN X0 hx (t := .char) hret (by simp) rfl (hb hby d21_15) hr
 ·refine Gz (XS.ifYes X0.here hx rfl (pc0 := 10) (pc' := 16) rfl (hb hby d21_10) rfl ((if0 _ _).trans (feq hc10_1).2) (by decide) (by decide)) ?_
  refine gN X0 hx hby d21_16 rfl rfl ?_
  refine Gz (XS.iconst X0.here hx rfl (hb hby d21_17)) ?_
  by_cases hc18_2 : (q &&& 7) = 1
  ·refine Gz (XS.icmpNo X0.here hx rfl (hb hby d21_18) rfl (teq hc18_2).2) ?_
   show Goes _ _ _ _ _ (fT s₁ m 21 #[vi q, vi (q &&& 7), vi ((q.toUInt32 >>> ((3 : Int32) &&& 31).toUInt32).toInt32)] [])
   refine Gz (XS.bipush X0.here hx rfl (hb hby d21_21)) ?_
   refine Goes.ret X0 (some (.int 13)) (fun h => by rw [hret] at h; cases h) hlk (by decide) (by decide) ?_ (fun fs hr => ?_)
   ·exact ⟨(13 : Int32), rfl, N0, e0, ⟨by decide, by decide⟩⟩
   ·exact own_retN X0 hx (t := .char) hret (by simp) rfl (hb hby d21_23) hr
  ·refine Gz (XS.icmpYes X0.here hx rfl (pc0 := 18) (pc' := 24) rfl (hb hby d21_18) rfl (feq hc18_2).2 (by decide) (by decide)) ?_
   show Goes _ _ _ _ _ (fT s₁ m 24 #[vi q, vi (q &&& 7), vi ((q.toUInt32 >>> ((3 : Int32) &&& 31).toUInt32).toInt32)] [])
   refine gN X0 hx hby d21_24 rfl rfl ?_
   refine Gz (XS.iconst X0.here hx rfl (hb hby d21_25)) ?_
   by_cases hc26_3 : (q &&& 7) = 2
   ·refine Gz (XS.icmpNo X0.here hx rfl (hb hby d21_26) rfl (teq hc26_3).2) ?_
    refine Gz (XS.bipush X0.here hx rfl (hb hby d21_29)) ?_
    refine Goes.ret X0 (some (.int 10)) (fun h => by rw [hret] at h; cases h) hlk (by decide) (by decide) ?_ (fun fs hr => ?_)
    ·exact ⟨(10 : Int32), rfl, N0, e0, ⟨by decide, by decide⟩⟩
    ·exact own_retN X0 hx (t := .char) hret (by simp) rfl (hb hby d21_31) hr
   ·refine Gz (XS.icmpYes X0.here hx rfl (pc0 := 26) (pc' := 32) rfl (hb hby d21_26) rfl (feq hc26_3).2 (by decide) (by decide)) ?_
    refine gN X0 hx hby d21_32 rfl rfl ?_
    refine Gz (XS.iconst X0.here hx rfl (hb hby d21_33)) ?_
    by_cases hc34_4 : (q &&& 7) = 3
    ·refine Gz (XS.icmpNo X0.here hx rfl (hb hby d21_34) rfl (teq hc34_4).2) ?_
     show Goes _ _ _ _ _ (fT s₁ m 37 #[vi q, vi (q &&& 7), vi ((q.toUInt32 >>> ((3 : Int32) &&& 31).toUInt32).toInt32)] [])
     refine Gz (Jvm.Stand.ldcI X0 hx hown (gz hZ hw 4 rfl) rfl (hb hby d21_37)) ?_
     show Goes _ _ _ _ _ (fT s₁ m 39 #[vi q, vi (q &&& 7), vi ((q.toUInt32 >>> ((3 : Int32) &&& 31).toUInt32).toInt32)] [(.int 55296)])
     refine gN X0 hx hby d21_39 rfl rfl ?_
     refine Gz (XS.sipush X0.here hx rfl (hb hby d21_40)) ?_
     show Goes _ _ _ _ _ (fT s₁ m 43 #[vi q, vi (q &&& 7), vi ((q.toUInt32 >>> ((3 : Int32) &&& 31).toUInt32).toInt32)] [(.int 1023), (.int ((q.toUInt32 >>> ((3 : Int32) &&& 31).toUInt32).toInt32)), (.int 55296)])
     refine Gz (XS.iand X0.here hx rfl (hb hby d21_43) rfl) ?_
     show Goes _ _ _ _ _ (fT s₁ m 44 #[vi q, vi (q &&& 7), vi ((q.toUInt32 >>> ((3 : Int32) &&& 31).toUInt32).toInt32)] [(.int (((q.toUInt32 >>> ((3 : Int32) &&& 31).toUInt32).toInt32) &&& (1023 : Int32))), (.int 55296)])
     refine Gz (XS.iadd X0.here hx rfl (hb hby d21_44) rfl) ?_
     show Goes _ _ _ _ _ (fT s₁ m 45 #[vi q, vi (q &&& 7), vi ((q.toUInt32 >>> ((3 : Int32) &&& 31).toUInt32).toInt32)] [(.int ((55296 : Int32) + (((q.toUInt32 >>> ((3 : Int32) &&& 31).toUInt32).toInt32) &&& (1023 : Int32))))])
     refine Gz (XS.i2c X0.here hx rfl (hb hby d21_45) rfl) ?_
     show Goes _ _ _ _ _ (fT s₁ m 46 #[vi q, vi (q &&& 7), vi ((q.toUInt32 >>> ((3 : Int32) &&& 31).toUInt32).toInt32)] [(.int (((55296 : Int32) + (((q.toUInt32 >>> ((3 : Int32) &&& 31).toUInt32).toInt32) &&& (1023 : Int32))).toUInt32.toUInt16.toUInt32.toInt32))])
     refine Goes.ret X0 (some (.int (((55296 : Int32) + (((q.toUInt32 >>> ((3 : Int32) &&& 31).toUInt32).toInt32) &&& (1023 : Int32))).toUInt32.toUInt16.toUInt32.toInt32))) (fun h => by rw [hret] at h; cases h) hlk (by decide) (by decide) ?_ (fun fs hr => ?_)
     ·exact ⟨(((55296 : Int32) + (((q.toUInt32 >>> ((3 : Int32) &&& 31).toUInt32).toInt32) &&& (1023 : Int32))).toUInt32.toUInt16.toUInt32.toInt32), rfl, N0, e0, (own_chrI _)⟩
     ·exact own_retN X0 hx (t := .char) hret (by simp) (own_nc (own_chrI _)) (hb hby d21_46) hr
    ·refine Gz (XS.icmpYes X0.here hx rfl (pc0 := 34) (pc' := 47) rfl (hb hby d21_34) rfl (feq hc34_4).2 (by decide) (by decide)) ?_
     show Goes _ _ _ _ _ (fT s₁ m 47 #[vi q, vi (q &&& 7), vi ((q.toUInt32 >>> ((3 : Int32) &&& 31).toUInt32).toInt32)] [])
     refine gN X0 hx hby d21_47 rfl rfl ?_
     refine Gz (XS.iconst X0.here hx rfl (hb hby d21_48)) ?_
     by_cases hc49_5 : (q &&& 7) = 4
     ·refine Gz (XS.icmpNo X0.here hx rfl (hb hby d21_49) rfl (teq hc49_5).2) ?_
      refine Gz (Jvm.Stand.ldcI X0 hx hown (gz hZ hw 36 rfl) rfl (hb hby d21_52)) ?_
      show Goes _ _ _ _ _ (fT s₁ m 54 #[vi q, vi (q &&& 7), vi ((q.toUInt32 >>> ((3 : Int32) &&& 31).toUInt32).toInt32)] [(.int 56320)])
      refine gN X0 hx hby d21_54 rfl rfl ?_
      refine Gz (XS.sipush X0.here hx rfl (hb hby d21_55)) ?_
      show Goes _ _ _ _ _ (fT s₁ m 58 #[vi q, vi (q &&& 7), vi ((q.toUInt32 >>> ((3 : Int32) &&& 31).toUInt32).toInt32)] [(.int 1023), (.int ((q.toUInt32 >>> ((3 : Int32) &&& 31).toUInt32).toInt32)), (.int 56320)])
      refine Gz (XS.iand X0.here hx rfl (hb hby d21_58) rfl) ?_
      show Goes _ _ _ _ _ (fT s₁ m 59 #[vi q, vi (q &&& 7), vi ((q.toUInt32 >>> ((3 : Int32) &&& 31).toUInt32).toInt32)] [(.int (((q.toUInt32 >>> ((3 : Int32) &&& 31).toUInt32).toInt32) &&& (1023 : Int32))), (.int 56320)])
      refine Gz (XS.iadd X0.here hx rfl (hb hby d21_59) rfl) ?_
      show Goes _ _ _ _ _ (fT s₁ m 60 #[vi q, vi (q &&& 7), vi ((q.toUInt32 >>> ((3 : Int32) &&& 31).toUInt32).toInt32)] [(.int ((56320 : Int32) + (((q.toUInt32 >>> ((3 : Int32) &&& 31).toUInt32).toInt32) &&& (1023 : Int32))))])
      refine Gz (XS.i2c X0.here hx rfl (hb hby d21_60) rfl) ?_
      show Goes _ _ _ _ _ (fT s₁ m 61 #[vi q, vi (q &&& 7), vi ((q.toUInt32 >>> ((3 : Int32) &&& 31).toUInt32).toInt32)] [(.int (((56320 : Int32) + (((q.toUInt32 >>> ((3 : Int32) &&& 31).toUInt32).toInt32) &&& (1023 : Int32))).toUInt32.toUInt16.toUInt32.toInt32))])
      refine Goes.ret X0 (some (.int (((56320 : Int32) + (((q.toUInt32 >>> ((3 : Int32) &&& 31).toUInt32).toInt32) &&& (1023 : Int32))).toUInt32.toUInt16.toUInt32.toInt32))) (fun h => by rw [hret] at h; cases h) hlk (by decide) (by decide) ?_ (fun fs hr => ?_)
      ·exact ⟨(((56320 : Int32) + (((q.toUInt32 >>> ((3 : Int32) &&& 31).toUInt32).toInt32) &&& (1023 : Int32))).toUInt32.toUInt16.toUInt32.toInt32), rfl, N0, e0, (own_chrI _)⟩
      ·exact own_retN X0 hx (t := .char) hret (by simp) (own_nc (own_chrI _)) (hb hby d21_61) hr
     ·refine Gz (XS.icmpYes X0.here hx rfl (pc0 := 49) (pc' := 62) rfl (hb hby d21_49) rfl (feq hc49_5).2 (by decide) (by decide)) ?_
      refine gN X0 hx hby d21_62 rfl rfl ?_
      refine Gz (Jvm.Stand.ldcI X0 hx hown (gz hZ hw 52 rfl) rfl (hb hby d21_63)) ?_
      show Goes _ _ _ _ _ (fT s₁ m 65 #[vi q, vi (q &&& 7), vi ((q.toUInt32 >>> ((3 : Int32) &&& 31).toUInt32).toInt32)] [(.int 65535), (.int ((q.toUInt32 >>> ((3 : Int32) &&& 31).toUInt32).toInt32))])
      refine Gz (XS.iand X0.here hx rfl (hb hby d21_65) rfl) ?_
      show Goes _ _ _ _ _ (fT s₁ m 66 #[vi q, vi (q &&& 7), vi ((q.toUInt32 >>> ((3 : Int32) &&& 31).toUInt32).toInt32)] [(.int (((q.toUInt32 >>> ((3 : Int32) &&& 31).toUInt32).toInt32) &&& (65535 : Int32)))])
      refine Gz (XS.i2c X0.here hx rfl (hb hby d21_66) rfl) ?_
      show Goes _ _ _ _ _ (fT s₁ m 67 #[vi q, vi (q &&& 7), vi ((q.toUInt32 >>> ((3 : Int32) &&& 31).toUInt32).toInt32)] [(.int ((((q.toUInt32 >>> ((3 : Int32) &&& 31).toUInt32).toInt32) &&& (65535 : Int32)).toUInt32.toUInt16.toUInt32.toInt32))])
      refine Goes.ret X0 (some (.int ((((q.toUInt32 >>> ((3 : Int32) &&& 31).toUInt32).toInt32) &&& (65535 : Int32)).toUInt32.toUInt16.toUInt32.toInt32))) (fun h => by rw [hret] at h; cases h) hlk (by decide) (by decide) ?_ (fun fs hr => ?_)
      ·exact ⟨((((q.toUInt32 >>> ((3 : Int32) &&& 31).toUInt32).toInt32) &&& (65535 : Int32)).toUInt32.toUInt16.toUInt32.toInt32), rfl, N0, e0, (own_chrI _)⟩
      ·exact own_retN X0 hx (t := .char) hret (by simp) (own_nc (own_chrI _)) (hb hby d21_67) hr
theorem d22_0 : decode method_3_code 0 = .ok (.iload_n 0, 1) := by decide +kernel
theorem d22_1 : decode method_3_code 1 = .ok (.ldc 7, 2) := by decide +kernel
theorem d22_3 : decode method_3_code 3 = .ok (.if_icmp .lt 13, 3) := by decide +kernel
theorem d22_16 : decode method_3_code 16 = .ok (.iconst 0, 1) := by decide +kernel
theorem d22_17 : decode method_3_code 17 = .ok (.ireturn, 1) := by decide +kernel
theorem d22_6 : decode method_3_code 6 = .ok (.iload_n 0, 1) := by decide +kernel
theorem d22_7 : decode method_3_code 7 = .ok (.ldc 10, 2) := by decide +kernel
theorem d22_9 : decode method_3_code 9 = .ok (.if_icmp .gt 7, 3) := by decide +kernel
theorem d22_12 : decode method_3_code 12 = .ok (.iconst 1, 1) := by decide +kernel
theorem d22_13 : decode method_3_code 13 = .ok (.goto 4, 3) := by decide +kernel
theorem own_ef_rm_isHigh (m : MethodId) (x0 : Int32) : entryFrame m #[(.int x0)] 1 = mkF m 0 #[vi x0] [] := by first | (simp [entryFrame, mkF, argsToLocals, Value.category]; done) | rfl
def Q_rm_isHigh (Z : State) (r : Int32) (h0 : Heap) (n0 : Nat) (v : Option Value) (h : Heap) (L : List Loc) : Prop := v = some (.int (hiv (cls r))) ∧ Fr n0 L ∧ h = h0
set_option maxRecDepth 65536 in
set_option maxHeartbeats 40000000 in
theorem rm_isHigh (l : Launch) (Z : State) (a0 : Array Value) (hw : HW a0 Z) (ws : List Jvm.Cond) (r : Int32) (h0 : Heap) (n0 : Nat) (Z0 : n0 ≤ h0.size) :
  Met l Z mN22 method_3_code 1 (some .boolean) ({ frames := 0, cells := 0, slots := 0, locals := 0 } : Room) ws #[(.int r)] h0 (Q_rm_isHigh Z r h0 n0) := by
 refine own_met (plainFor_of_name own_pn4) ?_
 intro p e s m below meth c s₁ hret hx hby hlk hml hown hnm X0 e0 hZ hh
 have N0 := Fr.nil n0
 refine Gz (castTop (own_ef_rm_isHigh m r)) ?_
 show Goes _ _ _ _ _ (fT s₁ m 0 #[vi r] [])
 refine gN X0 hx hby d22_0 rfl rfl ?_
 refine Gz (Jvm.Stand.ldcI X0 hx hown (gz hZ hw 4 rfl) rfl (hb hby d22_1)) ?_
 show Goes _ _ _ _ _ (fT s₁ m 3 #[vi r] [(.int 55296), (.int r)])
 by_cases hc3_1 : r < 55296
 ·refine Gz (XS.icmpYes X0.here hx rfl (pc0 := 3) (pc' := 16) rfl (hb hby d22_3) rfl (tlt hc3_1).1 (by decide) (by decide)) ?_
  refine Gz (XS.iconst X0.here hx rfl (hb hby d22_16)) ?_
  refine Goes.ret X0 (some (.int 0)) (fun h => by rw [hret] at h; cases h) hlk (by decide) (by decide) ?_ (fun fs hr => ?_)
  ·exact ⟨(congrArg (fun z => some (Value.int z)) (own_hi0 (by have q0 := hc3_1; simp only [Int32.lt_iff_toInt_lt, own_lits] at q0; omega))), N0, e0⟩
  ·exact own_retN X0 hx (t := .boolean) hret (by simp) rfl (hb hby d22_17) hr
 ·refine Gz (XS.icmpNo X0.here hx rfl (hb hby d22_3) rfl (flt hc3_1).1) ?_
  refine gN X0 hx hby d22_6 rfl rfl ?_
  refine Gz (Jvm.Stand.ldcI X0 hx hown (gz hZ hw 82 rfl) rfl (hb hby d22_7)) ?_
  show Goes _ _ _ _ _ (fT s₁ m 9 #[vi r] [(.int 56319), (.int r)])
  by_cases hc9_2 : (56319 : Int32) < r
  ·refine Gz (XS.icmpYes X0.here hx rfl (pc0 := 9) (pc' := 16) rfl (hb hby d22_9) rfl (tlt hc9_2).2.2.1 (by decide) (by decide)) ?_
   refine Gz (XS.iconst X0.here hx rfl (hb hby d22_16)) ?_
   refine Goes.ret X0 (some (.int 0)) (fun h => by rw [hret] at h; cases h) hlk (by decide) (by decide) ?_ (fun fs hr => ?_)
   ·exact ⟨(congrArg (fun z => some (Value.int z)) (own_hi0 (by have q0 := hc3_1; have q1 := hc9_2; simp only [Int32.lt_iff_toInt_lt, own_lits] at q0 q1; omega))), N0, e0⟩
   ·exact own_retN X0 hx (t := .boolean) hret (by simp) rfl (hb hby d22_17) hr
  ·refine Gz (XS.icmpNo X0.here hx rfl (hb hby d22_9) rfl (flt hc9_2).2.2.1) ?_
   refine Gz (XS.iconst X0.here hx rfl (hb hby d22_12)) ?_
   refine Gz (XS.goto X0.here hx rfl (pc0 := 13) (pc' := 17) rfl (hb hby d22_13) (by decide) (by decide)) ?_
   refine Goes.ret X0 (some (.int 1)) (fun h => by rw [hret] at h; cases h) hlk (by decide) (by decide) ?_ (fun fs hr => ?_)
   ·exact ⟨(congrArg (fun z => some (Value.int z)) (own_hi1 (by have q0 := hc3_1; have q1 := hc9_2; simp only [Int32.lt_iff_toInt_lt, own_lits] at q0 q1; omega))), N0, e0⟩
   ·exact own_retN X0 hx (t := .boolean) hret (by simp) rfl (hb hby d22_17) hr
theorem d23_0 : decode method_4_code 0 = .ok (.iload_n 0, 1) := by decide +kernel
theorem d23_1 : decode method_4_code 1 = .ok (.ldc 8, 2) := by decide +kernel
theorem d23_3 : decode method_4_code 3 = .ok (.if_icmp .lt 13, 3) := by decide +kernel
theorem d23_16 : decode method_4_code 16 = .ok (.iconst 0, 1) := by decide +kernel
theorem d23_17 : decode method_4_code 17 = .ok (.ireturn, 1) := by decide +kernel
theorem d23_6 : decode method_4_code 6 = .ok (.iload_n 0, 1) := by decide +kernel
theorem d23_7 : decode method_4_code 7 = .ok (.ldc 11, 2) := by decide +kernel
theorem d23_9 : decode method_4_code 9 = .ok (.if_icmp .gt 7, 3) := by decide +kernel
theorem d23_12 : decode method_4_code 12 = .ok (.iconst 1, 1) := by decide +kernel
theorem d23_13 : decode method_4_code 13 = .ok (.goto 4, 3) := by decide +kernel
theorem own_ef_rm_isLow (m : MethodId) (x0 : Int32) : entryFrame m #[(.int x0)] 1 = mkF m 0 #[vi x0] [] := by first | (simp [entryFrame, mkF, argsToLocals, Value.category]; done) | rfl
def Q_rm_isLow (Z : State) (r : Int32) (h0 : Heap) (n0 : Nat) (v : Option Value) (h : Heap) (L : List Loc) : Prop := v = some (.int (lov (cls r))) ∧ Fr n0 L ∧ h = h0
set_option maxRecDepth 65536 in
set_option maxHeartbeats 40000000 in
theorem rm_isLow (l : Launch) (Z : State) (a0 : Array Value) (hw : HW a0 Z) (ws : List Jvm.Cond) (r : Int32) (h0 : Heap) (n0 : Nat) (Z0 : n0 ≤ h0.size) :
  Met l Z mN23 method_4_code 1 (some .boolean) ({ frames := 0, cells := 0, slots := 0, locals := 0 } : Room) ws #[(.int r)] h0 (Q_rm_isLow Z r h0 n0) := by
 refine own_met (plainFor_of_name own_pn4) ?_
 intro p e s m below meth c s₁ hret hx hby hlk hml hown hnm X0 e0 hZ hh
 have N0 := Fr.nil n0
 refine Gz (castTop (own_ef_rm_isLow m r)) ?_
 show Goes _ _ _ _ _ (fT s₁ m 0 #[vi r] [])
 refine gN X0 hx hby d23_0 rfl rfl ?_
 refine Gz (Jvm.Stand.ldcI X0 hx hown (gz hZ hw 36 rfl) rfl (hb hby d23_1)) ?_
 show Goes _ _ _ _ _ (fT s₁ m 3 #[vi r] [(.int 56320), (.int r)])
 by_cases hc3_1 : r < 56320
 ·refine Gz (XS.icmpYes X0.here hx rfl (pc0 := 3) (pc' := 16) rfl (hb hby d23_3) rfl (tlt hc3_1).1 (by decide) (by decide)) ?_
  refine Gz (XS.iconst X0.here hx rfl (hb hby d23_16)) ?_
  refine Goes.ret X0 (some (.int 0)) (fun h => by rw [hret] at h; cases h) hlk (by decide) (by decide) ?_ (fun fs hr => ?_)
  ·exact ⟨(congrArg (fun z => some (Value.int z)) (own_lo0 (by have q0 := hc3_1; simp only [Int32.lt_iff_toInt_lt, own_lits] at q0; omega))), N0, e0⟩
  ·exact own_retN X0 hx (t := .boolean) hret (by simp) rfl (hb hby d23_17) hr
 ·refine Gz (XS.icmpNo X0.here hx rfl (hb hby d23_3) rfl (flt hc3_1).1) ?_
  refine gN X0 hx hby d23_6 rfl rfl ?_
  refine Gz (Jvm.Stand.ldcI X0 hx hown (gz hZ hw 83 rfl) rfl (hb hby d23_7)) ?_
  show Goes _ _ _ _ _ (fT s₁ m 9 #[vi r] [(.int 57343), (.int r)])
  by_cases hc9_2 : (57343 : Int32) < r
  ·refine Gz (XS.icmpYes X0.here hx rfl (pc0 := 9) (pc' := 16) rfl (hb hby d23_9) rfl (tlt hc9_2).2.2.1 (by decide) (by decide)) ?_
   refine Gz (XS.iconst X0.here hx rfl (hb hby d23_16)) ?_
   refine Goes.ret X0 (some (.int 0)) (fun h => by rw [hret] at h; cases h) hlk (by decide) (by decide) ?_ (fun fs hr => ?_)
   ·exact ⟨(congrArg (fun z => some (Value.int z)) (own_lo0 (by have q0 := hc3_1; have q1 := hc9_2; simp only [Int32.lt_iff_toInt_lt, own_lits] at q0 q1; omega))), N0, e0⟩
   ·exact own_retN X0 hx (t := .boolean) hret (by simp) rfl (hb hby d23_17) hr
  ·refine Gz (XS.icmpNo X0.here hx rfl (hb hby d23_9) rfl (flt hc9_2).2.2.1) ?_
   refine Gz (XS.iconst X0.here hx rfl (hb hby d23_12)) ?_
   refine Gz (XS.goto X0.here hx rfl (pc0 := 13) (pc' := 17) rfl (hb hby d23_13) (by decide) (by decide)) ?_
   refine Goes.ret X0 (some (.int 1)) (fun h => by rw [hret] at h; cases h) hlk (by decide) (by decide) ?_ (fun fs hr => ?_)
   ·exact ⟨(congrArg (fun z => some (Value.int z)) (own_lo1 (by have q0 := hc3_1; have q1 := hc9_2; simp only [Int32.lt_iff_toInt_lt, own_lits] at q0 q1; omega))), N0, e0⟩
   ·exact own_retN X0 hx (t := .boolean) hret (by simp) rfl (hb hby d23_17) hr
theorem d24_0 : decode method_5_code 0 = .ok (.iload_n 1, 1) := by decide +kernel
theorem d24_1 : decode method_5_code 1 = .ok (.bipush 9, 2) := by decide +kernel
theorem d24_3 : decode method_5_code 3 = .ok (.if_icmp .eq 15, 3) := by decide +kernel
theorem d24_18 : decode method_5_code 18 = .ok (.iconst 0, 1) := by decide +kernel
theorem d24_19 : decode method_5_code 19 = .ok (.ireturn, 1) := by decide +kernel
theorem d24_6 : decode method_5_code 6 = .ok (.iload_n 1, 1) := by decide +kernel
theorem d24_7 : decode method_5_code 7 = .ok (.bipush 13, 2) := by decide +kernel
theorem d24_9 : decode method_5_code 9 = .ok (.if_icmp .eq 9, 3) := by decide +kernel
theorem d24_12 : decode method_5_code 12 = .ok (.iload_n 1, 1) := by decide +kernel
theorem d24_13 : decode method_5_code 13 = .ok (.bipush 10, 2) := by decide +kernel
theorem d24_15 : decode method_5_code 15 = .ok (.if_icmp .ne 5, 3) := by decide +kernel
theorem d24_20 : decode method_5_code 20 = .ok (.iload_n 1, 1) := by decide +kernel
theorem d24_21 : decode method_5_code 21 = .ok (.invokestatic 12, 3) := by decide +kernel
theorem d24_24 : decode method_5_code 24 = .ok (.ifCond .eq 8, 3) := by decide +kernel
theorem d24_32 : decode method_5_code 32 = .ok (.iload_n 1, 1) := by decide +kernel
theorem d24_33 : decode method_5_code 33 = .ok (.invokestatic 18, 3) := by decide +kernel
theorem d24_36 : decode method_5_code 36 = .ok (.ifCond .eq 8, 3) := by decide +kernel
theorem d24_44 : decode method_5_code 44 = .ok (.iconst 1, 1) := by decide +kernel
theorem d24_45 : decode method_5_code 45 = .ok (.ireturn, 1) := by decide +kernel
theorem d24_39 : decode method_5_code 39 = .ok (.iload_n 0, 1) := by decide +kernel
theorem d24_40 : decode method_5_code 40 = .ok (.invokestatic 12, 3) := by decide +kernel
theorem d24_43 : decode method_5_code 43 = .ok (.ireturn, 1) := by decide +kernel
theorem d24_27 : decode method_5_code 27 = .ok (.iload_n 2, 1) := by decide +kernel
theorem d24_28 : decode method_5_code 28 = .ok (.invokestatic 18, 3) := by decide +kernel
theorem d24_31 : decode method_5_code 31 = .ok (.ireturn, 1) := by decide +kernel
theorem own_ef_rm_good (m : MethodId) (x0 : Int32) (x1 : Int32) (x2 : Int32) : entryFrame m #[(.int x0), (.int x1), (.int x2)] 3 = mkF m 0 #[vi x0, vi x1, vi x2] [] := by first | (simp [entryFrame, mkF, argsToLocals, Value.category]; done) | rfl
def Q_rm_good (Z : State) (pr : Int32) (cc : Int32) (nx : Int32) (h0 : Heap) (n0 : Nat) (v : Option Value) (h : Heap) (L : List Loc) : Prop := v = some (.int (gd (cls pr) (cls cc) (cls nx))) ∧ Fr n0 L ∧ h = h0
set_option maxRecDepth 65536 in
set_option maxHeartbeats 40000000 in
theorem rm_good (l : Launch) (Z : State) (a0 : Array Value) (hw : HW a0 Z) (ws : List Jvm.Cond) (pr : Int32) (cc : Int32) (nx : Int32) (h0 : Heap) (n0 : Nat) (Z0 : n0 ≤ h0.size) :
  Met l Z mN24 method_5_code 3 (some .boolean) ({ frames := 1, cells := 0, slots := 0, locals := 12 } : Room) ws #[(.int pr), (.int cc), (.int nx)] h0 (Q_rm_good Z pr cc nx h0 n0) := by
 refine own_met (plainFor_of_name own_pn4) ?_
 intro p e s m below meth c s₁ hret hx hby hlk hml hown hnm X0 e0 hZ hh
 have N0 := Fr.nil n0
 refine Gz (castTop (own_ef_rm_good m pr cc nx)) ?_
 show Goes _ _ _ _ _ (fT s₁ m 0 #[vi pr, vi cc, vi nx] [])
 refine gN X0 hx hby d24_0 rfl rfl ?_
 refine Gz (XS.bipush X0.here hx rfl (hb hby d24_1)) ?_
 by_cases hc3_1 : cc = 9
 ·refine Gz (XS.icmpYes X0.here hx rfl (pc0 := 3) (pc' := 18) rfl (hb hby d24_3) rfl (teq hc3_1).1 (by decide) (by decide)) ?_
  refine Gz (XS.iconst X0.here hx rfl (hb hby d24_18)) ?_
  refine Goes.ret X0 (some (.int 0)) (fun h => by rw [hret] at h; cases h) hlk (by decide) (by decide) ?_ (fun fs hr => ?_)
  ·exact ⟨(congrArg (fun z => some (Value.int z)) (own_g0 _ _ _ (own_k0 (Or.inl hc3_1)))), N0, e0⟩
  ·exact own_retN X0 hx (t := .boolean) hret (by simp) rfl (hb hby d24_19) hr
 ·refine Gz (XS.icmpNo X0.here hx rfl (hb hby d24_3) rfl (feq hc3_1).1) ?_
  refine gN X0 hx hby d24_6 rfl rfl ?_
  refine Gz (XS.bipush X0.here hx rfl (hb hby d24_7)) ?_
  by_cases hc9_2 : cc = 13
  ·refine Gz (XS.icmpYes X0.here hx rfl (pc0 := 9) (pc' := 18) rfl (hb hby d24_9) rfl (teq hc9_2).1 (by decide) (by decide)) ?_
   show Goes _ _ _ _ _ (fT s₁ m 18 #[vi pr, vi cc, vi nx] [])
   refine Gz (XS.iconst X0.here hx rfl (hb hby d24_18)) ?_
   refine Goes.ret X0 (some (.int 0)) (fun h => by rw [hret] at h; cases h) hlk (by decide) (by decide) ?_ (fun fs hr => ?_)
   ·exact ⟨(congrArg (fun z => some (Value.int z)) (own_g0 _ _ _ (own_k0 (Or.inr (Or.inl hc9_2))))), N0, e0⟩
   ·exact own_retN X0 hx (t := .boolean) hret (by simp) rfl (hb hby d24_19) hr
  ·refine Gz (XS.icmpNo X0.here hx rfl (hb hby d24_9) rfl (feq hc9_2).1) ?_
   show Goes _ _ _ _ _ (fT s₁ m 12 #[vi pr, vi cc, vi nx] [])
   refine gN X0 hx hby d24_12 rfl rfl ?_
   refine Gz (XS.bipush X0.here hx rfl (hb hby d24_13)) ?_
   by_cases hc15_3 : cc = 10
   ·refine Gz (XS.icmpNo X0.here hx rfl (hb hby d24_15) rfl (teq hc15_3).2) ?_
    refine Gz (XS.iconst X0.here hx rfl (hb hby d24_18)) ?_
    refine Goes.ret X0 (some (.int 0)) (fun h => by rw [hret] at h; cases h) hlk (by decide) (by decide) ?_ (fun fs hr => ?_)
    ·exact ⟨(congrArg (fun z => some (Value.int z)) (own_g0 _ _ _ (own_k0 (Or.inr (Or.inr hc15_3))))), N0, e0⟩
    ·exact own_retN X0 hx (t := .boolean) hret (by simp) rfl (hb hby d24_19) hr
   ·refine Gz (XS.icmpYes X0.here hx rfl (pc0 := 15) (pc' := 20) rfl (hb hby d24_15) rfl (feq hc15_3).2 (by decide) (by decide)) ?_
    refine gN X0 hx hby d24_20 rfl rfl ?_
    obtain ⟨_, _, ⟨T4, L4, k4, n4⟩, -, X4, ⟨Lc4, hQ4, l4, y4, z4⟩, st4⟩ := Jvm.LawKit.callS X0 hx (y := mN22) hown (gz hZ hw 30 rfl) (gz hZ hw 31 rfl) (gz hZ hw 2 rfl) (gz hZ hw 32 rfl) (by decide) (backOf (W := 0) (rm_isHigh l Z a0 hw [] cc h0 n0 Z0) hZ (gw hw 32 rfl) (gw hw 2 rfl) (by decide) (by decide)) (g := (mkF m 21 #[vi pr, vi cc, vi nx] [(.int cc)])) rfl hml.symm (argsL := [(.int cc)]) (rest := []) (lenOf own_pd3 rfl) rfl (wz rfl) (hb hby d24_21) (fun _ _ => ⟨rfl, e0, z0, z0⟩)
    dsimp only [Pt.U, Pt.locs, Pt.cells, Pt.slots] at X4 l4 y4 z4 st4 hQ4
    subst l4 y4 z4
    obtain ⟨rfl, N4q, e4⟩ := hQ4
    have N4 := Fr.app N0 N4q
    refine Gs st4 ?_
    show Goes _ _ _ _ _ (fT T4 m 24 #[vi pr, vi cc, vi nx] [(.int (hiv (cls cc)))])
    by_cases hc24_5 : (hiv (cls cc)) = 0
    ·refine Gz (XS.ifYes X4.here hx rfl (pc0 := 24) (pc' := 32) rfl (hb hby d24_24) rfl ((if0 _ _).trans (teq hc24_5).1) (by decide) (by decide)) ?_
     refine gN X4 hx hby d24_32 rfl rfl ?_
     obtain ⟨_, _, ⟨T6, L6, k6, n6⟩, -, X6, ⟨Lc6, hQ6, l6, y6, z6⟩, st6⟩ := Jvm.LawKit.callS X4 hx (y := mN23) hown (gz hZ hw 33 rfl) (gz hZ hw 34 rfl) (gz hZ hw 2 rfl) (gz hZ hw 35 rfl) (by decide) (backOf (W := 0) (rm_isLow l Z a0 hw [] cc h0 n0 Z0) hZ (gw hw 35 rfl) (gw hw 2 rfl) (by decide) (by decide)) (g := (mkF m 33 #[vi pr, vi cc, vi nx] [(.int cc)])) rfl hml.symm (argsL := [(.int cc)]) (rest := []) (lenOf own_pd3 rfl) rfl (wz rfl) (hb hby d24_33) (fun _ _ => ⟨rfl, e4, z0, z0⟩)
     dsimp only [Pt.U, Pt.locs, Pt.cells, Pt.slots] at X6 l6 y6 z6 st6 hQ6
     subst l6 y6 z6
     obtain ⟨rfl, N6q, e6⟩ := hQ6
     have N6 := Fr.app N4 N6q
     refine Gs st6 ?_
     show Goes _ _ _ _ _ (fT T6 m 36 #[vi pr, vi cc, vi nx] [(.int (lov (cls cc)))])
     by_cases hc36_7 : (lov (cls cc)) = 0
     ·refine Gz (XS.ifYes X6.here hx rfl (pc0 := 36) (pc' := 44) rfl (hb hby d24_36) rfl ((if0 _ _).trans (teq hc36_7).1) (by decide) (by decide)) ?_
      refine Gz (XS.iconst X6.here hx rfl (hb hby d24_44)) ?_
      refine Goes.ret X6 (some (.int 1)) (fun h => by rw [hret] at h; cases h) hlk (by decide) (by decide) ?_ (fun fs hr => ?_)
      ·exact ⟨(congrArg (fun z => some (Value.int z)) (own_g3 _ _ _ (own_kn hc3_1 hc9_2 hc15_3) hc24_5 hc36_7)), N6, e6⟩
      ·exact own_retN X6 hx (t := .boolean) hret (by simp) rfl (hb hby d24_45) hr
     ·refine Gz (XS.ifNo X6.here hx rfl (hb hby d24_36) rfl ((if0 _ _).trans (feq hc36_7).1)) ?_
      refine gN X6 hx hby d24_39 rfl rfl ?_
      obtain ⟨_, _, ⟨T8, L8, k8, n8⟩, -, X8, ⟨Lc8, hQ8, l8, y8, z8⟩, st8⟩ := Jvm.LawKit.callS X6 hx (y := mN22) hown (gz hZ hw 30 rfl) (gz hZ hw 31 rfl) (gz hZ hw 2 rfl) (gz hZ hw 32 rfl) (by decide) (backOf (W := 0) (rm_isHigh l Z a0 hw [] pr h0 n0 Z0) hZ (gw hw 32 rfl) (gw hw 2 rfl) (by decide) (by decide)) (g := (mkF m 40 #[vi pr, vi cc, vi nx] [(.int pr)])) rfl hml.symm (argsL := [(.int pr)]) (rest := []) (lenOf own_pd3 rfl) rfl (wz rfl) (hb hby d24_40) (fun _ _ => ⟨rfl, e6, z0, z0⟩)
      dsimp only [Pt.U, Pt.locs, Pt.cells, Pt.slots] at X8 l8 y8 z8 st8 hQ8
      subst l8 y8 z8
      obtain ⟨rfl, N8q, e8⟩ := hQ8
      have N8 := Fr.app N6 N8q
      refine Gs st8 ?_
      show Goes _ _ _ _ _ (fT T8 m 43 #[vi pr, vi cc, vi nx] [(.int (hiv (cls pr)))])
      refine Goes.ret X8 (some (.int (hiv (cls pr)))) (fun h => by rw [hret] at h; cases h) hlk (by decide) (by decide) ?_ (fun fs hr => ?_)
      ·exact ⟨(congrArg (fun z => some (Value.int z)) (own_g2 _ _ _ (own_kn hc3_1 hc9_2 hc15_3) hc24_5 hc36_7)), N8, e8⟩
      ·exact own_retN X8 hx (t := .boolean) hret (by simp) (own_nhv _) (hb hby d24_43) hr
    ·refine Gz (XS.ifNo X4.here hx rfl (hb hby d24_24) rfl ((if0 _ _).trans (feq hc24_5).1)) ?_
     refine gN X4 hx hby d24_27 rfl rfl ?_
     obtain ⟨_, _, ⟨T9, L9, k9, n9⟩, -, X9, ⟨Lc9, hQ9, l9, y9, z9⟩, st9⟩ := Jvm.LawKit.callS X4 hx (y := mN23) hown (gz hZ hw 33 rfl) (gz hZ hw 34 rfl) (gz hZ hw 2 rfl) (gz hZ hw 35 rfl) (by decide) (backOf (W := 0) (rm_isLow l Z a0 hw [] nx h0 n0 Z0) hZ (gw hw 35 rfl) (gw hw 2 rfl) (by decide) (by decide)) (g := (mkF m 28 #[vi pr, vi cc, vi nx] [(.int nx)])) rfl hml.symm (argsL := [(.int nx)]) (rest := []) (lenOf own_pd3 rfl) rfl (wz rfl) (hb hby d24_28) (fun _ _ => ⟨rfl, e4, z0, z0⟩)
     dsimp only [Pt.U, Pt.locs, Pt.cells, Pt.slots] at X9 l9 y9 z9 st9 hQ9
     subst l9 y9 z9
     obtain ⟨rfl, N9q, e9⟩ := hQ9
     have N9 := Fr.app N4 N9q
     refine Gs st9 ?_
     show Goes _ _ _ _ _ (fT T9 m 31 #[vi pr, vi cc, vi nx] [(.int (lov (cls nx)))])
     refine Goes.ret X9 (some (.int (lov (cls nx)))) (fun h => by rw [hret] at h; cases h) hlk (by decide) (by decide) ?_ (fun fs hr => ?_)
     ·exact ⟨(congrArg (fun z => some (Value.int z)) (own_g1 _ _ _ (own_kn hc3_1 hc9_2 hc15_3) hc24_5)), N9, e9⟩
     ·exact own_retN X9 hx (t := .boolean) hret (by simp) (own_nlv _) (hb hby d24_31) hr
theorem d25_0 : decode kc20 0 = .ok (.iload_n 0, 1) := by decide +kernel
theorem d25_1 : decode kc20 1 = .ok (.ldc 73, 2) := by decide +kernel
theorem d25_3 : decode kc20 3 = .ok (.if_icmp .lt 7, 3) := by decide +kernel
theorem d25_10 : decode kc20 10 = .ok (.iconst 1, 1) := by decide +kernel
theorem d25_11 : decode kc20 11 = .ok (.ireturn, 1) := by decide +kernel
theorem own_ef_rs_cc1 (m : MethodId) (x0 : Int32) : entryFrame m #[(.int x0)] 1 = mkF m 0 #[vi x0] [] := by first | (simp [entryFrame, mkF, argsToLocals, Value.category]; done) | rfl
def Q_rs_cc1 (Z : State) (v : Int32) (h0 : Heap) (n0 : Nat) (v : Option Value) (h : Heap) (L : List Loc) : Prop := v = some (.int 1) ∧ Fr n0 L ∧ h = h0
set_option maxRecDepth 65536 in
set_option maxHeartbeats 40000000 in
theorem rs_cc1 (l : Launch) (Z : State) (a0 : Array Value) (hw : HW a0 Z) (ws : List Jvm.Cond) (v : Int32) (h0 : Heap) (n0 : Nat) (Z0 : n0 ≤ h0.size) (hcc : v < 65536) :
  Met l Z mN25 jdk_89_method_18_code 1 (some .int) ({ frames := 0, cells := 0, slots := 0, locals := 0 } : Room) ws #[(.int v)] h0 (Q_rs_cc1 Z v h0 n0) := by
 refine own_met (plainFor_of_name own_pn3) ?_
 intro p e s m below meth c s₁ hret hx hby hlk hml hown hnm X0 e0 hZ hh
 have N0 := Fr.nil n0
 refine Gz (castTop (own_ef_rs_cc1 m v)) ?_
 show Goes _ _ _ _ _ (fT s₁ m 0 #[vi v] [])
 refine gN X0 hx hby d25_0 rfl rfl ?_
 refine Gz (Jvm.Stand.ldcI X0 hx hown (gz hZ hw 119 rfl) rfl (hb hby d25_1)) ?_
 show Goes _ _ _ _ _ (fT s₁ m 3 #[vi v] [(.int 65536), (.int v)])
 refine Gz (XS.icmpYes X0.here hx rfl (pc0 := 3) (pc' := 10) rfl (hb hby d25_3) rfl (tlt hcc).1 (by decide) (by decide)) ?_
 refine Gz (XS.iconst X0.here hx rfl (hb hby d25_10)) ?_
 refine Goes.ret X0 (some (.int 1)) (fun h => by rw [hret] at h; cases h) hlk (by decide) (by decide) ?_ (fun fs hr => ?_)
 ·exact ⟨rfl, N0, e0⟩
 ·exact retI X0 hx hret (hb hby d25_11) hr
theorem d25_6 : decode kc20 6 = .ok (.iconst 2, 1) := by decide +kernel
theorem d25_7 : decode kc20 7 = .ok (.goto 4, 3) := by decide +kernel
theorem own_ef_rs_cc2 (m : MethodId) (x0 : Int32) : entryFrame m #[(.int x0)] 1 = mkF m 0 #[vi x0] [] := by first | (simp [entryFrame, mkF, argsToLocals, Value.category]; done) | rfl
def Q_rs_cc2 (Z : State) (v : Int32) (h0 : Heap) (n0 : Nat) (v : Option Value) (h : Heap) (L : List Loc) : Prop := v = some (.int 2) ∧ Fr n0 L ∧ h = h0
set_option maxRecDepth 65536 in
set_option maxHeartbeats 40000000 in
theorem rs_cc2 (l : Launch) (Z : State) (a0 : Array Value) (hw : HW a0 Z) (ws : List Jvm.Cond) (v : Int32) (h0 : Heap) (n0 : Nat) (Z0 : n0 ≤ h0.size) (hcc : ¬ (v < 65536)) :
  Met l Z mN25 jdk_89_method_18_code 1 (some .int) ({ frames := 0, cells := 0, slots := 0, locals := 0 } : Room) ws #[(.int v)] h0 (Q_rs_cc2 Z v h0 n0) := by
 refine own_met (plainFor_of_name own_pn3) ?_
 intro p e s m below meth c s₁ hret hx hby hlk hml hown hnm X0 e0 hZ hh
 have N0 := Fr.nil n0
 refine Gz (castTop (own_ef_rs_cc2 m v)) ?_
 show Goes _ _ _ _ _ (fT s₁ m 0 #[vi v] [])
 refine gN X0 hx hby d25_0 rfl rfl ?_
 refine Gz (Jvm.Stand.ldcI X0 hx hown (gz hZ hw 119 rfl) rfl (hb hby d25_1)) ?_
 show Goes _ _ _ _ _ (fT s₁ m 3 #[vi v] [(.int 65536), (.int v)])
 refine Gz (XS.icmpNo X0.here hx rfl (hb hby d25_3) rfl (flt hcc).1) ?_
 refine Gz (XS.iconst X0.here hx rfl (hb hby d25_6)) ?_
 refine Gz (XS.goto X0.here hx rfl (pc0 := 7) (pc' := 11) rfl (hb hby d25_7) (by decide) (by decide)) ?_
 refine Goes.ret X0 (some (.int 2)) (fun h => by rw [hret] at h; cases h) hlk (by decide) (by decide) ?_ (fun fs hr => ?_)
 ·exact ⟨rfl, N0, e0⟩
 ·exact retI X0 hx hret (hb hby d25_11) hr
theorem d26_0 : decode kc22 0 = .ok (.iconst 0, 1) := by decide +kernel
theorem d26_1 : decode kc22 1 = .ok (.istore_n 1, 1) := by decide +kernel
theorem d26_2 : decode kc22 2 = .ok (.iload_n 1, 1) := by decide +kernel
theorem d26_3 : decode kc22 3 = .ok (.aload_n 0, 1) := by decide +kernel
theorem d26_4 : decode kc22 4 = .ok (.invokevirtual 20, 3) := by decide +kernel
theorem own_pd16 : parseMethodDescriptor "()I" = some ⟨[], some .int⟩ := by decide +kernel
theorem d26_7 : decode kc22 7 = .ok (.if_icmp .ge 51, 3) := by decide +kernel
theorem d26_58 : decode kc22 58 = .ok (.iconst 1, 1) := by decide +kernel
theorem d26_59 : decode kc22 59 = .ok (.ireturn, 1) := by decide +kernel
theorem d26_10 : decode kc22 10 = .ok (.aload_n 0, 1) := by decide +kernel
theorem d26_11 : decode kc22 11 = .ok (.iload_n 1, 1) := by decide +kernel
theorem d26_12 : decode kc22 12 = .ok (.invokevirtual 26, 3) := by decide +kernel
theorem d26_15 : decode kc22 15 = .ok (.istore_n 2, 1) := by decide +kernel
theorem d26_16 : decode kc22 16 = .ok (.iload_n 2, 1) := by decide +kernel
theorem d26_17 : decode kc22 17 = .ok (.bipush 9, 2) := by decide +kernel
theorem d26_19 : decode kc22 19 = .ok (.if_icmp .eq 27, 3) := by decide +kernel
theorem d26_22 : decode kc22 22 = .ok (.iload_n 2, 1) := by decide +kernel
theorem d26_23 : decode kc22 23 = .ok (.bipush 13, 2) := by decide +kernel
theorem d26_25 : decode kc22 25 = .ok (.if_icmp .eq 21, 3) := by decide +kernel
theorem d26_28 : decode kc22 28 = .ok (.iload_n 2, 1) := by decide +kernel
theorem d26_29 : decode kc22 29 = .ok (.bipush 10, 2) := by decide +kernel
theorem d26_31 : decode kc22 31 = .ok (.if_icmp .eq 15, 3) := by decide +kernel
theorem d26_34 : decode kc22 34 = .ok (.iload_n 2, 1) := by decide +kernel
theorem d26_35 : decode kc22 35 = .ok (.ldc 32, 2) := by decide +kernel
theorem d26_37 : decode kc22 37 = .ok (.if_icmp .lt 11, 3) := by decide +kernel
theorem d26_40 : decode kc22 40 = .ok (.iload_n 2, 1) := by decide +kernel
theorem d26_41 : decode kc22 41 = .ok (.ldc 33, 2) := by decide +kernel
theorem d26_43 : decode kc22 43 = .ok (.if_icmp .gt 5, 3) := by decide +kernel
theorem d26_46 : decode kc22 46 = .ok (.iconst 0, 1) := by decide +kernel
theorem d26_47 : decode kc22 47 = .ok (.ireturn, 1) := by decide +kernel
theorem d26_48 : decode kc22 48 = .ok (.iload_n 1, 1) := by decide +kernel
theorem d26_49 : decode kc22 49 = .ok (.iload_n 2, 1) := by decide +kernel
theorem d26_50 : decode kc22 50 = .ok (.invokestatic 34, 3) := by decide +kernel
theorem d26_53 : decode kc22 53 = .ok (.iadd, 1) := by decide +kernel
theorem d26_54 : decode kc22 54 = .ok (.istore_n 1, 1) := by decide +kernel
theorem d26_55 : decode kc22 55 = .ok (.goto (-53), 3) := by decide +kernel
theorem own_pn5 : plainName "com/example/tandemtrie/tandemtrie/io/KeyFile" = true := by first | (simp [plainName, overriddenIn]; done) | decide +kernel
theorem own_ef_rm_ch (m : MethodId) (x0 : Addr) : entryFrame m #[(.ref x0)] 3 = mkF m 0 #[vr x0, vu, vu] [] := by first | (simp [entryFrame, mkF, argsToLocals, Value.category]; done) | rfl
def Q_rm_ch (Z : State) (a : Addr) (xs : List Int32) (cz : Int32) (fo : Value) (h0 : Heap) (n0 : Nat) (v : Option Value) (h : Heap) (L : List Loc) : Prop := v = some (.int (chK (List.map cls xs))) ∧ Fr n0 L ∧ h = h0
set_option maxRecDepth 65536 in
set_option maxHeartbeats 40000000 in
theorem rm_ch (l : Launch) (Z : State) (a0 : Array Value) (hw : HW a0 Z) (ws : List Jvm.Cond) (a : Addr) (xs : List Int32) (cz : Int32) (fo : Value) (h0 : Heap) (n0 : Nat) (Z0 : n0 ≤ h0.size) (T_a : StrOf Z h0 a xs) (sgC : Sta Z h0 "java/lang/String" "COMPACT_STRINGS" "Z" (.int cz)) (hcz : ¬ (cz = 0)) (sgF : Sta Z h0 "jdk/internal/util/Preconditions" "SIOOBE_FORMATTER" "Ljava/util/function/BiFunction;" fo) (r_fo : fo.isRef = true) (sgA : Sta Z h0 "java/lang/StringUTF16" "$assertionsDisabled" "Z" (.int 1)) (sgH : Sta Z h0 "java/lang/StringUTF16" "HI_BYTE_SHIFT" "I" (.int 0)) (sgL : Sta Z h0 "java/lang/StringUTF16" "LO_BYTE_SHIFT" "I" (.int 8)) :
  Met l Z mN26 prog_20_method_4_code 3 (some .boolean) ({ frames := 4, cells := 0, slots := 0, locals := 58 } : Room) ws #[(.ref a)] h0 (Q_rm_ch Z a xs cz fo h0 n0) := by
 refine own_met (plainFor_of_name own_pn5) ?_
 intro p e s m below meth c s₁ hret hx hby hlk hml hown hnm X0 e0 hZ hh
 have N0 := Fr.nil n0
 refine Gz (castTop (own_ef_rm_ch m a)) ?_
 show Goes _ _ _ _ _ (fT s₁ m 0 #[vr a, vu, vu] [])
 refine Gz (XS.iconst X0.here hx rfl (hb hby d26_0)) ?_
 refine Gz (XS.istoreN X0.here hx rfl (hb hby d26_1) rfl (l' := #[vr a, vi 0, vu]) rfl) ?_
 show Goes _ _ _ _ _ (fT s₁ m 2 #[vr a, vi 0, vu] [])
 refine own_loopT X0 e0 N0 (ι := List Int32 × List Int32 × Slot) (μ := fun i => i.1.length) (I := fun i => xs = i.2.1 ++ i.1 ∧ chK (xs.map cls) = chK (i.1.map cls) ∧ (i.2.2 = .unset ∨ ∃ v, i.2.2 = vi v)) (B := fun i T => T.setTop (mkF m 2 #[vr a, vi (Int32.ofNat i.2.1.length), i.2.2] [])) ?_ (xs, [], .unset) ⟨rfl, rfl, Or.inl rfl⟩ rfl
 rintro ⟨ys, pr, u⟩ T L X E N ⟨hsp, hq, hu⟩ ih
 dsimp only at hsp hq hu ih ⊢
 have hln := T_a.len
 have hCa := own_allC T_a
 rcases ys with _ | ⟨c0, _ | ⟨c1, ys⟩⟩
 ·show Goes _ _ _ _ _ (fT T m 2 #[vr a, vi (Int32.ofNat pr.length), u] [])
  refine gN X hx hby d26_2 rfl rfl ?_
  refine gA X hx hby d26_3 rfl rfl rfl ?_
  obtain ⟨cq1, kq1, q1a, q1b, q1c⟩ := isOf hZ E T_a.exa
  obtain ⟨_, _, ⟨T1, L1, k1, n1⟩, -, X1, ⟨Lc1, hQ1, l1, y1, z1⟩, st1⟩ := X.virtualBack hx (y := mN2) (z := mN2) hown (gz hZ hw 41 rfl) (gz hZ hw 42 rfl) (notFace_of_selects (args := #[]) (gz hZ hw 44 rfl)) (gz hZ hw 44 rfl) (gz hZ hw 43 rfl) (by decide) (backOf (W := 1) (rs_len l Z a0 hw [] a xs cz h0 n0 Z0 T_a sgC (by first | assumption | decide)) hZ (gw hw 45 rfl) (gw hw 8 rfl) (by decide) (by decide)) q1a q1c (g := (mkF m 4 #[vr a, vi (Int32.ofNat pr.length), u] [(.ref a), (.int (Int32.ofNat pr.length))])) rfl hml.symm (Steps.refl _) (argsL := []) (rest := [(.int (Int32.ofNat pr.length))]) (lenOf own_pd16 rfl) rfl (wz rfl) (hb hby d26_4) (fun _ _ => ⟨rfl, E, z0, z0⟩)
  dsimp only [Pt.U, Pt.locs, Pt.cells, Pt.slots] at X1 l1 y1 z1 st1 hQ1
  subst l1 y1 z1
  obtain ⟨rfl, N1q, e1⟩ := hQ1
  have N1 := Fr.app N N1q
  refine Gs (fun _ tk => st1.trans tk) ?_
  show Goes _ _ _ _ _ (fT T1 m 7 #[vr a, vi (Int32.ofNat pr.length), u] [(.int (Int32.ofNat xs.length)), (.int (Int32.ofNat pr.length))])
  refine Gz (XS.icmpYes X1.here hx rfl (pc0 := 7) (pc' := 58) rfl (hb hby d26_7) rfl (flt (own_ixN hsp)).2.1 (by decide) (by decide)) ?_
  refine Gz (XS.iconst X1.here hx rfl (hb hby d26_58)) ?_
  refine Goes.ret X1 (some (.int 1)) (fun h => by rw [hret] at h; cases h) hlk (by decide) (by decide) ?_ (fun fs hr => ?_)
  ·exact ⟨(congrArg (fun z => some (Value.int z)) (hq.symm : (1 : Int32) = _)), N1, e1⟩
  ·exact own_retN X1 hx (t := .boolean) hret (by simp) rfl (hb hby d26_59) hr
 ·show Goes _ _ _ _ _ (fT T m 2 #[vr a, vi (Int32.ofNat pr.length), u] [])
  refine gN X hx hby d26_2 rfl rfl ?_
  refine gA X hx hby d26_3 rfl rfl rfl ?_
  obtain ⟨cq2, kq2, q2a, q2b, q2c⟩ := isOf hZ E T_a.exa
  obtain ⟨_, _, ⟨T2, L2, k2, n2⟩, -, X2, ⟨Lc2, hQ2, l2, y2, z2⟩, st2⟩ := X.virtualBack hx (y := mN2) (z := mN2) hown (gz hZ hw 41 rfl) (gz hZ hw 42 rfl) (notFace_of_selects (args := #[]) (gz hZ hw 44 rfl)) (gz hZ hw 44 rfl) (gz hZ hw 43 rfl) (by decide) (backOf (W := 1) (rs_len l Z a0 hw [] a xs cz h0 n0 Z0 T_a sgC (by first | assumption | decide)) hZ (gw hw 45 rfl) (gw hw 8 rfl) (by decide) (by decide)) q2a q2c (g := (mkF m 4 #[vr a, vi (Int32.ofNat pr.length), u] [(.ref a), (.int (Int32.ofNat pr.length))])) rfl hml.symm (Steps.refl _) (argsL := []) (rest := [(.int (Int32.ofNat pr.length))]) (lenOf own_pd16 rfl) rfl (wz rfl) (hb hby d26_4) (fun _ _ => ⟨rfl, E, z0, z0⟩)
  dsimp only [Pt.U, Pt.locs, Pt.cells, Pt.slots] at X2 l2 y2 z2 st2 hQ2
  subst l2 y2 z2
  obtain ⟨rfl, N2q, e2⟩ := hQ2
  have N2 := Fr.app N N2q
  refine Gs (fun _ tk => st2.trans tk) ?_
  show Goes _ _ _ _ _ (fT T2 m 7 #[vr a, vi (Int32.ofNat pr.length), u] [(.int (Int32.ofNat xs.length)), (.int (Int32.ofNat pr.length))])
  refine Gz (XS.icmpNo X2.here hx rfl (hb hby d26_7) rfl (tlt (own_ix hsp hln).2.1).2.1) ?_
  refine gA X2 hx hby d26_10 rfl rfl rfl ?_
  refine gN X2 hx hby d26_11 rfl rfl ?_
  show Goes _ _ _ _ _ (fT T2 m 12 #[vr a, vi (Int32.ofNat pr.length), u] [(.int (Int32.ofNat pr.length)), (.ref a)])
  by_cases hk : cls c0 = 1
  ·show Goes _ _ _ _ _ (fT T2 m 12 #[vr a, vi (Int32.ofNat pr.length), u] [(.int (Int32.ofNat pr.length)), (.ref a)])
   obtain ⟨cq3, kq3, q3a, q3b, q3c⟩ := isOf hZ e2 T_a.exa
   obtain ⟨_, _, ⟨T3, L3, k3, n3⟩, -, X3, ⟨Lc3, hQ3, l3, y3, z3⟩, st3⟩ := X2.virtualBack hx (y := mN11) (z := mN11) hown (gz hZ hw 84 rfl) (gz hZ hw 85 rfl) (notFace_of_selects (args := #[]) (gz hZ hw 87 rfl)) (gz hZ hw 87 rfl) (gz hZ hw 86 rfl) (by decide) (backOf (W := 0) (rs_cpsB l Z a0 hw [] a xs (Int32.ofNat pr.length) c0 cz fo h0 n0 Z0 T_a sgC (by first | assumption | decide) (own_ix hsp hln).1 (own_ix hsp hln).2.1 (own_ix hsp hln).2.2 hk (own_ixE hsp hln) sgF (by first | assumption | decide) sgA sgH sgL) hZ (gw hw 88 rfl) (gw hw 8 rfl) (by decide) (by decide)) q3a q3c (g := (mkF m 12 #[vr a, vi (Int32.ofNat pr.length), u] [(.int (Int32.ofNat pr.length)), (.ref a)])) rfl hml.symm (Steps.refl _) (argsL := [(.int (Int32.ofNat pr.length))]) (rest := []) (lenOf own_pd10 rfl) rfl (wz rfl) (hb hby d26_12) (fun _ _ => ⟨rfl, e2, z0, z0⟩)
   dsimp only [Pt.U, Pt.locs, Pt.cells, Pt.slots] at X3 l3 y3 z3 st3 hQ3
   subst l3 y3 z3
   obtain ⟨rfl, N3q, e3⟩ := hQ3
   have N3 := Fr.app N2 N3q
   refine Gs (fun _ tk => st3.trans tk) ?_
   show Goes _ _ _ _ _ (fT T3 m 15 #[vr a, vi (Int32.ofNat pr.length), u] [(.int c0)])
   refine Gz (XS.istoreN X3.here hx rfl (hb hby d26_15) rfl (l' := #[vr a, vi (Int32.ofNat pr.length), vi c0]) (own_st2 hu)) ?_
   refine gN X3 hx hby d26_16 rfl rfl ?_
   refine Gz (XS.bipush X3.here hx rfl (hb hby d26_17)) ?_
   refine Gz (XS.icmpNo X3.here hx rfl (hb hby d26_19) rfl (feq (own_f1 hk).1).1) ?_
   refine gN X3 hx hby d26_22 rfl rfl ?_
   refine Gz (XS.bipush X3.here hx rfl (hb hby d26_23)) ?_
   show Goes _ _ _ _ _ (fT T3 m 25 #[vr a, vi (Int32.ofNat pr.length), vi c0] [(.int 13), (.int c0)])
   refine Gz (XS.icmpNo X3.here hx rfl (hb hby d26_25) rfl (feq (own_f1 hk).2.1).1) ?_
   refine gN X3 hx hby d26_28 rfl rfl ?_
   refine Gz (XS.bipush X3.here hx rfl (hb hby d26_29)) ?_
   refine Gz (XS.icmpNo X3.here hx rfl (hb hby d26_31) rfl (feq (own_f1 hk).2.2.1).1) ?_
   refine gN X3 hx hby d26_34 rfl rfl ?_
   refine Gz (Jvm.Stand.ldcI X3 hx hown (gz hZ hw 114 rfl) rfl (hb hby d26_35)) ?_
   show Goes _ _ _ _ _ (fT T3 m 37 #[vr a, vi (Int32.ofNat pr.length), vi c0] [(.int 55296), (.int c0)])
   refine Gz (XS.icmpNo X3.here hx rfl (hb hby d26_37) rfl (flt (own_f1 hk).2.2.2.1).1) ?_
   refine gN X3 hx hby d26_40 rfl rfl ?_
   refine Gz (Jvm.Stand.ldcI X3 hx hown (gz hZ hw 115 rfl) rfl (hb hby d26_41)) ?_
   show Goes _ _ _ _ _ (fT T3 m 43 #[vr a, vi (Int32.ofNat pr.length), vi c0] [(.int 57343), (.int c0)])
   refine Gz (XS.icmpNo X3.here hx rfl (hb hby d26_43) rfl (flt (own_f1 hk).2.2.2.2).2.2.1) ?_
   refine Gz (XS.iconst X3.here hx rfl (hb hby d26_46)) ?_
   refine Goes.ret X3 (some (.int 0)) (fun h => by rw [hret] at h; cases h) hlk (by decide) (by decide) ?_ (fun fs hr => ?_)
   ·exact ⟨(congrArg (fun z => some (Value.int z)) ((hq.trans (by simp [chK, hk])).symm : (0 : Int32) = _)), N3, e3⟩
   ·exact own_retN X3 hx (t := .boolean) hret (by simp) rfl (hb hby d26_47) hr
  ·show Goes _ _ _ _ _ (fT T2 m 12 #[vr a, vi (Int32.ofNat pr.length), u] [(.int (Int32.ofNat pr.length)), (.ref a)])
   obtain ⟨cq4, kq4, q4a, q4b, q4c⟩ := isOf hZ e2 T_a.exa
   obtain ⟨_, _, ⟨T4, L4, k4, n4⟩, -, X4, ⟨Lc4, hQ4, l4, y4, z4⟩, st4⟩ := X2.virtualBack hx (y := mN11) (z := mN11) hown (gz hZ hw 84 rfl) (gz hZ hw 85 rfl) (notFace_of_selects (args := #[]) (gz hZ hw 87 rfl)) (gz hZ hw 87 rfl) (gz hZ hw 86 rfl) (by decide) (backOf (W := 0) (rs_cpsA l Z a0 hw [] a xs (Int32.ofNat pr.length) c0 cz fo h0 n0 Z0 T_a sgC (by first | assumption | decide) (own_ix hsp hln).1 (own_ix hsp hln).2.1 (own_ix hsp hln).2.2 hk sgF (by first | assumption | decide) sgA sgH sgL) hZ (gw hw 88 rfl) (gw hw 8 rfl) (by decide) (by decide)) q4a q4c (g := (mkF m 12 #[vr a, vi (Int32.ofNat pr.length), u] [(.int (Int32.ofNat pr.length)), (.ref a)])) rfl hml.symm (Steps.refl _) (argsL := [(.int (Int32.ofNat pr.length))]) (rest := []) (lenOf own_pd10 rfl) rfl (wz rfl) (hb hby d26_12) (fun _ _ => ⟨rfl, e2, z0, z0⟩)
   dsimp only [Pt.U, Pt.locs, Pt.cells, Pt.slots] at X4 l4 y4 z4 st4 hQ4
   subst l4 y4 z4
   obtain ⟨rfl, N4q, e4⟩ := hQ4
   have N4 := Fr.app N2 N4q
   refine Gs (fun _ tk => st4.trans tk) ?_
   show Goes _ _ _ _ _ (fT T4 m 15 #[vr a, vi (Int32.ofNat pr.length), u] [(.int c0)])
   by_cases hs : cls c0 = 3
   ·show Goes _ _ _ _ _ (fT T4 m 15 #[vr a, vi (Int32.ofNat pr.length), u] [(.int c0)])
    refine Gz (XS.istoreN X4.here hx rfl (hb hby d26_15) rfl (l' := #[vr a, vi (Int32.ofNat pr.length), vi c0]) (own_st2 hu)) ?_
    refine gN X4 hx hby d26_16 rfl rfl ?_
    refine Gz (XS.bipush X4.here hx rfl (hb hby d26_17)) ?_
    refine Gz (XS.icmpNo X4.here hx rfl (hb hby d26_19) rfl (feq (own_f3 hs).1).1) ?_
    refine gN X4 hx hby d26_22 rfl rfl ?_
    refine Gz (XS.bipush X4.here hx rfl (hb hby d26_23)) ?_
    show Goes _ _ _ _ _ (fT T4 m 25 #[vr a, vi (Int32.ofNat pr.length), vi c0] [(.int 13), (.int c0)])
    refine Gz (XS.icmpNo X4.here hx rfl (hb hby d26_25) rfl (feq (own_f3 hs).2.1).1) ?_
    refine gN X4 hx hby d26_28 rfl rfl ?_
    refine Gz (XS.bipush X4.here hx rfl (hb hby d26_29)) ?_
    refine Gz (XS.icmpNo X4.here hx rfl (hb hby d26_31) rfl (feq (own_f3 hs).2.2.1).1) ?_
    refine gN X4 hx hby d26_34 rfl rfl ?_
    refine Gz (Jvm.Stand.ldcI X4 hx hown (gz hZ hw 114 rfl) rfl (hb hby d26_35)) ?_
    show Goes _ _ _ _ _ (fT T4 m 37 #[vr a, vi (Int32.ofNat pr.length), vi c0] [(.int 55296), (.int c0)])
    refine own_join (B := T4.setTop (mkF m 48 #[vr a, vi (Int32.ofNat pr.length), vi c0] [])) ?_ ?_
    ·show Goes _ _ _ _ _ (fT T4 m 48 #[vr a, vi (Int32.ofNat pr.length), vi c0] [])
     refine gN X4 hx hby d26_48 rfl rfl ?_
     refine gN X4 hx hby d26_49 rfl rfl ?_
     obtain ⟨_, _, ⟨T5, L5, k5, n5⟩, -, X5, ⟨Lc5, hQ5, l5, y5, z5⟩, st5⟩ := Jvm.LawKit.callS X4 hx (y := mN25) hown (gz hZ hw 116 rfl) (gz hZ hw 117 rfl) (gz hZ hw 110 rfl) (gz hZ hw 118 rfl) (by decide) (backOf (W := 1) (rs_cc1 l Z a0 hw [] c0 h0 n0 Z0 (own_c16 (hCa c0 (by rw [hsp]; simp)))) hZ (gw hw 118 rfl) (gw hw 110 rfl) (by decide) (by decide)) (g := (mkF m 50 #[vr a, vi (Int32.ofNat pr.length), vi c0] [(.int c0), (.int (Int32.ofNat pr.length))])) rfl hml.symm (argsL := [(.int c0)]) (rest := [(.int (Int32.ofNat pr.length))]) (lenOf own_pd10 rfl) rfl (wz rfl) (hb hby d26_50) (fun _ _ => ⟨rfl, e4, z0, z0⟩)
     dsimp only [Pt.U, Pt.locs, Pt.cells, Pt.slots] at X5 l5 y5 z5 st5 hQ5
     subst l5 y5 z5
     obtain ⟨rfl, N5q, e5⟩ := hQ5
     have N5 := Fr.app N4 N5q
     refine Gs st5 ?_
     show Goes _ _ _ _ _ (fT T5 m 53 #[vr a, vi (Int32.ofNat pr.length), vi c0] [(.int 1), (.int (Int32.ofNat pr.length))])
     refine Gz (XS.iadd X5.here hx rfl (hb hby d26_53) rfl) ?_
     show Goes _ _ _ _ _ (fT T5 m 54 #[vr a, vi (Int32.ofNat pr.length), vi c0] [(.int ((Int32.ofNat pr.length) + 1))])
     refine Gz (XS.istoreN X5.here hx rfl (hb hby d26_54) rfl (l' := #[vr a, vi ((Int32.ofNat pr.length) + 1), vi c0]) rfl) ?_
     refine Gz (XS.goto X5.here hx rfl (pc0 := 55) (pc' := 2) rfl (hb hby d26_55) (by decide) (by decide)) ?_
     show Goes _ _ _ _ _ (fT T5 m 2 #[vr a, vi ((Int32.ofNat pr.length) + 1), vi c0] [])
     rw [own_ofS1 pr c0]
     exact ih ([], pr ++ [c0], vi c0) T5 _ (by simp only [List.length_cons]; omega) ⟨by rw [hsp]; simp, hq.trans (by simp [chK, hs]), Or.inr ⟨_, rfl⟩⟩ X5 e5 N5
    intro J48
    by_cases hc37_6 : c0 < 55296
    ·refine Gz (XS.icmpYes X4.here hx rfl (pc0 := 37) (pc' := 48) rfl (hb hby d26_37) rfl (tlt hc37_6).1 (by decide) (by decide)) ?_
     exact J48
    ·refine Gz (XS.icmpNo X4.here hx rfl (hb hby d26_37) rfl (flt hc37_6).1) ?_
     refine gN X4 hx hby d26_40 rfl rfl ?_
     refine Gz (Jvm.Stand.ldcI X4 hx hown (gz hZ hw 115 rfl) rfl (hb hby d26_41)) ?_
     show Goes _ _ _ _ _ (fT T4 m 43 #[vr a, vi (Int32.ofNat pr.length), vi c0] [(.int 57343), (.int c0)])
     refine Gz (XS.icmpYes X4.here hx rfl (pc0 := 43) (pc' := 48) rfl (hb hby d26_43) rfl (tlt ((own_f3 hs).2.2.2 hc37_6)).2.2.1 (by decide) (by decide)) ?_
     exact J48
   ·show Goes _ _ _ _ _ (fT T4 m 15 #[vr a, vi (Int32.ofNat pr.length), u] [(.int c0)])
    refine Gz (XS.istoreN X4.here hx rfl (hb hby d26_15) rfl (l' := #[vr a, vi (Int32.ofNat pr.length), vi c0]) (own_st2 hu)) ?_
    refine gN X4 hx hby d26_16 rfl rfl ?_
    refine Gz (XS.bipush X4.here hx rfl (hb hby d26_17)) ?_
    by_cases hc19_7 : c0 = 9
    ·refine Gz (XS.icmpYes X4.here hx rfl (pc0 := 19) (pc' := 46) rfl (hb hby d26_19) rfl (teq hc19_7).1 (by decide) (by decide)) ?_
     refine Gz (XS.iconst X4.here hx rfl (hb hby d26_46)) ?_
     refine Goes.ret X4 (some (.int 0)) (fun h => by rw [hret] at h; cases h) hlk (by decide) (by decide) ?_ (fun fs hr => ?_)
     ·exact ⟨(congrArg (fun z => some (Value.int z)) ((hq.trans (by simp [chK, hk, hs])).symm : (0 : Int32) = _)), N4, e4⟩
     ·exact own_retN X4 hx (t := .boolean) hret (by simp) rfl (hb hby d26_47) hr
    ·refine Gz (XS.icmpNo X4.here hx rfl (hb hby d26_19) rfl (feq hc19_7).1) ?_
     refine gN X4 hx hby d26_22 rfl rfl ?_
     refine Gz (XS.bipush X4.here hx rfl (hb hby d26_23)) ?_
     show Goes _ _ _ _ _ (fT T4 m 25 #[vr a, vi (Int32.ofNat pr.length), vi c0] [(.int 13), (.int c0)])
     by_cases hc25_8 : c0 = 13
     ·refine Gz (XS.icmpYes X4.here hx rfl (pc0 := 25) (pc' := 46) rfl (hb hby d26_25) rfl (teq hc25_8).1 (by decide) (by decide)) ?_
      refine Gz (XS.iconst X4.here hx rfl (hb hby d26_46)) ?_
      refine Goes.ret X4 (some (.int 0)) (fun h => by rw [hret] at h; cases h) hlk (by decide) (by decide) ?_ (fun fs hr => ?_)
      ·exact ⟨(congrArg (fun z => some (Value.int z)) ((hq.trans (by simp [chK, hk, hs])).symm : (0 : Int32) = _)), N4, e4⟩
      ·exact own_retN X4 hx (t := .boolean) hret (by simp) rfl (hb hby d26_47) hr
     ·refine Gz (XS.icmpNo X4.here hx rfl (hb hby d26_25) rfl (feq hc25_8).1) ?_
      refine gN X4 hx hby d26_28 rfl rfl ?_
      refine Gz (XS.bipush X4.here hx rfl (hb hby d26_29)) ?_
      by_cases hc31_9 : c0 = 10
      ·refine Gz (XS.icmpYes X4.here hx rfl (pc0 := 31) (pc' := 46) rfl (hb hby d26_31) rfl (teq hc31_9).1 (by decide) (by decide)) ?_
       refine Gz (XS.iconst X4.here hx rfl (hb hby d26_46)) ?_
       refine Goes.ret X4 (some (.int 0)) (fun h => by rw [hret] at h; cases h) hlk (by decide) (by decide) ?_ (fun fs hr => ?_)
       ·exact ⟨(congrArg (fun z => some (Value.int z)) ((hq.trans (by simp [chK, hk, hs])).symm : (0 : Int32) = _)), N4, e4⟩
       ·exact own_retN X4 hx (t := .boolean) hret (by simp) rfl (hb hby d26_47) hr
      ·refine Gz (XS.icmpNo X4.here hx rfl (hb hby d26_31) rfl (feq hc31_9).1) ?_
       refine gN X4 hx hby d26_34 rfl rfl ?_
       refine Gz (Jvm.Stand.ldcI X4 hx hown (gz hZ hw 114 rfl) rfl (hb hby d26_35)) ?_
       show Goes _ _ _ _ _ (fT T4 m 37 #[vr a, vi (Int32.ofNat pr.length), vi c0] [(.int 55296), (.int c0)])
       have hc37_10 : ¬ (c0 < 55296) := fun q => hs (own_to3 hc19_7 hc25_8 hc31_9 (Or.inl q))
       refine Gz (XS.icmpNo X4.here hx rfl (hb hby d26_37) rfl (flt hc37_10).1) ?_
       refine gN X4 hx hby d26_40 rfl rfl ?_
       refine Gz (Jvm.Stand.ldcI X4 hx hown (gz hZ hw 115 rfl) rfl (hb hby d26_41)) ?_
       show Goes _ _ _ _ _ (fT T4 m 43 #[vr a, vi (Int32.ofNat pr.length), vi c0] [(.int 57343), (.int c0)])
       have hc43_11 : ¬ ((57343 : Int32) < c0) := fun q => hs (own_to3 hc19_7 hc25_8 hc31_9 (Or.inr q))
       refine Gz (XS.icmpNo X4.here hx rfl (hb hby d26_43) rfl (flt hc43_11).2.2.1) ?_
       refine Gz (XS.iconst X4.here hx rfl (hb hby d26_46)) ?_
       refine Goes.ret X4 (some (.int 0)) (fun h => by rw [hret] at h; cases h) hlk (by decide) (by decide) ?_ (fun fs hr => ?_)
       ·exact ⟨(congrArg (fun z => some (Value.int z)) ((hq.trans (by simp [chK, hk, hs])).symm : (0 : Int32) = _)), N4, e4⟩
       ·exact own_retN X4 hx (t := .boolean) hret (by simp) rfl (hb hby d26_47) hr
 ·show Goes _ _ _ _ _ (fT T m 2 #[vr a, vi (Int32.ofNat pr.length), u] [])
  refine gN X hx hby d26_2 rfl rfl ?_
  refine gA X hx hby d26_3 rfl rfl rfl ?_
  obtain ⟨cq12, kq12, q12a, q12b, q12c⟩ := isOf hZ E T_a.exa
  obtain ⟨_, _, ⟨T12, L12, k12, n12⟩, -, X12, ⟨Lc12, hQ12, l12, y12, z12⟩, st12⟩ := X.virtualBack hx (y := mN2) (z := mN2) hown (gz hZ hw 41 rfl) (gz hZ hw 42 rfl) (notFace_of_selects (args := #[]) (gz hZ hw 44 rfl)) (gz hZ hw 44 rfl) (gz hZ hw 43 rfl) (by decide) (backOf (W := 1) (rs_len l Z a0 hw [] a xs cz h0 n0 Z0 T_a sgC (by first | assumption | decide)) hZ (gw hw 45 rfl) (gw hw 8 rfl) (by decide) (by decide)) q12a q12c (g := (mkF m 4 #[vr a, vi (Int32.ofNat pr.length), u] [(.ref a), (.int (Int32.ofNat pr.length))])) rfl hml.symm (Steps.refl _) (argsL := []) (rest := [(.int (Int32.ofNat pr.length))]) (lenOf own_pd16 rfl) rfl (wz rfl) (hb hby d26_4) (fun _ _ => ⟨rfl, E, z0, z0⟩)
  dsimp only [Pt.U, Pt.locs, Pt.cells, Pt.slots] at X12 l12 y12 z12 st12 hQ12
  subst l12 y12 z12
  obtain ⟨rfl, N12q, e12⟩ := hQ12
  have N12 := Fr.app N N12q
  refine Gs (fun _ tk => st12.trans tk) ?_
  show Goes _ _ _ _ _ (fT T12 m 7 #[vr a, vi (Int32.ofNat pr.length), u] [(.int (Int32.ofNat xs.length)), (.int (Int32.ofNat pr.length))])
  refine Gz (XS.icmpNo X12.here hx rfl (hb hby d26_7) rfl (tlt (own_ix hsp hln).2.1).2.1) ?_
  refine gA X12 hx hby d26_10 rfl rfl rfl ?_
  refine gN X12 hx hby d26_11 rfl rfl ?_
  show Goes _ _ _ _ _ (fT T12 m 12 #[vr a, vi (Int32.ofNat pr.length), u] [(.int (Int32.ofNat pr.length)), (.ref a)])
  by_cases hk : cls c0 = 1
  ·show Goes _ _ _ _ _ (fT T12 m 12 #[vr a, vi (Int32.ofNat pr.length), u] [(.int (Int32.ofNat pr.length)), (.ref a)])
   by_cases hl : cls c1 = 2
   ·show Goes _ _ _ _ _ (fT T12 m 12 #[vr a, vi (Int32.ofNat pr.length), u] [(.int (Int32.ofNat pr.length)), (.ref a)])
    obtain ⟨cq13, kq13, q13a, q13b, q13c⟩ := isOf hZ e12 T_a.exa
    obtain ⟨_, _, ⟨T13, L13, k13, n13⟩, -, X13, ⟨Lc13, hQ13, l13, y13, z13⟩, st13⟩ := X12.virtualBack hx (y := mN11) (z := mN11) hown (gz hZ hw 84 rfl) (gz hZ hw 85 rfl) (notFace_of_selects (args := #[]) (gz hZ hw 87 rfl)) (gz hZ hw 87 rfl) (gz hZ hw 86 rfl) (by decide) (backOf (W := 0) (rs_cpsD l Z a0 hw [] a xs (Int32.ofNat pr.length) c0 c1 cz fo h0 n0 Z0 T_a sgC (by first | assumption | decide) (own_ix hsp hln).1 (own_ix hsp hln).2.1 (own_ix hsp hln).2.2 hk (own_ixS hsp hln).2.1 (own_ixS hsp hln).1 (own_ixS hsp hln).2.2 hl sgF (by first | assumption | decide) sgA sgH sgL) hZ (gw hw 88 rfl) (gw hw 8 rfl) (by decide) (by decide)) q13a q13c (g := (mkF m 12 #[vr a, vi (Int32.ofNat pr.length), u] [(.int (Int32.ofNat pr.length)), (.ref a)])) rfl hml.symm (Steps.refl _) (argsL := [(.int (Int32.ofNat pr.length))]) (rest := []) (lenOf own_pd10 rfl) rfl (wz rfl) (hb hby d26_12) (fun _ _ => ⟨rfl, e12, z0, z0⟩)
    dsimp only [Pt.U, Pt.locs, Pt.cells, Pt.slots] at X13 l13 y13 z13 st13 hQ13
    subst l13 y13 z13
    obtain ⟨rfl, N13q, e13⟩ := hQ13
    have N13 := Fr.app N12 N13q
    refine Gs (fun _ tk => st13.trans tk) ?_
    show Goes _ _ _ _ _ (fT T13 m 15 #[vr a, vi (Int32.ofNat pr.length), u] [(.int (own_cp c0 c1))])
    refine Gz (XS.istoreN X13.here hx rfl (hb hby d26_15) rfl (l' := #[vr a, vi (Int32.ofNat pr.length), vi (own_cp c0 c1)]) (own_st2 hu)) ?_
    refine gN X13 hx hby d26_16 rfl rfl ?_
    refine Gz (XS.bipush X13.here hx rfl (hb hby d26_17)) ?_
    refine Gz (XS.icmpNo X13.here hx rfl (hb hby d26_19) rfl (feq (own_fD hk hl).1).1) ?_
    refine gN X13 hx hby d26_22 rfl rfl ?_
    refine Gz (XS.bipush X13.here hx rfl (hb hby d26_23)) ?_
    show Goes _ _ _ _ _ (fT T13 m 25 #[vr a, vi (Int32.ofNat pr.length), vi (own_cp c0 c1)] [(.int 13), (.int (own_cp c0 c1))])
    refine Gz (XS.icmpNo X13.here hx rfl (hb hby d26_25) rfl (feq (own_fD hk hl).2.1).1) ?_
    refine gN X13 hx hby d26_28 rfl rfl ?_
    refine Gz (XS.bipush X13.here hx rfl (hb hby d26_29)) ?_
    refine Gz (XS.icmpNo X13.here hx rfl (hb hby d26_31) rfl (feq (own_fD hk hl).2.2.1).1) ?_
    refine gN X13 hx hby d26_34 rfl rfl ?_
    refine Gz (Jvm.Stand.ldcI X13 hx hown (gz hZ hw 114 rfl) rfl (hb hby d26_35)) ?_
    show Goes _ _ _ _ _ (fT T13 m 37 #[vr a, vi (Int32.ofNat pr.length), vi (own_cp c0 c1)] [(.int 55296), (.int (own_cp c0 c1))])
    refine Gz (XS.icmpNo X13.here hx rfl (hb hby d26_37) rfl (flt (own_fD hk hl).2.2.2.1).1) ?_
    refine gN X13 hx hby d26_40 rfl rfl ?_
    refine Gz (Jvm.Stand.ldcI X13 hx hown (gz hZ hw 115 rfl) rfl (hb hby d26_41)) ?_
    show Goes _ _ _ _ _ (fT T13 m 43 #[vr a, vi (Int32.ofNat pr.length), vi (own_cp c0 c1)] [(.int 57343), (.int (own_cp c0 c1))])
    refine Gz (XS.icmpYes X13.here hx rfl (pc0 := 43) (pc' := 48) rfl (hb hby d26_43) rfl (tlt (own_fD hk hl).2.2.2.2.1).2.2.1 (by decide) (by decide)) ?_
    refine gN X13 hx hby d26_48 rfl rfl ?_
    refine gN X13 hx hby d26_49 rfl rfl ?_
    obtain ⟨_, _, ⟨T14, L14, k14, n14⟩, -, X14, ⟨Lc14, hQ14, l14, y14, z14⟩, st14⟩ := Jvm.LawKit.callS X13 hx (y := mN25) hown (gz hZ hw 116 rfl) (gz hZ hw 117 rfl) (gz hZ hw 110 rfl) (gz hZ hw 118 rfl) (by decide) (backOf (W := 1) (rs_cc2 l Z a0 hw [] (own_cp c0 c1) h0 n0 Z0 (own_fD hk hl).2.2.2.2.2) hZ (gw hw 118 rfl) (gw hw 110 rfl) (by decide) (by decide)) (g := (mkF m 50 #[vr a, vi (Int32.ofNat pr.length), vi (own_cp c0 c1)] [(.int (own_cp c0 c1)), (.int (Int32.ofNat pr.length))])) rfl hml.symm (argsL := [(.int (own_cp c0 c1))]) (rest := [(.int (Int32.ofNat pr.length))]) (lenOf own_pd10 rfl) rfl (wz rfl) (hb hby d26_50) (fun _ _ => ⟨rfl, e13, z0, z0⟩)
    dsimp only [Pt.U, Pt.locs, Pt.cells, Pt.slots] at X14 l14 y14 z14 st14 hQ14
    subst l14 y14 z14
    obtain ⟨rfl, N14q, e14⟩ := hQ14
    have N14 := Fr.app N13 N14q
    refine Gs st14 ?_
    show Goes _ _ _ _ _ (fT T14 m 53 #[vr a, vi (Int32.ofNat pr.length), vi (own_cp c0 c1)] [(.int 2), (.int (Int32.ofNat pr.length))])
    refine Gz (XS.iadd X14.here hx rfl (hb hby d26_53) rfl) ?_
    show Goes _ _ _ _ _ (fT T14 m 54 #[vr a, vi (Int32.ofNat pr.length), vi (own_cp c0 c1)] [(.int ((Int32.ofNat pr.length) + 2))])
    refine Gz (XS.istoreN X14.here hx rfl (hb hby d26_54) rfl (l' := #[vr a, vi ((Int32.ofNat pr.length) + 2), vi (own_cp c0 c1)]) rfl) ?_
    refine Gz (XS.goto X14.here hx rfl (pc0 := 55) (pc' := 2) rfl (hb hby d26_55) (by decide) (by decide)) ?_
    show Goes _ _ _ _ _ (fT T14 m 2 #[vr a, vi ((Int32.ofNat pr.length) + 2), vi (own_cp c0 c1)] [])
    rw [own_ofS2 pr c0 c1]
    exact ih (ys, pr ++ [c0, c1], vi (own_cp c0 c1)) T14 _ (by simp only [List.length_cons]; omega) ⟨by rw [hsp]; simp, hq.trans (by simp [chK, hk, hl]), Or.inr ⟨_, rfl⟩⟩ X14 e14 N14
   ·show Goes _ _ _ _ _ (fT T12 m 12 #[vr a, vi (Int32.ofNat pr.length), u] [(.int (Int32.ofNat pr.length)), (.ref a)])
    obtain ⟨cq15, kq15, q15a, q15b, q15c⟩ := isOf hZ e12 T_a.exa
    obtain ⟨_, _, ⟨T15, L15, k15, n15⟩, -, X15, ⟨Lc15, hQ15, l15, y15, z15⟩, st15⟩ := X12.virtualBack hx (y := mN11) (z := mN11) hown (gz hZ hw 84 rfl) (gz hZ hw 85 rfl) (notFace_of_selects (args := #[]) (gz hZ hw 87 rfl)) (gz hZ hw 87 rfl) (gz hZ hw 86 rfl) (by decide) (backOf (W := 0) (rs_cpsC l Z a0 hw [] a xs (Int32.ofNat pr.length) c0 c1 cz fo h0 n0 Z0 T_a sgC (by first | assumption | decide) (own_ix hsp hln).1 (own_ix hsp hln).2.1 (own_ix hsp hln).2.2 hk (own_ixS hsp hln).2.1 (own_ixS hsp hln).1 (own_ixS hsp hln).2.2 hl sgF (by first | assumption | decide) sgA sgH sgL) hZ (gw hw 88 rfl) (gw hw 8 rfl) (by decide) (by decide)) q15a q15c (g := (mkF m 12 #[vr a, vi (Int32.ofNat pr.length), u] [(.int (Int32.ofNat pr.length)), (.ref a)])) rfl hml.symm (Steps.refl _) (argsL := [(.int (Int32.ofNat pr.length))]) (rest := []) (lenOf own_pd10 rfl) rfl (wz rfl) (hb hby d26_12) (fun _ _ => ⟨rfl, e12, z0, z0⟩)
    dsimp only [Pt.U, Pt.locs, Pt.cells, Pt.slots] at X15 l15 y15 z15 st15 hQ15
    subst l15 y15 z15
    obtain ⟨rfl, N15q, e15⟩ := hQ15
    have N15 := Fr.app N12 N15q
    refine Gs (fun _ tk => st15.trans tk) ?_
    show Goes _ _ _ _ _ (fT T15 m 15 #[vr a, vi (Int32.ofNat pr.length), u] [(.int c0)])
    refine Gz (XS.istoreN X15.here hx rfl (hb hby d26_15) rfl (l' := #[vr a, vi (Int32.ofNat pr.length), vi c0]) (own_st2 hu)) ?_
    refine gN X15 hx hby d26_16 rfl rfl ?_
    refine Gz (XS.bipush X15.here hx rfl (hb hby d26_17)) ?_
    refine Gz (XS.icmpNo X15.here hx rfl (hb hby d26_19) rfl (feq (own_f1 hk).1).1) ?_
    refine gN X15 hx hby d26_22 rfl rfl ?_
    refine Gz (XS.bipush X15.here hx rfl (hb hby d26_23)) ?_
    show Goes _ _ _ _ _ (fT T15 m 25 #[vr a, vi (Int32.ofNat pr.length), vi c0] [(.int 13), (.int c0)])
    refine Gz (XS.icmpNo X15.here hx rfl (hb hby d26_25) rfl (feq (own_f1 hk).2.1).1) ?_
    refine gN X15 hx hby d26_28 rfl rfl ?_
    refine Gz (XS.bipush X15.here hx rfl (hb hby d26_29)) ?_
    refine Gz (XS.icmpNo X15.here hx rfl (hb hby d26_31) rfl (feq (own_f1 hk).2.2.1).1) ?_
    refine gN X15 hx hby d26_34 rfl rfl ?_
    refine Gz (Jvm.Stand.ldcI X15 hx hown (gz hZ hw 114 rfl) rfl (hb hby d26_35)) ?_
    show Goes _ _ _ _ _ (fT T15 m 37 #[vr a, vi (Int32.ofNat pr.length), vi c0] [(.int 55296), (.int c0)])
    refine Gz (XS.icmpNo X15.here hx rfl (hb hby d26_37) rfl (flt (own_f1 hk).2.2.2.1).1) ?_
    refine gN X15 hx hby d26_40 rfl rfl ?_
    refine Gz (Jvm.Stand.ldcI X15 hx hown (gz hZ hw 115 rfl) rfl (hb hby d26_41)) ?_
    show Goes _ _ _ _ _ (fT T15 m 43 #[vr a, vi (Int32.ofNat pr.length), vi c0] [(.int 57343), (.int c0)])
    refine Gz (XS.icmpNo X15.here hx rfl (hb hby d26_43) rfl (flt (own_f1 hk).2.2.2.2).2.2.1) ?_
    refine Gz (XS.iconst X15.here hx rfl (hb hby d26_46)) ?_
    refine Goes.ret X15 (some (.int 0)) (fun h => by rw [hret] at h; cases h) hlk (by decide) (by decide) ?_ (fun fs hr => ?_)
    ·exact ⟨(congrArg (fun z => some (Value.int z)) ((hq.trans (by simp [chK, hk, hl])).symm : (0 : Int32) = _)), N15, e15⟩
    ·exact own_retN X15 hx (t := .boolean) hret (by simp) rfl (hb hby d26_47) hr
  ·show Goes _ _ _ _ _ (fT T12 m 12 #[vr a, vi (Int32.ofNat pr.length), u] [(.int (Int32.ofNat pr.length)), (.ref a)])
   obtain ⟨cq16, kq16, q16a, q16b, q16c⟩ := isOf hZ e12 T_a.exa
   obtain ⟨_, _, ⟨T16, L16, k16, n16⟩, -, X16, ⟨Lc16, hQ16, l16, y16, z16⟩, st16⟩ := X12.virtualBack hx (y := mN11) (z := mN11) hown (gz hZ hw 84 rfl) (gz hZ hw 85 rfl) (notFace_of_selects (args := #[]) (gz hZ hw 87 rfl)) (gz hZ hw 87 rfl) (gz hZ hw 86 rfl) (by decide) (backOf (W := 0) (rs_cpsA l Z a0 hw [] a xs (Int32.ofNat pr.length) c0 cz fo h0 n0 Z0 T_a sgC (by first | assumption | decide) (own_ix hsp hln).1 (own_ix hsp hln).2.1 (own_ix hsp hln).2.2 hk sgF (by first | assumption | decide) sgA sgH sgL) hZ (gw hw 88 rfl) (gw hw 8 rfl) (by decide) (by decide)) q16a q16c (g := (mkF m 12 #[vr a, vi (Int32.ofNat pr.length), u] [(.int (Int32.ofNat pr.length)), (.ref a)])) rfl hml.symm (Steps.refl _) (argsL := [(.int (Int32.ofNat pr.length))]) (rest := []) (lenOf own_pd10 rfl) rfl (wz rfl) (hb hby d26_12) (fun _ _ => ⟨rfl, e12, z0, z0⟩)
   dsimp only [Pt.U, Pt.locs, Pt.cells, Pt.slots] at X16 l16 y16 z16 st16 hQ16
   subst l16 y16 z16
   obtain ⟨rfl, N16q, e16⟩ := hQ16
   have N16 := Fr.app N12 N16q
   refine Gs (fun _ tk => st16.trans tk) ?_
   show Goes _ _ _ _ _ (fT T16 m 15 #[vr a, vi (Int32.ofNat pr.length), u] [(.int c0)])
   by_cases hs : cls c0 = 3
   ·show Goes _ _ _ _ _ (fT T16 m 15 #[vr a, vi (Int32.ofNat pr.length), u] [(.int c0)])
    refine Gz (XS.istoreN X16.here hx rfl (hb hby d26_15) rfl (l' := #[vr a, vi (Int32.ofNat pr.length), vi c0]) (own_st2 hu)) ?_
    refine gN X16 hx hby d26_16 rfl rfl ?_
    refine Gz (XS.bipush X16.here hx rfl (hb hby d26_17)) ?_
    refine Gz (XS.icmpNo X16.here hx rfl (hb hby d26_19) rfl (feq (own_f3 hs).1).1) ?_
    refine gN X16 hx hby d26_22 rfl rfl ?_
    refine Gz (XS.bipush X16.here hx rfl (hb hby d26_23)) ?_
    show Goes _ _ _ _ _ (fT T16 m 25 #[vr a, vi (Int32.ofNat pr.length), vi c0] [(.int 13), (.int c0)])
    refine Gz (XS.icmpNo X16.here hx rfl (hb hby d26_25) rfl (feq (own_f3 hs).2.1).1) ?_
    refine gN X16 hx hby d26_28 rfl rfl ?_
    refine Gz (XS.bipush X16.here hx rfl (hb hby d26_29)) ?_
    refine Gz (XS.icmpNo X16.here hx rfl (hb hby d26_31) rfl (feq (own_f3 hs).2.2.1).1) ?_
    refine gN X16 hx hby d26_34 rfl rfl ?_
    refine Gz (Jvm.Stand.ldcI X16 hx hown (gz hZ hw 114 rfl) rfl (hb hby d26_35)) ?_
    show Goes _ _ _ _ _ (fT T16 m 37 #[vr a, vi (Int32.ofNat pr.length), vi c0] [(.int 55296), (.int c0)])
    refine own_join (B := T16.setTop (mkF m 48 #[vr a, vi (Int32.ofNat pr.length), vi c0] [])) ?_ ?_
    ·show Goes _ _ _ _ _ (fT T16 m 48 #[vr a, vi (Int32.ofNat pr.length), vi c0] [])
     refine gN X16 hx hby d26_48 rfl rfl ?_
     refine gN X16 hx hby d26_49 rfl rfl ?_
     obtain ⟨_, _, ⟨T17, L17, k17, n17⟩, -, X17, ⟨Lc17, hQ17, l17, y17, z17⟩, st17⟩ := Jvm.LawKit.callS X16 hx (y := mN25) hown (gz hZ hw 116 rfl) (gz hZ hw 117 rfl) (gz hZ hw 110 rfl) (gz hZ hw 118 rfl) (by decide) (backOf (W := 1) (rs_cc1 l Z a0 hw [] c0 h0 n0 Z0 (own_c16 (hCa c0 (by rw [hsp]; simp)))) hZ (gw hw 118 rfl) (gw hw 110 rfl) (by decide) (by decide)) (g := (mkF m 50 #[vr a, vi (Int32.ofNat pr.length), vi c0] [(.int c0), (.int (Int32.ofNat pr.length))])) rfl hml.symm (argsL := [(.int c0)]) (rest := [(.int (Int32.ofNat pr.length))]) (lenOf own_pd10 rfl) rfl (wz rfl) (hb hby d26_50) (fun _ _ => ⟨rfl, e16, z0, z0⟩)
     dsimp only [Pt.U, Pt.locs, Pt.cells, Pt.slots] at X17 l17 y17 z17 st17 hQ17
     subst l17 y17 z17
     obtain ⟨rfl, N17q, e17⟩ := hQ17
     have N17 := Fr.app N16 N17q
     refine Gs st17 ?_
     show Goes _ _ _ _ _ (fT T17 m 53 #[vr a, vi (Int32.ofNat pr.length), vi c0] [(.int 1), (.int (Int32.ofNat pr.length))])
     refine Gz (XS.iadd X17.here hx rfl (hb hby d26_53) rfl) ?_
     show Goes _ _ _ _ _ (fT T17 m 54 #[vr a, vi (Int32.ofNat pr.length), vi c0] [(.int ((Int32.ofNat pr.length) + 1))])
     refine Gz (XS.istoreN X17.here hx rfl (hb hby d26_54) rfl (l' := #[vr a, vi ((Int32.ofNat pr.length) + 1), vi c0]) rfl) ?_
     refine Gz (XS.goto X17.here hx rfl (pc0 := 55) (pc' := 2) rfl (hb hby d26_55) (by decide) (by decide)) ?_
     show Goes _ _ _ _ _ (fT T17 m 2 #[vr a, vi ((Int32.ofNat pr.length) + 1), vi c0] [])
     rw [own_ofS1 pr c0]
     exact ih ((c1 :: ys), pr ++ [c0], vi c0) T17 _ (by simp only [List.length_cons]; omega) ⟨by rw [hsp]; simp, hq.trans (by simp [chK, hs]), Or.inr ⟨_, rfl⟩⟩ X17 e17 N17
    intro J48
    by_cases hc37_18 : c0 < 55296
    ·refine Gz (XS.icmpYes X16.here hx rfl (pc0 := 37) (pc' := 48) rfl (hb hby d26_37) rfl (tlt hc37_18).1 (by decide) (by decide)) ?_
     exact J48
    ·refine Gz (XS.icmpNo X16.here hx rfl (hb hby d26_37) rfl (flt hc37_18).1) ?_
     refine gN X16 hx hby d26_40 rfl rfl ?_
     refine Gz (Jvm.Stand.ldcI X16 hx hown (gz hZ hw 115 rfl) rfl (hb hby d26_41)) ?_
     show Goes _ _ _ _ _ (fT T16 m 43 #[vr a, vi (Int32.ofNat pr.length), vi c0] [(.int 57343), (.int c0)])
     refine Gz (XS.icmpYes X16.here hx rfl (pc0 := 43) (pc' := 48) rfl (hb hby d26_43) rfl (tlt ((own_f3 hs).2.2.2 hc37_18)).2.2.1 (by decide) (by decide)) ?_
     exact J48
   ·show Goes _ _ _ _ _ (fT T16 m 15 #[vr a, vi (Int32.ofNat pr.length), u] [(.int c0)])
    refine Gz (XS.istoreN X16.here hx rfl (hb hby d26_15) rfl (l' := #[vr a, vi (Int32.ofNat pr.length), vi c0]) (own_st2 hu)) ?_
    refine gN X16 hx hby d26_16 rfl rfl ?_
    refine Gz (XS.bipush X16.here hx rfl (hb hby d26_17)) ?_
    by_cases hc19_19 : c0 = 9
    ·refine Gz (XS.icmpYes X16.here hx rfl (pc0 := 19) (pc' := 46) rfl (hb hby d26_19) rfl (teq hc19_19).1 (by decide) (by decide)) ?_
     refine Gz (XS.iconst X16.here hx rfl (hb hby d26_46)) ?_
     refine Goes.ret X16 (some (.int 0)) (fun h => by rw [hret] at h; cases h) hlk (by decide) (by decide) ?_ (fun fs hr => ?_)
     ·exact ⟨(congrArg (fun z => some (Value.int z)) ((hq.trans (by simp [chK, hk, hs])).symm : (0 : Int32) = _)), N16, e16⟩
     ·exact own_retN X16 hx (t := .boolean) hret (by simp) rfl (hb hby d26_47) hr
    ·refine Gz (XS.icmpNo X16.here hx rfl (hb hby d26_19) rfl (feq hc19_19).1) ?_
     refine gN X16 hx hby d26_22 rfl rfl ?_
     refine Gz (XS.bipush X16.here hx rfl (hb hby d26_23)) ?_
     show Goes _ _ _ _ _ (fT T16 m 25 #[vr a, vi (Int32.ofNat pr.length), vi c0] [(.int 13), (.int c0)])
     by_cases hc25_20 : c0 = 13
     ·refine Gz (XS.icmpYes X16.here hx rfl (pc0 := 25) (pc' := 46) rfl (hb hby d26_25) rfl (teq hc25_20).1 (by decide) (by decide)) ?_
      refine Gz (XS.iconst X16.here hx rfl (hb hby d26_46)) ?_
      refine Goes.ret X16 (some (.int 0)) (fun h => by rw [hret] at h; cases h) hlk (by decide) (by decide) ?_ (fun fs hr => ?_)
      ·exact ⟨(congrArg (fun z => some (Value.int z)) ((hq.trans (by simp [chK, hk, hs])).symm : (0 : Int32) = _)), N16, e16⟩
      ·exact own_retN X16 hx (t := .boolean) hret (by simp) rfl (hb hby d26_47) hr
     ·refine Gz (XS.icmpNo X16.here hx rfl (hb hby d26_25) rfl (feq hc25_20).1) ?_
      refine gN X16 hx hby d26_28 rfl rfl ?_
      refine Gz (XS.bipush X16.here hx rfl (hb hby d26_29)) ?_
      by_cases hc31_21 : c0 = 10
      ·refine Gz (XS.icmpYes X16.here hx rfl (pc0 := 31) (pc' := 46) rfl (hb hby d26_31) rfl (teq hc31_21).1 (by decide) (by decide)) ?_
       refine Gz (XS.iconst X16.here hx rfl (hb hby d26_46)) ?_
       refine Goes.ret X16 (some (.int 0)) (fun h => by rw [hret] at h; cases h) hlk (by decide) (by decide) ?_ (fun fs hr => ?_)
       ·exact ⟨(congrArg (fun z => some (Value.int z)) ((hq.trans (by simp [chK, hk, hs])).symm : (0 : Int32) = _)), N16, e16⟩
       ·exact own_retN X16 hx (t := .boolean) hret (by simp) rfl (hb hby d26_47) hr
      ·refine Gz (XS.icmpNo X16.here hx rfl (hb hby d26_31) rfl (feq hc31_21).1) ?_
       refine gN X16 hx hby d26_34 rfl rfl ?_
       refine Gz (Jvm.Stand.ldcI X16 hx hown (gz hZ hw 114 rfl) rfl (hb hby d26_35)) ?_
       show Goes _ _ _ _ _ (fT T16 m 37 #[vr a, vi (Int32.ofNat pr.length), vi c0] [(.int 55296), (.int c0)])
       have hc37_22 : ¬ (c0 < 55296) := fun q => hs (own_to3 hc19_19 hc25_20 hc31_21 (Or.inl q))
       refine Gz (XS.icmpNo X16.here hx rfl (hb hby d26_37) rfl (flt hc37_22).1) ?_
       refine gN X16 hx hby d26_40 rfl rfl ?_
       refine Gz (Jvm.Stand.ldcI X16 hx hown (gz hZ hw 115 rfl) rfl (hb hby d26_41)) ?_
       show Goes _ _ _ _ _ (fT T16 m 43 #[vr a, vi (Int32.ofNat pr.length), vi c0] [(.int 57343), (.int c0)])
       have hc43_23 : ¬ ((57343 : Int32) < c0) := fun q => hs (own_to3 hc19_19 hc25_20 hc31_21 (Or.inr q))
       refine Gz (XS.icmpNo X16.here hx rfl (hb hby d26_43) rfl (flt hc43_23).2.2.1) ?_
       refine Gz (XS.iconst X16.here hx rfl (hb hby d26_46)) ?_
       refine Goes.ret X16 (some (.int 0)) (fun h => by rw [hret] at h; cases h) hlk (by decide) (by decide) ?_ (fun fs hr => ?_)
       ·exact ⟨(congrArg (fun z => some (Value.int z)) ((hq.trans (by simp [chK, hk, hs])).symm : (0 : Int32) = _)), N16, e16⟩
       ·exact own_retN X16 hx (t := .boolean) hret (by simp) rfl (hb hby d26_47) hr
theorem own_pd17 : parseMethodDescriptor "(I)C" = some ⟨[.int], some .char⟩ := by decide +kernel
theorem own_pd18 : parseMethodDescriptor "([C)V" = some ⟨[(.array .char)], none⟩ := by decide +kernel
theorem own_pd19 : parseMethodDescriptor "(CCC)Z" = some ⟨[.char, .char, .char], some .boolean⟩ := by decide +kernel
theorem own_pd20 : parseMethodDescriptor "(Ljava/lang/String;)Z" = some ⟨[(.object "java/lang/String")], some .boolean⟩ := by decide +kernel
theorem own_ef_rm_law (m : MethodId) (x0 : Int32) (x1 : Int32) (x2 : Int32) (x3 : Int32) (x4 : Int32) : entryFrame m #[(.int x0), (.int x1), (.int x2), (.int x3), (.int x4)] maxLocals = mkF m 0 #[vi x0, vi x1, vi x2, vi x3, vi x4, vu, vu, vu, vu, vu, vu, vu, vu, vu, vu, vu, vu] [] := by first | (simp [entryFrame, mkF, argsToLocals, Value.category, maxLocals]; done) | rfl
def Q_rm_law (Z : State) (x0 : Int32) (x1 : Int32) (x2 : Int32) (x3 : Int32) (x4 : Int32) (cz : Int32) (fo : Value) (h0 : Heap) (n0 : Nat) (v : Option Value) (h : Heap) (L : List Loc) : Prop := v = some (.int 1) ∧ Fr n0 L
set_option maxRecDepth 65536 in
set_option maxHeartbeats 40000000 in
theorem rm_law (l : Launch) (Z : State) (a0 : Array Value) (hw : HW a0 Z) (ws : List Jvm.Cond) (x0 : Int32) (x1 : Int32) (x2 : Int32) (x3 : Int32) (x4 : Int32) (cz : Int32) (fo : Value) (h0 : Heap) (n0 : Nat) (Z0 : n0 ≤ h0.size) (sgC : Sta Z h0 "java/lang/String" "COMPACT_STRINGS" "Z" (.int cz)) (hcz : ¬ (cz = 0)) (sgF : Sta Z h0 "jdk/internal/util/Preconditions" "SIOOBE_FORMATTER" "Ljava/util/function/BiFunction;" fo) (r_fo : fo.isRef = true) (sgA : Sta Z h0 "java/lang/StringUTF16" "$assertionsDisabled" "Z" (.int 1)) (sgH : Sta Z h0 "java/lang/StringUTF16" "HI_BYTE_SHIFT" "I" (.int 0)) (sgL : Sta Z h0 "java/lang/StringUTF16" "LO_BYTE_SHIFT" "I" (.int 8)) :
  MetH l Z x code maxLocals ret room_1 ws #[(.int x0), (.int x1), (.int x2), (.int x3), (.int x4)] h0 (Q_rm_law Z x0 x1 x2 x3 x4 cz fo h0 n0) := by
 refine own_metH (plainFor_of_name own_pn4) ?_
 intro p e s m below meth c s₁ hret hx hby hlk hml hown hnm X0 e0 hZ hh hC0
 have N0 := Fr.nil n0
 have hS : s.Since s.vm h0.size := (State.WarmedH.refl s).since _
 have hk : h0.size ≤ h0.size := Nat.le_refl _
 replace hZ : Z.Warmed39 (s.setVm s.vm).vm := hZ
 have hR : CHr Z consts_1 s.vm h0 s.vm h0 := CHr.refl hC0
 refine Gz (castTop (own_ef_rm_law m x0 x1 x2 x3 x4)) ?_
 show Goes _ _ _ _ _ (fT s₁ m 0 #[vi x0, vi x1, vi x2, vi x3, vi x4, vu, vu, vu, vu, vu, vu, vu, vu, vu, vu, vu, vu] [])
 refine gN X0 hx hby at_0 rfl rfl ?_
 refine Gz (XS.bipush X0.here hx rfl (hb hby at_1)) ?_
 show Goes _ _ _ _ _ (fT s₁ m 3 #[vi x0, vi x1, vi x2, vi x3, vi x4, vu, vu, vu, vu, vu, vu, vu, vu, vu, vu, vu, vu] [(.int 7), (.int x0)])
 refine Gz (XS.iand X0.here hx rfl (hb hby at_3) rfl) ?_
 show Goes _ _ _ _ _ (fT s₁ m 4 #[vi x0, vi x1, vi x2, vi x3, vi x4, vu, vu, vu, vu, vu, vu, vu, vu, vu, vu, vu, vu] [(.int (x0 &&& 7))])
 refine Gz (XS.iconst X0.here hx rfl (hb hby at_4)) ?_
 show Goes _ _ _ _ _ (fT s₁ m 5 #[vi x0, vi x1, vi x2, vi x3, vi x4, vu, vu, vu, vu, vu, vu, vu, vu, vu, vu, vu, vu] [(.int 5), (.int (x0 &&& 7))])
 refine Gz (XS.irem X0.here hx rfl (hb hby at_5) rfl (by decide)) ?_
 rw [Jvm.irem_eq_mod]
 show Goes _ _ _ _ _ (fT s₁ m 6 #[vi x0, vi x1, vi x2, vi x3, vi x4, vu, vu, vu, vu, vu, vu, vu, vu, vu, vu, vu, vu] [(.int ((x0 &&& 7) % 5))])
 generalize hn : ((x0 &&& 7) % 5) = n
 obtain rfl | rfl | rfl | rfl | rfl : n = 0 ∨ n = 1 ∨ n = 2 ∨ n = 3 ∨ n = 4 := by rw [← hn]; exact own_lt5 x0
 ·show Goes _ _ _ _ _ (fT s₁ m 6 #[vi x0, vi x1, vi x2, vi x3, vi x4, vu, vu, vu, vu, vu, vu, vu, vu, vu, vu, vu, vu] [(.int 0)])
  refine Gz (XS.istore X0.here hx rfl (hb hby at_6) rfl (l' := #[vi x0, vi x1, vi x2, vi x3, vi x4, vi 0, vu, vu, vu, vu, vu, vu, vu, vu, vu, vu, vu]) rfl) ?_
  refine gN X0 hx hby at_8 rfl rfl ?_
  obtain ⟨_, _, ⟨T1, L1, k1, n1⟩, -, X1, ⟨Lc1, hQ1, l1, y1, z1⟩, st1⟩ := Jvm.LawKit.callS X0 hx (y := mN21) hown (gz hZ hw 0 rfl) (gz hZ hw 1 rfl) (gz hZ hw 2 rfl) (gz hZ hw 3 rfl) (by decide) (backOf (W := 0) (rm_draw l Z a0 hw [] x1 h0 n0 Z0) hZ (gw hw 3 rfl) (gw hw 2 rfl) (by decide) (by decide)) (g := (mkF m 9 #[vi x0, vi x1, vi x2, vi x3, vi x4, vi 0, vu, vu, vu, vu, vu, vu, vu, vu, vu, vu, vu] [(.int x1)])) rfl hml.symm (argsL := [(.int x1)]) (rest := []) (lenOf own_pd17 rfl) rfl (wz rfl) (hb hby at_9) (fun _ _ => ⟨rfl, e0, z0, z0⟩)
  dsimp only [Pt.U, Pt.locs, Pt.cells, Pt.slots] at X1 l1 y1 z1 st1 hQ1
  subst l1 y1 z1
  obtain ⟨r1, rfl, N1q, e1, hCd_1⟩ := hQ1
  have N1 := Fr.app N0 N1q
  refine Gs st1 ?_
  show Goes _ _ _ _ _ (fT T1 m 12 #[vi x0, vi x1, vi x2, vi x3, vi x4, vi 0, vu, vu, vu, vu, vu, vu, vu, vu, vu, vu, vu] [(.int r1)])
  refine Gz (XS.istore X1.here hx rfl (hb hby at_12) rfl (l' := #[vi x0, vi x1, vi x2, vi x3, vi x4, vi 0, vi r1, vu, vu, vu, vu, vu, vu, vu, vu, vu, vu]) rfl) ?_
  refine gN X1 hx hby at_14 rfl rfl ?_
  obtain ⟨_, _, ⟨T2, L2, k2, n2⟩, -, X2, ⟨Lc2, hQ2, l2, y2, z2⟩, st2⟩ := Jvm.LawKit.callS X1 hx (y := mN21) hown (gz hZ hw 0 rfl) (gz hZ hw 1 rfl) (gz hZ hw 2 rfl) (gz hZ hw 3 rfl) (by decide) (backOf (W := 0) (rm_draw l Z a0 hw [] x2 h0 n0 Z0) hZ (gw hw 3 rfl) (gw hw 2 rfl) (by decide) (by decide)) (g := (mkF m 15 #[vi x0, vi x1, vi x2, vi x3, vi x4, vi 0, vi r1, vu, vu, vu, vu, vu, vu, vu, vu, vu, vu] [(.int x2)])) rfl hml.symm (argsL := [(.int x2)]) (rest := []) (lenOf own_pd17 rfl) rfl (wz rfl) (hb hby at_15) (fun _ _ => ⟨rfl, e1, z0, z0⟩)
  dsimp only [Pt.U, Pt.locs, Pt.cells, Pt.slots] at X2 l2 y2 z2 st2 hQ2
  subst l2 y2 z2
  obtain ⟨r2, rfl, N2q, e2, hCd_2⟩ := hQ2
  have N2 := Fr.app N1 N2q
  refine Gs st2 ?_
  show Goes _ _ _ _ _ (fT T2 m 18 #[vi x0, vi x1, vi x2, vi x3, vi x4, vi 0, vi r1, vu, vu, vu, vu, vu, vu, vu, vu, vu, vu] [(.int r2)])
  refine Gz (XS.istore X2.here hx rfl (hb hby at_18) rfl (l' := #[vi x0, vi x1, vi x2, vi x3, vi x4, vi 0, vi r1, vi r2, vu, vu, vu, vu, vu, vu, vu, vu, vu]) rfl) ?_
  refine gN X2 hx hby at_20 rfl rfl ?_
  obtain ⟨_, _, ⟨T3, L3, k3, n3⟩, -, X3, ⟨Lc3, hQ3, l3, y3, z3⟩, st3⟩ := Jvm.LawKit.callS X2 hx (y := mN21) hown (gz hZ hw 0 rfl) (gz hZ hw 1 rfl) (gz hZ hw 2 rfl) (gz hZ hw 3 rfl) (by decide) (backOf (W := 0) (rm_draw l Z a0 hw [] x3 h0 n0 Z0) hZ (gw hw 3 rfl) (gw hw 2 rfl) (by decide) (by decide)) (g := (mkF m 21 #[vi x0, vi x1, vi x2, vi x3, vi x4, vi 0, vi r1, vi r2, vu, vu, vu, vu, vu, vu, vu, vu, vu] [(.int x3)])) rfl hml.symm (argsL := [(.int x3)]) (rest := []) (lenOf own_pd17 rfl) rfl (wz rfl) (hb hby at_21) (fun _ _ => ⟨rfl, e2, z0, z0⟩)
  dsimp only [Pt.U, Pt.locs, Pt.cells, Pt.slots] at X3 l3 y3 z3 st3 hQ3
  subst l3 y3 z3
  obtain ⟨r3, rfl, N3q, e3, hCd_3⟩ := hQ3
  have N3 := Fr.app N2 N3q
  refine Gs st3 ?_
  show Goes _ _ _ _ _ (fT T3 m 24 #[vi x0, vi x1, vi x2, vi x3, vi x4, vi 0, vi r1, vi r2, vu, vu, vu, vu, vu, vu, vu, vu, vu] [(.int r3)])
  refine Gz (XS.istore X3.here hx rfl (hb hby at_24) rfl (l' := #[vi x0, vi x1, vi x2, vi x3, vi x4, vi 0, vi r1, vi r2, vi r3, vu, vu, vu, vu, vu, vu, vu, vu]) rfl) ?_
  refine gI X3 hx hby at_26 rfl rfl ?_
  obtain ⟨_, _, ⟨T4, L4, k4, n4⟩, -, X4, ⟨Lc4, hQ4, l4, y4, z4⟩, st4⟩ := Jvm.LawKit.callS X3 hx (y := mN21) hown (gz hZ hw 0 rfl) (gz hZ hw 1 rfl) (gz hZ hw 2 rfl) (gz hZ hw 3 rfl) (by decide) (backOf (W := 0) (rm_draw l Z a0 hw [] x4 h0 n0 Z0) hZ (gw hw 3 rfl) (gw hw 2 rfl) (by decide) (by decide)) (g := (mkF m 28 #[vi x0, vi x1, vi x2, vi x3, vi x4, vi 0, vi r1, vi r2, vi r3, vu, vu, vu, vu, vu, vu, vu, vu] [(.int x4)])) rfl hml.symm (argsL := [(.int x4)]) (rest := []) (lenOf own_pd17 rfl) rfl (wz rfl) (hb hby at_28) (fun _ _ => ⟨rfl, e3, z0, z0⟩)
  dsimp only [Pt.U, Pt.locs, Pt.cells, Pt.slots] at X4 l4 y4 z4 st4 hQ4
  subst l4 y4 z4
  obtain ⟨r4, rfl, N4q, e4, hCd_4⟩ := hQ4
  have N4 := Fr.app N3 N4q
  refine Gs st4 ?_
  show Goes _ _ _ _ _ (fT T4 m 31 #[vi x0, vi x1, vi x2, vi x3, vi x4, vi 0, vi r1, vi r2, vi r3, vu, vu, vu, vu, vu, vu, vu, vu] [(.int r4)])
  refine Gz (XS.istore X4.here hx rfl (hb hby at_31) rfl (l' := #[vi x0, vi x1, vi x2, vi x3, vi x4, vi 0, vi r1, vi r2, vi r3, vi r4, vu, vu, vu, vu, vu, vu, vu]) rfl) ?_
  refine gI X4 hx hby at_33 rfl rfl ?_
  refine Gz (XS.ifNo X4.here hx rfl (hb hby at_35) rfl ((if0 _ _).trans (teq (by decide : ((0 : Int32) = (0 : Int32)))).2)) ?_
  refine Gz (XS.iconst X4.here hx rfl (hb hby at_38)) ?_
  obtain ⟨T5, h5, k5, X5, e5, E5, A5, st5⟩ := newP X4 hx hZ (gw hw 5 rfl) e4 (g := (mkF m 39 #[vi x0, vi x1, vi x2, vi x3, vi x4, vi 0, vi r1, vi r2, vi r3, vi r4, vu, vu, vu, vu, vu, vu, vu] [(.int 0)])) rfl (hb hby at_39) rfl (by decide) (cap := 0) (by decide) (by decide) (by decide) (by decide)
  obtain ⟨b5, gq5⟩ : ∃ z, z = h0.size := ⟨_, rfl⟩
  rw [← gq5] at A5 st5
  have g_b5 : n0 ≤ b5 := by rw [gq5]; exact Z0
  replace hR := hR.trans (CHr.ext E5 hR.1)
  replace sgC := sgC.ext E5
  replace sgF := sgF.ext E5
  replace sgA := sgA.ext E5
  replace sgH := sgH.ext E5
  replace sgL := sgL.ext E5
  replace Z0 : n0 ≤ h5.size := Nat.le_trans Z0 E5.1
  replace hk := Nat.le_trans hk E5.1
  have V_b5 : Arv Z h5 b5 k5 .char 0 [] (.int 0) := Arv.new A5 (by decide)
  refine Gs st5 ?_
  show Goes _ _ _ _ _ (fT T5 m 41 #[vi x0, vi x1, vi x2, vi x3, vi x4, vi 0, vi r1, vi r2, vi r3, vi r4, vu, vu, vu, vu, vu, vu, vu] [(.ref b5)])
  refine Gz (XS.astore X5.here hx rfl (hb hby at_41) rfl rfl (l' := #[vi x0, vi x1, vi x2, vi x3, vi x4, vi 0, vi r1, vi r2, vi r3, vi r4, vr b5, vu, vu, vu, vu, vu, vu]) rfl) ?_
  refine Gz (XS.goto X5.here hx rfl (pc0 := 43) (pc' := 143) rfl (hb hby at_43) (by decide) (by decide)) ?_
  obtain ⟨T6, h6, X6, e6, E6, A6, D6, -, st6⟩ := newO X5 hx hZ hown (gw hw 6 rfl) (gw hw 7 rfl) (gw hw 8 rfl) e5 (g := (mkF m 143 #[vi x0, vi x1, vi x2, vi x3, vi x4, vi 0, vi r1, vi r2, vi r3, vi r4, vr b5, vu, vu, vu, vu, vu, vu] [])) rfl (hb hby at_143) (by decide) (by decide)
  obtain ⟨b6, gq6⟩ : ∃ z, z = h5.size := ⟨_, rfl⟩
  rw [← gq6] at A6 st6 D6
  have g_b6 : n0 ≤ b6 := by rw [gq6]; exact Z0
  have ne_b5_b6 : b5 ≠ b6 := by rw [gq6]; exact Nat.ne_of_lt V_b5.lt
  replace hR := hR.trans (CHr.ext E6 hR.1)
  replace sgC := sgC.ext E6
  replace sgF := sgF.ext E6
  replace sgA := sgA.ext E6
  replace sgH := sgH.ext E6
  replace sgL := sgL.ext E6
  replace V_b5 := V_b5.ext E6
  replace Z0 : n0 ≤ h6.size := Nat.le_trans Z0 E6.1
  replace hk := Nat.le_trans hk E6.1
  have A_b6 : Exa Z h6 b6 "java/lang/String" := A6
  have F_value_b6 : Fld Z h6 b6 "java/lang/String" "value" "[B" .null := D6 (Or.inr (gw hw 21 rfl)) (ty := (.array .byte)) (by decide)
  have F_coder_b6 : Fld Z h6 b6 "java/lang/String" "coder" "B" (.int 0) := D6 (Or.inr (gw hw 22 rfl)) (ty := .byte) (by decide)
  refine Gs st6 ?_
  show Goes _ _ _ _ _ (fT T6 m 146 #[vi x0, vi x1, vi x2, vi x3, vi x4, vi 0, vi r1, vi r2, vi r3, vi r4, vr b5, vu, vu, vu, vu, vu, vu] [(.ref b6)])
  refine Gz (XS.dup X6.here hx rfl (hb hby at_146) rfl rfl) ?_
  refine Gz (XS.aload X6.here hx rfl (hb hby at_147) rfl rfl) ?_
  obtain ⟨_, _, ⟨T7, L7, k7, n7⟩, -, X7, hS7, gr7, ⟨Lc7, hQ7, l7, y7, z7, hC7⟩, st7⟩ := X6.specialBackS hx (y := mN13) rfl hown (gz hZ hw 9 rfl) (gz hZ hw 10 rfl) (gz hZ hw 11 rfl) (by decide) (backOfSH (W := 1) (rs_i1_0 l Z a0 hw [] b6 b5 k5 h6 n0 Z0 A_b6 F_value_b6 F_coder_b6 V_b5 g_b6 ne_b5_b6) hZ (gw hw 11 rfl) (gw hw 8 rfl) (by decide) (by decide) (own_EW hw) hR.1) (g := (mkF m 149 #[vi x0, vi x1, vi x2, vi x3, vi x4, vi 0, vi r1, vi r2, vi r3, vi r4, vr b5, vu, vu, vu, vu, vu, vu] [(.ref b5), (.ref b6), (.ref b6)])) rfl hml.symm (Steps.refl _) (a := b6) (argsL := [(.ref b5)]) (rest := [(.ref b6)]) (lenOf own_pd18 rfl) rfl (wz rfl) (hb hby at_149) (fun _ _ => ⟨rfl, e6, (by decide : 2 + 4 ≤ _), (by decide : 4 + 8 ≤ _)⟩)
  dsimp only [Pt.U, Pt.locs, Pt.cells, Pt.slots] at X7 l7 y7 z7 st7 hQ7 hS7 gr7 hC7
  subst l7 y7 z7
  obtain ⟨X7, hS, hZ, hown⟩ := rebS hS hk X7 hS7 (by have q := gr7; rw [e6] at q; exact q) hZ hown
  replace hk : T7.heap.size ≤ T7.heap.size := Nat.le_refl _
  obtain ⟨rfl, N7q, K7, T_b6_7'⟩ := hQ7
  have N7 := Fr.app N4 N7q
  replace hR := hR.trans hC7
  replace sgC := own_staK sgC K7 (allS (own_obE A_b6) all0)
  replace sgF := own_staK sgF K7 (allS (own_obE A_b6) all0)
  replace sgA := own_staK sgA K7 (allS (own_obE A_b6) all0)
  replace sgH := own_staK sgH K7 (allS (own_obE A_b6) all0)
  replace sgL := own_staK sgL K7 (allS (own_obE A_b6) all0)
  replace Z0 := Nat.le_trans Z0 K7.1
  have T_b6 := T_b6_7'
  refine Gs (fun _ tk => st7.trans tk) ?_
  show Goes _ _ _ _ _ (fT T7 m 152 #[vi x0, vi x1, vi x2, vi x3, vi x4, vi 0, vi r1, vi r2, vi r3, vi r4, vr b5, vu, vu, vu, vu, vu, vu] [(.ref b6)])
  refine Gz (XS.astore X7.here hx rfl (hb hby at_152) rfl rfl (l' := #[vi x0, vi x1, vi x2, vi x3, vi x4, vi 0, vi r1, vi r2, vi r3, vi r4, vr b5, vr b6, vu, vu, vu, vu, vu]) rfl) ?_
  refine gI X7 hx hby at_154 rfl rfl ?_
  refine Gz (XS.ifYes X7.here hx rfl (pc0 := 156) (pc' := 164) rfl (hb hby at_156) rfl ((if0 _ _).trans (flt (by decide : ¬ ((0 : Int32) < (0 : Int32)))).2.2.2) (by decide) (by decide)) ?_
  refine Gz (XS.bipush X7.here hx rfl (hb hby at_164)) ?_
  refine Gz (XS.istore X7.here hx rfl (hb hby at_166) rfl (l' := #[vi x0, vi x1, vi x2, vi x3, vi x4, vi 0, vi r1, vi r2, vi r3, vi r4, vr b5, vr b6, vi 65, vu, vu, vu, vu]) rfl) ?_
  refine gI X7 hx hby at_168 rfl rfl ?_
  show Goes _ _ _ _ _ (fT T7 m 170 #[vi x0, vi x1, vi x2, vi x3, vi x4, vi 0, vi r1, vi r2, vi r3, vi r4, vr b5, vr b6, vi 65, vu, vu, vu, vu] [(.int 0)])
  refine Gz (XS.iconst X7.here hx rfl (hb hby at_170)) ?_
  refine Gz (XS.icmpYes X7.here hx rfl (pc0 := 171) (pc' := 179) rfl (hb hby at_171) rfl (flt (by decide : ¬ ((1 : Int32) < (0 : Int32)))).2.2.2 (by decide) (by decide)) ?_
  refine Gz (XS.bipush X7.here hx rfl (hb hby at_179)) ?_
  refine Gz (XS.istore X7.here hx rfl (hb hby at_181) rfl (l' := #[vi x0, vi x1, vi x2, vi x3, vi x4, vi 0, vi r1, vi r2, vi r3, vi r4, vr b5, vr b6, vi 65, vi 65, vu, vu, vu]) rfl) ?_
  refine gI X7 hx hby at_183 rfl rfl ?_
  refine Gz (XS.iconst X7.here hx rfl (hb hby at_185)) ?_
  show Goes _ _ _ _ _ (fT T7 m 186 #[vi x0, vi x1, vi x2, vi x3, vi x4, vi 0, vi r1, vi r2, vi r3, vi r4, vr b5, vr b6, vi 65, vi 65, vu, vu, vu] [(.int 2), (.int 0)])
  refine Gz (XS.icmpYes X7.here hx rfl (pc0 := 186) (pc' := 194) rfl (hb hby at_186) rfl (flt (by decide : ¬ ((2 : Int32) < (0 : Int32)))).2.2.2 (by decide) (by decide)) ?_
  refine Gz (XS.bipush X7.here hx rfl (hb hby at_194)) ?_
  refine Gz (XS.istore X7.here hx rfl (hb hby at_196) rfl (l' := #[vi x0, vi x1, vi x2, vi x3, vi x4, vi 0, vi r1, vi r2, vi r3, vi r4, vr b5, vr b6, vi 65, vi 65, vi 65, vu, vu]) rfl) ?_
  refine gI X7 hx hby at_198 rfl rfl ?_
  refine Gz (XS.iconst X7.here hx rfl (hb hby at_200)) ?_
  refine Gz (XS.icmpYes X7.here hx rfl (pc0 := 201) (pc' := 209) rfl (hb hby at_201) rfl (flt (by decide : ¬ ((3 : Int32) < (0 : Int32)))).2.2.2 (by decide) (by decide)) ?_
  show Goes _ _ _ _ _ (fT T7 m 209 #[vi x0, vi x1, vi x2, vi x3, vi x4, vi 0, vi r1, vi r2, vi r3, vi r4, vr b5, vr b6, vi 65, vi 65, vi 65, vu, vu] [])
  refine Gz (XS.bipush X7.here hx rfl (hb hby at_209)) ?_
  refine Gz (XS.istore X7.here hx rfl (hb hby at_211) rfl (l' := #[vi x0, vi x1, vi x2, vi x3, vi x4, vi 0, vi r1, vi r2, vi r3, vi r4, vr b5, vr b6, vi 65, vi 65, vi 65, vi 65, vu]) rfl) ?_
  refine Gz (XS.bipush X7.here hx rfl (hb hby at_213)) ?_
  refine gI X7 hx hby at_215 rfl rfl ?_
  refine gI X7 hx hby at_217 rfl rfl ?_
  obtain ⟨_, _, ⟨T8, L8, k8, n8⟩, -, X8, ⟨Lc8, hQ8, l8, y8, z8⟩, st8⟩ := Jvm.LawKit.callS X7 hx (y := mN24) hown (gz hZ hw 27 rfl) (gz hZ hw 28 rfl) (gz hZ hw 2 rfl) (gz hZ hw 29 rfl) (by decide) (backOf (W := 0) (rm_good l Z a0 hw [] (65 : Int32) (65 : Int32) (65 : Int32) T7.heap n0 Z0) hZ (gw hw 29 rfl) (gw hw 2 rfl) (by decide) (by decide)) (g := (mkF m 219 #[vi x0, vi x1, vi x2, vi x3, vi x4, vi 0, vi r1, vi r2, vi r3, vi r4, vr b5, vr b6, vi 65, vi 65, vi 65, vi 65, vu] [(.int 65), (.int 65), (.int 65)])) rfl hml.symm (argsL := [(.int 65), (.int 65), (.int 65)]) (rest := []) (lenOf own_pd19 rfl) rfl (wz rfl) (hb hby at_219) (fun _ _ => ⟨rfl, rfl, (by decide : 6 + 0 ≤ _), (by decide : 12 + 0 ≤ _)⟩)
  dsimp only [Pt.U, Pt.locs, Pt.cells, Pt.slots] at X8 l8 y8 z8 st8 hQ8
  subst l8 y8 z8
  obtain ⟨rfl, N8q, e8⟩ := hQ8
  have N8 := Fr.app N7 N8q
  refine Gs st8 ?_
  show Goes _ _ _ _ _ (fT T8 m 222 #[vi x0, vi x1, vi x2, vi x3, vi x4, vi 0, vi r1, vi r2, vi r3, vi r4, vr b5, vr b6, vi 65, vi 65, vi 65, vi 65, vu] [(.int (gd (cls (65 : Int32)) (cls (65 : Int32)) (cls (65 : Int32))))])
  refine own_joinT X8 e8 N8 (B := fun T => T.setTop (mkF m 266 #[vi x0, vi x1, vi x2, vi x3, vi x4, vi 0, vi r1, vi r2, vi r3, vi r4, vr b5, vr b6, vi 65, vi 65, vi 65, vi 65, vu] [(.int (own_ex (gd (cls (65 : Int32)) (cls (65 : Int32)) (cls (65 : Int32))) (gd (cls (65 : Int32)) (cls (65 : Int32)) (cls (65 : Int32))) (gd (cls (65 : Int32)) (cls (65 : Int32)) (cls (65 : Int32))) (gd (cls (65 : Int32)) (cls (65 : Int32)) (cls (65 : Int32)))))])) ?_ ?_
  ·intro T L X E N
   show Goes _ _ _ _ _ (fT T m 266 #[vi x0, vi x1, vi x2, vi x3, vi x4, vi 0, vi r1, vi r2, vi r3, vi r4, vr b5, vr b6, vi 65, vi 65, vi 65, vi 65, vu] [(.int (own_ex (gd (cls (65 : Int32)) (cls (65 : Int32)) (cls (65 : Int32))) (gd (cls (65 : Int32)) (cls (65 : Int32)) (cls (65 : Int32))) (gd (cls (65 : Int32)) (cls (65 : Int32)) (cls (65 : Int32))) (gd (cls (65 : Int32)) (cls (65 : Int32)) (cls (65 : Int32)))))])
   refine Gz (XS.istore X.here hx rfl (hb hby at_266) rfl (l' := #[vi x0, vi x1, vi x2, vi x3, vi x4, vi 0, vi r1, vi r2, vi r3, vi r4, vr b5, vr b6, vi 65, vi 65, vi 65, vi 65, vi (own_ex (gd (cls (65 : Int32)) (cls (65 : Int32)) (cls (65 : Int32))) (gd (cls (65 : Int32)) (cls (65 : Int32)) (cls (65 : Int32))) (gd (cls (65 : Int32)) (cls (65 : Int32)) (cls (65 : Int32))) (gd (cls (65 : Int32)) (cls (65 : Int32)) (cls (65 : Int32))))]) rfl) ?_
   refine Gz (XS.aload X.here hx rfl (hb hby at_268) rfl rfl) ?_
   obtain ⟨_, _, ⟨T9, L9, k9, n9⟩, -, X9, ⟨Lc9, hQ9, l9, y9, z9⟩, st9⟩ := Jvm.LawKit.callS X hx (y := mN26) hown (gz hZ hw 37 rfl) (gz hZ hw 38 rfl) (gz hZ hw 39 rfl) (gz hZ hw 40 rfl) (by decide) (backOf (W := 0) (rm_ch l Z a0 hw [] b6 [] cz fo T7.heap n0 Z0 T_b6 sgC (by first | assumption | decide) sgF (by first | assumption | decide) sgA sgH sgL) hZ (gw hw 40 rfl) (gw hw 39 rfl) (by decide) (by decide)) (g := (mkF m 270 #[vi x0, vi x1, vi x2, vi x3, vi x4, vi 0, vi r1, vi r2, vi r3, vi r4, vr b5, vr b6, vi 65, vi 65, vi 65, vi 65, vi (own_ex (gd (cls (65 : Int32)) (cls (65 : Int32)) (cls (65 : Int32))) (gd (cls (65 : Int32)) (cls (65 : Int32)) (cls (65 : Int32))) (gd (cls (65 : Int32)) (cls (65 : Int32)) (cls (65 : Int32))) (gd (cls (65 : Int32)) (cls (65 : Int32)) (cls (65 : Int32))))] [(.ref b6)])) rfl hml.symm (argsL := [(.ref b6)]) (rest := []) (lenOf own_pd20 rfl) rfl (wz rfl) (hb hby at_270) (fun _ _ => ⟨rfl, E, (by decide : 6 + 0 ≤ _), (by decide : 12 + 0 ≤ _)⟩)
   dsimp only [Pt.U, Pt.locs, Pt.cells, Pt.slots] at X9 l9 y9 z9 st9 hQ9
   subst l9 y9 z9
   obtain ⟨rfl, N9q, e9⟩ := hQ9
   have N9 := Fr.app N N9q
   refine Gs st9 ?_
   show Goes _ _ _ _ _ (fT T9 m 273 #[vi x0, vi x1, vi x2, vi x3, vi x4, vi 0, vi r1, vi r2, vi r3, vi r4, vr b5, vr b6, vi 65, vi 65, vi 65, vi 65, vi (own_ex (gd (cls (65 : Int32)) (cls (65 : Int32)) (cls (65 : Int32))) (gd (cls (65 : Int32)) (cls (65 : Int32)) (cls (65 : Int32))) (gd (cls (65 : Int32)) (cls (65 : Int32)) (cls (65 : Int32))) (gd (cls (65 : Int32)) (cls (65 : Int32)) (cls (65 : Int32))))] [(.int (chK (List.map cls [])))])
   refine gI X9 hx hby at_273 rfl rfl ?_
   have hc275_10 : (chK (List.map cls [])) = (own_ex (gd (cls (65 : Int32)) (cls (65 : Int32)) (cls (65 : Int32))) (gd (cls (65 : Int32)) (cls (65 : Int32)) (cls (65 : Int32))) (gd (cls (65 : Int32)) (cls (65 : Int32)) (cls (65 : Int32))) (gd (cls (65 : Int32)) (cls (65 : Int32)) (cls (65 : Int32)))) := (show chK [] = (own_ex (gd (cls (65 : Int32)) (cls (65 : Int32)) (cls (65 : Int32))) (gd (cls (65 : Int32)) (cls (65 : Int32)) (cls (65 : Int32))) (gd (cls (65 : Int32)) (cls (65 : Int32)) (cls (65 : Int32))) (gd (cls (65 : Int32)) (cls (65 : Int32)) (cls (65 : Int32)))) from by simp only [own_65]; decide +kernel) 
   refine Gz (XS.icmpNo X9.here hx rfl (hb hby at_275) rfl (teq hc275_10).2) ?_
   refine Gz (XS.iconst X9.here hx rfl (hb hby at_278)) ?_
   refine Gz (XS.goto X9.here hx rfl (pc0 := 279) (pc' := 283) rfl (hb hby at_279) (by decide) (by decide)) ?_
   refine Goes.retH X9 hS e9 hk hZ (own_EW hw) hh hR (some (.int 1)) (fun h => by rw [hret] at h; cases h) hlk (by decide) (by decide) ?_ (fun fs hr => ?_)
   ·rw [e9]; exact ⟨rfl, N9⟩
   ·exact own_retN X9 hx (t := .boolean) hret (by simp) rfl (hb hby at_283) hr
  intro J
  by_cases hc222_11 : (gd (cls (65 : Int32)) (cls (65 : Int32)) (cls (65 : Int32))) = 0
  ·refine Gz (XS.ifYes X8.here hx rfl (pc0 := 222) (pc' := 265) rfl (hb hby at_222) rfl ((if0 _ _).trans (teq hc222_11).1) (by decide) (by decide)) ?_
   refine Gz (XS.iconst X8.here hx rfl (hb hby at_265)) ?_
   show Goes _ _ _ _ _ (fT T8 m 266 #[vi x0, vi x1, vi x2, vi x3, vi x4, vi 0, vi r1, vi r2, vi r3, vi r4, vr b5, vr b6, vi 65, vi 65, vi 65, vi 65, vu] [(.int 0)])
   have q := J T8 _ X8 e8 N8
   rw [show (own_ex (gd (cls (65 : Int32)) (cls (65 : Int32)) (cls (65 : Int32))) (gd (cls (65 : Int32)) (cls (65 : Int32)) (cls (65 : Int32))) (gd (cls (65 : Int32)) (cls (65 : Int32)) (cls (65 : Int32))) (gd (cls (65 : Int32)) (cls (65 : Int32)) (cls (65 : Int32)))) = 0 from by rw [own_ex, if_pos hc222_11]] at q
   exact q
  ·refine Gz (XS.ifNo X8.here hx rfl (hb hby at_222) rfl ((if0 _ _).trans (feq hc222_11).1)) ?_
   refine gI X8 hx hby at_225 rfl rfl ?_
   refine gI X8 hx hby at_227 rfl rfl ?_
   refine gI X8 hx hby at_229 rfl rfl ?_
   obtain ⟨_, _, ⟨T12, L12, k12, n12⟩, -, X12, ⟨Lc12, hQ12, l12, y12, z12⟩, st12⟩ := Jvm.LawKit.callS X8 hx (y := mN24) hown (gz hZ hw 27 rfl) (gz hZ hw 28 rfl) (gz hZ hw 2 rfl) (gz hZ hw 29 rfl) (by decide) (backOf (W := 0) (rm_good l Z a0 hw [] (65 : Int32) (65 : Int32) (65 : Int32) T7.heap n0 Z0) hZ (gw hw 29 rfl) (gw hw 2 rfl) (by decide) (by decide)) (g := (mkF m 231 #[vi x0, vi x1, vi x2, vi x3, vi x4, vi 0, vi r1, vi r2, vi r3, vi r4, vr b5, vr b6, vi 65, vi 65, vi 65, vi 65, vu] [(.int 65), (.int 65), (.int 65)])) rfl hml.symm (argsL := [(.int 65), (.int 65), (.int 65)]) (rest := []) (lenOf own_pd19 rfl) rfl (wz rfl) (hb hby at_231) (fun _ _ => ⟨rfl, e8, (by decide : 6 + 0 ≤ _), (by decide : 12 + 0 ≤ _)⟩)
   dsimp only [Pt.U, Pt.locs, Pt.cells, Pt.slots] at X12 l12 y12 z12 st12 hQ12
   subst l12 y12 z12
   obtain ⟨rfl, N12q, e12⟩ := hQ12
   have N12 := Fr.app N8 N12q
   refine Gs st12 ?_
   show Goes _ _ _ _ _ (fT T12 m 234 #[vi x0, vi x1, vi x2, vi x3, vi x4, vi 0, vi r1, vi r2, vi r3, vi r4, vr b5, vr b6, vi 65, vi 65, vi 65, vi 65, vu] [(.int (gd (cls (65 : Int32)) (cls (65 : Int32)) (cls (65 : Int32))))])
   refine Gz (XS.ifNo X12.here hx rfl (hb hby at_234) rfl ((if0 _ _).trans (feq hc222_11).1)) ?_
   refine gI X12 hx hby at_237 rfl rfl ?_
   refine gI X12 hx hby at_239 rfl rfl ?_
   refine gI X12 hx hby at_241 rfl rfl ?_
   obtain ⟨_, _, ⟨T13, L13, k13, n13⟩, -, X13, ⟨Lc13, hQ13, l13, y13, z13⟩, st13⟩ := Jvm.LawKit.callS X12 hx (y := mN24) hown (gz hZ hw 27 rfl) (gz hZ hw 28 rfl) (gz hZ hw 2 rfl) (gz hZ hw 29 rfl) (by decide) (backOf (W := 0) (rm_good l Z a0 hw [] (65 : Int32) (65 : Int32) (65 : Int32) T7.heap n0 Z0) hZ (gw hw 29 rfl) (gw hw 2 rfl) (by decide) (by decide)) (g := (mkF m 243 #[vi x0, vi x1, vi x2, vi x3, vi x4, vi 0, vi r1, vi r2, vi r3, vi r4, vr b5, vr b6, vi 65, vi 65, vi 65, vi 65, vu] [(.int 65), (.int 65), (.int 65)])) rfl hml.symm (argsL := [(.int 65), (.int 65), (.int 65)]) (rest := []) (lenOf own_pd19 rfl) rfl (wz rfl) (hb hby at_243) (fun _ _ => ⟨rfl, e12, (by decide : 6 + 0 ≤ _), (by decide : 12 + 0 ≤ _)⟩)
   dsimp only [Pt.U, Pt.locs, Pt.cells, Pt.slots] at X13 l13 y13 z13 st13 hQ13
   subst l13 y13 z13
   obtain ⟨rfl, N13q, e13⟩ := hQ13
   have N13 := Fr.app N12 N13q
   refine Gs st13 ?_
   show Goes _ _ _ _ _ (fT T13 m 246 #[vi x0, vi x1, vi x2, vi x3, vi x4, vi 0, vi r1, vi r2, vi r3, vi r4, vr b5, vr b6, vi 65, vi 65, vi 65, vi 65, vu] [(.int (gd (cls (65 : Int32)) (cls (65 : Int32)) (cls (65 : Int32))))])
   refine Gz (XS.ifNo X13.here hx rfl (hb hby at_246) rfl ((if0 _ _).trans (feq hc222_11).1)) ?_
   refine gI X13 hx hby at_249 rfl rfl ?_
   refine gI X13 hx hby at_251 rfl rfl ?_
   refine Gz (XS.bipush X13.here hx rfl (hb hby at_253)) ?_
   obtain ⟨_, _, ⟨T14, L14, k14, n14⟩, -, X14, ⟨Lc14, hQ14, l14, y14, z14⟩, st14⟩ := Jvm.LawKit.callS X13 hx (y := mN24) hown (gz hZ hw 27 rfl) (gz hZ hw 28 rfl) (gz hZ hw 2 rfl) (gz hZ hw 29 rfl) (by decide) (backOf (W := 0) (rm_good l Z a0 hw [] (65 : Int32) (65 : Int32) (65 : Int32) T7.heap n0 Z0) hZ (gw hw 29 rfl) (gw hw 2 rfl) (by decide) (by decide)) (g := (mkF m 255 #[vi x0, vi x1, vi x2, vi x3, vi x4, vi 0, vi r1, vi r2, vi r3, vi r4, vr b5, vr b6, vi 65, vi 65, vi 65, vi 65, vu] [(.int 65), (.int 65), (.int 65)])) rfl hml.symm (argsL := [(.int 65), (.int 65), (.int 65)]) (rest := []) (lenOf own_pd19 rfl) rfl (wz rfl) (hb hby at_255) (fun _ _ => ⟨rfl, e13, (by decide : 6 + 0 ≤ _), (by decide : 12 + 0 ≤ _)⟩)
   dsimp only [Pt.U, Pt.locs, Pt.cells, Pt.slots] at X14 l14 y14 z14 st14 hQ14
   subst l14 y14 z14
   obtain ⟨rfl, N14q, e14⟩ := hQ14
   have N14 := Fr.app N13 N14q
   refine Gs st14 ?_
   show Goes _ _ _ _ _ (fT T14 m 258 #[vi x0, vi x1, vi x2, vi x3, vi x4, vi 0, vi r1, vi r2, vi r3, vi r4, vr b5, vr b6, vi 65, vi 65, vi 65, vi 65, vu] [(.int (gd (cls (65 : Int32)) (cls (65 : Int32)) (cls (65 : Int32))))])
   refine Gz (XS.ifNo X14.here hx rfl (hb hby at_258) rfl ((if0 _ _).trans (feq hc222_11).1)) ?_
   refine Gz (XS.iconst X14.here hx rfl (hb hby at_261)) ?_
   refine Gz (XS.goto X14.here hx rfl (pc0 := 262) (pc' := 266) rfl (hb hby at_262) (by decide) (by decide)) ?_
   show Goes _ _ _ _ _ (fT T14 m 266 #[vi x0, vi x1, vi x2, vi x3, vi x4, vi 0, vi r1, vi r2, vi r3, vi r4, vr b5, vr b6, vi 65, vi 65, vi 65, vi 65, vu] [(.int 1)])
   have q := J T14 _ X14 e14 N14
   rw [show (own_ex (gd (cls (65 : Int32)) (cls (65 : Int32)) (cls (65 : Int32))) (gd (cls (65 : Int32)) (cls (65 : Int32)) (cls (65 : Int32))) (gd (cls (65 : Int32)) (cls (65 : Int32)) (cls (65 : Int32))) (gd (cls (65 : Int32)) (cls (65 : Int32)) (cls (65 : Int32)))) = 1 from by rw [own_ex, if_neg hc222_11, if_neg hc222_11, if_neg hc222_11, if_neg hc222_11]] at q
   exact q
 ·show Goes _ _ _ _ _ (fT s₁ m 6 #[vi x0, vi x1, vi x2, vi x3, vi x4, vu, vu, vu, vu, vu, vu, vu, vu, vu, vu, vu, vu] [(.int 1)])
  refine Gz (XS.istore X0.here hx rfl (hb hby at_6) rfl (l' := #[vi x0, vi x1, vi x2, vi x3, vi x4, vi 1, vu, vu, vu, vu, vu, vu, vu, vu, vu, vu, vu]) rfl) ?_
  refine gN X0 hx hby at_8 rfl rfl ?_
  obtain ⟨_, _, ⟨T15, L15, k15, n15⟩, -, X15, ⟨Lc15, hQ15, l15, y15, z15⟩, st15⟩ := Jvm.LawKit.callS X0 hx (y := mN21) hown (gz hZ hw 0 rfl) (gz hZ hw 1 rfl) (gz hZ hw 2 rfl) (gz hZ hw 3 rfl) (by decide) (backOf (W := 0) (rm_draw l Z a0 hw [] x1 h0 n0 Z0) hZ (gw hw 3 rfl) (gw hw 2 rfl) (by decide) (by decide)) (g := (mkF m 9 #[vi x0, vi x1, vi x2, vi x3, vi x4, vi 1, vu, vu, vu, vu, vu, vu, vu, vu, vu, vu, vu] [(.int x1)])) rfl hml.symm (argsL := [(.int x1)]) (rest := []) (lenOf own_pd17 rfl) rfl (wz rfl) (hb hby at_9) (fun _ _ => ⟨rfl, e0, z0, z0⟩)
  dsimp only [Pt.U, Pt.locs, Pt.cells, Pt.slots] at X15 l15 y15 z15 st15 hQ15
  subst l15 y15 z15
  obtain ⟨r15, rfl, N15q, e15, hCd_15⟩ := hQ15
  have N15 := Fr.app N0 N15q
  refine Gs st15 ?_
  show Goes _ _ _ _ _ (fT T15 m 12 #[vi x0, vi x1, vi x2, vi x3, vi x4, vi 1, vu, vu, vu, vu, vu, vu, vu, vu, vu, vu, vu] [(.int r15)])
  refine Gz (XS.istore X15.here hx rfl (hb hby at_12) rfl (l' := #[vi x0, vi x1, vi x2, vi x3, vi x4, vi 1, vi r15, vu, vu, vu, vu, vu, vu, vu, vu, vu, vu]) rfl) ?_
  refine gN X15 hx hby at_14 rfl rfl ?_
  obtain ⟨_, _, ⟨T16, L16, k16, n16⟩, -, X16, ⟨Lc16, hQ16, l16, y16, z16⟩, st16⟩ := Jvm.LawKit.callS X15 hx (y := mN21) hown (gz hZ hw 0 rfl) (gz hZ hw 1 rfl) (gz hZ hw 2 rfl) (gz hZ hw 3 rfl) (by decide) (backOf (W := 0) (rm_draw l Z a0 hw [] x2 h0 n0 Z0) hZ (gw hw 3 rfl) (gw hw 2 rfl) (by decide) (by decide)) (g := (mkF m 15 #[vi x0, vi x1, vi x2, vi x3, vi x4, vi 1, vi r15, vu, vu, vu, vu, vu, vu, vu, vu, vu, vu] [(.int x2)])) rfl hml.symm (argsL := [(.int x2)]) (rest := []) (lenOf own_pd17 rfl) rfl (wz rfl) (hb hby at_15) (fun _ _ => ⟨rfl, e15, z0, z0⟩)
  dsimp only [Pt.U, Pt.locs, Pt.cells, Pt.slots] at X16 l16 y16 z16 st16 hQ16
  subst l16 y16 z16
  obtain ⟨r16, rfl, N16q, e16, hCd_16⟩ := hQ16
  have N16 := Fr.app N15 N16q
  refine Gs st16 ?_
  show Goes _ _ _ _ _ (fT T16 m 18 #[vi x0, vi x1, vi x2, vi x3, vi x4, vi 1, vi r15, vu, vu, vu, vu, vu, vu, vu, vu, vu, vu] [(.int r16)])
  refine Gz (XS.istore X16.here hx rfl (hb hby at_18) rfl (l' := #[vi x0, vi x1, vi x2, vi x3, vi x4, vi 1, vi r15, vi r16, vu, vu, vu, vu, vu, vu, vu, vu, vu]) rfl) ?_
  refine gN X16 hx hby at_20 rfl rfl ?_
  obtain ⟨_, _, ⟨T17, L17, k17, n17⟩, -, X17, ⟨Lc17, hQ17, l17, y17, z17⟩, st17⟩ := Jvm.LawKit.callS X16 hx (y := mN21) hown (gz hZ hw 0 rfl) (gz hZ hw 1 rfl) (gz hZ hw 2 rfl) (gz hZ hw 3 rfl) (by decide) (backOf (W := 0) (rm_draw l Z a0 hw [] x3 h0 n0 Z0) hZ (gw hw 3 rfl) (gw hw 2 rfl) (by decide) (by decide)) (g := (mkF m 21 #[vi x0, vi x1, vi x2, vi x3, vi x4, vi 1, vi r15, vi r16, vu, vu, vu, vu, vu, vu, vu, vu, vu] [(.int x3)])) rfl hml.symm (argsL := [(.int x3)]) (rest := []) (lenOf own_pd17 rfl) rfl (wz rfl) (hb hby at_21) (fun _ _ => ⟨rfl, e16, z0, z0⟩)
  dsimp only [Pt.U, Pt.locs, Pt.cells, Pt.slots] at X17 l17 y17 z17 st17 hQ17
  subst l17 y17 z17
  obtain ⟨r17, rfl, N17q, e17, hCd_17⟩ := hQ17
  have N17 := Fr.app N16 N17q
  refine Gs st17 ?_
  show Goes _ _ _ _ _ (fT T17 m 24 #[vi x0, vi x1, vi x2, vi x3, vi x4, vi 1, vi r15, vi r16, vu, vu, vu, vu, vu, vu, vu, vu, vu] [(.int r17)])
  refine Gz (XS.istore X17.here hx rfl (hb hby at_24) rfl (l' := #[vi x0, vi x1, vi x2, vi x3, vi x4, vi 1, vi r15, vi r16, vi r17, vu, vu, vu, vu, vu, vu, vu, vu]) rfl) ?_
  refine gI X17 hx hby at_26 rfl rfl ?_
  obtain ⟨_, _, ⟨T18, L18, k18, n18⟩, -, X18, ⟨Lc18, hQ18, l18, y18, z18⟩, st18⟩ := Jvm.LawKit.callS X17 hx (y := mN21) hown (gz hZ hw 0 rfl) (gz hZ hw 1 rfl) (gz hZ hw 2 rfl) (gz hZ hw 3 rfl) (by decide) (backOf (W := 0) (rm_draw l Z a0 hw [] x4 h0 n0 Z0) hZ (gw hw 3 rfl) (gw hw 2 rfl) (by decide) (by decide)) (g := (mkF m 28 #[vi x0, vi x1, vi x2, vi x3, vi x4, vi 1, vi r15, vi r16, vi r17, vu, vu, vu, vu, vu, vu, vu, vu] [(.int x4)])) rfl hml.symm (argsL := [(.int x4)]) (rest := []) (lenOf own_pd17 rfl) rfl (wz rfl) (hb hby at_28) (fun _ _ => ⟨rfl, e17, z0, z0⟩)
  dsimp only [Pt.U, Pt.locs, Pt.cells, Pt.slots] at X18 l18 y18 z18 st18 hQ18
  subst l18 y18 z18
  obtain ⟨r18, rfl, N18q, e18, hCd_18⟩ := hQ18
  have N18 := Fr.app N17 N18q
  refine Gs st18 ?_
  show Goes _ _ _ _ _ (fT T18 m 31 #[vi x0, vi x1, vi x2, vi x3, vi x4, vi 1, vi r15, vi r16, vi r17, vu, vu, vu, vu, vu, vu, vu, vu] [(.int r18)])
  refine Gz (XS.istore X18.here hx rfl (hb hby at_31) rfl (l' := #[vi x0, vi x1, vi x2, vi x3, vi x4, vi 1, vi r15, vi r16, vi r17, vi r18, vu, vu, vu, vu, vu, vu, vu]) rfl) ?_
  refine gI X18 hx hby at_33 rfl rfl ?_
  refine Gz (XS.ifYes X18.here hx rfl (pc0 := 35) (pc' := 46) rfl (hb hby at_35) rfl ((if0 _ _).trans (feq (by decide : ¬ ((1 : Int32) = (0 : Int32)))).2) (by decide) (by decide)) ?_
  refine gI X18 hx hby at_46 rfl rfl ?_
  refine Gz (XS.iconst X18.here hx rfl (hb hby at_48)) ?_
  refine Gz (XS.icmpNo X18.here hx rfl (hb hby at_49) rfl (teq (by decide : ((1 : Int32) = (1 : Int32)))).2) ?_
  show Goes _ _ _ _ _ (fT T18 m 52 #[vi x0, vi x1, vi x2, vi x3, vi x4, vi 1, vi r15, vi r16, vi r17, vi r18, vu, vu, vu, vu, vu, vu, vu] [])
  refine Gz (XS.iconst X18.here hx rfl (hb hby at_52)) ?_
  obtain ⟨T19, h19, k19, X19, e19, E19, A19, st19⟩ := newP X18 hx hZ (gw hw 5 rfl) e18 (g := (mkF m 53 #[vi x0, vi x1, vi x2, vi x3, vi x4, vi 1, vi r15, vi r16, vi r17, vi r18, vu, vu, vu, vu, vu, vu, vu] [(.int 1)])) rfl (hb hby at_53) rfl (by decide) (cap := 1) (by decide) (by decide) (by decide) (by decide)
  obtain ⟨b19, gq19⟩ : ∃ z, z = h0.size := ⟨_, rfl⟩
  rw [← gq19] at A19 st19
  have g_b19 : n0 ≤ b19 := by rw [gq19]; exact Z0
  have Sf_b19 : Safe Z consts_1 s.vm h0 b19 := Safe.new (Nat.le_of_eq gq19.symm)
  replace Sf_b19 := Safe.ext E19 hR.1 Sf_b19
  replace hR := hR.trans (CHr.ext E19 hR.1)
  replace sgC := sgC.ext E19
  replace sgF := sgF.ext E19
  replace sgA := sgA.ext E19
  replace sgH := sgH.ext E19
  replace sgL := sgL.ext E19
  replace Z0 : n0 ≤ h19.size := Nat.le_trans Z0 E19.1
  replace hk := Nat.le_trans hk E19.1
  have V_b19 : Arv Z h19 b19 k19 .char 1 [(.int 0)] (.int 0) := (Arv.new A19 (by decide)).pad (pad_rep [] (.int 0) 1)
  refine Gs st19 ?_
  show Goes _ _ _ _ _ (fT T19 m 55 #[vi x0, vi x1, vi x2, vi x3, vi x4, vi 1, vi r15, vi r16, vi r17, vi r18, vu, vu, vu, vu, vu, vu, vu] [(.ref b19)])
  refine Gz (XS.dup X19.here hx rfl (hb hby at_55) rfl rfl) ?_
  refine Gz (XS.iconst X19.here hx rfl (hb hby at_56)) ?_
  refine gI X19 hx hby at_57 rfl rfl ?_
  obtain ⟨cl20, Ar20, q20, S20, N20z, H20, G20⟩ := V_b19
  have hin20 : ¬ ((0 : Int32) < 0 ∨ cl20.slots.size ≤ ((0 : Int32)).toNatClampNeg) := inb_of S20 ⟨by decide, by decide⟩
  obtain ⟨T20, h20, X20, e20, W20, st20⟩ := stC X19 hx hZ e19 Ar20 (j := (0 : Int32)) hin20 (g := (mkF m 59 #[vi x0, vi x1, vi x2, vi x3, vi x4, vi 1, vi r15, vi r16, vi r17, vi r18, vu, vu, vu, vu, vu, vu, vu] [(.int r15), (.int 0), (.ref b19), (.ref b19)])) rfl rfl (hb hby at_59)
  have Vn20 := Arv.set Ar20 q20 S20 N20z H20 G20 (fits_nar_char _) W20 0 rfl (Nat.le_of_ble_eq_true rfl)
  have N20 := Fr.snoc X20 N18 g_b19
  replace hR := hR.trans (CHr.wr W20 Sf_b19 hR.1)
  replace sgC := sgC.wr W20
  replace sgF := sgF.wr W20
  replace sgA := sgA.wr W20
  replace sgH := sgH.wr W20
  replace sgL := sgL.wr W20
  have V_b19 : Arv Z h20 b19 k19 .char 1 [(.int r15)] (.int 0) := by have q := Vn20; rw [own_nc hCd_15] at q; exact q
  replace Z0 : n0 ≤ h20.size := by rw [W20.size]; exact Z0
  replace hk := Nat.le_trans hk (Nat.le_of_eq W20.size.symm)
  refine Gs st20 ?_
  show Goes _ _ _ _ _ (fT T20 m 60 #[vi x0, vi x1, vi x2, vi x3, vi x4, vi 1, vi r15, vi r16, vi r17, vi r18, vu, vu, vu, vu, vu, vu, vu] [(.ref b19)])
  refine Gz (XS.astore X20.here hx rfl (hb hby at_60) rfl rfl (l' := #[vi x0, vi x1, vi x2, vi x3, vi x4, vi 1, vi r15, vi r16, vi r17, vi r18, vr b19, vu, vu, vu, vu, vu, vu]) rfl) ?_
  refine Gz (XS.goto X20.here hx rfl (pc0 := 62) (pc' := 143) rfl (hb hby at_62) (by decide) (by decide)) ?_
  obtain ⟨T21, h21, X21, e21, E21, A21, D21, -, st21⟩ := newO X20 hx hZ hown (gw hw 6 rfl) (gw hw 7 rfl) (gw hw 8 rfl) e20 (g := (mkF m 143 #[vi x0, vi x1, vi x2, vi x3, vi x4, vi 1, vi r15, vi r16, vi r17, vi r18, vr b19, vu, vu, vu, vu, vu, vu] [])) rfl (hb hby at_143) (by decide) (by decide)
  obtain ⟨b21, gq21⟩ : ∃ z, z = h20.size := ⟨_, rfl⟩
  rw [← gq21] at A21 st21 D21
  have g_b21 : n0 ≤ b21 := by rw [gq21]; exact Z0
  have ne_b19_b21 : b19 ≠ b21 := by rw [gq21]; exact Nat.ne_of_lt V_b19.lt
  have Sf_b21 : Safe Z consts_1 s.vm h20 b21 := Safe.new (Nat.le_of_eq gq21.symm)
  replace Sf_b21 := Safe.ext E21 hR.1 Sf_b21
  replace hR := hR.trans (CHr.ext E21 hR.1)
  replace sgC := sgC.ext E21
  replace sgF := sgF.ext E21
  replace sgA := sgA.ext E21
  replace sgH := sgH.ext E21
  replace sgL := sgL.ext E21
  replace V_b19 := V_b19.ext E21
  replace Z0 : n0 ≤ h21.size := Nat.le_trans Z0 E21.1
  replace hk := Nat.le_trans hk E21.1
  have A_b21 : Exa Z h21 b21 "java/lang/String" := A21
  have F_value_b21 : Fld Z h21 b21 "java/lang/String" "value" "[B" .null := D21 (Or.inr (gw hw 21 rfl)) (ty := (.array .byte)) (by decide)
  have F_coder_b21 : Fld Z h21 b21 "java/lang/String" "coder" "B" (.int 0) := D21 (Or.inr (gw hw 22 rfl)) (ty := .byte) (by decide)
  refine Gs st21 ?_
  show Goes _ _ _ _ _ (fT T21 m 146 #[vi x0, vi x1, vi x2, vi x3, vi x4, vi 1, vi r15, vi r16, vi r17, vi r18, vr b19, vu, vu, vu, vu, vu, vu] [(.ref b21)])
  refine Gz (XS.dup X21.here hx rfl (hb hby at_146) rfl rfl) ?_
  refine Gz (XS.aload X21.here hx rfl (hb hby at_147) rfl rfl) ?_
  obtain ⟨_, _, ⟨T22, L22, k22, n22⟩, -, X22, ⟨Lc22, hQ22, l22, y22, z22⟩, st22⟩ := X21.specialBack hx (y := mN13) rfl hown (gz hZ hw 9 rfl) (gz hZ hw 10 rfl) (gz hZ hw 11 rfl) (by decide) (backOf (W := 1) (rs_i1_1 l Z a0 hw [] b21 b19 k19 r15 cz h21 n0 Z0 A_b21 F_value_b21 F_coder_b21 V_b19 g_b21 ne_b19_b21 sgC (by first | assumption | decide) hCd_15 sgA sgH sgL) hZ (gw hw 11 rfl) (gw hw 8 rfl) (by decide) (by decide)) (g := (mkF m 149 #[vi x0, vi x1, vi x2, vi x3, vi x4, vi 1, vi r15, vi r16, vi r17, vi r18, vr b19, vu, vu, vu, vu, vu, vu] [(.ref b19), (.ref b21), (.ref b21)])) rfl hml.symm (Steps.refl _) (a := b21) (argsL := [(.ref b19)]) (rest := [(.ref b21)]) (lenOf own_pd18 rfl) rfl (wz rfl) (hb hby at_149) (fun _ _ => ⟨rfl, e21, (by decide : 2 + 2 ≤ _), (by decide : 5 + 3 ≤ _)⟩)
  dsimp only [Pt.U, Pt.locs, Pt.cells, Pt.slots] at X22 l22 y22 z22 st22 hQ22
  subst l22 y22 z22
  obtain ⟨rfl, N22q, K22, T_b21_22'⟩ := hQ22
  have N22 := Fr.app N20 N22q
  replace sgC := own_staK sgC K22 (allS (own_obE A_b21) all0)
  replace sgF := own_staK sgF K22 (allS (own_obE A_b21) all0)
  replace sgA := own_staK sgA K22 (allS (own_obE A_b21) all0)
  replace sgH := own_staK sgH K22 (allS (own_obE A_b21) all0)
  replace sgL := own_staK sgL K22 (allS (own_obE A_b21) all0)
  replace hR := hR.trans (CHr.keep K22 (allS Sf_b21 all0) hR.1)
  replace Z0 := Nat.le_trans Z0 K22.1
  replace hk := Nat.le_trans hk K22.1
  have T_b21 := T_b21_22'
  refine Gs (fun _ tk => st22.trans tk) ?_
  show Goes _ _ _ _ _ (fT T22 m 152 #[vi x0, vi x1, vi x2, vi x3, vi x4, vi 1, vi r15, vi r16, vi r17, vi r18, vr b19, vu, vu, vu, vu, vu, vu] [(.ref b21)])
  refine Gz (XS.astore X22.here hx rfl (hb hby at_152) rfl rfl (l' := #[vi x0, vi x1, vi x2, vi x3, vi x4, vi 1, vi r15, vi r16, vi r17, vi r18, vr b19, vr b21, vu, vu, vu, vu, vu]) rfl) ?_
  refine gI X22 hx hby at_154 rfl rfl ?_
  refine Gz (XS.ifNo X22.here hx rfl (hb hby at_156) rfl ((if0 _ _).trans (tlt (by decide : ((0 : Int32) < (1 : Int32)))).2.2.2)) ?_
  refine gI X22 hx hby at_159 rfl rfl ?_
  refine Gz (XS.goto X22.here hx rfl (pc0 := 161) (pc' := 166) rfl (hb hby at_161) (by decide) (by decide)) ?_
  refine Gz (XS.istore X22.here hx rfl (hb hby at_166) rfl (l' := #[vi x0, vi x1, vi x2, vi x3, vi x4, vi 1, vi r15, vi r16, vi r17, vi r18, vr b19, vr b21, vi r15, vu, vu, vu, vu]) rfl) ?_
  show Goes _ _ _ _ _ (fT T22 m 168 #[vi x0, vi x1, vi x2, vi x3, vi x4, vi 1, vi r15, vi r16, vi r17, vi r18, vr b19, vr b21, vi r15, vu, vu, vu, vu] [])
  refine gI X22 hx hby at_168 rfl rfl ?_
  refine Gz (XS.iconst X22.here hx rfl (hb hby at_170)) ?_
  refine Gz (XS.icmpYes X22.here hx rfl (pc0 := 171) (pc' := 179) rfl (hb hby at_171) rfl (flt (by decide : ¬ ((1 : Int32) < (1 : Int32)))).2.2.2 (by decide) (by decide)) ?_
  refine Gz (XS.bipush X22.here hx rfl (hb hby at_179)) ?_
  refine Gz (XS.istore X22.here hx rfl (hb hby at_181) rfl (l' := #[vi x0, vi x1, vi x2, vi x3, vi x4, vi 1, vi r15, vi r16, vi r17, vi r18, vr b19, vr b21, vi r15, vi 65, vu, vu, vu]) rfl) ?_
  refine gI X22 hx hby at_183 rfl rfl ?_
  show Goes _ _ _ _ _ (fT T22 m 185 #[vi x0, vi x1, vi x2, vi x3, vi x4, vi 1, vi r15, vi r16, vi r17, vi r18, vr b19, vr b21, vi r15, vi 65, vu, vu, vu] [(.int 1)])
  refine Gz (XS.iconst X22.here hx rfl (hb hby at_185)) ?_
  refine Gz (XS.icmpYes X22.here hx rfl (pc0 := 186) (pc' := 194) rfl (hb hby at_186) rfl (flt (by decide : ¬ ((2 : Int32) < (1 : Int32)))).2.2.2 (by decide) (by decide)) ?_
  refine Gz (XS.bipush X22.here hx rfl (hb hby at_194)) ?_
  refine Gz (XS.istore X22.here hx rfl (hb hby at_196) rfl (l' := #[vi x0, vi x1, vi x2, vi x3, vi x4, vi 1, vi r15, vi r16, vi r17, vi r18, vr b19, vr b21, vi r15, vi 65, vi 65, vu, vu]) rfl) ?_
  refine gI X22 hx hby at_198 rfl rfl ?_
  refine Gz (XS.iconst X22.here hx rfl (hb hby at_200)) ?_
  show Goes _ _ _ _ _ (fT T22 m 201 #[vi x0, vi x1, vi x2, vi x3, vi x4, vi 1, vi r15, vi r16, vi r17, vi r18, vr b19, vr b21, vi r15, vi 65, vi 65, vu, vu] [(.int 3), (.int 1)])
  refine Gz (XS.icmpYes X22.here hx rfl (pc0 := 201) (pc' := 209) rfl (hb hby at_201) rfl (flt (by decide : ¬ ((3 : Int32) < (1 : Int32)))).2.2.2 (by decide) (by decide)) ?_
  refine Gz (XS.bipush X22.here hx rfl (hb hby at_209)) ?_
  refine Gz (XS.istore X22.here hx rfl (hb hby at_211) rfl (l' := #[vi x0, vi x1, vi x2, vi x3, vi x4, vi 1, vi r15, vi r16, vi r17, vi r18, vr b19, vr b21, vi r15, vi 65, vi 65, vi 65, vu]) rfl) ?_
  refine Gz (XS.bipush X22.here hx rfl (hb hby at_213)) ?_
  refine gI X22 hx hby at_215 rfl rfl ?_
  refine gI X22 hx hby at_217 rfl rfl ?_
  show Goes _ _ _ _ _ (fT T22 m 219 #[vi x0, vi x1, vi x2, vi x3, vi x4, vi 1, vi r15, vi r16, vi r17, vi r18, vr b19, vr b21, vi r15, vi 65, vi 65, vi 65, vu] [(.int 65), (.int r15), (.int 65)])
  obtain ⟨_, _, ⟨T23, L23, k23, n23⟩, -, X23, ⟨Lc23, hQ23, l23, y23, z23⟩, st23⟩ := Jvm.LawKit.callS X22 hx (y := mN24) hown (gz hZ hw 27 rfl) (gz hZ hw 28 rfl) (gz hZ hw 2 rfl) (gz hZ hw 29 rfl) (by decide) (backOf (W := 0) (rm_good l Z a0 hw [] (65 : Int32) r15 (65 : Int32) T22.heap n0 Z0) hZ (gw hw 29 rfl) (gw hw 2 rfl) (by decide) (by decide)) (g := (mkF m 219 #[vi x0, vi x1, vi x2, vi x3, vi x4, vi 1, vi r15, vi r16, vi r17, vi r18, vr b19, vr b21, vi r15, vi 65, vi 65, vi 65, vu] [(.int 65), (.int r15), (.int 65)])) rfl hml.symm (argsL := [(.int 65), (.int r15), (.int 65)]) (rest := []) (lenOf own_pd19 rfl) rfl (wz rfl) (hb hby at_219) (fun _ _ => ⟨rfl, rfl, (by decide : 4 + 0 ≤ _), (by decide : 8 + 0 ≤ _)⟩)
  dsimp only [Pt.U, Pt.locs, Pt.cells, Pt.slots] at X23 l23 y23 z23 st23 hQ23
  subst l23 y23 z23
  obtain ⟨rfl, N23q, e23⟩ := hQ23
  have N23 := Fr.app N22 N23q
  refine Gs st23 ?_
  show Goes _ _ _ _ _ (fT T23 m 222 #[vi x0, vi x1, vi x2, vi x3, vi x4, vi 1, vi r15, vi r16, vi r17, vi r18, vr b19, vr b21, vi r15, vi 65, vi 65, vi 65, vu] [(.int (gd (cls (65 : Int32)) (cls r15) (cls (65 : Int32))))])
  refine own_joinT X23 e23 N23 (B := fun T => T.setTop (mkF m 266 #[vi x0, vi x1, vi x2, vi x3, vi x4, vi 1, vi r15, vi r16, vi r17, vi r18, vr b19, vr b21, vi r15, vi 65, vi 65, vi 65, vu] [(.int (own_ex (gd (cls (65 : Int32)) (cls r15) (cls (65 : Int32))) (gd (cls r15) (cls (65 : Int32)) (cls (65 : Int32))) (gd (cls (65 : Int32)) (cls (65 : Int32)) (cls (65 : Int32))) (gd (cls (65 : Int32)) (cls (65 : Int32)) (cls (65 : Int32)))))])) ?_ ?_
  ·intro T L X E N
   show Goes _ _ _ _ _ (fT T m 266 #[vi x0, vi x1, vi x2, vi x3, vi x4, vi 1, vi r15, vi r16, vi r17, vi r18, vr b19, vr b21, vi r15, vi 65, vi 65, vi 65, vu] [(.int (own_ex (gd (cls (65 : Int32)) (cls r15) (cls (65 : Int32))) (gd (cls r15) (cls (65 : Int32)) (cls (65 : Int32))) (gd (cls (65 : Int32)) (cls (65 : Int32)) (cls (65 : Int32))) (gd (cls (65 : Int32)) (cls (65 : Int32)) (cls (65 : Int32)))))])
   refine Gz (XS.istore X.here hx rfl (hb hby at_266) rfl (l' := #[vi x0, vi x1, vi x2, vi x3, vi x4, vi 1, vi r15, vi r16, vi r17, vi r18, vr b19, vr b21, vi r15, vi 65, vi 65, vi 65, vi (own_ex (gd (cls (65 : Int32)) (cls r15) (cls (65 : Int32))) (gd (cls r15) (cls (65 : Int32)) (cls (65 : Int32))) (gd (cls (65 : Int32)) (cls (65 : Int32)) (cls (65 : Int32))) (gd (cls (65 : Int32)) (cls (65 : Int32)) (cls (65 : Int32))))]) rfl) ?_
   refine Gz (XS.aload X.here hx rfl (hb hby at_268) rfl rfl) ?_
   obtain ⟨_, _, ⟨T24, L24, k24, n24⟩, -, X24, ⟨Lc24, hQ24, l24, y24, z24⟩, st24⟩ := Jvm.LawKit.callS X hx (y := mN26) hown (gz hZ hw 37 rfl) (gz hZ hw 38 rfl) (gz hZ hw 39 rfl) (gz hZ hw 40 rfl) (by decide) (backOf (W := 0) (rm_ch l Z a0 hw [] b21 [r15] cz fo T22.heap n0 Z0 T_b21 sgC (by first | assumption | decide) sgF (by first | assumption | decide) sgA sgH sgL) hZ (gw hw 40 rfl) (gw hw 39 rfl) (by decide) (by decide)) (g := (mkF m 270 #[vi x0, vi x1, vi x2, vi x3, vi x4, vi 1, vi r15, vi r16, vi r17, vi r18, vr b19, vr b21, vi r15, vi 65, vi 65, vi 65, vi (own_ex (gd (cls (65 : Int32)) (cls r15) (cls (65 : Int32))) (gd (cls r15) (cls (65 : Int32)) (cls (65 : Int32))) (gd (cls (65 : Int32)) (cls (65 : Int32)) (cls (65 : Int32))) (gd (cls (65 : Int32)) (cls (65 : Int32)) (cls (65 : Int32))))] [(.ref b21)])) rfl hml.symm (argsL := [(.ref b21)]) (rest := []) (lenOf own_pd20 rfl) rfl (wz rfl) (hb hby at_270) (fun _ _ => ⟨rfl, E, (by decide : 4 + 0 ≤ _), (by decide : 8 + 0 ≤ _)⟩)
   dsimp only [Pt.U, Pt.locs, Pt.cells, Pt.slots] at X24 l24 y24 z24 st24 hQ24
   subst l24 y24 z24
   obtain ⟨rfl, N24q, e24⟩ := hQ24
   have N24 := Fr.app N N24q
   refine Gs st24 ?_
   show Goes _ _ _ _ _ (fT T24 m 273 #[vi x0, vi x1, vi x2, vi x3, vi x4, vi 1, vi r15, vi r16, vi r17, vi r18, vr b19, vr b21, vi r15, vi 65, vi 65, vi 65, vi (own_ex (gd (cls (65 : Int32)) (cls r15) (cls (65 : Int32))) (gd (cls r15) (cls (65 : Int32)) (cls (65 : Int32))) (gd (cls (65 : Int32)) (cls (65 : Int32)) (cls (65 : Int32))) (gd (cls (65 : Int32)) (cls (65 : Int32)) (cls (65 : Int32))))] [(.int (chK (List.map cls [r15])))])
   refine gI X24 hx hby at_273 rfl rfl ?_
   have hc275_25 : (chK (List.map cls [r15])) = (own_ex (gd (cls (65 : Int32)) (cls r15) (cls (65 : Int32))) (gd (cls r15) (cls (65 : Int32)) (cls (65 : Int32))) (gd (cls (65 : Int32)) (cls (65 : Int32)) (cls (65 : Int32))) (gd (cls (65 : Int32)) (cls (65 : Int32)) (cls (65 : Int32)))) := (show ∀ k0 : Fin 4, chK [k0] = (own_ex (gd (cls (65 : Int32)) k0 (cls (65 : Int32))) (gd k0 (cls (65 : Int32)) (cls (65 : Int32))) (gd (cls (65 : Int32)) (cls (65 : Int32)) (cls (65 : Int32))) (gd (cls (65 : Int32)) (cls (65 : Int32)) (cls (65 : Int32)))) from by simp only [own_65]; decide +kernel) (cls r15)
   refine Gz (XS.icmpNo X24.here hx rfl (hb hby at_275) rfl (teq hc275_25).2) ?_
   refine Gz (XS.iconst X24.here hx rfl (hb hby at_278)) ?_
   refine Gz (XS.goto X24.here hx rfl (pc0 := 279) (pc' := 283) rfl (hb hby at_279) (by decide) (by decide)) ?_
   refine Goes.retH X24 hS e24 hk hZ (own_EW hw) hh hR (some (.int 1)) (fun h => by rw [hret] at h; cases h) hlk (by decide) (by decide) ?_ (fun fs hr => ?_)
   ·rw [e24]; exact ⟨rfl, N24⟩
   ·exact own_retN X24 hx (t := .boolean) hret (by simp) rfl (hb hby at_283) hr
  intro J
  by_cases hc222_26 : (gd (cls (65 : Int32)) (cls r15) (cls (65 : Int32))) = 0
  ·refine Gz (XS.ifYes X23.here hx rfl (pc0 := 222) (pc' := 265) rfl (hb hby at_222) rfl ((if0 _ _).trans (teq hc222_26).1) (by decide) (by decide)) ?_
   refine Gz (XS.iconst X23.here hx rfl (hb hby at_265)) ?_
   show Goes _ _ _ _ _ (fT T23 m 266 #[vi x0, vi x1, vi x2, vi x3, vi x4, vi 1, vi r15, vi r16, vi r17, vi r18, vr b19, vr b21, vi r15, vi 65, vi 65, vi 65, vu] [(.int 0)])
   have q := J T23 _ X23 e23 N23
   rw [show (own_ex (gd (cls (65 : Int32)) (cls r15) (cls (65 : Int32))) (gd (cls r15) (cls (65 : Int32)) (cls (65 : Int32))) (gd (cls (65 : Int32)) (cls (65 : Int32)) (cls (65 : Int32))) (gd (cls (65 : Int32)) (cls (65 : Int32)) (cls (65 : Int32)))) = 0 from by rw [own_ex, if_pos hc222_26]] at q
   exact q
  ·refine Gz (XS.ifNo X23.here hx rfl (hb hby at_222) rfl ((if0 _ _).trans (feq hc222_26).1)) ?_
   refine gI X23 hx hby at_225 rfl rfl ?_
   refine gI X23 hx hby at_227 rfl rfl ?_
   refine gI X23 hx hby at_229 rfl rfl ?_
   obtain ⟨_, _, ⟨T27, L27, k27, n27⟩, -, X27, ⟨Lc27, hQ27, l27, y27, z27⟩, st27⟩ := Jvm.LawKit.callS X23 hx (y := mN24) hown (gz hZ hw 27 rfl) (gz hZ hw 28 rfl) (gz hZ hw 2 rfl) (gz hZ hw 29 rfl) (by decide) (backOf (W := 0) (rm_good l Z a0 hw [] r15 (65 : Int32) (65 : Int32) T22.heap n0 Z0) hZ (gw hw 29 rfl) (gw hw 2 rfl) (by decide) (by decide)) (g := (mkF m 231 #[vi x0, vi x1, vi x2, vi x3, vi x4, vi 1, vi r15, vi r16, vi r17, vi r18, vr b19, vr b21, vi r15, vi 65, vi 65, vi 65, vu] [(.int 65), (.int 65), (.int r15)])) rfl hml.symm (argsL := [(.int r15), (.int 65), (.int 65)]) (rest := []) (lenOf own_pd19 rfl) rfl (wz rfl) (hb hby at_231) (fun _ _ => ⟨rfl, e23, (by decide : 4 + 0 ≤ _), (by decide : 8 + 0 ≤ _)⟩)
   dsimp only [Pt.U, Pt.locs, Pt.cells, Pt.slots] at X27 l27 y27 z27 st27 hQ27
   subst l27 y27 z27
   obtain ⟨rfl, N27q, e27⟩ := hQ27
   have N27 := Fr.app N23 N27q
   refine Gs st27 ?_
   show Goes _ _ _ _ _ (fT T27 m 234 #[vi x0, vi x1, vi x2, vi x3, vi x4, vi 1, vi r15, vi r16, vi r17, vi r18, vr b19, vr b21, vi r15, vi 65, vi 65, vi 65, vu] [(.int (gd (cls r15) (cls (65 : Int32)) (cls (65 : Int32))))])
   by_cases hc234_28 : (gd (cls r15) (cls (65 : Int32)) (cls (65 : Int32))) = 0
   ·refine Gz (XS.ifYes X27.here hx rfl (pc0 := 234) (pc' := 265) rfl (hb hby at_234) rfl ((if0 _ _).trans (teq hc234_28).1) (by decide) (by decide)) ?_
    refine Gz (XS.iconst X27.here hx rfl (hb hby at_265)) ?_
    show Goes _ _ _ _ _ (fT T27 m 266 #[vi x0, vi x1, vi x2, vi x3, vi x4, vi 1, vi r15, vi r16, vi r17, vi r18, vr b19, vr b21, vi r15, vi 65, vi 65, vi 65, vu] [(.int 0)])
    have q := J T27 _ X27 e27 N27
    rw [show (own_ex (gd (cls (65 : Int32)) (cls r15) (cls (65 : Int32))) (gd (cls r15) (cls (65 : Int32)) (cls (65 : Int32))) (gd (cls (65 : Int32)) (cls (65 : Int32)) (cls (65 : Int32))) (gd (cls (65 : Int32)) (cls (65 : Int32)) (cls (65 : Int32)))) = 0 from by rw [own_ex, if_neg hc222_26, if_pos hc234_28]] at q
    exact q
   ·refine Gz (XS.ifNo X27.here hx rfl (hb hby at_234) rfl ((if0 _ _).trans (feq hc234_28).1)) ?_
    refine gI X27 hx hby at_237 rfl rfl ?_
    refine gI X27 hx hby at_239 rfl rfl ?_
    refine gI X27 hx hby at_241 rfl rfl ?_
    obtain ⟨_, _, ⟨T29, L29, k29, n29⟩, -, X29, ⟨Lc29, hQ29, l29, y29, z29⟩, st29⟩ := Jvm.LawKit.callS X27 hx (y := mN24) hown (gz hZ hw 27 rfl) (gz hZ hw 28 rfl) (gz hZ hw 2 rfl) (gz hZ hw 29 rfl) (by decide) (backOf (W := 0) (rm_good l Z a0 hw [] (65 : Int32) (65 : Int32) (65 : Int32) T22.heap n0 Z0) hZ (gw hw 29 rfl) (gw hw 2 rfl) (by decide) (by decide)) (g := (mkF m 243 #[vi x0, vi x1, vi x2, vi x3, vi x4, vi 1, vi r15, vi r16, vi r17, vi r18, vr b19, vr b21, vi r15, vi 65, vi 65, vi 65, vu] [(.int 65), (.int 65), (.int 65)])) rfl hml.symm (argsL := [(.int 65), (.int 65), (.int 65)]) (rest := []) (lenOf own_pd19 rfl) rfl (wz rfl) (hb hby at_243) (fun _ _ => ⟨rfl, e27, (by decide : 4 + 0 ≤ _), (by decide : 8 + 0 ≤ _)⟩)
    dsimp only [Pt.U, Pt.locs, Pt.cells, Pt.slots] at X29 l29 y29 z29 st29 hQ29
    subst l29 y29 z29
    obtain ⟨rfl, N29q, e29⟩ := hQ29
    have N29 := Fr.app N27 N29q
    refine Gs st29 ?_
    show Goes _ _ _ _ _ (fT T29 m 246 #[vi x0, vi x1, vi x2, vi x3, vi x4, vi 1, vi r15, vi r16, vi r17, vi r18, vr b19, vr b21, vi r15, vi 65, vi 65, vi 65, vu] [(.int (gd (cls (65 : Int32)) (cls (65 : Int32)) (cls (65 : Int32))))])
    by_cases hc246_30 : (gd (cls (65 : Int32)) (cls (65 : Int32)) (cls (65 : Int32))) = 0
    ·refine Gz (XS.ifYes X29.here hx rfl (pc0 := 246) (pc' := 265) rfl (hb hby at_246) rfl ((if0 _ _).trans (teq hc246_30).1) (by decide) (by decide)) ?_
     refine Gz (XS.iconst X29.here hx rfl (hb hby at_265)) ?_
     show Goes _ _ _ _ _ (fT T29 m 266 #[vi x0, vi x1, vi x2, vi x3, vi x4, vi 1, vi r15, vi r16, vi r17, vi r18, vr b19, vr b21, vi r15, vi 65, vi 65, vi 65, vu] [(.int 0)])
     have q := J T29 _ X29 e29 N29
     rw [show (own_ex (gd (cls (65 : Int32)) (cls r15) (cls (65 : Int32))) (gd (cls r15) (cls (65 : Int32)) (cls (65 : Int32))) (gd (cls (65 : Int32)) (cls (65 : Int32)) (cls (65 : Int32))) (gd (cls (65 : Int32)) (cls (65 : Int32)) (cls (65 : Int32)))) = 0 from by rw [own_ex, if_neg hc222_26, if_neg hc234_28, if_pos hc246_30]] at q
     exact q
    ·refine Gz (XS.ifNo X29.here hx rfl (hb hby at_246) rfl ((if0 _ _).trans (feq hc246_30).1)) ?_
     refine gI X29 hx hby at_249 rfl rfl ?_
     refine gI X29 hx hby at_251 rfl rfl ?_
     refine Gz (XS.bipush X29.here hx rfl (hb hby at_253)) ?_
     obtain ⟨_, _, ⟨T31, L31, k31, n31⟩, -, X31, ⟨Lc31, hQ31, l31, y31, z31⟩, st31⟩ := Jvm.LawKit.callS X29 hx (y := mN24) hown (gz hZ hw 27 rfl) (gz hZ hw 28 rfl) (gz hZ hw 2 rfl) (gz hZ hw 29 rfl) (by decide) (backOf (W := 0) (rm_good l Z a0 hw [] (65 : Int32) (65 : Int32) (65 : Int32) T22.heap n0 Z0) hZ (gw hw 29 rfl) (gw hw 2 rfl) (by decide) (by decide)) (g := (mkF m 255 #[vi x0, vi x1, vi x2, vi x3, vi x4, vi 1, vi r15, vi r16, vi r17, vi r18, vr b19, vr b21, vi r15, vi 65, vi 65, vi 65, vu] [(.int 65), (.int 65), (.int 65)])) rfl hml.symm (argsL := [(.int 65), (.int 65), (.int 65)]) (rest := []) (lenOf own_pd19 rfl) rfl (wz rfl) (hb hby at_255) (fun _ _ => ⟨rfl, e29, (by decide : 4 + 0 ≤ _), (by decide : 8 + 0 ≤ _)⟩)
     dsimp only [Pt.U, Pt.locs, Pt.cells, Pt.slots] at X31 l31 y31 z31 st31 hQ31
     subst l31 y31 z31
     obtain ⟨rfl, N31q, e31⟩ := hQ31
     have N31 := Fr.app N29 N31q
     refine Gs st31 ?_
     show Goes _ _ _ _ _ (fT T31 m 258 #[vi x0, vi x1, vi x2, vi x3, vi x4, vi 1, vi r15, vi r16, vi r17, vi r18, vr b19, vr b21, vi r15, vi 65, vi 65, vi 65, vu] [(.int (gd (cls (65 : Int32)) (cls (65 : Int32)) (cls (65 : Int32))))])
     refine Gz (XS.ifNo X31.here hx rfl (hb hby at_258) rfl ((if0 _ _).trans (feq hc246_30).1)) ?_
     refine Gz (XS.iconst X31.here hx rfl (hb hby at_261)) ?_
     refine Gz (XS.goto X31.here hx rfl (pc0 := 262) (pc' := 266) rfl (hb hby at_262) (by decide) (by decide)) ?_
     show Goes _ _ _ _ _ (fT T31 m 266 #[vi x0, vi x1, vi x2, vi x3, vi x4, vi 1, vi r15, vi r16, vi r17, vi r18, vr b19, vr b21, vi r15, vi 65, vi 65, vi 65, vu] [(.int 1)])
     have q := J T31 _ X31 e31 N31
     rw [show (own_ex (gd (cls (65 : Int32)) (cls r15) (cls (65 : Int32))) (gd (cls r15) (cls (65 : Int32)) (cls (65 : Int32))) (gd (cls (65 : Int32)) (cls (65 : Int32)) (cls (65 : Int32))) (gd (cls (65 : Int32)) (cls (65 : Int32)) (cls (65 : Int32)))) = 1 from by rw [own_ex, if_neg hc222_26, if_neg hc234_28, if_neg hc246_30, if_neg hc246_30]] at q
     exact q
 ·show Goes _ _ _ _ _ (fT s₁ m 6 #[vi x0, vi x1, vi x2, vi x3, vi x4, vu, vu, vu, vu, vu, vu, vu, vu, vu, vu, vu, vu] [(.int 2)])
  refine Gz (XS.istore X0.here hx rfl (hb hby at_6) rfl (l' := #[vi x0, vi x1, vi x2, vi x3, vi x4, vi 2, vu, vu, vu, vu, vu, vu, vu, vu, vu, vu, vu]) rfl) ?_
  refine gN X0 hx hby at_8 rfl rfl ?_
  obtain ⟨_, _, ⟨T32, L32, k32, n32⟩, -, X32, ⟨Lc32, hQ32, l32, y32, z32⟩, st32⟩ := Jvm.LawKit.callS X0 hx (y := mN21) hown (gz hZ hw 0 rfl) (gz hZ hw 1 rfl) (gz hZ hw 2 rfl) (gz hZ hw 3 rfl) (by decide) (backOf (W := 0) (rm_draw l Z a0 hw [] x1 h0 n0 Z0) hZ (gw hw 3 rfl) (gw hw 2 rfl) (by decide) (by decide)) (g := (mkF m 9 #[vi x0, vi x1, vi x2, vi x3, vi x4, vi 2, vu, vu, vu, vu, vu, vu, vu, vu, vu, vu, vu] [(.int x1)])) rfl hml.symm (argsL := [(.int x1)]) (rest := []) (lenOf own_pd17 rfl) rfl (wz rfl) (hb hby at_9) (fun _ _ => ⟨rfl, e0, z0, z0⟩)
  dsimp only [Pt.U, Pt.locs, Pt.cells, Pt.slots] at X32 l32 y32 z32 st32 hQ32
  subst l32 y32 z32
  obtain ⟨r32, rfl, N32q, e32, hCd_32⟩ := hQ32
  have N32 := Fr.app N0 N32q
  refine Gs st32 ?_
  show Goes _ _ _ _ _ (fT T32 m 12 #[vi x0, vi x1, vi x2, vi x3, vi x4, vi 2, vu, vu, vu, vu, vu, vu, vu, vu, vu, vu, vu] [(.int r32)])
  refine Gz (XS.istore X32.here hx rfl (hb hby at_12) rfl (l' := #[vi x0, vi x1, vi x2, vi x3, vi x4, vi 2, vi r32, vu, vu, vu, vu, vu, vu, vu, vu, vu, vu]) rfl) ?_
  refine gN X32 hx hby at_14 rfl rfl ?_
  obtain ⟨_, _, ⟨T33, L33, k33, n33⟩, -, X33, ⟨Lc33, hQ33, l33, y33, z33⟩, st33⟩ := Jvm.LawKit.callS X32 hx (y := mN21) hown (gz hZ hw 0 rfl) (gz hZ hw 1 rfl) (gz hZ hw 2 rfl) (gz hZ hw 3 rfl) (by decide) (backOf (W := 0) (rm_draw l Z a0 hw [] x2 h0 n0 Z0) hZ (gw hw 3 rfl) (gw hw 2 rfl) (by decide) (by decide)) (g := (mkF m 15 #[vi x0, vi x1, vi x2, vi x3, vi x4, vi 2, vi r32, vu, vu, vu, vu, vu, vu, vu, vu, vu, vu] [(.int x2)])) rfl hml.symm (argsL := [(.int x2)]) (rest := []) (lenOf own_pd17 rfl) rfl (wz rfl) (hb hby at_15) (fun _ _ => ⟨rfl, e32, z0, z0⟩)
  dsimp only [Pt.U, Pt.locs, Pt.cells, Pt.slots] at X33 l33 y33 z33 st33 hQ33
  subst l33 y33 z33
  obtain ⟨r33, rfl, N33q, e33, hCd_33⟩ := hQ33
  have N33 := Fr.app N32 N33q
  refine Gs st33 ?_
  show Goes _ _ _ _ _ (fT T33 m 18 #[vi x0, vi x1, vi x2, vi x3, vi x4, vi 2, vi r32, vu, vu, vu, vu, vu, vu, vu, vu, vu, vu] [(.int r33)])
  refine Gz (XS.istore X33.here hx rfl (hb hby at_18) rfl (l' := #[vi x0, vi x1, vi x2, vi x3, vi x4, vi 2, vi r32, vi r33, vu, vu, vu, vu, vu, vu, vu, vu, vu]) rfl) ?_
  refine gN X33 hx hby at_20 rfl rfl ?_
  obtain ⟨_, _, ⟨T34, L34, k34, n34⟩, -, X34, ⟨Lc34, hQ34, l34, y34, z34⟩, st34⟩ := Jvm.LawKit.callS X33 hx (y := mN21) hown (gz hZ hw 0 rfl) (gz hZ hw 1 rfl) (gz hZ hw 2 rfl) (gz hZ hw 3 rfl) (by decide) (backOf (W := 0) (rm_draw l Z a0 hw [] x3 h0 n0 Z0) hZ (gw hw 3 rfl) (gw hw 2 rfl) (by decide) (by decide)) (g := (mkF m 21 #[vi x0, vi x1, vi x2, vi x3, vi x4, vi 2, vi r32, vi r33, vu, vu, vu, vu, vu, vu, vu, vu, vu] [(.int x3)])) rfl hml.symm (argsL := [(.int x3)]) (rest := []) (lenOf own_pd17 rfl) rfl (wz rfl) (hb hby at_21) (fun _ _ => ⟨rfl, e33, z0, z0⟩)
  dsimp only [Pt.U, Pt.locs, Pt.cells, Pt.slots] at X34 l34 y34 z34 st34 hQ34
  subst l34 y34 z34
  obtain ⟨r34, rfl, N34q, e34, hCd_34⟩ := hQ34
  have N34 := Fr.app N33 N34q
  refine Gs st34 ?_
  show Goes _ _ _ _ _ (fT T34 m 24 #[vi x0, vi x1, vi x2, vi x3, vi x4, vi 2, vi r32, vi r33, vu, vu, vu, vu, vu, vu, vu, vu, vu] [(.int r34)])
  refine Gz (XS.istore X34.here hx rfl (hb hby at_24) rfl (l' := #[vi x0, vi x1, vi x2, vi x3, vi x4, vi 2, vi r32, vi r33, vi r34, vu, vu, vu, vu, vu, vu, vu, vu]) rfl) ?_
  refine gI X34 hx hby at_26 rfl rfl ?_
  obtain ⟨_, _, ⟨T35, L35, k35, n35⟩, -, X35, ⟨Lc35, hQ35, l35, y35, z35⟩, st35⟩ := Jvm.LawKit.callS X34 hx (y := mN21) hown (gz hZ hw 0 rfl) (gz hZ hw 1 rfl) (gz hZ hw 2 rfl) (gz hZ hw 3 rfl) (by decide) (backOf (W := 0) (rm_draw l Z a0 hw [] x4 h0 n0 Z0) hZ (gw hw 3 rfl) (gw hw 2 rfl) (by decide) (by decide)) (g := (mkF m 28 #[vi x0, vi x1, vi x2, vi x3, vi x4, vi 2, vi r32, vi r33, vi r34, vu, vu, vu, vu, vu, vu, vu, vu] [(.int x4)])) rfl hml.symm (argsL := [(.int x4)]) (rest := []) (lenOf own_pd17 rfl) rfl (wz rfl) (hb hby at_28) (fun _ _ => ⟨rfl, e34, z0, z0⟩)
  dsimp only [Pt.U, Pt.locs, Pt.cells, Pt.slots] at X35 l35 y35 z35 st35 hQ35
  subst l35 y35 z35
  obtain ⟨r35, rfl, N35q, e35, hCd_35⟩ := hQ35
  have N35 := Fr.app N34 N35q
  refine Gs st35 ?_
  show Goes _ _ _ _ _ (fT T35 m 31 #[vi x0, vi x1, vi x2, vi x3, vi x4, vi 2, vi r32, vi r33, vi r34, vu, vu, vu, vu, vu, vu, vu, vu] [(.int r35)])
  refine Gz (XS.istore X35.here hx rfl (hb hby at_31) rfl (l' := #[vi x0, vi x1, vi x2, vi x3, vi x4, vi 2, vi r32, vi r33, vi r34, vi r35, vu, vu, vu, vu, vu, vu, vu]) rfl) ?_
  refine gI X35 hx hby at_33 rfl rfl ?_
  refine Gz (XS.ifYes X35.here hx rfl (pc0 := 35) (pc' := 46) rfl (hb hby at_35) rfl ((if0 _ _).trans (feq (by decide : ¬ ((2 : Int32) = (0 : Int32)))).2) (by decide) (by decide)) ?_
  refine gI X35 hx hby at_46 rfl rfl ?_
  refine Gz (XS.iconst X35.here hx rfl (hb hby at_48)) ?_
  refine Gz (XS.icmpYes X35.here hx rfl (pc0 := 49) (pc' := 65) rfl (hb hby at_49) rfl (feq (by decide : ¬ ((2 : Int32) = (1 : Int32)))).2 (by decide) (by decide)) ?_
  show Goes _ _ _ _ _ (fT T35 m 65 #[vi x0, vi x1, vi x2, vi x3, vi x4, vi 2, vi r32, vi r33, vi r34, vi r35, vu, vu, vu, vu, vu, vu, vu] [])
  refine gI X35 hx hby at_65 rfl rfl ?_
  refine Gz (XS.iconst X35.here hx rfl (hb hby at_67)) ?_
  refine Gz (XS.icmpNo X35.here hx rfl (hb hby at_68) rfl (teq (by decide : ((2 : Int32) = (2 : Int32)))).2) ?_
  refine Gz (XS.iconst X35.here hx rfl (hb hby at_71)) ?_
  obtain ⟨T36, h36, k36, X36, e36, E36, A36, st36⟩ := newP X35 hx hZ (gw hw 5 rfl) e35 (g := (mkF m 72 #[vi x0, vi x1, vi x2, vi x3, vi x4, vi 2, vi r32, vi r33, vi r34, vi r35, vu, vu, vu, vu, vu, vu, vu] [(.int 2)])) rfl (hb hby at_72) rfl (by decide) (cap := 2) (by decide) (by decide) (by decide) (by decide)
  obtain ⟨b36, gq36⟩ : ∃ z, z = h0.size := ⟨_, rfl⟩
  rw [← gq36] at A36 st36
  have g_b36 : n0 ≤ b36 := by rw [gq36]; exact Z0
  have Sf_b36 : Safe Z consts_1 s.vm h0 b36 := Safe.new (Nat.le_of_eq gq36.symm)
  replace Sf_b36 := Safe.ext E36 hR.1 Sf_b36
  replace hR := hR.trans (CHr.ext E36 hR.1)
  replace sgC := sgC.ext E36
  replace sgF := sgF.ext E36
  replace sgA := sgA.ext E36
  replace sgH := sgH.ext E36
  replace sgL := sgL.ext E36
  replace Z0 : n0 ≤ h36.size := Nat.le_trans Z0 E36.1
  replace hk := Nat.le_trans hk E36.1
  have V_b36 : Arv Z h36 b36 k36 .char 2 [(.int 0), (.int 0)] (.int 0) := (Arv.new A36 (by decide)).pad (pad_rep [] (.int 0) 2)
  refine Gs st36 ?_
  show Goes _ _ _ _ _ (fT T36 m 74 #[vi x0, vi x1, vi x2, vi x3, vi x4, vi 2, vi r32, vi r33, vi r34, vi r35, vu, vu, vu, vu, vu, vu, vu] [(.ref b36)])
  refine Gz (XS.dup X36.here hx rfl (hb hby at_74) rfl rfl) ?_
  refine Gz (XS.iconst X36.here hx rfl (hb hby at_75)) ?_
  refine gI X36 hx hby at_76 rfl rfl ?_
  obtain ⟨cl37, Ar37, q37, S37, N37z, H37, G37⟩ := V_b36
  have hin37 : ¬ ((0 : Int32) < 0 ∨ cl37.slots.size ≤ ((0 : Int32)).toNatClampNeg) := inb_of S37 ⟨by decide, by decide⟩
  obtain ⟨T37, h37, X37, e37, W37, st37⟩ := stC X36 hx hZ e36 Ar37 (j := (0 : Int32)) hin37 (g := (mkF m 78 #[vi x0, vi x1, vi x2, vi x3, vi x4, vi 2, vi r32, vi r33, vi r34, vi r35, vu, vu, vu, vu, vu, vu, vu] [(.int r32), (.int 0), (.ref b36), (.ref b36)])) rfl rfl (hb hby at_78)
  have Vn37 := Arv.set Ar37 q37 S37 N37z H37 G37 (fits_nar_char _) W37 0 rfl (Nat.le_of_ble_eq_true rfl)
  have N37 := Fr.snoc X37 N35 g_b36
  have Sf_b36' := Safe.wr W37 Sf_b36 hR.1 Sf_b36
  replace hR := hR.trans (CHr.wr W37 Sf_b36 hR.1)
  replace Sf_b36 := Sf_b36'
  replace sgC := sgC.wr W37
  replace sgF := sgF.wr W37
  replace sgA := sgA.wr W37
  replace sgH := sgH.wr W37
  replace sgL := sgL.wr W37
  have V_b36 : Arv Z h37 b36 k36 .char 2 [(.int r32), (.int 0)] (.int 0) := by have q := Vn37; rw [own_nc hCd_32] at q; exact q
  replace Z0 : n0 ≤ h37.size := by rw [W37.size]; exact Z0
  replace hk := Nat.le_trans hk (Nat.le_of_eq W37.size.symm)
  refine Gs st37 ?_
  show Goes _ _ _ _ _ (fT T37 m 79 #[vi x0, vi x1, vi x2, vi x3, vi x4, vi 2, vi r32, vi r33, vi r34, vi r35, vu, vu, vu, vu, vu, vu, vu] [(.ref b36)])
  refine Gz (XS.dup X37.here hx rfl (hb hby at_79) rfl rfl) ?_
  refine Gz (XS.iconst X37.here hx rfl (hb hby at_80)) ?_
  refine gI X37 hx hby at_81 rfl rfl ?_
  obtain ⟨cl38, Ar38, q38, S38, N38z, H38, G38⟩ := V_b36
  have hin38 : ¬ ((1 : Int32) < 0 ∨ cl38.slots.size ≤ ((1 : Int32)).toNatClampNeg) := inb_of S38 ⟨by decide, by decide⟩
  obtain ⟨T38, h38, X38, e38, W38, st38⟩ := stC X37 hx hZ e37 Ar38 (j := (1 : Int32)) hin38 (g := (mkF m 83 #[vi x0, vi x1, vi x2, vi x3, vi x4, vi 2, vi r32, vi r33, vi r34, vi r35, vu, vu, vu, vu, vu, vu, vu] [(.int r33), (.int 1), (.ref b36), (.ref b36)])) rfl rfl (hb hby at_83)
  have Vn38 := Arv.set Ar38 q38 S38 N38z H38 G38 (fits_nar_char _) W38 1 rfl (Nat.le_of_ble_eq_true rfl)
  have N38 := Fr.snoc X38 N37 g_b36
  replace hR := hR.trans (CHr.wr W38 Sf_b36 hR.1)
  replace sgC := sgC.wr W38
  replace sgF := sgF.wr W38
  replace sgA := sgA.wr W38
  replace sgH := sgH.wr W38
  replace sgL := sgL.wr W38
  have V_b36 : Arv Z h38 b36 k36 .char 2 [(.int r32), (.int r33)] (.int 0) := by have q := Vn38; rw [own_nc hCd_33] at q; exact q
  replace Z0 : n0 ≤ h38.size := by rw [W38.size]; exact Z0
  replace hk := Nat.le_trans hk (Nat.le_of_eq W38.size.symm)
  refine Gs st38 ?_
  show Goes _ _ _ _ _ (fT T38 m 84 #[vi x0, vi x1, vi x2, vi x3, vi x4, vi 2, vi r32, vi r33, vi r34, vi r35, vu, vu, vu, vu, vu, vu, vu] [(.ref b36)])
  refine Gz (XS.astore X38.here hx rfl (hb hby at_84) rfl rfl (l' := #[vi x0, vi x1, vi x2, vi x3, vi x4, vi 2, vi r32, vi r33, vi r34, vi r35, vr b36, vu, vu, vu, vu, vu, vu]) rfl) ?_
  refine Gz (XS.goto X38.here hx rfl (pc0 := 86) (pc' := 143) rfl (hb hby at_86) (by decide) (by decide)) ?_
  obtain ⟨T39, h39, X39, e39, E39, A39, D39, -, st39⟩ := newO X38 hx hZ hown (gw hw 6 rfl) (gw hw 7 rfl) (gw hw 8 rfl) e38 (g := (mkF m 143 #[vi x0, vi x1, vi x2, vi x3, vi x4, vi 2, vi r32, vi r33, vi r34, vi r35, vr b36, vu, vu, vu, vu, vu, vu] [])) rfl (hb hby at_143) (by decide) (by decide)
  obtain ⟨b39, gq39⟩ : ∃ z, z = h38.size := ⟨_, rfl⟩
  rw [← gq39] at A39 st39 D39
  have g_b39 : n0 ≤ b39 := by rw [gq39]; exact Z0
  have ne_b36_b39 : b36 ≠ b39 := by rw [gq39]; exact Nat.ne_of_lt V_b36.lt
  have Sf_b39 : Safe Z consts_1 s.vm h38 b39 := Safe.new (Nat.le_of_eq gq39.symm)
  replace Sf_b39 := Safe.ext E39 hR.1 Sf_b39
  replace hR := hR.trans (CHr.ext E39 hR.1)
  replace sgC := sgC.ext E39
  replace sgF := sgF.ext E39
  replace sgA := sgA.ext E39
  replace sgH := sgH.ext E39
  replace sgL := sgL.ext E39
  replace V_b36 := V_b36.ext E39
  replace Z0 : n0 ≤ h39.size := Nat.le_trans Z0 E39.1
  replace hk := Nat.le_trans hk E39.1
  have A_b39 : Exa Z h39 b39 "java/lang/String" := A39
  have F_value_b39 : Fld Z h39 b39 "java/lang/String" "value" "[B" .null := D39 (Or.inr (gw hw 21 rfl)) (ty := (.array .byte)) (by decide)
  have F_coder_b39 : Fld Z h39 b39 "java/lang/String" "coder" "B" (.int 0) := D39 (Or.inr (gw hw 22 rfl)) (ty := .byte) (by decide)
  refine Gs st39 ?_
  show Goes _ _ _ _ _ (fT T39 m 146 #[vi x0, vi x1, vi x2, vi x3, vi x4, vi 2, vi r32, vi r33, vi r34, vi r35, vr b36, vu, vu, vu, vu, vu, vu] [(.ref b39)])
  refine Gz (XS.dup X39.here hx rfl (hb hby at_146) rfl rfl) ?_
  refine Gz (XS.aload X39.here hx rfl (hb hby at_147) rfl rfl) ?_
  obtain ⟨_, _, ⟨T40, L40, k40, n40⟩, -, X40, ⟨Lc40, hQ40, l40, y40, z40⟩, st40⟩ := X39.specialBack hx (y := mN13) rfl hown (gz hZ hw 9 rfl) (gz hZ hw 10 rfl) (gz hZ hw 11 rfl) (by decide) (backOf (W := 1) (rs_i1_2 l Z a0 hw [] b39 b36 k36 r32 r33 cz h39 n0 Z0 A_b39 F_value_b39 F_coder_b39 V_b36 g_b39 ne_b36_b39 sgC (by first | assumption | decide) hCd_32 hCd_33 sgA sgH sgL) hZ (gw hw 11 rfl) (gw hw 8 rfl) (by decide) (by decide)) (g := (mkF m 149 #[vi x0, vi x1, vi x2, vi x3, vi x4, vi 2, vi r32, vi r33, vi r34, vi r35, vr b36, vu, vu, vu, vu, vu, vu] [(.ref b36), (.ref b39), (.ref b39)])) rfl hml.symm (Steps.refl _) (a := b39) (argsL := [(.ref b36)]) (rest := [(.ref b39)]) (lenOf own_pd18 rfl) rfl (wz rfl) (hb hby at_149) (fun _ _ => ⟨rfl, e39, (by decide : 2 + 2 ≤ _), (by decide : 6 + 6 ≤ _)⟩)
  dsimp only [Pt.U, Pt.locs, Pt.cells, Pt.slots] at X40 l40 y40 z40 st40 hQ40
  subst l40 y40 z40
  obtain ⟨rfl, N40q, K40, T_b39_40'⟩ := hQ40
  have N40 := Fr.app N38 N40q
  replace sgC := own_staK sgC K40 (allS (own_obE A_b39) all0)
  replace sgF := own_staK sgF K40 (allS (own_obE A_b39) all0)
  replace sgA := own_staK sgA K40 (allS (own_obE A_b39) all0)
  replace sgH := own_staK sgH K40 (allS (own_obE A_b39) all0)
  replace sgL := own_staK sgL K40 (allS (own_obE A_b39) all0)
  replace hR := hR.trans (CHr.keep K40 (allS Sf_b39 all0) hR.1)
  replace Z0 := Nat.le_trans Z0 K40.1
  replace hk := Nat.le_trans hk K40.1
  have T_b39 := T_b39_40'
  refine Gs (fun _ tk => st40.trans tk) ?_
  show Goes _ _ _ _ _ (fT T40 m 152 #[vi x0, vi x1, vi x2, vi x3, vi x4, vi 2, vi r32, vi r33, vi r34, vi r35, vr b36, vu, vu, vu, vu, vu, vu] [(.ref b39)])
  refine Gz (XS.astore X40.here hx rfl (hb hby at_152) rfl rfl (l' := #[vi x0, vi x1, vi x2, vi x3, vi x4, vi 2, vi r32, vi r33, vi r34, vi r35, vr b36, vr b39, vu, vu, vu, vu, vu]) rfl) ?_
  refine gI X40 hx hby at_154 rfl rfl ?_
  refine Gz (XS.ifNo X40.here hx rfl (hb hby at_156) rfl ((if0 _ _).trans (tlt (by decide : ((0 : Int32) < (2 : Int32)))).2.2.2)) ?_
  refine gI X40 hx hby at_159 rfl rfl ?_
  refine Gz (XS.goto X40.here hx rfl (pc0 := 161) (pc' := 166) rfl (hb hby at_161) (by decide) (by decide)) ?_
  refine Gz (XS.istore X40.here hx rfl (hb hby at_166) rfl (l' := #[vi x0, vi x1, vi x2, vi x3, vi x4, vi 2, vi r32, vi r33, vi r34, vi r35, vr b36, vr b39, vi r32, vu, vu, vu, vu]) rfl) ?_
  show Goes _ _ _ _ _ (fT T40 m 168 #[vi x0, vi x1, vi x2, vi x3, vi x4, vi 2, vi r32, vi r33, vi r34, vi r35, vr b36, vr b39, vi r32, vu, vu, vu, vu] [])
  refine gI X40 hx hby at_168 rfl rfl ?_
  refine Gz (XS.iconst X40.here hx rfl (hb hby at_170)) ?_
  refine Gz (XS.icmpNo X40.here hx rfl (hb hby at_171) rfl (tlt (by decide : ((1 : Int32) < (2 : Int32)))).2.2.2) ?_
  refine gI X40 hx hby at_174 rfl rfl ?_
  refine Gz (XS.goto X40.here hx rfl (pc0 := 176) (pc' := 181) rfl (hb hby at_176) (by decide) (by decide)) ?_
  refine Gz (XS.istore X40.here hx rfl (hb hby at_181) rfl (l' := #[vi x0, vi x1, vi x2, vi x3, vi x4, vi 2, vi r32, vi r33, vi r34, vi r35, vr b36, vr b39, vi r32, vi r33, vu, vu, vu]) rfl) ?_
  show Goes _ _ _ _ _ (fT T40 m 183 #[vi x0, vi x1, vi x2, vi x3, vi x4, vi 2, vi r32, vi r33, vi r34, vi r35, vr b36, vr b39, vi r32, vi r33, vu, vu, vu] [])
  refine gI X40 hx hby at_183 rfl rfl ?_
  refine Gz (XS.iconst X40.here hx rfl (hb hby at_185)) ?_
  refine Gz (XS.icmpYes X40.here hx rfl (pc0 := 186) (pc' := 194) rfl (hb hby at_186) rfl (flt (by decide : ¬ ((2 : Int32) < (2 : Int32)))).2.2.2 (by decide) (by decide)) ?_
  refine Gz (XS.bipush X40.here hx rfl (hb hby at_194)) ?_
  refine Gz (XS.istore X40.here hx rfl (hb hby at_196) rfl (l' := #[vi x0, vi x1, vi x2, vi x3, vi x4, vi 2, vi r32, vi r33, vi r34, vi r35, vr b36, vr b39, vi r32, vi r33, vi 65, vu, vu]) rfl) ?_
  refine gI X40 hx hby at_198 rfl rfl ?_
  show Goes _ _ _ _ _ (fT T40 m 200 #[vi x0, vi x1, vi x2, vi x3, vi x4, vi 2, vi r32, vi r33, vi r34, vi r35, vr b36, vr b39, vi r32, vi r33, vi 65, vu, vu] [(.int 2)])
  refine Gz (XS.iconst X40.here hx rfl (hb hby at_200)) ?_
  refine Gz (XS.icmpYes X40.here hx rfl (pc0 := 201) (pc' := 209) rfl (hb hby at_201) rfl (flt (by decide : ¬ ((3 : Int32) < (2 : Int32)))).2.2.2 (by decide) (by decide)) ?_
  refine Gz (XS.bipush X40.here hx rfl (hb hby at_209)) ?_
  refine Gz (XS.istore X40.here hx rfl (hb hby at_211) rfl (l' := #[vi x0, vi x1, vi x2, vi x3, vi x4, vi 2, vi r32, vi r33, vi r34, vi r35, vr b36, vr b39, vi r32, vi r33, vi 65, vi 65, vu]) rfl) ?_
  refine Gz (XS.bipush X40.here hx rfl (hb hby at_213)) ?_
  refine gI X40 hx hby at_215 rfl rfl ?_
  show Goes _ _ _ _ _ (fT T40 m 217 #[vi x0, vi x1, vi x2, vi x3, vi x4, vi 2, vi r32, vi r33, vi r34, vi r35, vr b36, vr b39, vi r32, vi r33, vi 65, vi 65, vu] [(.int r32), (.int 65)])
  refine gI X40 hx hby at_217 rfl rfl ?_
  obtain ⟨_, _, ⟨T41, L41, k41, n41⟩, -, X41, ⟨Lc41, hQ41, l41, y41, z41⟩, st41⟩ := Jvm.LawKit.callS X40 hx (y := mN24) hown (gz hZ hw 27 rfl) (gz hZ hw 28 rfl) (gz hZ hw 2 rfl) (gz hZ hw 29 rfl) (by decide) (backOf (W := 0) (rm_good l Z a0 hw [] (65 : Int32) r32 r33 T40.heap n0 Z0) hZ (gw hw 29 rfl) (gw hw 2 rfl) (by decide) (by decide)) (g := (mkF m 219 #[vi x0, vi x1, vi x2, vi x3, vi x4, vi 2, vi r32, vi r33, vi r34, vi r35, vr b36, vr b39, vi r32, vi r33, vi 65, vi 65, vu] [(.int r33), (.int r32), (.int 65)])) rfl hml.symm (argsL := [(.int 65), (.int r32), (.int r33)]) (rest := []) (lenOf own_pd19 rfl) rfl (wz rfl) (hb hby at_219) (fun _ _ => ⟨rfl, rfl, (by decide : 4 + 0 ≤ _), (by decide : 12 + 0 ≤ _)⟩)
  dsimp only [Pt.U, Pt.locs, Pt.cells, Pt.slots] at X41 l41 y41 z41 st41 hQ41
  subst l41 y41 z41
  obtain ⟨rfl, N41q, e41⟩ := hQ41
  have N41 := Fr.app N40 N41q
  refine Gs st41 ?_
  show Goes _ _ _ _ _ (fT T41 m 222 #[vi x0, vi x1, vi x2, vi x3, vi x4, vi 2, vi r32, vi r33, vi r34, vi r35, vr b36, vr b39, vi r32, vi r33, vi 65, vi 65, vu] [(.int (gd (cls (65 : Int32)) (cls r32) (cls r33)))])
  refine own_joinT X41 e41 N41 (B := fun T => T.setTop (mkF m 266 #[vi x0, vi x1, vi x2, vi x3, vi x4, vi 2, vi r32, vi r33, vi r34, vi r35, vr b36, vr b39, vi r32, vi r33, vi 65, vi 65, vu] [(.int (own_ex (gd (cls (65 : Int32)) (cls r32) (cls r33)) (gd (cls r32) (cls r33) (cls (65 : Int32))) (gd (cls r33) (cls (65 : Int32)) (cls (65 : Int32))) (gd (cls (65 : Int32)) (cls (65 : Int32)) (cls (65 : Int32)))))])) ?_ ?_
  ·intro T L X E N
   show Goes _ _ _ _ _ (fT T m 266 #[vi x0, vi x1, vi x2, vi x3, vi x4, vi 2, vi r32, vi r33, vi r34, vi r35, vr b36, vr b39, vi r32, vi r33, vi 65, vi 65, vu] [(.int (own_ex (gd (cls (65 : Int32)) (cls r32) (cls r33)) (gd (cls r32) (cls r33) (cls (65 : Int32))) (gd (cls r33) (cls (65 : Int32)) (cls (65 : Int32))) (gd (cls (65 : Int32)) (cls (65 : Int32)) (cls (65 : Int32)))))])
   refine Gz (XS.istore X.here hx rfl (hb hby at_266) rfl (l' := #[vi x0, vi x1, vi x2, vi x3, vi x4, vi 2, vi r32, vi r33, vi r34, vi r35, vr b36, vr b39, vi r32, vi r33, vi 65, vi 65, vi (own_ex (gd (cls (65 : Int32)) (cls r32) (cls r33)) (gd (cls r32) (cls r33) (cls (65 : Int32))) (gd (cls r33) (cls (65 : Int32)) (cls (65 : Int32))) (gd (cls (65 : Int32)) (cls (65 : Int32)) (cls (65 : Int32))))]) rfl) ?_
   refine Gz (XS.aload X.here hx rfl (hb hby at_268) rfl rfl) ?_
   obtain ⟨_, _, ⟨T42, L42, k42, n42⟩, -, X42, ⟨Lc42, hQ42, l42, y42, z42⟩, st42⟩ := Jvm.LawKit.callS X hx (y := mN26) hown (gz hZ hw 37 rfl) (gz hZ hw 38 rfl) (gz hZ hw 39 rfl) (gz hZ hw 40 rfl) (by decide) (backOf (W := 0) (rm_ch l Z a0 hw [] b39 [r32, r33] cz fo T40.heap n0 Z0 T_b39 sgC (by first | assumption | decide) sgF (by first | assumption | decide) sgA sgH sgL) hZ (gw hw 40 rfl) (gw hw 39 rfl) (by decide) (by decide)) (g := (mkF m 270 #[vi x0, vi x1, vi x2, vi x3, vi x4, vi 2, vi r32, vi r33, vi r34, vi r35, vr b36, vr b39, vi r32, vi r33, vi 65, vi 65, vi (own_ex (gd (cls (65 : Int32)) (cls r32) (cls r33)) (gd (cls r32) (cls r33) (cls (65 : Int32))) (gd (cls r33) (cls (65 : Int32)) (cls (65 : Int32))) (gd (cls (65 : Int32)) (cls (65 : Int32)) (cls (65 : Int32))))] [(.ref b39)])) rfl hml.symm (argsL := [(.ref b39)]) (rest := []) (lenOf own_pd20 rfl) rfl (wz rfl) (hb hby at_270) (fun _ _ => ⟨rfl, E, (by decide : 4 + 0 ≤ _), (by decide : 12 + 0 ≤ _)⟩)
   dsimp only [Pt.U, Pt.locs, Pt.cells, Pt.slots] at X42 l42 y42 z42 st42 hQ42
   subst l42 y42 z42
   obtain ⟨rfl, N42q, e42⟩ := hQ42
   have N42 := Fr.app N N42q
   refine Gs st42 ?_
   show Goes _ _ _ _ _ (fT T42 m 273 #[vi x0, vi x1, vi x2, vi x3, vi x4, vi 2, vi r32, vi r33, vi r34, vi r35, vr b36, vr b39, vi r32, vi r33, vi 65, vi 65, vi (own_ex (gd (cls (65 : Int32)) (cls r32) (cls r33)) (gd (cls r32) (cls r33) (cls (65 : Int32))) (gd (cls r33) (cls (65 : Int32)) (cls (65 : Int32))) (gd (cls (65 : Int32)) (cls (65 : Int32)) (cls (65 : Int32))))] [(.int (chK (List.map cls [r32, r33])))])
   refine gI X42 hx hby at_273 rfl rfl ?_
   have hc275_43 : (chK (List.map cls [r32, r33])) = (own_ex (gd (cls (65 : Int32)) (cls r32) (cls r33)) (gd (cls r32) (cls r33) (cls (65 : Int32))) (gd (cls r33) (cls (65 : Int32)) (cls (65 : Int32))) (gd (cls (65 : Int32)) (cls (65 : Int32)) (cls (65 : Int32)))) := (show ∀ k0 k1 : Fin 4, chK [k0, k1] = (own_ex (gd (cls (65 : Int32)) k0 k1) (gd k0 k1 (cls (65 : Int32))) (gd k1 (cls (65 : Int32)) (cls (65 : Int32))) (gd (cls (65 : Int32)) (cls (65 : Int32)) (cls (65 : Int32)))) from by simp only [own_65]; decide +kernel) (cls r32) (cls r33)
   refine Gz (XS.icmpNo X42.here hx rfl (hb hby at_275) rfl (teq hc275_43).2) ?_
   refine Gz (XS.iconst X42.here hx rfl (hb hby at_278)) ?_
   refine Gz (XS.goto X42.here hx rfl (pc0 := 279) (pc' := 283) rfl (hb hby at_279) (by decide) (by decide)) ?_
   refine Goes.retH X42 hS e42 hk hZ (own_EW hw) hh hR (some (.int 1)) (fun h => by rw [hret] at h; cases h) hlk (by decide) (by decide) ?_ (fun fs hr => ?_)
   ·rw [e42]; exact ⟨rfl, N42⟩
   ·exact own_retN X42 hx (t := .boolean) hret (by simp) rfl (hb hby at_283) hr
  intro J
  by_cases hc222_44 : (gd (cls (65 : Int32)) (cls r32) (cls r33)) = 0
  ·refine Gz (XS.ifYes X41.here hx rfl (pc0 := 222) (pc' := 265) rfl (hb hby at_222) rfl ((if0 _ _).trans (teq hc222_44).1) (by decide) (by decide)) ?_
   refine Gz (XS.iconst X41.here hx rfl (hb hby at_265)) ?_
   show Goes _ _ _ _ _ (fT T41 m 266 #[vi x0, vi x1, vi x2, vi x3, vi x4, vi 2, vi r32, vi r33, vi r34, vi r35, vr b36, vr b39, vi r32, vi r33, vi 65, vi 65, vu] [(.int 0)])
   have q := J T41 _ X41 e41 N41
   rw [show (own_ex (gd (cls (65 : Int32)) (cls r32) (cls r33)) (gd (cls r32) (cls r33) (cls (65 : Int32))) (gd (cls r33) (cls (65 : Int32)) (cls (65 : Int32))) (gd (cls (65 : Int32)) (cls (65 : Int32)) (cls (65 : Int32)))) = 0 from by rw [own_ex, if_pos hc222_44]] at q
   exact q
  ·refine Gz (XS.ifNo X41.here hx rfl (hb hby at_222) rfl ((if0 _ _).trans (feq hc222_44).1)) ?_
   refine gI X41 hx hby at_225 rfl rfl ?_
   refine gI X41 hx hby at_227 rfl rfl ?_
   refine gI X41 hx hby at_229 rfl rfl ?_
   obtain ⟨_, _, ⟨T45, L45, k45, n45⟩, -, X45, ⟨Lc45, hQ45, l45, y45, z45⟩, st45⟩ := Jvm.LawKit.callS X41 hx (y := mN24) hown (gz hZ hw 27 rfl) (gz hZ hw 28 rfl) (gz hZ hw 2 rfl) (gz hZ hw 29 rfl) (by decide) (backOf (W := 0) (rm_good l Z a0 hw [] r32 r33 (65 : Int32) T40.heap n0 Z0) hZ (gw hw 29 rfl) (gw hw 2 rfl) (by decide) (by decide)) (g := (mkF m 231 #[vi x0, vi x1, vi x2, vi x3, vi x4, vi 2, vi r32, vi r33, vi r34, vi r35, vr b36, vr b39, vi r32, vi r33, vi 65, vi 65, vu] [(.int 65), (.int r33), (.int r32)])) rfl hml.symm (argsL := [(.int r32), (.int r33), (.int 65)]) (rest := []) (lenOf own_pd19 rfl) rfl (wz rfl) (hb hby at_231) (fun _ _ => ⟨rfl, e41, (by decide : 4 + 0 ≤ _), (by decide : 12 + 0 ≤ _)⟩)
   dsimp only [Pt.U, Pt.locs, Pt.cells, Pt.slots] at X45 l45 y45 z45 st45 hQ45
   subst l45 y45 z45
   obtain ⟨rfl, N45q, e45⟩ := hQ45
   have N45 := Fr.app N41 N45q
   refine Gs st45 ?_
   show Goes _ _ _ _ _ (fT T45 m 234 #[vi x0, vi x1, vi x2, vi x3, vi x4, vi 2, vi r32, vi r33, vi r34, vi r35, vr b36, vr b39, vi r32, vi r33, vi 65, vi 65, vu] [(.int (gd (cls r32) (cls r33) (cls (65 : Int32))))])
   by_cases hc234_46 : (gd (cls r32) (cls r33) (cls (65 : Int32))) = 0
   ·refine Gz (XS.ifYes X45.here hx rfl (pc0 := 234) (pc' := 265) rfl (hb hby at_234) rfl ((if0 _ _).trans (teq hc234_46).1) (by decide) (by decide)) ?_
    refine Gz (XS.iconst X45.here hx rfl (hb hby at_265)) ?_
    show Goes _ _ _ _ _ (fT T45 m 266 #[vi x0, vi x1, vi x2, vi x3, vi x4, vi 2, vi r32, vi r33, vi r34, vi r35, vr b36, vr b39, vi r32, vi r33, vi 65, vi 65, vu] [(.int 0)])
    have q := J T45 _ X45 e45 N45
    rw [show (own_ex (gd (cls (65 : Int32)) (cls r32) (cls r33)) (gd (cls r32) (cls r33) (cls (65 : Int32))) (gd (cls r33) (cls (65 : Int32)) (cls (65 : Int32))) (gd (cls (65 : Int32)) (cls (65 : Int32)) (cls (65 : Int32)))) = 0 from by rw [own_ex, if_neg hc222_44, if_pos hc234_46]] at q
    exact q
   ·refine Gz (XS.ifNo X45.here hx rfl (hb hby at_234) rfl ((if0 _ _).trans (feq hc234_46).1)) ?_
    refine gI X45 hx hby at_237 rfl rfl ?_
    refine gI X45 hx hby at_239 rfl rfl ?_
    refine gI X45 hx hby at_241 rfl rfl ?_
    obtain ⟨_, _, ⟨T47, L47, k47, n47⟩, -, X47, ⟨Lc47, hQ47, l47, y47, z47⟩, st47⟩ := Jvm.LawKit.callS X45 hx (y := mN24) hown (gz hZ hw 27 rfl) (gz hZ hw 28 rfl) (gz hZ hw 2 rfl) (gz hZ hw 29 rfl) (by decide) (backOf (W := 0) (rm_good l Z a0 hw [] r33 (65 : Int32) (65 : Int32) T40.heap n0 Z0) hZ (gw hw 29 rfl) (gw hw 2 rfl) (by decide) (by decide)) (g := (mkF m 243 #[vi x0, vi x1, vi x2, vi x3, vi x4, vi 2, vi r32, vi r33, vi r34, vi r35, vr b36, vr b39, vi r32, vi r33, vi 65, vi 65, vu] [(.int 65), (.int 65), (.int r33)])) rfl hml.symm (argsL := [(.int r33), (.int 65), (.int 65)]) (rest := []) (lenOf own_pd19 rfl) rfl (wz rfl) (hb hby at_243) (fun _ _ => ⟨rfl, e45, (by decide : 4 + 0 ≤ _), (by decide : 12 + 0 ≤ _)⟩)
    dsimp only [Pt.U, Pt.locs, Pt.cells, Pt.slots] at X47 l47 y47 z47 st47 hQ47
    subst l47 y47 z47
    obtain ⟨rfl, N47q, e47⟩ := hQ47
    have N47 := Fr.app N45 N47q
    refine Gs st47 ?_
    show Goes _ _ _ _ _ (fT T47 m 246 #[vi x0, vi x1, vi x2, vi x3, vi x4, vi 2, vi r32, vi r33, vi r34, vi r35, vr b36, vr b39, vi r32, vi r33, vi 65, vi 65, vu] [(.int (gd (cls r33) (cls (65 : Int32)) (cls (65 : Int32))))])
    by_cases hc246_48 : (gd (cls r33) (cls (65 : Int32)) (cls (65 : Int32))) = 0
    ·refine Gz (XS.ifYes X47.here hx rfl (pc0 := 246) (pc' := 265) rfl (hb hby at_246) rfl ((if0 _ _).trans (teq hc246_48).1) (by decide) (by decide)) ?_
     refine Gz (XS.iconst X47.here hx rfl (hb hby at_265)) ?_
     show Goes _ _ _ _ _ (fT T47 m 266 #[vi x0, vi x1, vi x2, vi x3, vi x4, vi 2, vi r32, vi r33, vi r34, vi r35, vr b36, vr b39, vi r32, vi r33, vi 65, vi 65, vu] [(.int 0)])
     have q := J T47 _ X47 e47 N47
     rw [show (own_ex (gd (cls (65 : Int32)) (cls r32) (cls r33)) (gd (cls r32) (cls r33) (cls (65 : Int32))) (gd (cls r33) (cls (65 : Int32)) (cls (65 : Int32))) (gd (cls (65 : Int32)) (cls (65 : Int32)) (cls (65 : Int32)))) = 0 from by rw [own_ex, if_neg hc222_44, if_neg hc234_46, if_pos hc246_48]] at q
     exact q
    ·refine Gz (XS.ifNo X47.here hx rfl (hb hby at_246) rfl ((if0 _ _).trans (feq hc246_48).1)) ?_
     refine gI X47 hx hby at_249 rfl rfl ?_
     refine gI X47 hx hby at_251 rfl rfl ?_
     refine Gz (XS.bipush X47.here hx rfl (hb hby at_253)) ?_
     obtain ⟨_, _, ⟨T49, L49, k49, n49⟩, -, X49, ⟨Lc49, hQ49, l49, y49, z49⟩, st49⟩ := Jvm.LawKit.callS X47 hx (y := mN24) hown (gz hZ hw 27 rfl) (gz hZ hw 28 rfl) (gz hZ hw 2 rfl) (gz hZ hw 29 rfl) (by decide) (backOf (W := 0) (rm_good l Z a0 hw [] (65 : Int32) (65 : Int32) (65 : Int32) T40.heap n0 Z0) hZ (gw hw 29 rfl) (gw hw 2 rfl) (by decide) (by decide)) (g := (mkF m 255 #[vi x0, vi x1, vi x2, vi x3, vi x4, vi 2, vi r32, vi r33, vi r34, vi r35, vr b36, vr b39, vi r32, vi r33, vi 65, vi 65, vu] [(.int 65), (.int 65), (.int 65)])) rfl hml.symm (argsL := [(.int 65), (.int 65), (.int 65)]) (rest := []) (lenOf own_pd19 rfl) rfl (wz rfl) (hb hby at_255) (fun _ _ => ⟨rfl, e47, (by decide : 4 + 0 ≤ _), (by decide : 12 + 0 ≤ _)⟩)
     dsimp only [Pt.U, Pt.locs, Pt.cells, Pt.slots] at X49 l49 y49 z49 st49 hQ49
     subst l49 y49 z49
     obtain ⟨rfl, N49q, e49⟩ := hQ49
     have N49 := Fr.app N47 N49q
     refine Gs st49 ?_
     show Goes _ _ _ _ _ (fT T49 m 258 #[vi x0, vi x1, vi x2, vi x3, vi x4, vi 2, vi r32, vi r33, vi r34, vi r35, vr b36, vr b39, vi r32, vi r33, vi 65, vi 65, vu] [(.int (gd (cls (65 : Int32)) (cls (65 : Int32)) (cls (65 : Int32))))])
     by_cases hc258_50 : (gd (cls (65 : Int32)) (cls (65 : Int32)) (cls (65 : Int32))) = 0
     ·refine Gz (XS.ifYes X49.here hx rfl (pc0 := 258) (pc' := 265) rfl (hb hby at_258) rfl ((if0 _ _).trans (teq hc258_50).1) (by decide) (by decide)) ?_
      refine Gz (XS.iconst X49.here hx rfl (hb hby at_265)) ?_
      show Goes _ _ _ _ _ (fT T49 m 266 #[vi x0, vi x1, vi x2, vi x3, vi x4, vi 2, vi r32, vi r33, vi r34, vi r35, vr b36, vr b39, vi r32, vi r33, vi 65, vi 65, vu] [(.int 0)])
      have q := J T49 _ X49 e49 N49
      rw [show (own_ex (gd (cls (65 : Int32)) (cls r32) (cls r33)) (gd (cls r32) (cls r33) (cls (65 : Int32))) (gd (cls r33) (cls (65 : Int32)) (cls (65 : Int32))) (gd (cls (65 : Int32)) (cls (65 : Int32)) (cls (65 : Int32)))) = 0 from by rw [own_ex, if_neg hc222_44, if_neg hc234_46, if_neg hc246_48, if_pos hc258_50]] at q
      exact q
     ·refine Gz (XS.ifNo X49.here hx rfl (hb hby at_258) rfl ((if0 _ _).trans (feq hc258_50).1)) ?_
      refine Gz (XS.iconst X49.here hx rfl (hb hby at_261)) ?_
      refine Gz (XS.goto X49.here hx rfl (pc0 := 262) (pc' := 266) rfl (hb hby at_262) (by decide) (by decide)) ?_
      show Goes _ _ _ _ _ (fT T49 m 266 #[vi x0, vi x1, vi x2, vi x3, vi x4, vi 2, vi r32, vi r33, vi r34, vi r35, vr b36, vr b39, vi r32, vi r33, vi 65, vi 65, vu] [(.int 1)])
      have q := J T49 _ X49 e49 N49
      rw [show (own_ex (gd (cls (65 : Int32)) (cls r32) (cls r33)) (gd (cls r32) (cls r33) (cls (65 : Int32))) (gd (cls r33) (cls (65 : Int32)) (cls (65 : Int32))) (gd (cls (65 : Int32)) (cls (65 : Int32)) (cls (65 : Int32)))) = 1 from by rw [own_ex, if_neg hc222_44, if_neg hc234_46, if_neg hc246_48, if_neg hc258_50]] at q
      exact q
 ·show Goes _ _ _ _ _ (fT s₁ m 6 #[vi x0, vi x1, vi x2, vi x3, vi x4, vu, vu, vu, vu, vu, vu, vu, vu, vu, vu, vu, vu] [(.int 3)])
  refine Gz (XS.istore X0.here hx rfl (hb hby at_6) rfl (l' := #[vi x0, vi x1, vi x2, vi x3, vi x4, vi 3, vu, vu, vu, vu, vu, vu, vu, vu, vu, vu, vu]) rfl) ?_
  refine gN X0 hx hby at_8 rfl rfl ?_
  obtain ⟨_, _, ⟨T51, L51, k51, n51⟩, -, X51, ⟨Lc51, hQ51, l51, y51, z51⟩, st51⟩ := Jvm.LawKit.callS X0 hx (y := mN21) hown (gz hZ hw 0 rfl) (gz hZ hw 1 rfl) (gz hZ hw 2 rfl) (gz hZ hw 3 rfl) (by decide) (backOf (W := 0) (rm_draw l Z a0 hw [] x1 h0 n0 Z0) hZ (gw hw 3 rfl) (gw hw 2 rfl) (by decide) (by decide)) (g := (mkF m 9 #[vi x0, vi x1, vi x2, vi x3, vi x4, vi 3, vu, vu, vu, vu, vu, vu, vu, vu, vu, vu, vu] [(.int x1)])) rfl hml.symm (argsL := [(.int x1)]) (rest := []) (lenOf own_pd17 rfl) rfl (wz rfl) (hb hby at_9) (fun _ _ => ⟨rfl, e0, z0, z0⟩)
  dsimp only [Pt.U, Pt.locs, Pt.cells, Pt.slots] at X51 l51 y51 z51 st51 hQ51
  subst l51 y51 z51
  obtain ⟨r51, rfl, N51q, e51, hCd_51⟩ := hQ51
  have N51 := Fr.app N0 N51q
  refine Gs st51 ?_
  show Goes _ _ _ _ _ (fT T51 m 12 #[vi x0, vi x1, vi x2, vi x3, vi x4, vi 3, vu, vu, vu, vu, vu, vu, vu, vu, vu, vu, vu] [(.int r51)])
  refine Gz (XS.istore X51.here hx rfl (hb hby at_12) rfl (l' := #[vi x0, vi x1, vi x2, vi x3, vi x4, vi 3, vi r51, vu, vu, vu, vu, vu, vu, vu, vu, vu, vu]) rfl) ?_
  refine gN X51 hx hby at_14 rfl rfl ?_
  obtain ⟨_, _, ⟨T52, L52, k52, n52⟩, -, X52, ⟨Lc52, hQ52, l52, y52, z52⟩, st52⟩ := Jvm.LawKit.callS X51 hx (y := mN21) hown (gz hZ hw 0 rfl) (gz hZ hw 1 rfl) (gz hZ hw 2 rfl) (gz hZ hw 3 rfl) (by decide) (backOf (W := 0) (rm_draw l Z a0 hw [] x2 h0 n0 Z0) hZ (gw hw 3 rfl) (gw hw 2 rfl) (by decide) (by decide)) (g := (mkF m 15 #[vi x0, vi x1, vi x2, vi x3, vi x4, vi 3, vi r51, vu, vu, vu, vu, vu, vu, vu, vu, vu, vu] [(.int x2)])) rfl hml.symm (argsL := [(.int x2)]) (rest := []) (lenOf own_pd17 rfl) rfl (wz rfl) (hb hby at_15) (fun _ _ => ⟨rfl, e51, z0, z0⟩)
  dsimp only [Pt.U, Pt.locs, Pt.cells, Pt.slots] at X52 l52 y52 z52 st52 hQ52
  subst l52 y52 z52
  obtain ⟨r52, rfl, N52q, e52, hCd_52⟩ := hQ52
  have N52 := Fr.app N51 N52q
  refine Gs st52 ?_
  show Goes _ _ _ _ _ (fT T52 m 18 #[vi x0, vi x1, vi x2, vi x3, vi x4, vi 3, vi r51, vu, vu, vu, vu, vu, vu, vu, vu, vu, vu] [(.int r52)])
  refine Gz (XS.istore X52.here hx rfl (hb hby at_18) rfl (l' := #[vi x0, vi x1, vi x2, vi x3, vi x4, vi 3, vi r51, vi r52, vu, vu, vu, vu, vu, vu, vu, vu, vu]) rfl) ?_
  refine gN X52 hx hby at_20 rfl rfl ?_
  obtain ⟨_, _, ⟨T53, L53, k53, n53⟩, -, X53, ⟨Lc53, hQ53, l53, y53, z53⟩, st53⟩ := Jvm.LawKit.callS X52 hx (y := mN21) hown (gz hZ hw 0 rfl) (gz hZ hw 1 rfl) (gz hZ hw 2 rfl) (gz hZ hw 3 rfl) (by decide) (backOf (W := 0) (rm_draw l Z a0 hw [] x3 h0 n0 Z0) hZ (gw hw 3 rfl) (gw hw 2 rfl) (by decide) (by decide)) (g := (mkF m 21 #[vi x0, vi x1, vi x2, vi x3, vi x4, vi 3, vi r51, vi r52, vu, vu, vu, vu, vu, vu, vu, vu, vu] [(.int x3)])) rfl hml.symm (argsL := [(.int x3)]) (rest := []) (lenOf own_pd17 rfl) rfl (wz rfl) (hb hby at_21) (fun _ _ => ⟨rfl, e52, z0, z0⟩)
  dsimp only [Pt.U, Pt.locs, Pt.cells, Pt.slots] at X53 l53 y53 z53 st53 hQ53
  subst l53 y53 z53
  obtain ⟨r53, rfl, N53q, e53, hCd_53⟩ := hQ53
  have N53 := Fr.app N52 N53q
  refine Gs st53 ?_
  show Goes _ _ _ _ _ (fT T53 m 24 #[vi x0, vi x1, vi x2, vi x3, vi x4, vi 3, vi r51, vi r52, vu, vu, vu, vu, vu, vu, vu, vu, vu] [(.int r53)])
  refine Gz (XS.istore X53.here hx rfl (hb hby at_24) rfl (l' := #[vi x0, vi x1, vi x2, vi x3, vi x4, vi 3, vi r51, vi r52, vi r53, vu, vu, vu, vu, vu, vu, vu, vu]) rfl) ?_
  refine gI X53 hx hby at_26 rfl rfl ?_
  obtain ⟨_, _, ⟨T54, L54, k54, n54⟩, -, X54, ⟨Lc54, hQ54, l54, y54, z54⟩, st54⟩ := Jvm.LawKit.callS X53 hx (y := mN21) hown (gz hZ hw 0 rfl) (gz hZ hw 1 rfl) (gz hZ hw 2 rfl) (gz hZ hw 3 rfl) (by decide) (backOf (W := 0) (rm_draw l Z a0 hw [] x4 h0 n0 Z0) hZ (gw hw 3 rfl) (gw hw 2 rfl) (by decide) (by decide)) (g := (mkF m 28 #[vi x0, vi x1, vi x2, vi x3, vi x4, vi 3, vi r51, vi r52, vi r53, vu, vu, vu, vu, vu, vu, vu, vu] [(.int x4)])) rfl hml.symm (argsL := [(.int x4)]) (rest := []) (lenOf own_pd17 rfl) rfl (wz rfl) (hb hby at_28) (fun _ _ => ⟨rfl, e53, z0, z0⟩)
  dsimp only [Pt.U, Pt.locs, Pt.cells, Pt.slots] at X54 l54 y54 z54 st54 hQ54
  subst l54 y54 z54
  obtain ⟨r54, rfl, N54q, e54, hCd_54⟩ := hQ54
  have N54 := Fr.app N53 N54q
  refine Gs st54 ?_
  show Goes _ _ _ _ _ (fT T54 m 31 #[vi x0, vi x1, vi x2, vi x3, vi x4, vi 3, vi r51, vi r52, vi r53, vu, vu, vu, vu, vu, vu, vu, vu] [(.int r54)])
  refine Gz (XS.istore X54.here hx rfl (hb hby at_31) rfl (l' := #[vi x0, vi x1, vi x2, vi x3, vi x4, vi 3, vi r51, vi r52, vi r53, vi r54, vu, vu, vu, vu, vu, vu, vu]) rfl) ?_
  refine gI X54 hx hby at_33 rfl rfl ?_
  refine Gz (XS.ifYes X54.here hx rfl (pc0 := 35) (pc' := 46) rfl (hb hby at_35) rfl ((if0 _ _).trans (feq (by decide : ¬ ((3 : Int32) = (0 : Int32)))).2) (by decide) (by decide)) ?_
  refine gI X54 hx hby at_46 rfl rfl ?_
  refine Gz (XS.iconst X54.here hx rfl (hb hby at_48)) ?_
  refine Gz (XS.icmpYes X54.here hx rfl (pc0 := 49) (pc' := 65) rfl (hb hby at_49) rfl (feq (by decide : ¬ ((3 : Int32) = (1 : Int32)))).2 (by decide) (by decide)) ?_
  show Goes _ _ _ _ _ (fT T54 m 65 #[vi x0, vi x1, vi x2, vi x3, vi x4, vi 3, vi r51, vi r52, vi r53, vi r54, vu, vu, vu, vu, vu, vu, vu] [])
  refine gI X54 hx hby at_65 rfl rfl ?_
  refine Gz (XS.iconst X54.here hx rfl (hb hby at_67)) ?_
  refine Gz (XS.icmpYes X54.here hx rfl (pc0 := 68) (pc' := 89) rfl (hb hby at_68) rfl (feq (by decide : ¬ ((3 : Int32) = (2 : Int32)))).2 (by decide) (by decide)) ?_
  refine gI X54 hx hby at_89 rfl rfl ?_
  refine Gz (XS.iconst X54.here hx rfl (hb hby at_91)) ?_
  refine Gz (XS.icmpNo X54.here hx rfl (hb hby at_92) rfl (teq (by decide : ((3 : Int32) = (3 : Int32)))).2) ?_
  show Goes _ _ _ _ _ (fT T54 m 95 #[vi x0, vi x1, vi x2, vi x3, vi x4, vi 3, vi r51, vi r52, vi r53, vi r54, vu, vu, vu, vu, vu, vu, vu] [])
  refine Gz (XS.iconst X54.here hx rfl (hb hby at_95)) ?_
  obtain ⟨T55, h55, k55, X55, e55, E55, A55, st55⟩ := newP X54 hx hZ (gw hw 5 rfl) e54 (g := (mkF m 96 #[vi x0, vi x1, vi x2, vi x3, vi x4, vi 3, vi r51, vi r52, vi r53, vi r54, vu, vu, vu, vu, vu, vu, vu] [(.int 3)])) rfl (hb hby at_96) rfl (by decide) (cap := 3) (by decide) (by decide) (by decide) (by decide)
  obtain ⟨b55, gq55⟩ : ∃ z, z = h0.size := ⟨_, rfl⟩
  rw [← gq55] at A55 st55
  have g_b55 : n0 ≤ b55 := by rw [gq55]; exact Z0
  have Sf_b55 : Safe Z consts_1 s.vm h0 b55 := Safe.new (Nat.le_of_eq gq55.symm)
  replace Sf_b55 := Safe.ext E55 hR.1 Sf_b55
  replace hR := hR.trans (CHr.ext E55 hR.1)
  replace sgC := sgC.ext E55
  replace sgF := sgF.ext E55
  replace sgA := sgA.ext E55
  replace sgH := sgH.ext E55
  replace sgL := sgL.ext E55
  replace Z0 : n0 ≤ h55.size := Nat.le_trans Z0 E55.1
  replace hk := Nat.le_trans hk E55.1
  have V_b55 : Arv Z h55 b55 k55 .char 3 [(.int 0), (.int 0), (.int 0)] (.int 0) := (Arv.new A55 (by decide)).pad (pad_rep [] (.int 0) 3)
  refine Gs st55 ?_
  show Goes _ _ _ _ _ (fT T55 m 98 #[vi x0, vi x1, vi x2, vi x3, vi x4, vi 3, vi r51, vi r52, vi r53, vi r54, vu, vu, vu, vu, vu, vu, vu] [(.ref b55)])
  refine Gz (XS.dup X55.here hx rfl (hb hby at_98) rfl rfl) ?_
  refine Gz (XS.iconst X55.here hx rfl (hb hby at_99)) ?_
  refine gI X55 hx hby at_100 rfl rfl ?_
  obtain ⟨cl56, Ar56, q56, S56, N56z, H56, G56⟩ := V_b55
  have hin56 : ¬ ((0 : Int32) < 0 ∨ cl56.slots.size ≤ ((0 : Int32)).toNatClampNeg) := inb_of S56 ⟨by decide, by decide⟩
  obtain ⟨T56, h56, X56, e56, W56, st56⟩ := stC X55 hx hZ e55 Ar56 (j := (0 : Int32)) hin56 (g := (mkF m 102 #[vi x0, vi x1, vi x2, vi x3, vi x4, vi 3, vi r51, vi r52, vi r53, vi r54, vu, vu, vu, vu, vu, vu, vu] [(.int r51), (.int 0), (.ref b55), (.ref b55)])) rfl rfl (hb hby at_102)
  have Vn56 := Arv.set Ar56 q56 S56 N56z H56 G56 (fits_nar_char _) W56 0 rfl (Nat.le_of_ble_eq_true rfl)
  have N56 := Fr.snoc X56 N54 g_b55
  have Sf_b55' := Safe.wr W56 Sf_b55 hR.1 Sf_b55
  replace hR := hR.trans (CHr.wr W56 Sf_b55 hR.1)
  replace Sf_b55 := Sf_b55'
  replace sgC := sgC.wr W56
  replace sgF := sgF.wr W56
  replace sgA := sgA.wr W56
  replace sgH := sgH.wr W56
  replace sgL := sgL.wr W56
  have V_b55 : Arv Z h56 b55 k55 .char 3 [(.int r51), (.int 0), (.int 0)] (.int 0) := by have q := Vn56; rw [own_nc hCd_51] at q; exact q
  replace Z0 : n0 ≤ h56.size := by rw [W56.size]; exact Z0
  replace hk := Nat.le_trans hk (Nat.le_of_eq W56.size.symm)
  refine Gs st56 ?_
  show Goes _ _ _ _ _ (fT T56 m 103 #[vi x0, vi x1, vi x2, vi x3, vi x4, vi 3, vi r51, vi r52, vi r53, vi r54, vu, vu, vu, vu, vu, vu, vu] [(.ref b55)])
  refine Gz (XS.dup X56.here hx rfl (hb hby at_103) rfl rfl) ?_
  refine Gz (XS.iconst X56.here hx rfl (hb hby at_104)) ?_
  refine gI X56 hx hby at_105 rfl rfl ?_
  obtain ⟨cl57, Ar57, q57, S57, N57z, H57, G57⟩ := V_b55
  have hin57 : ¬ ((1 : Int32) < 0 ∨ cl57.slots.size ≤ ((1 : Int32)).toNatClampNeg) := inb_of S57 ⟨by decide, by decide⟩
  obtain ⟨T57, h57, X57, e57, W57, st57⟩ := stC X56 hx hZ e56 Ar57 (j := (1 : Int32)) hin57 (g := (mkF m 107 #[vi x0, vi x1, vi x2, vi x3, vi x4, vi 3, vi r51, vi r52, vi r53, vi r54, vu, vu, vu, vu, vu, vu, vu] [(.int r52), (.int 1), (.ref b55), (.ref b55)])) rfl rfl (hb hby at_107)
  have Vn57 := Arv.set Ar57 q57 S57 N57z H57 G57 (fits_nar_char _) W57 1 rfl (Nat.le_of_ble_eq_true rfl)
  have N57 := Fr.snoc X57 N56 g_b55
  have Sf_b55' := Safe.wr W57 Sf_b55 hR.1 Sf_b55
  replace hR := hR.trans (CHr.wr W57 Sf_b55 hR.1)
  replace Sf_b55 := Sf_b55'
  replace sgC := sgC.wr W57
  replace sgF := sgF.wr W57
  replace sgA := sgA.wr W57
  replace sgH := sgH.wr W57
  replace sgL := sgL.wr W57
  have V_b55 : Arv Z h57 b55 k55 .char 3 [(.int r51), (.int r52), (.int 0)] (.int 0) := by have q := Vn57; rw [own_nc hCd_52] at q; exact q
  replace Z0 : n0 ≤ h57.size := by rw [W57.size]; exact Z0
  replace hk := Nat.le_trans hk (Nat.le_of_eq W57.size.symm)
  refine Gs st57 ?_
  show Goes _ _ _ _ _ (fT T57 m 108 #[vi x0, vi x1, vi x2, vi x3, vi x4, vi 3, vi r51, vi r52, vi r53, vi r54, vu, vu, vu, vu, vu, vu, vu] [(.ref b55)])
  refine Gz (XS.dup X57.here hx rfl (hb hby at_108) rfl rfl) ?_
  refine Gz (XS.iconst X57.here hx rfl (hb hby at_109)) ?_
  refine gI X57 hx hby at_110 rfl rfl ?_
  obtain ⟨cl58, Ar58, q58, S58, N58z, H58, G58⟩ := V_b55
  have hin58 : ¬ ((2 : Int32) < 0 ∨ cl58.slots.size ≤ ((2 : Int32)).toNatClampNeg) := inb_of S58 ⟨by decide, by decide⟩
  obtain ⟨T58, h58, X58, e58, W58, st58⟩ := stC X57 hx hZ e57 Ar58 (j := (2 : Int32)) hin58 (g := (mkF m 112 #[vi x0, vi x1, vi x2, vi x3, vi x4, vi 3, vi r51, vi r52, vi r53, vi r54, vu, vu, vu, vu, vu, vu, vu] [(.int r53), (.int 2), (.ref b55), (.ref b55)])) rfl rfl (hb hby at_112)
  have Vn58 := Arv.set Ar58 q58 S58 N58z H58 G58 (fits_nar_char _) W58 2 rfl (Nat.le_of_ble_eq_true rfl)
  have N58 := Fr.snoc X58 N57 g_b55
  replace hR := hR.trans (CHr.wr W58 Sf_b55 hR.1)
  replace sgC := sgC.wr W58
  replace sgF := sgF.wr W58
  replace sgA := sgA.wr W58
  replace sgH := sgH.wr W58
  replace sgL := sgL.wr W58
  have V_b55 : Arv Z h58 b55 k55 .char 3 [(.int r51), (.int r52), (.int r53)] (.int 0) := by have q := Vn58; rw [own_nc hCd_53] at q; exact q
  replace Z0 : n0 ≤ h58.size := by rw [W58.size]; exact Z0
  replace hk := Nat.le_trans hk (Nat.le_of_eq W58.size.symm)
  refine Gs st58 ?_
  show Goes _ _ _ _ _ (fT T58 m 113 #[vi x0, vi x1, vi x2, vi x3, vi x4, vi 3, vi r51, vi r52, vi r53, vi r54, vu, vu, vu, vu, vu, vu, vu] [(.ref b55)])
  refine Gz (XS.astore X58.here hx rfl (hb hby at_113) rfl rfl (l' := #[vi x0, vi x1, vi x2, vi x3, vi x4, vi 3, vi r51, vi r52, vi r53, vi r54, vr b55, vu, vu, vu, vu, vu, vu]) rfl) ?_
  refine Gz (XS.goto X58.here hx rfl (pc0 := 115) (pc' := 143) rfl (hb hby at_115) (by decide) (by decide)) ?_
  obtain ⟨T59, h59, X59, e59, E59, A59, D59, -, st59⟩ := newO X58 hx hZ hown (gw hw 6 rfl) (gw hw 7 rfl) (gw hw 8 rfl) e58 (g := (mkF m 143 #[vi x0, vi x1, vi x2, vi x3, vi x4, vi 3, vi r51, vi r52, vi r53, vi r54, vr b55, vu, vu, vu, vu, vu, vu] [])) rfl (hb hby at_143) (by decide) (by decide)
  obtain ⟨b59, gq59⟩ : ∃ z, z = h58.size := ⟨_, rfl⟩
  rw [← gq59] at A59 st59 D59
  have g_b59 : n0 ≤ b59 := by rw [gq59]; exact Z0
  have ne_b55_b59 : b55 ≠ b59 := by rw [gq59]; exact Nat.ne_of_lt V_b55.lt
  have Sf_b59 : Safe Z consts_1 s.vm h58 b59 := Safe.new (Nat.le_of_eq gq59.symm)
  replace Sf_b59 := Safe.ext E59 hR.1 Sf_b59
  replace hR := hR.trans (CHr.ext E59 hR.1)
  replace sgC := sgC.ext E59
  replace sgF := sgF.ext E59
  replace sgA := sgA.ext E59
  replace sgH := sgH.ext E59
  replace sgL := sgL.ext E59
  replace V_b55 := V_b55.ext E59
  replace Z0 : n0 ≤ h59.size := Nat.le_trans Z0 E59.1
  replace hk := Nat.le_trans hk E59.1
  have A_b59 : Exa Z h59 b59 "java/lang/String" := A59
  have F_value_b59 : Fld Z h59 b59 "java/lang/String" "value" "[B" .null := D59 (Or.inr (gw hw 21 rfl)) (ty := (.array .byte)) (by decide)
  have F_coder_b59 : Fld Z h59 b59 "java/lang/String" "coder" "B" (.int 0) := D59 (Or.inr (gw hw 22 rfl)) (ty := .byte) (by decide)
  refine Gs st59 ?_
  show Goes _ _ _ _ _ (fT T59 m 146 #[vi x0, vi x1, vi x2, vi x3, vi x4, vi 3, vi r51, vi r52, vi r53, vi r54, vr b55, vu, vu, vu, vu, vu, vu] [(.ref b59)])
  refine Gz (XS.dup X59.here hx rfl (hb hby at_146) rfl rfl) ?_
  refine Gz (XS.aload X59.here hx rfl (hb hby at_147) rfl rfl) ?_
  obtain ⟨_, _, ⟨T60, L60, k60, n60⟩, -, X60, ⟨Lc60, hQ60, l60, y60, z60⟩, st60⟩ := X59.specialBack hx (y := mN13) rfl hown (gz hZ hw 9 rfl) (gz hZ hw 10 rfl) (gz hZ hw 11 rfl) (by decide) (backOf (W := 1) (rs_i1_3 l Z a0 hw [] b59 b55 k55 r51 r52 r53 cz h59 n0 Z0 A_b59 F_value_b59 F_coder_b59 V_b55 g_b59 ne_b55_b59 sgC (by first | assumption | decide) hCd_51 hCd_52 hCd_53 sgA sgH sgL) hZ (gw hw 11 rfl) (gw hw 8 rfl) (by decide) (by decide)) (g := (mkF m 149 #[vi x0, vi x1, vi x2, vi x3, vi x4, vi 3, vi r51, vi r52, vi r53, vi r54, vr b55, vu, vu, vu, vu, vu, vu] [(.ref b55), (.ref b59), (.ref b59)])) rfl hml.symm (Steps.refl _) (a := b59) (argsL := [(.ref b55)]) (rest := [(.ref b59)]) (lenOf own_pd18 rfl) rfl (wz rfl) (hb hby at_149) (fun _ _ => ⟨rfl, e59, (by decide : 2 + 2 ≤ _), (by decide : 7 + 9 ≤ _)⟩)
  dsimp only [Pt.U, Pt.locs, Pt.cells, Pt.slots] at X60 l60 y60 z60 st60 hQ60
  subst l60 y60 z60
  obtain ⟨rfl, N60q, K60, T_b59_60'⟩ := hQ60
  have N60 := Fr.app N58 N60q
  replace sgC := own_staK sgC K60 (allS (own_obE A_b59) all0)
  replace sgF := own_staK sgF K60 (allS (own_obE A_b59) all0)
  replace sgA := own_staK sgA K60 (allS (own_obE A_b59) all0)
  replace sgH := own_staK sgH K60 (allS (own_obE A_b59) all0)
  replace sgL := own_staK sgL K60 (allS (own_obE A_b59) all0)
  replace hR := hR.trans (CHr.keep K60 (allS Sf_b59 all0) hR.1)
  replace Z0 := Nat.le_trans Z0 K60.1
  replace hk := Nat.le_trans hk K60.1
  have T_b59 := T_b59_60'
  refine Gs (fun _ tk => st60.trans tk) ?_
  show Goes _ _ _ _ _ (fT T60 m 152 #[vi x0, vi x1, vi x2, vi x3, vi x4, vi 3, vi r51, vi r52, vi r53, vi r54, vr b55, vu, vu, vu, vu, vu, vu] [(.ref b59)])
  refine Gz (XS.astore X60.here hx rfl (hb hby at_152) rfl rfl (l' := #[vi x0, vi x1, vi x2, vi x3, vi x4, vi 3, vi r51, vi r52, vi r53, vi r54, vr b55, vr b59, vu, vu, vu, vu, vu]) rfl) ?_
  refine gI X60 hx hby at_154 rfl rfl ?_
  refine Gz (XS.ifNo X60.here hx rfl (hb hby at_156) rfl ((if0 _ _).trans (tlt (by decide : ((0 : Int32) < (3 : Int32)))).2.2.2)) ?_
  refine gI X60 hx hby at_159 rfl rfl ?_
  refine Gz (XS.goto X60.here hx rfl (pc0 := 161) (pc' := 166) rfl (hb hby at_161) (by decide) (by decide)) ?_
  refine Gz (XS.istore X60.here hx rfl (hb hby at_166) rfl (l' := #[vi x0, vi x1, vi x2, vi x3, vi x4, vi 3, vi r51, vi r52, vi r53, vi r54, vr b55, vr b59, vi r51, vu, vu, vu, vu]) rfl) ?_
  show Goes _ _ _ _ _ (fT T60 m 168 #[vi x0, vi x1, vi x2, vi x3, vi x4, vi 3, vi r51, vi r52, vi r53, vi r54, vr b55, vr b59, vi r51, vu, vu, vu, vu] [])
  refine gI X60 hx hby at_168 rfl rfl ?_
  refine Gz (XS.iconst X60.here hx rfl (hb hby at_170)) ?_
  refine Gz (XS.icmpNo X60.here hx rfl (hb hby at_171) rfl (tlt (by decide : ((1 : Int32) < (3 : Int32)))).2.2.2) ?_
  refine gI X60 hx hby at_174 rfl rfl ?_
  refine Gz (XS.goto X60.here hx rfl (pc0 := 176) (pc' := 181) rfl (hb hby at_176) (by decide) (by decide)) ?_
  refine Gz (XS.istore X60.here hx rfl (hb hby at_181) rfl (l' := #[vi x0, vi x1, vi x2, vi x3, vi x4, vi 3, vi r51, vi r52, vi r53, vi r54, vr b55, vr b59, vi r51, vi r52, vu, vu, vu]) rfl) ?_
  show Goes _ _ _ _ _ (fT T60 m 183 #[vi x0, vi x1, vi x2, vi x3, vi x4, vi 3, vi r51, vi r52, vi r53, vi r54, vr b55, vr b59, vi r51, vi r52, vu, vu, vu] [])
  refine gI X60 hx hby at_183 rfl rfl ?_
  refine Gz (XS.iconst X60.here hx rfl (hb hby at_185)) ?_
  refine Gz (XS.icmpNo X60.here hx rfl (hb hby at_186) rfl (tlt (by decide : ((2 : Int32) < (3 : Int32)))).2.2.2) ?_
  refine gI X60 hx hby at_189 rfl rfl ?_
  refine Gz (XS.goto X60.here hx rfl (pc0 := 191) (pc' := 196) rfl (hb hby at_191) (by decide) (by decide)) ?_
  refine Gz (XS.istore X60.here hx rfl (hb hby at_196) rfl (l' := #[vi x0, vi x1, vi x2, vi x3, vi x4, vi 3, vi r51, vi r52, vi r53, vi r54, vr b55, vr b59, vi r51, vi r52, vi r53, vu, vu]) rfl) ?_
  show Goes _ _ _ _ _ (fT T60 m 198 #[vi x0, vi x1, vi x2, vi x3, vi x4, vi 3, vi r51, vi r52, vi r53, vi r54, vr b55, vr b59, vi r51, vi r52, vi r53, vu, vu] [])
  refine gI X60 hx hby at_198 rfl rfl ?_
  refine Gz (XS.iconst X60.here hx rfl (hb hby at_200)) ?_
  refine Gz (XS.icmpYes X60.here hx rfl (pc0 := 201) (pc' := 209) rfl (hb hby at_201) rfl (flt (by decide : ¬ ((3 : Int32) < (3 : Int32)))).2.2.2 (by decide) (by decide)) ?_
  refine Gz (XS.bipush X60.here hx rfl (hb hby at_209)) ?_
  refine Gz (XS.istore X60.here hx rfl (hb hby at_211) rfl (l' := #[vi x0, vi x1, vi x2, vi x3, vi x4, vi 3, vi r51, vi r52, vi r53, vi r54, vr b55, vr b59, vi r51, vi r52, vi r53, vi 65, vu]) rfl) ?_
  refine Gz (XS.bipush X60.here hx rfl (hb hby at_213)) ?_
  show Goes _ _ _ _ _ (fT T60 m 215 #[vi x0, vi x1, vi x2, vi x3, vi x4, vi 3, vi r51, vi r52, vi r53, vi r54, vr b55, vr b59, vi r51, vi r52, vi r53, vi 65, vu] [(.int 65)])
  refine gI X60 hx hby at_215 rfl rfl ?_
  refine gI X60 hx hby at_217 rfl rfl ?_
  obtain ⟨_, _, ⟨T61, L61, k61, n61⟩, -, X61, ⟨Lc61, hQ61, l61, y61, z61⟩, st61⟩ := Jvm.LawKit.callS X60 hx (y := mN24) hown (gz hZ hw 27 rfl) (gz hZ hw 28 rfl) (gz hZ hw 2 rfl) (gz hZ hw 29 rfl) (by decide) (backOf (W := 0) (rm_good l Z a0 hw [] (65 : Int32) r51 r52 T60.heap n0 Z0) hZ (gw hw 29 rfl) (gw hw 2 rfl) (by decide) (by decide)) (g := (mkF m 219 #[vi x0, vi x1, vi x2, vi x3, vi x4, vi 3, vi r51, vi r52, vi r53, vi r54, vr b55, vr b59, vi r51, vi r52, vi r53, vi 65, vu] [(.int r52), (.int r51), (.int 65)])) rfl hml.symm (argsL := [(.int 65), (.int r51), (.int r52)]) (rest := []) (lenOf own_pd19 rfl) rfl (wz rfl) (hb hby at_219) (fun _ _ => ⟨rfl, rfl, (by decide : 4 + 0 ≤ _), (by decide : 16 + 0 ≤ _)⟩)
  dsimp only [Pt.U, Pt.locs, Pt.cells, Pt.slots] at X61 l61 y61 z61 st61 hQ61
  subst l61 y61 z61
  obtain ⟨rfl, N61q, e61⟩ := hQ61
  have N61 := Fr.app N60 N61q
  refine Gs st61 ?_
  show Goes _ _ _ _ _ (fT T61 m 222 #[vi x0, vi x1, vi x2, vi x3, vi x4, vi 3, vi r51, vi r52, vi r53, vi r54, vr b55, vr b59, vi r51, vi r52, vi r53, vi 65, vu] [(.int (gd (cls (65 : Int32)) (cls r51) (cls r52)))])
  refine own_joinT X61 e61 N61 (B := fun T => T.setTop (mkF m 266 #[vi x0, vi x1, vi x2, vi x3, vi x4, vi 3, vi r51, vi r52, vi r53, vi r54, vr b55, vr b59, vi r51, vi r52, vi r53, vi 65, vu] [(.int (own_ex (gd (cls (65 : Int32)) (cls r51) (cls r52)) (gd (cls r51) (cls r52) (cls r53)) (gd (cls r52) (cls r53) (cls (65 : Int32))) (gd (cls r53) (cls (65 : Int32)) (cls (65 : Int32)))))])) ?_ ?_
  ·intro T L X E N
   show Goes _ _ _ _ _ (fT T m 266 #[vi x0, vi x1, vi x2, vi x3, vi x4, vi 3, vi r51, vi r52, vi r53, vi r54, vr b55, vr b59, vi r51, vi r52, vi r53, vi 65, vu] [(.int (own_ex (gd (cls (65 : Int32)) (cls r51) (cls r52)) (gd (cls r51) (cls r52) (cls r53)) (gd (cls r52) (cls r53) (cls (65 : Int32))) (gd (cls r53) (cls (65 : Int32)) (cls (65 : Int32)))))])
   refine Gz (XS.istore X.here hx rfl (hb hby at_266) rfl (l' := #[vi x0, vi x1, vi x2, vi x3, vi x4, vi 3, vi r51, vi r52, vi r53, vi r54, vr b55, vr b59, vi r51, vi r52, vi r53, vi 65, vi (own_ex (gd (cls (65 : Int32)) (cls r51) (cls r52)) (gd (cls r51) (cls r52) (cls r53)) (gd (cls r52) (cls r53) (cls (65 : Int32))) (gd (cls r53) (cls (65 : Int32)) (cls (65 : Int32))))]) rfl) ?_
   refine Gz (XS.aload X.here hx rfl (hb hby at_268) rfl rfl) ?_
   obtain ⟨_, _, ⟨T62, L62, k62, n62⟩, -, X62, ⟨Lc62, hQ62, l62, y62, z62⟩, st62⟩ := Jvm.LawKit.callS X hx (y := mN26) hown (gz hZ hw 37 rfl) (gz hZ hw 38 rfl) (gz hZ hw 39 rfl) (gz hZ hw 40 rfl) (by decide) (backOf (W := 0) (rm_ch l Z a0 hw [] b59 [r51, r52, r53] cz fo T60.heap n0 Z0 T_b59 sgC (by first | assumption | decide) sgF (by first | assumption | decide) sgA sgH sgL) hZ (gw hw 40 rfl) (gw hw 39 rfl) (by decide) (by decide)) (g := (mkF m 270 #[vi x0, vi x1, vi x2, vi x3, vi x4, vi 3, vi r51, vi r52, vi r53, vi r54, vr b55, vr b59, vi r51, vi r52, vi r53, vi 65, vi (own_ex (gd (cls (65 : Int32)) (cls r51) (cls r52)) (gd (cls r51) (cls r52) (cls r53)) (gd (cls r52) (cls r53) (cls (65 : Int32))) (gd (cls r53) (cls (65 : Int32)) (cls (65 : Int32))))] [(.ref b59)])) rfl hml.symm (argsL := [(.ref b59)]) (rest := []) (lenOf own_pd20 rfl) rfl (wz rfl) (hb hby at_270) (fun _ _ => ⟨rfl, E, (by decide : 4 + 0 ≤ _), (by decide : 16 + 0 ≤ _)⟩)
   dsimp only [Pt.U, Pt.locs, Pt.cells, Pt.slots] at X62 l62 y62 z62 st62 hQ62
   subst l62 y62 z62
   obtain ⟨rfl, N62q, e62⟩ := hQ62
   have N62 := Fr.app N N62q
   refine Gs st62 ?_
   show Goes _ _ _ _ _ (fT T62 m 273 #[vi x0, vi x1, vi x2, vi x3, vi x4, vi 3, vi r51, vi r52, vi r53, vi r54, vr b55, vr b59, vi r51, vi r52, vi r53, vi 65, vi (own_ex (gd (cls (65 : Int32)) (cls r51) (cls r52)) (gd (cls r51) (cls r52) (cls r53)) (gd (cls r52) (cls r53) (cls (65 : Int32))) (gd (cls r53) (cls (65 : Int32)) (cls (65 : Int32))))] [(.int (chK (List.map cls [r51, r52, r53])))])
   refine gI X62 hx hby at_273 rfl rfl ?_
   have hc275_63 : (chK (List.map cls [r51, r52, r53])) = (own_ex (gd (cls (65 : Int32)) (cls r51) (cls r52)) (gd (cls r51) (cls r52) (cls r53)) (gd (cls r52) (cls r53) (cls (65 : Int32))) (gd (cls r53) (cls (65 : Int32)) (cls (65 : Int32)))) := (show ∀ k0 k1 k2 : Fin 4, chK [k0, k1, k2] = (own_ex (gd (cls (65 : Int32)) k0 k1) (gd k0 k1 k2) (gd k1 k2 (cls (65 : Int32))) (gd k2 (cls (65 : Int32)) (cls (65 : Int32)))) from by simp only [own_65]; decide +kernel) (cls r51) (cls r52) (cls r53)
   refine Gz (XS.icmpNo X62.here hx rfl (hb hby at_275) rfl (teq hc275_63).2) ?_
   refine Gz (XS.iconst X62.here hx rfl (hb hby at_278)) ?_
   refine Gz (XS.goto X62.here hx rfl (pc0 := 279) (pc' := 283) rfl (hb hby at_279) (by decide) (by decide)) ?_
   refine Goes.retH X62 hS e62 hk hZ (own_EW hw) hh hR (some (.int 1)) (fun h => by rw [hret] at h; cases h) hlk (by decide) (by decide) ?_ (fun fs hr => ?_)
   ·rw [e62]; exact ⟨rfl, N62⟩
   ·exact own_retN X62 hx (t := .boolean) hret (by simp) rfl (hb hby at_283) hr
  intro J
  by_cases hc222_64 : (gd (cls (65 : Int32)) (cls r51) (cls r52)) = 0
  ·refine Gz (XS.ifYes X61.here hx rfl (pc0 := 222) (pc' := 265) rfl (hb hby at_222) rfl ((if0 _ _).trans (teq hc222_64).1) (by decide) (by decide)) ?_
   refine Gz (XS.iconst X61.here hx rfl (hb hby at_265)) ?_
   show Goes _ _ _ _ _ (fT T61 m 266 #[vi x0, vi x1, vi x2, vi x3, vi x4, vi 3, vi r51, vi r52, vi r53, vi r54, vr b55, vr b59, vi r51, vi r52, vi r53, vi 65, vu] [(.int 0)])
   have q := J T61 _ X61 e61 N61
   rw [show (own_ex (gd (cls (65 : Int32)) (cls r51) (cls r52)) (gd (cls r51) (cls r52) (cls r53)) (gd (cls r52) (cls r53) (cls (65 : Int32))) (gd (cls r53) (cls (65 : Int32)) (cls (65 : Int32)))) = 0 from by rw [own_ex, if_pos hc222_64]] at q
   exact q
  ·refine Gz (XS.ifNo X61.here hx rfl (hb hby at_222) rfl ((if0 _ _).trans (feq hc222_64).1)) ?_
   refine gI X61 hx hby at_225 rfl rfl ?_
   refine gI X61 hx hby at_227 rfl rfl ?_
   refine gI X61 hx hby at_229 rfl rfl ?_
   obtain ⟨_, _, ⟨T65, L65, k65, n65⟩, -, X65, ⟨Lc65, hQ65, l65, y65, z65⟩, st65⟩ := Jvm.LawKit.callS X61 hx (y := mN24) hown (gz hZ hw 27 rfl) (gz hZ hw 28 rfl) (gz hZ hw 2 rfl) (gz hZ hw 29 rfl) (by decide) (backOf (W := 0) (rm_good l Z a0 hw [] r51 r52 r53 T60.heap n0 Z0) hZ (gw hw 29 rfl) (gw hw 2 rfl) (by decide) (by decide)) (g := (mkF m 231 #[vi x0, vi x1, vi x2, vi x3, vi x4, vi 3, vi r51, vi r52, vi r53, vi r54, vr b55, vr b59, vi r51, vi r52, vi r53, vi 65, vu] [(.int r53), (.int r52), (.int r51)])) rfl hml.symm (argsL := [(.int r51), (.int r52), (.int r53)]) (rest := []) (lenOf own_pd19 rfl) rfl (wz rfl) (hb hby at_231) (fun _ _ => ⟨rfl, e61, (by decide : 4 + 0 ≤ _), (by decide : 16 + 0 ≤ _)⟩)
   dsimp only [Pt.U, Pt.locs, Pt.cells, Pt.slots] at X65 l65 y65 z65 st65 hQ65
   subst l65 y65 z65
   obtain ⟨rfl, N65q, e65⟩ := hQ65
   have N65 := Fr.app N61 N65q
   refine Gs st65 ?_
   show Goes _ _ _ _ _ (fT T65 m 234 #[vi x0, vi x1, vi x2, vi x3, vi x4, vi 3, vi r51, vi r52, vi r53, vi r54, vr b55, vr b59, vi r51, vi r52, vi r53, vi 65, vu] [(.int (gd (cls r51) (cls r52) (cls r53)))])
   by_cases hc234_66 : (gd (cls r51) (cls r52) (cls r53)) = 0
   ·refine Gz (XS.ifYes X65.here hx rfl (pc0 := 234) (pc' := 265) rfl (hb hby at_234) rfl ((if0 _ _).trans (teq hc234_66).1) (by decide) (by decide)) ?_
    refine Gz (XS.iconst X65.here hx rfl (hb hby at_265)) ?_
    show Goes _ _ _ _ _ (fT T65 m 266 #[vi x0, vi x1, vi x2, vi x3, vi x4, vi 3, vi r51, vi r52, vi r53, vi r54, vr b55, vr b59, vi r51, vi r52, vi r53, vi 65, vu] [(.int 0)])
    have q := J T65 _ X65 e65 N65
    rw [show (own_ex (gd (cls (65 : Int32)) (cls r51) (cls r52)) (gd (cls r51) (cls r52) (cls r53)) (gd (cls r52) (cls r53) (cls (65 : Int32))) (gd (cls r53) (cls (65 : Int32)) (cls (65 : Int32)))) = 0 from by rw [own_ex, if_neg hc222_64, if_pos hc234_66]] at q
    exact q
   ·refine Gz (XS.ifNo X65.here hx rfl (hb hby at_234) rfl ((if0 _ _).trans (feq hc234_66).1)) ?_
    refine gI X65 hx hby at_237 rfl rfl ?_
    refine gI X65 hx hby at_239 rfl rfl ?_
    refine gI X65 hx hby at_241 rfl rfl ?_
    obtain ⟨_, _, ⟨T67, L67, k67, n67⟩, -, X67, ⟨Lc67, hQ67, l67, y67, z67⟩, st67⟩ := Jvm.LawKit.callS X65 hx (y := mN24) hown (gz hZ hw 27 rfl) (gz hZ hw 28 rfl) (gz hZ hw 2 rfl) (gz hZ hw 29 rfl) (by decide) (backOf (W := 0) (rm_good l Z a0 hw [] r52 r53 (65 : Int32) T60.heap n0 Z0) hZ (gw hw 29 rfl) (gw hw 2 rfl) (by decide) (by decide)) (g := (mkF m 243 #[vi x0, vi x1, vi x2, vi x3, vi x4, vi 3, vi r51, vi r52, vi r53, vi r54, vr b55, vr b59, vi r51, vi r52, vi r53, vi 65, vu] [(.int 65), (.int r53), (.int r52)])) rfl hml.symm (argsL := [(.int r52), (.int r53), (.int 65)]) (rest := []) (lenOf own_pd19 rfl) rfl (wz rfl) (hb hby at_243) (fun _ _ => ⟨rfl, e65, (by decide : 4 + 0 ≤ _), (by decide : 16 + 0 ≤ _)⟩)
    dsimp only [Pt.U, Pt.locs, Pt.cells, Pt.slots] at X67 l67 y67 z67 st67 hQ67
    subst l67 y67 z67
    obtain ⟨rfl, N67q, e67⟩ := hQ67
    have N67 := Fr.app N65 N67q
    refine Gs st67 ?_
    show Goes _ _ _ _ _ (fT T67 m 246 #[vi x0, vi x1, vi x2, vi x3, vi x4, vi 3, vi r51, vi r52, vi r53, vi r54, vr b55, vr b59, vi r51, vi r52, vi r53, vi 65, vu] [(.int (gd (cls r52) (cls r53) (cls (65 : Int32))))])
    by_cases hc246_68 : (gd (cls r52) (cls r53) (cls (65 : Int32))) = 0
    ·refine Gz (XS.ifYes X67.here hx rfl (pc0 := 246) (pc' := 265) rfl (hb hby at_246) rfl ((if0 _ _).trans (teq hc246_68).1) (by decide) (by decide)) ?_
     refine Gz (XS.iconst X67.here hx rfl (hb hby at_265)) ?_
     show Goes _ _ _ _ _ (fT T67 m 266 #[vi x0, vi x1, vi x2, vi x3, vi x4, vi 3, vi r51, vi r52, vi r53, vi r54, vr b55, vr b59, vi r51, vi r52, vi r53, vi 65, vu] [(.int 0)])
     have q := J T67 _ X67 e67 N67
     rw [show (own_ex (gd (cls (65 : Int32)) (cls r51) (cls r52)) (gd (cls r51) (cls r52) (cls r53)) (gd (cls r52) (cls r53) (cls (65 : Int32))) (gd (cls r53) (cls (65 : Int32)) (cls (65 : Int32)))) = 0 from by rw [own_ex, if_neg hc222_64, if_neg hc234_66, if_pos hc246_68]] at q
     exact q
    ·refine Gz (XS.ifNo X67.here hx rfl (hb hby at_246) rfl ((if0 _ _).trans (feq hc246_68).1)) ?_
     refine gI X67 hx hby at_249 rfl rfl ?_
     refine gI X67 hx hby at_251 rfl rfl ?_
     refine Gz (XS.bipush X67.here hx rfl (hb hby at_253)) ?_
     obtain ⟨_, _, ⟨T69, L69, k69, n69⟩, -, X69, ⟨Lc69, hQ69, l69, y69, z69⟩, st69⟩ := Jvm.LawKit.callS X67 hx (y := mN24) hown (gz hZ hw 27 rfl) (gz hZ hw 28 rfl) (gz hZ hw 2 rfl) (gz hZ hw 29 rfl) (by decide) (backOf (W := 0) (rm_good l Z a0 hw [] r53 (65 : Int32) (65 : Int32) T60.heap n0 Z0) hZ (gw hw 29 rfl) (gw hw 2 rfl) (by decide) (by decide)) (g := (mkF m 255 #[vi x0, vi x1, vi x2, vi x3, vi x4, vi 3, vi r51, vi r52, vi r53, vi r54, vr b55, vr b59, vi r51, vi r52, vi r53, vi 65, vu] [(.int 65), (.int 65), (.int r53)])) rfl hml.symm (argsL := [(.int r53), (.int 65), (.int 65)]) (rest := []) (lenOf own_pd19 rfl) rfl (wz rfl) (hb hby at_255) (fun _ _ => ⟨rfl, e67, (by decide : 4 + 0 ≤ _), (by decide : 16 + 0 ≤ _)⟩)
     dsimp only [Pt.U, Pt.locs, Pt.cells, Pt.slots] at X69 l69 y69 z69 st69 hQ69
     subst l69 y69 z69
     obtain ⟨rfl, N69q, e69⟩ := hQ69
     have N69 := Fr.app N67 N69q
     refine Gs st69 ?_
     show Goes _ _ _ _ _ (fT T69 m 258 #[vi x0, vi x1, vi x2, vi x3, vi x4, vi 3, vi r51, vi r52, vi r53, vi r54, vr b55, vr b59, vi r51, vi r52, vi r53, vi 65, vu] [(.int (gd (cls r53) (cls (65 : Int32)) (cls (65 : Int32))))])
     by_cases hc258_70 : (gd (cls r53) (cls (65 : Int32)) (cls (65 : Int32))) = 0
     ·refine Gz (XS.ifYes X69.here hx rfl (pc0 := 258) (pc' := 265) rfl (hb hby at_258) rfl ((if0 _ _).trans (teq hc258_70).1) (by decide) (by decide)) ?_
      refine Gz (XS.iconst X69.here hx rfl (hb hby at_265)) ?_
      show Goes _ _ _ _ _ (fT T69 m 266 #[vi x0, vi x1, vi x2, vi x3, vi x4, vi 3, vi r51, vi r52, vi r53, vi r54, vr b55, vr b59, vi r51, vi r52, vi r53, vi 65, vu] [(.int 0)])
      have q := J T69 _ X69 e69 N69
      rw [show (own_ex (gd (cls (65 : Int32)) (cls r51) (cls r52)) (gd (cls r51) (cls r52) (cls r53)) (gd (cls r52) (cls r53) (cls (65 : Int32))) (gd (cls r53) (cls (65 : Int32)) (cls (65 : Int32)))) = 0 from by rw [own_ex, if_neg hc222_64, if_neg hc234_66, if_neg hc246_68, if_pos hc258_70]] at q
      exact q
     ·refine Gz (XS.ifNo X69.here hx rfl (hb hby at_258) rfl ((if0 _ _).trans (feq hc258_70).1)) ?_
      refine Gz (XS.iconst X69.here hx rfl (hb hby at_261)) ?_
      refine Gz (XS.goto X69.here hx rfl (pc0 := 262) (pc' := 266) rfl (hb hby at_262) (by decide) (by decide)) ?_
      show Goes _ _ _ _ _ (fT T69 m 266 #[vi x0, vi x1, vi x2, vi x3, vi x4, vi 3, vi r51, vi r52, vi r53, vi r54, vr b55, vr b59, vi r51, vi r52, vi r53, vi 65, vu] [(.int 1)])
      have q := J T69 _ X69 e69 N69
      rw [show (own_ex (gd (cls (65 : Int32)) (cls r51) (cls r52)) (gd (cls r51) (cls r52) (cls r53)) (gd (cls r52) (cls r53) (cls (65 : Int32))) (gd (cls r53) (cls (65 : Int32)) (cls (65 : Int32)))) = 1 from by rw [own_ex, if_neg hc222_64, if_neg hc234_66, if_neg hc246_68, if_neg hc258_70]] at q
      exact q
 ·show Goes _ _ _ _ _ (fT s₁ m 6 #[vi x0, vi x1, vi x2, vi x3, vi x4, vu, vu, vu, vu, vu, vu, vu, vu, vu, vu, vu, vu] [(.int 4)])
  refine Gz (XS.istore X0.here hx rfl (hb hby at_6) rfl (l' := #[vi x0, vi x1, vi x2, vi x3, vi x4, vi 4, vu, vu, vu, vu, vu, vu, vu, vu, vu, vu, vu]) rfl) ?_
  refine gN X0 hx hby at_8 rfl rfl ?_
  obtain ⟨_, _, ⟨T71, L71, k71, n71⟩, -, X71, ⟨Lc71, hQ71, l71, y71, z71⟩, st71⟩ := Jvm.LawKit.callS X0 hx (y := mN21) hown (gz hZ hw 0 rfl) (gz hZ hw 1 rfl) (gz hZ hw 2 rfl) (gz hZ hw 3 rfl) (by decide) (backOf (W := 0) (rm_draw l Z a0 hw [] x1 h0 n0 Z0) hZ (gw hw 3 rfl) (gw hw 2 rfl) (by decide) (by decide)) (g := (mkF m 9 #[vi x0, vi x1, vi x2, vi x3, vi x4, vi 4, vu, vu, vu, vu, vu, vu, vu, vu, vu, vu, vu] [(.int x1)])) rfl hml.symm (argsL := [(.int x1)]) (rest := []) (lenOf own_pd17 rfl) rfl (wz rfl) (hb hby at_9) (fun _ _ => ⟨rfl, e0, z0, z0⟩)
  dsimp only [Pt.U, Pt.locs, Pt.cells, Pt.slots] at X71 l71 y71 z71 st71 hQ71
  subst l71 y71 z71
  obtain ⟨r71, rfl, N71q, e71, hCd_71⟩ := hQ71
  have N71 := Fr.app N0 N71q
  refine Gs st71 ?_
  show Goes _ _ _ _ _ (fT T71 m 12 #[vi x0, vi x1, vi x2, vi x3, vi x4, vi 4, vu, vu, vu, vu, vu, vu, vu, vu, vu, vu, vu] [(.int r71)])
  refine Gz (XS.istore X71.here hx rfl (hb hby at_12) rfl (l' := #[vi x0, vi x1, vi x2, vi x3, vi x4, vi 4, vi r71, vu, vu, vu, vu, vu, vu, vu, vu, vu, vu]) rfl) ?_
  refine gN X71 hx hby at_14 rfl rfl ?_
  obtain ⟨_, _, ⟨T72, L72, k72, n72⟩, -, X72, ⟨Lc72, hQ72, l72, y72, z72⟩, st72⟩ := Jvm.LawKit.callS X71 hx (y := mN21) hown (gz hZ hw 0 rfl) (gz hZ hw 1 rfl) (gz hZ hw 2 rfl) (gz hZ hw 3 rfl) (by decide) (backOf (W := 0) (rm_draw l Z a0 hw [] x2 h0 n0 Z0) hZ (gw hw 3 rfl) (gw hw 2 rfl) (by decide) (by decide)) (g := (mkF m 15 #[vi x0, vi x1, vi x2, vi x3, vi x4, vi 4, vi r71, vu, vu, vu, vu, vu, vu, vu, vu, vu, vu] [(.int x2)])) rfl hml.symm (argsL := [(.int x2)]) (rest := []) (lenOf own_pd17 rfl) rfl (wz rfl) (hb hby at_15) (fun _ _ => ⟨rfl, e71, z0, z0⟩)
  dsimp only [Pt.U, Pt.locs, Pt.cells, Pt.slots] at X72 l72 y72 z72 st72 hQ72
  subst l72 y72 z72
  obtain ⟨r72, rfl, N72q, e72, hCd_72⟩ := hQ72
  have N72 := Fr.app N71 N72q
  refine Gs st72 ?_
  show Goes _ _ _ _ _ (fT T72 m 18 #[vi x0, vi x1, vi x2, vi x3, vi x4, vi 4, vi r71, vu, vu, vu, vu, vu, vu, vu, vu, vu, vu] [(.int r72)])
  refine Gz (XS.istore X72.here hx rfl (hb hby at_18) rfl (l' := #[vi x0, vi x1, vi x2, vi x3, vi x4, vi 4, vi r71, vi r72, vu, vu, vu, vu, vu, vu, vu, vu, vu]) rfl) ?_
  refine gN X72 hx hby at_20 rfl rfl ?_
  obtain ⟨_, _, ⟨T73, L73, k73, n73⟩, -, X73, ⟨Lc73, hQ73, l73, y73, z73⟩, st73⟩ := Jvm.LawKit.callS X72 hx (y := mN21) hown (gz hZ hw 0 rfl) (gz hZ hw 1 rfl) (gz hZ hw 2 rfl) (gz hZ hw 3 rfl) (by decide) (backOf (W := 0) (rm_draw l Z a0 hw [] x3 h0 n0 Z0) hZ (gw hw 3 rfl) (gw hw 2 rfl) (by decide) (by decide)) (g := (mkF m 21 #[vi x0, vi x1, vi x2, vi x3, vi x4, vi 4, vi r71, vi r72, vu, vu, vu, vu, vu, vu, vu, vu, vu] [(.int x3)])) rfl hml.symm (argsL := [(.int x3)]) (rest := []) (lenOf own_pd17 rfl) rfl (wz rfl) (hb hby at_21) (fun _ _ => ⟨rfl, e72, z0, z0⟩)
  dsimp only [Pt.U, Pt.locs, Pt.cells, Pt.slots] at X73 l73 y73 z73 st73 hQ73
  subst l73 y73 z73
  obtain ⟨r73, rfl, N73q, e73, hCd_73⟩ := hQ73
  have N73 := Fr.app N72 N73q
  refine Gs st73 ?_
  show Goes _ _ _ _ _ (fT T73 m 24 #[vi x0, vi x1, vi x2, vi x3, vi x4, vi 4, vi r71, vi r72, vu, vu, vu, vu, vu, vu, vu, vu, vu] [(.int r73)])
  refine Gz (XS.istore X73.here hx rfl (hb hby at_24) rfl (l' := #[vi x0, vi x1, vi x2, vi x3, vi x4, vi 4, vi r71, vi r72, vi r73, vu, vu, vu, vu, vu, vu, vu, vu]) rfl) ?_
  refine gI X73 hx hby at_26 rfl rfl ?_
  obtain ⟨_, _, ⟨T74, L74, k74, n74⟩, -, X74, ⟨Lc74, hQ74, l74, y74, z74⟩, st74⟩ := Jvm.LawKit.callS X73 hx (y := mN21) hown (gz hZ hw 0 rfl) (gz hZ hw 1 rfl) (gz hZ hw 2 rfl) (gz hZ hw 3 rfl) (by decide) (backOf (W := 0) (rm_draw l Z a0 hw [] x4 h0 n0 Z0) hZ (gw hw 3 rfl) (gw hw 2 rfl) (by decide) (by decide)) (g := (mkF m 28 #[vi x0, vi x1, vi x2, vi x3, vi x4, vi 4, vi r71, vi r72, vi r73, vu, vu, vu, vu, vu, vu, vu, vu] [(.int x4)])) rfl hml.symm (argsL := [(.int x4)]) (rest := []) (lenOf own_pd17 rfl) rfl (wz rfl) (hb hby at_28) (fun _ _ => ⟨rfl, e73, z0, z0⟩)
  dsimp only [Pt.U, Pt.locs, Pt.cells, Pt.slots] at X74 l74 y74 z74 st74 hQ74
  subst l74 y74 z74
  obtain ⟨r74, rfl, N74q, e74, hCd_74⟩ := hQ74
  have N74 := Fr.app N73 N74q
  refine Gs st74 ?_
  show Goes _ _ _ _ _ (fT T74 m 31 #[vi x0, vi x1, vi x2, vi x3, vi x4, vi 4, vi r71, vi r72, vi r73, vu, vu, vu, vu, vu, vu, vu, vu] [(.int r74)])
  refine Gz (XS.istore X74.here hx rfl (hb hby at_31) rfl (l' := #[vi x0, vi x1, vi x2, vi x3, vi x4, vi 4, vi r71, vi r72, vi r73, vi r74, vu, vu, vu, vu, vu, vu, vu]) rfl) ?_
  refine gI X74 hx hby at_33 rfl rfl ?_
  refine Gz (XS.ifYes X74.here hx rfl (pc0 := 35) (pc' := 46) rfl (hb hby at_35) rfl ((if0 _ _).trans (feq (by decide : ¬ ((4 : Int32) = (0 : Int32)))).2) (by decide) (by decide)) ?_
  refine gI X74 hx hby at_46 rfl rfl ?_
  refine Gz (XS.iconst X74.here hx rfl (hb hby at_48)) ?_
  refine Gz (XS.icmpYes X74.here hx rfl (pc0 := 49) (pc' := 65) rfl (hb hby at_49) rfl (feq (by decide : ¬ ((4 : Int32) = (1 : Int32)))).2 (by decide) (by decide)) ?_
  show Goes _ _ _ _ _ (fT T74 m 65 #[vi x0, vi x1, vi x2, vi x3, vi x4, vi 4, vi r71, vi r72, vi r73, vi r74, vu, vu, vu, vu, vu, vu, vu] [])
  refine gI X74 hx hby at_65 rfl rfl ?_
  refine Gz (XS.iconst X74.here hx rfl (hb hby at_67)) ?_
  refine Gz (XS.icmpYes X74.here hx rfl (pc0 := 68) (pc' := 89) rfl (hb hby at_68) rfl (feq (by decide : ¬ ((4 : Int32) = (2 : Int32)))).2 (by decide) (by decide)) ?_
  refine gI X74 hx hby at_89 rfl rfl ?_
  refine Gz (XS.iconst X74.here hx rfl (hb hby at_91)) ?_
  refine Gz (XS.icmpYes X74.here hx rfl (pc0 := 92) (pc' := 118) rfl (hb hby at_92) rfl (feq (by decide : ¬ ((4 : Int32) = (3 : Int32)))).2 (by decide) (by decide)) ?_
  show Goes _ _ _ _ _ (fT T74 m 118 #[vi x0, vi x1, vi x2, vi x3, vi x4, vi 4, vi r71, vi r72, vi r73, vi r74, vu, vu, vu, vu, vu, vu, vu] [])
  refine Gz (XS.iconst X74.here hx rfl (hb hby at_118)) ?_
  obtain ⟨T75, h75, k75, X75, e75, E75, A75, st75⟩ := newP X74 hx hZ (gw hw 5 rfl) e74 (g := (mkF m 119 #[vi x0, vi x1, vi x2, vi x3, vi x4, vi 4, vi r71, vi r72, vi r73, vi r74, vu, vu, vu, vu, vu, vu, vu] [(.int 4)])) rfl (hb hby at_119) rfl (by decide) (cap := 4) (by decide) (by decide) (by decide) (by decide)
  obtain ⟨b75, gq75⟩ : ∃ z, z = h0.size := ⟨_, rfl⟩
  rw [← gq75] at A75 st75
  have g_b75 : n0 ≤ b75 := by rw [gq75]; exact Z0
  have Sf_b75 : Safe Z consts_1 s.vm h0 b75 := Safe.new (Nat.le_of_eq gq75.symm)
  replace Sf_b75 := Safe.ext E75 hR.1 Sf_b75
  replace hR := hR.trans (CHr.ext E75 hR.1)
  replace sgC := sgC.ext E75
  replace sgF := sgF.ext E75
  replace sgA := sgA.ext E75
  replace sgH := sgH.ext E75
  replace sgL := sgL.ext E75
  replace Z0 : n0 ≤ h75.size := Nat.le_trans Z0 E75.1
  replace hk := Nat.le_trans hk E75.1
  have V_b75 : Arv Z h75 b75 k75 .char 4 [(.int 0), (.int 0), (.int 0), (.int 0)] (.int 0) := (Arv.new A75 (by decide)).pad (pad_rep [] (.int 0) 4)
  refine Gs st75 ?_
  show Goes _ _ _ _ _ (fT T75 m 121 #[vi x0, vi x1, vi x2, vi x3, vi x4, vi 4, vi r71, vi r72, vi r73, vi r74, vu, vu, vu, vu, vu, vu, vu] [(.ref b75)])
  refine Gz (XS.dup X75.here hx rfl (hb hby at_121) rfl rfl) ?_
  refine Gz (XS.iconst X75.here hx rfl (hb hby at_122)) ?_
  refine gI X75 hx hby at_123 rfl rfl ?_
  obtain ⟨cl76, Ar76, q76, S76, N76z, H76, G76⟩ := V_b75
  have hin76 : ¬ ((0 : Int32) < 0 ∨ cl76.slots.size ≤ ((0 : Int32)).toNatClampNeg) := inb_of S76 ⟨by decide, by decide⟩
  obtain ⟨T76, h76, X76, e76, W76, st76⟩ := stC X75 hx hZ e75 Ar76 (j := (0 : Int32)) hin76 (g := (mkF m 125 #[vi x0, vi x1, vi x2, vi x3, vi x4, vi 4, vi r71, vi r72, vi r73, vi r74, vu, vu, vu, vu, vu, vu, vu] [(.int r71), (.int 0), (.ref b75), (.ref b75)])) rfl rfl (hb hby at_125)
  have Vn76 := Arv.set Ar76 q76 S76 N76z H76 G76 (fits_nar_char _) W76 0 rfl (Nat.le_of_ble_eq_true rfl)
  have N76 := Fr.snoc X76 N74 g_b75
  have Sf_b75' := Safe.wr W76 Sf_b75 hR.1 Sf_b75
  replace hR := hR.trans (CHr.wr W76 Sf_b75 hR.1)
  replace Sf_b75 := Sf_b75'
  replace sgC := sgC.wr W76
  replace sgF := sgF.wr W76
  replace sgA := sgA.wr W76
  replace sgH := sgH.wr W76
  replace sgL := sgL.wr W76
  have V_b75 : Arv Z h76 b75 k75 .char 4 [(.int r71), (.int 0), (.int 0), (.int 0)] (.int 0) := by have q := Vn76; rw [own_nc hCd_71] at q; exact q
  replace Z0 : n0 ≤ h76.size := by rw [W76.size]; exact Z0
  replace hk := Nat.le_trans hk (Nat.le_of_eq W76.size.symm)
  refine Gs st76 ?_
  show Goes _ _ _ _ _ (fT T76 m 126 #[vi x0, vi x1, vi x2, vi x3, vi x4, vi 4, vi r71, vi r72, vi r73, vi r74, vu, vu, vu, vu, vu, vu, vu] [(.ref b75)])
  refine Gz (XS.dup X76.here hx rfl (hb hby at_126) rfl rfl) ?_
  refine Gz (XS.iconst X76.here hx rfl (hb hby at_127)) ?_
  refine gI X76 hx hby at_128 rfl rfl ?_
  obtain ⟨cl77, Ar77, q77, S77, N77z, H77, G77⟩ := V_b75
  have hin77 : ¬ ((1 : Int32) < 0 ∨ cl77.slots.size ≤ ((1 : Int32)).toNatClampNeg) := inb_of S77 ⟨by decide, by decide⟩
  obtain ⟨T77, h77, X77, e77, W77, st77⟩ := stC X76 hx hZ e76 Ar77 (j := (1 : Int32)) hin77 (g := (mkF m 130 #[vi x0, vi x1, vi x2, vi x3, vi x4, vi 4, vi r71, vi r72, vi r73, vi r74, vu, vu, vu, vu, vu, vu, vu] [(.int r72), (.int 1), (.ref b75), (.ref b75)])) rfl rfl (hb hby at_130)
  have Vn77 := Arv.set Ar77 q77 S77 N77z H77 G77 (fits_nar_char _) W77 1 rfl (Nat.le_of_ble_eq_true rfl)
  have N77 := Fr.snoc X77 N76 g_b75
  have Sf_b75' := Safe.wr W77 Sf_b75 hR.1 Sf_b75
  replace hR := hR.trans (CHr.wr W77 Sf_b75 hR.1)
  replace Sf_b75 := Sf_b75'
  replace sgC := sgC.wr W77
  replace sgF := sgF.wr W77
  replace sgA := sgA.wr W77
  replace sgH := sgH.wr W77
  replace sgL := sgL.wr W77
  have V_b75 : Arv Z h77 b75 k75 .char 4 [(.int r71), (.int r72), (.int 0), (.int 0)] (.int 0) := by have q := Vn77; rw [own_nc hCd_72] at q; exact q
  replace Z0 : n0 ≤ h77.size := by rw [W77.size]; exact Z0
  replace hk := Nat.le_trans hk (Nat.le_of_eq W77.size.symm)
  refine Gs st77 ?_
  show Goes _ _ _ _ _ (fT T77 m 131 #[vi x0, vi x1, vi x2, vi x3, vi x4, vi 4, vi r71, vi r72, vi r73, vi r74, vu, vu, vu, vu, vu, vu, vu] [(.ref b75)])
  refine Gz (XS.dup X77.here hx rfl (hb hby at_131) rfl rfl) ?_
  refine Gz (XS.iconst X77.here hx rfl (hb hby at_132)) ?_
  refine gI X77 hx hby at_133 rfl rfl ?_
  obtain ⟨cl78, Ar78, q78, S78, N78z, H78, G78⟩ := V_b75
  have hin78 : ¬ ((2 : Int32) < 0 ∨ cl78.slots.size ≤ ((2 : Int32)).toNatClampNeg) := inb_of S78 ⟨by decide, by decide⟩
  obtain ⟨T78, h78, X78, e78, W78, st78⟩ := stC X77 hx hZ e77 Ar78 (j := (2 : Int32)) hin78 (g := (mkF m 135 #[vi x0, vi x1, vi x2, vi x3, vi x4, vi 4, vi r71, vi r72, vi r73, vi r74, vu, vu, vu, vu, vu, vu, vu] [(.int r73), (.int 2), (.ref b75), (.ref b75)])) rfl rfl (hb hby at_135)
  have Vn78 := Arv.set Ar78 q78 S78 N78z H78 G78 (fits_nar_char _) W78 2 rfl (Nat.le_of_ble_eq_true rfl)
  have N78 := Fr.snoc X78 N77 g_b75
  have Sf_b75' := Safe.wr W78 Sf_b75 hR.1 Sf_b75
  replace hR := hR.trans (CHr.wr W78 Sf_b75 hR.1)
  replace Sf_b75 := Sf_b75'
  replace sgC := sgC.wr W78
  replace sgF := sgF.wr W78
  replace sgA := sgA.wr W78
  replace sgH := sgH.wr W78
  replace sgL := sgL.wr W78
  have V_b75 : Arv Z h78 b75 k75 .char 4 [(.int r71), (.int r72), (.int r73), (.int 0)] (.int 0) := by have q := Vn78; rw [own_nc hCd_73] at q; exact q
  replace Z0 : n0 ≤ h78.size := by rw [W78.size]; exact Z0
  replace hk := Nat.le_trans hk (Nat.le_of_eq W78.size.symm)
  refine Gs st78 ?_
  show Goes _ _ _ _ _ (fT T78 m 136 #[vi x0, vi x1, vi x2, vi x3, vi x4, vi 4, vi r71, vi r72, vi r73, vi r74, vu, vu, vu, vu, vu, vu, vu] [(.ref b75)])
  refine Gz (XS.dup X78.here hx rfl (hb hby at_136) rfl rfl) ?_
  refine Gz (XS.iconst X78.here hx rfl (hb hby at_137)) ?_
  refine gI X78 hx hby at_138 rfl rfl ?_
  obtain ⟨cl79, Ar79, q79, S79, N79z, H79, G79⟩ := V_b75
  have hin79 : ¬ ((3 : Int32) < 0 ∨ cl79.slots.size ≤ ((3 : Int32)).toNatClampNeg) := inb_of S79 ⟨by decide, by decide⟩
  obtain ⟨T79, h79, X79, e79, W79, st79⟩ := stC X78 hx hZ e78 Ar79 (j := (3 : Int32)) hin79 (g := (mkF m 140 #[vi x0, vi x1, vi x2, vi x3, vi x4, vi 4, vi r71, vi r72, vi r73, vi r74, vu, vu, vu, vu, vu, vu, vu] [(.int r74), (.int 3), (.ref b75), (.ref b75)])) rfl rfl (hb hby at_140)
  have Vn79 := Arv.set Ar79 q79 S79 N79z H79 G79 (fits_nar_char _) W79 3 rfl (Nat.le_of_ble_eq_true rfl)
  have N79 := Fr.snoc X79 N78 g_b75
  replace hR := hR.trans (CHr.wr W79 Sf_b75 hR.1)
  replace sgC := sgC.wr W79
  replace sgF := sgF.wr W79
  replace sgA := sgA.wr W79
  replace sgH := sgH.wr W79
  replace sgL := sgL.wr W79
  have V_b75 : Arv Z h79 b75 k75 .char 4 [(.int r71), (.int r72), (.int r73), (.int r74)] (.int 0) := by have q := Vn79; rw [own_nc hCd_74] at q; exact q
  replace Z0 : n0 ≤ h79.size := by rw [W79.size]; exact Z0
  replace hk := Nat.le_trans hk (Nat.le_of_eq W79.size.symm)
  refine Gs st79 ?_
  show Goes _ _ _ _ _ (fT T79 m 141 #[vi x0, vi x1, vi x2, vi x3, vi x4, vi 4, vi r71, vi r72, vi r73, vi r74, vu, vu, vu, vu, vu, vu, vu] [(.ref b75)])
  refine Gz (XS.astore X79.here hx rfl (hb hby at_141) rfl rfl (l' := #[vi x0, vi x1, vi x2, vi x3, vi x4, vi 4, vi r71, vi r72, vi r73, vi r74, vr b75, vu, vu, vu, vu, vu, vu]) rfl) ?_
  obtain ⟨T80, h80, X80, e80, E80, A80, D80, -, st80⟩ := newO X79 hx hZ hown (gw hw 6 rfl) (gw hw 7 rfl) (gw hw 8 rfl) e79 (g := (mkF m 143 #[vi x0, vi x1, vi x2, vi x3, vi x4, vi 4, vi r71, vi r72, vi r73, vi r74, vr b75, vu, vu, vu, vu, vu, vu] [])) rfl (hb hby at_143) (by decide) (by decide)
  obtain ⟨b80, gq80⟩ : ∃ z, z = h79.size := ⟨_, rfl⟩
  rw [← gq80] at A80 st80 D80
  have g_b80 : n0 ≤ b80 := by rw [gq80]; exact Z0
  have ne_b75_b80 : b75 ≠ b80 := by rw [gq80]; exact Nat.ne_of_lt V_b75.lt
  have Sf_b80 : Safe Z consts_1 s.vm h79 b80 := Safe.new (Nat.le_of_eq gq80.symm)
  replace Sf_b80 := Safe.ext E80 hR.1 Sf_b80
  replace hR := hR.trans (CHr.ext E80 hR.1)
  replace sgC := sgC.ext E80
  replace sgF := sgF.ext E80
  replace sgA := sgA.ext E80
  replace sgH := sgH.ext E80
  replace sgL := sgL.ext E80
  replace V_b75 := V_b75.ext E80
  replace Z0 : n0 ≤ h80.size := Nat.le_trans Z0 E80.1
  replace hk := Nat.le_trans hk E80.1
  have A_b80 : Exa Z h80 b80 "java/lang/String" := A80
  have F_value_b80 : Fld Z h80 b80 "java/lang/String" "value" "[B" .null := D80 (Or.inr (gw hw 21 rfl)) (ty := (.array .byte)) (by decide)
  have F_coder_b80 : Fld Z h80 b80 "java/lang/String" "coder" "B" (.int 0) := D80 (Or.inr (gw hw 22 rfl)) (ty := .byte) (by decide)
  refine Gs st80 ?_
  show Goes _ _ _ _ _ (fT T80 m 146 #[vi x0, vi x1, vi x2, vi x3, vi x4, vi 4, vi r71, vi r72, vi r73, vi r74, vr b75, vu, vu, vu, vu, vu, vu] [(.ref b80)])
  refine Gz (XS.dup X80.here hx rfl (hb hby at_146) rfl rfl) ?_
  refine Gz (XS.aload X80.here hx rfl (hb hby at_147) rfl rfl) ?_
  obtain ⟨_, _, ⟨T81, L81, k81, n81⟩, -, X81, ⟨Lc81, hQ81, l81, y81, z81⟩, st81⟩ := X80.specialBack hx (y := mN13) rfl hown (gz hZ hw 9 rfl) (gz hZ hw 10 rfl) (gz hZ hw 11 rfl) (by decide) (backOf (W := 1) (rs_i1_4 l Z a0 hw [] b80 b75 k75 r71 r72 r73 r74 cz h80 n0 Z0 A_b80 F_value_b80 F_coder_b80 V_b75 g_b80 ne_b75_b80 sgC (by first | assumption | decide) hCd_71 hCd_72 hCd_73 hCd_74 sgA sgH sgL) hZ (gw hw 11 rfl) (gw hw 8 rfl) (by decide) (by decide)) (g := (mkF m 149 #[vi x0, vi x1, vi x2, vi x3, vi x4, vi 4, vi r71, vi r72, vi r73, vi r74, vr b75, vu, vu, vu, vu, vu, vu] [(.ref b75), (.ref b80), (.ref b80)])) rfl hml.symm (Steps.refl _) (a := b80) (argsL := [(.ref b75)]) (rest := [(.ref b80)]) (lenOf own_pd18 rfl) rfl (wz rfl) (hb hby at_149) (fun _ _ => ⟨rfl, e80, (by decide : 2 + 2 ≤ _), (by decide : 8 + 12 ≤ _)⟩)
  dsimp only [Pt.U, Pt.locs, Pt.cells, Pt.slots] at X81 l81 y81 z81 st81 hQ81
  subst l81 y81 z81
  obtain ⟨rfl, N81q, K81, T_b80_81'⟩ := hQ81
  have N81 := Fr.app N79 N81q
  replace sgC := own_staK sgC K81 (allS (own_obE A_b80) all0)
  replace sgF := own_staK sgF K81 (allS (own_obE A_b80) all0)
  replace sgA := own_staK sgA K81 (allS (own_obE A_b80) all0)
  replace sgH := own_staK sgH K81 (allS (own_obE A_b80) all0)
  replace sgL := own_staK sgL K81 (allS (own_obE A_b80) all0)
  replace hR := hR.trans (CHr.keep K81 (allS Sf_b80 all0) hR.1)
  replace Z0 := Nat.le_trans Z0 K81.1
  replace hk := Nat.le_trans hk K81.1
  have T_b80 := T_b80_81'
  refine Gs (fun _ tk => st81.trans tk) ?_
  show Goes _ _ _ _ _ (fT T81 m 152 #[vi x0, vi x1, vi x2, vi x3, vi x4, vi 4, vi r71, vi r72, vi r73, vi r74, vr b75, vu, vu, vu, vu, vu, vu] [(.ref b80)])
  refine Gz (XS.astore X81.here hx rfl (hb hby at_152) rfl rfl (l' := #[vi x0, vi x1, vi x2, vi x3, vi x4, vi 4, vi r71, vi r72, vi r73, vi r74, vr b75, vr b80, vu, vu, vu, vu, vu]) rfl) ?_
  refine gI X81 hx hby at_154 rfl rfl ?_
  refine Gz (XS.ifNo X81.here hx rfl (hb hby at_156) rfl ((if0 _ _).trans (tlt (by decide : ((0 : Int32) < (4 : Int32)))).2.2.2)) ?_
  refine gI X81 hx hby at_159 rfl rfl ?_
  refine Gz (XS.goto X81.here hx rfl (pc0 := 161) (pc' := 166) rfl (hb hby at_161) (by decide) (by decide)) ?_
  refine Gz (XS.istore X81.here hx rfl (hb hby at_166) rfl (l' := #[vi x0, vi x1, vi x2, vi x3, vi x4, vi 4, vi r71, vi r72, vi r73, vi r74, vr b75, vr b80, vi r71, vu, vu, vu, vu]) rfl) ?_
  show Goes _ _ _ _ _ (fT T81 m 168 #[vi x0, vi x1, vi x2, vi x3, vi x4, vi 4, vi r71, vi r72, vi r73, vi r74, vr b75, vr b80, vi r71, vu, vu, vu, vu] [])
  refine gI X81 hx hby at_168 rfl rfl ?_
  refine Gz (XS.iconst X81.here hx rfl (hb hby at_170)) ?_
  refine Gz (XS.icmpNo X81.here hx rfl (hb hby at_171) rfl (tlt (by decide : ((1 : Int32) < (4 : Int32)))).2.2.2) ?_
  refine gI X81 hx hby at_174 rfl rfl ?_
  refine Gz (XS.goto X81.here hx rfl (pc0 := 176) (pc' := 181) rfl (hb hby at_176) (by decide) (by decide)) ?_
  refine Gz (XS.istore X81.here hx rfl (hb hby at_181) rfl (l' := #[vi x0, vi x1, vi x2, vi x3, vi x4, vi 4, vi r71, vi r72, vi r73, vi r74, vr b75, vr b80, vi r71, vi r72, vu, vu, vu]) rfl) ?_
  show Goes _ _ _ _ _ (fT T81 m 183 #[vi x0, vi x1, vi x2, vi x3, vi x4, vi 4, vi r71, vi r72, vi r73, vi r74, vr b75, vr b80, vi r71, vi r72, vu, vu, vu] [])
  refine gI X81 hx hby at_183 rfl rfl ?_
  refine Gz (XS.iconst X81.here hx rfl (hb hby at_185)) ?_
  refine Gz (XS.icmpNo X81.here hx rfl (hb hby at_186) rfl (tlt (by decide : ((2 : Int32) < (4 : Int32)))).2.2.2) ?_
  refine gI X81 hx hby at_189 rfl rfl ?_
  refine Gz (XS.goto X81.here hx rfl (pc0 := 191) (pc' := 196) rfl (hb hby at_191) (by decide) (by decide)) ?_
  refine Gz (XS.istore X81.here hx rfl (hb hby at_196) rfl (l' := #[vi x0, vi x1, vi x2, vi x3, vi x4, vi 4, vi r71, vi r72, vi r73, vi r74, vr b75, vr b80, vi r71, vi r72, vi r73, vu, vu]) rfl) ?_
  show Goes _ _ _ _ _ (fT T81 m 198 #[vi x0, vi x1, vi x2, vi x3, vi x4, vi 4, vi r71, vi r72, vi r73, vi r74, vr b75, vr b80, vi r71, vi r72, vi r73, vu, vu] [])
  refine gI X81 hx hby at_198 rfl rfl ?_
  refine Gz (XS.iconst X81.here hx rfl (hb hby at_200)) ?_
  refine Gz (XS.icmpNo X81.here hx rfl (hb hby at_201) rfl (tlt (by decide : ((3 : Int32) < (4 : Int32)))).2.2.2) ?_
  refine gI X81 hx hby at_204 rfl rfl ?_
  refine Gz (XS.goto X81.here hx rfl (pc0 := 206) (pc' := 211) rfl (hb hby at_206) (by decide) (by decide)) ?_
  refine Gz (XS.istore X81.here hx rfl (hb hby at_211) rfl (l' := #[vi x0, vi x1, vi x2, vi x3, vi x4, vi 4, vi r71, vi r72, vi r73, vi r74, vr b75, vr b80, vi r71, vi r72, vi r73, vi r74, vu]) rfl) ?_
  show Goes _ _ _ _ _ (fT T81 m 213 #[vi x0, vi x1, vi x2, vi x3, vi x4, vi 4, vi r71, vi r72, vi r73, vi r74, vr b75, vr b80, vi r71, vi r72, vi r73, vi r74, vu] [])
  refine Gz (XS.bipush X81.here hx rfl (hb hby at_213)) ?_
  refine gI X81 hx hby at_215 rfl rfl ?_
  refine gI X81 hx hby at_217 rfl rfl ?_
  obtain ⟨_, _, ⟨T82, L82, k82, n82⟩, -, X82, ⟨Lc82, hQ82, l82, y82, z82⟩, st82⟩ := Jvm.LawKit.callS X81 hx (y := mN24) hown (gz hZ hw 27 rfl) (gz hZ hw 28 rfl) (gz hZ hw 2 rfl) (gz hZ hw 29 rfl) (by decide) (backOf (W := 0) (rm_good l Z a0 hw [] (65 : Int32) r71 r72 T81.heap n0 Z0) hZ (gw hw 29 rfl) (gw hw 2 rfl) (by decide) (by decide)) (g := (mkF m 219 #[vi x0, vi x1, vi x2, vi x3, vi x4, vi 4, vi r71, vi r72, vi r73, vi r74, vr b75, vr b80, vi r71, vi r72, vi r73, vi r74, vu] [(.int r72), (.int r71), (.int 65)])) rfl hml.symm (argsL := [(.int 65), (.int r71), (.int r72)]) (rest := []) (lenOf own_pd19 rfl) rfl (wz rfl) (hb hby at_219) (fun _ _ => ⟨rfl, rfl, (by decide : 4 + 0 ≤ _), (by decide : 20 + 0 ≤ _)⟩)
  dsimp only [Pt.U, Pt.locs, Pt.cells, Pt.slots] at X82 l82 y82 z82 st82 hQ82
  subst l82 y82 z82
  obtain ⟨rfl, N82q, e82⟩ := hQ82
  have N82 := Fr.app N81 N82q
  refine Gs st82 ?_
  show Goes _ _ _ _ _ (fT T82 m 222 #[vi x0, vi x1, vi x2, vi x3, vi x4, vi 4, vi r71, vi r72, vi r73, vi r74, vr b75, vr b80, vi r71, vi r72, vi r73, vi r74, vu] [(.int (gd (cls (65 : Int32)) (cls r71) (cls r72)))])
  refine own_joinT X82 e82 N82 (B := fun T => T.setTop (mkF m 266 #[vi x0, vi x1, vi x2, vi x3, vi x4, vi 4, vi r71, vi r72, vi r73, vi r74, vr b75, vr b80, vi r71, vi r72, vi r73, vi r74, vu] [(.int (own_ex (gd (cls (65 : Int32)) (cls r71) (cls r72)) (gd (cls r71) (cls r72) (cls r73)) (gd (cls r72) (cls r73) (cls r74)) (gd (cls r73) (cls r74) (cls (65 : Int32)))))])) ?_ ?_
  ·intro T L X E N
   show Goes _ _ _ _ _ (fT T m 266 #[vi x0, vi x1, vi x2, vi x3, vi x4, vi 4, vi r71, vi r72, vi r73, vi r74, vr b75, vr b80, vi r71, vi r72, vi r73, vi r74, vu] [(.int (own_ex (gd (cls (65 : Int32)) (cls r71) (cls r72)) (gd (cls r71) (cls r72) (cls r73)) (gd (cls r72) (cls r73) (cls r74)) (gd (cls r73) (cls r74) (cls (65 : Int32)))))])
   refine Gz (XS.istore X.here hx rfl (hb hby at_266) rfl (l' := #[vi x0, vi x1, vi x2, vi x3, vi x4, vi 4, vi r71, vi r72, vi r73, vi r74, vr b75, vr b80, vi r71, vi r72, vi r73, vi r74, vi (own_ex (gd (cls (65 : Int32)) (cls r71) (cls r72)) (gd (cls r71) (cls r72) (cls r73)) (gd (cls r72) (cls r73) (cls r74)) (gd (cls r73) (cls r74) (cls (65 : Int32))))]) rfl) ?_
   refine Gz (XS.aload X.here hx rfl (hb hby at_268) rfl rfl) ?_
   obtain ⟨_, _, ⟨T83, L83, k83, n83⟩, -, X83, ⟨Lc83, hQ83, l83, y83, z83⟩, st83⟩ := Jvm.LawKit.callS X hx (y := mN26) hown (gz hZ hw 37 rfl) (gz hZ hw 38 rfl) (gz hZ hw 39 rfl) (gz hZ hw 40 rfl) (by decide) (backOf (W := 0) (rm_ch l Z a0 hw [] b80 [r71, r72, r73, r74] cz fo T81.heap n0 Z0 T_b80 sgC (by first | assumption | decide) sgF (by first | assumption | decide) sgA sgH sgL) hZ (gw hw 40 rfl) (gw hw 39 rfl) (by decide) (by decide)) (g := (mkF m 270 #[vi x0, vi x1, vi x2, vi x3, vi x4, vi 4, vi r71, vi r72, vi r73, vi r74, vr b75, vr b80, vi r71, vi r72, vi r73, vi r74, vi (own_ex (gd (cls (65 : Int32)) (cls r71) (cls r72)) (gd (cls r71) (cls r72) (cls r73)) (gd (cls r72) (cls r73) (cls r74)) (gd (cls r73) (cls r74) (cls (65 : Int32))))] [(.ref b80)])) rfl hml.symm (argsL := [(.ref b80)]) (rest := []) (lenOf own_pd20 rfl) rfl (wz rfl) (hb hby at_270) (fun _ _ => ⟨rfl, E, (by decide : 4 + 0 ≤ _), (by decide : 20 + 0 ≤ _)⟩)
   dsimp only [Pt.U, Pt.locs, Pt.cells, Pt.slots] at X83 l83 y83 z83 st83 hQ83
   subst l83 y83 z83
   obtain ⟨rfl, N83q, e83⟩ := hQ83
   have N83 := Fr.app N N83q
   refine Gs st83 ?_
   show Goes _ _ _ _ _ (fT T83 m 273 #[vi x0, vi x1, vi x2, vi x3, vi x4, vi 4, vi r71, vi r72, vi r73, vi r74, vr b75, vr b80, vi r71, vi r72, vi r73, vi r74, vi (own_ex (gd (cls (65 : Int32)) (cls r71) (cls r72)) (gd (cls r71) (cls r72) (cls r73)) (gd (cls r72) (cls r73) (cls r74)) (gd (cls r73) (cls r74) (cls (65 : Int32))))] [(.int (chK (List.map cls [r71, r72, r73, r74])))])
   refine gI X83 hx hby at_273 rfl rfl ?_
   have hc275_84 : (chK (List.map cls [r71, r72, r73, r74])) = (own_ex (gd (cls (65 : Int32)) (cls r71) (cls r72)) (gd (cls r71) (cls r72) (cls r73)) (gd (cls r72) (cls r73) (cls r74)) (gd (cls r73) (cls r74) (cls (65 : Int32)))) := (show ∀ k0 k1 k2 k3 : Fin 4, chK [k0, k1, k2, k3] = (own_ex (gd (cls (65 : Int32)) k0 k1) (gd k0 k1 k2) (gd k1 k2 k3) (gd k2 k3 (cls (65 : Int32)))) from by simp only [own_65]; decide +kernel) (cls r71) (cls r72) (cls r73) (cls r74)
   refine Gz (XS.icmpNo X83.here hx rfl (hb hby at_275) rfl (teq hc275_84).2) ?_
   refine Gz (XS.iconst X83.here hx rfl (hb hby at_278)) ?_
   refine Gz (XS.goto X83.here hx rfl (pc0 := 279) (pc' := 283) rfl (hb hby at_279) (by decide) (by decide)) ?_
   refine Goes.retH X83 hS e83 hk hZ (own_EW hw) hh hR (some (.int 1)) (fun h => by rw [hret] at h; cases h) hlk (by decide) (by decide) ?_ (fun fs hr => ?_)
   ·rw [e83]; exact ⟨rfl, N83⟩
   ·exact own_retN X83 hx (t := .boolean) hret (by simp) rfl (hb hby at_283) hr
  intro J
  by_cases hc222_85 : (gd (cls (65 : Int32)) (cls r71) (cls r72)) = 0
  ·refine Gz (XS.ifYes X82.here hx rfl (pc0 := 222) (pc' := 265) rfl (hb hby at_222) rfl ((if0 _ _).trans (teq hc222_85).1) (by decide) (by decide)) ?_
   refine Gz (XS.iconst X82.here hx rfl (hb hby at_265)) ?_
   show Goes _ _ _ _ _ (fT T82 m 266 #[vi x0, vi x1, vi x2, vi x3, vi x4, vi 4, vi r71, vi r72, vi r73, vi r74, vr b75, vr b80, vi r71, vi r72, vi r73, vi r74, vu] [(.int 0)])
   have q := J T82 _ X82 e82 N82
   rw [show (own_ex (gd (cls (65 : Int32)) (cls r71) (cls r72)) (gd (cls r71) (cls r72) (cls r73)) (gd (cls r72) (cls r73) (cls r74)) (gd (cls r73) (cls r74) (cls (65 : Int32)))) = 0 from by rw [own_ex, if_pos hc222_85]] at q
   exact q
  ·refine Gz (XS.ifNo X82.here hx rfl (hb hby at_222) rfl ((if0 _ _).trans (feq hc222_85).1)) ?_
   refine gI X82 hx hby at_225 rfl rfl ?_
   refine gI X82 hx hby at_227 rfl rfl ?_
   refine gI X82 hx hby at_229 rfl rfl ?_
   obtain ⟨_, _, ⟨T86, L86, k86, n86⟩, -, X86, ⟨Lc86, hQ86, l86, y86, z86⟩, st86⟩ := Jvm.LawKit.callS X82 hx (y := mN24) hown (gz hZ hw 27 rfl) (gz hZ hw 28 rfl) (gz hZ hw 2 rfl) (gz hZ hw 29 rfl) (by decide) (backOf (W := 0) (rm_good l Z a0 hw [] r71 r72 r73 T81.heap n0 Z0) hZ (gw hw 29 rfl) (gw hw 2 rfl) (by decide) (by decide)) (g := (mkF m 231 #[vi x0, vi x1, vi x2, vi x3, vi x4, vi 4, vi r71, vi r72, vi r73, vi r74, vr b75, vr b80, vi r71, vi r72, vi r73, vi r74, vu] [(.int r73), (.int r72), (.int r71)])) rfl hml.symm (argsL := [(.int r71), (.int r72), (.int r73)]) (rest := []) (lenOf own_pd19 rfl) rfl (wz rfl) (hb hby at_231) (fun _ _ => ⟨rfl, e82, (by decide : 4 + 0 ≤ _), (by decide : 20 + 0 ≤ _)⟩)
   dsimp only [Pt.U, Pt.locs, Pt.cells, Pt.slots] at X86 l86 y86 z86 st86 hQ86
   subst l86 y86 z86
   obtain ⟨rfl, N86q, e86⟩ := hQ86
   have N86 := Fr.app N82 N86q
   refine Gs st86 ?_
   show Goes _ _ _ _ _ (fT T86 m 234 #[vi x0, vi x1, vi x2, vi x3, vi x4, vi 4, vi r71, vi r72, vi r73, vi r74, vr b75, vr b80, vi r71, vi r72, vi r73, vi r74, vu] [(.int (gd (cls r71) (cls r72) (cls r73)))])
   by_cases hc234_87 : (gd (cls r71) (cls r72) (cls r73)) = 0
   ·refine Gz (XS.ifYes X86.here hx rfl (pc0 := 234) (pc' := 265) rfl (hb hby at_234) rfl ((if0 _ _).trans (teq hc234_87).1) (by decide) (by decide)) ?_
    refine Gz (XS.iconst X86.here hx rfl (hb hby at_265)) ?_
    show Goes _ _ _ _ _ (fT T86 m 266 #[vi x0, vi x1, vi x2, vi x3, vi x4, vi 4, vi r71, vi r72, vi r73, vi r74, vr b75, vr b80, vi r71, vi r72, vi r73, vi r74, vu] [(.int 0)])
    have q := J T86 _ X86 e86 N86
    rw [show (own_ex (gd (cls (65 : Int32)) (cls r71) (cls r72)) (gd (cls r71) (cls r72) (cls r73)) (gd (cls r72) (cls r73) (cls r74)) (gd (cls r73) (cls r74) (cls (65 : Int32)))) = 0 from by rw [own_ex, if_neg hc222_85, if_pos hc234_87]] at q
    exact q
   ·refine Gz (XS.ifNo X86.here hx rfl (hb hby at_234) rfl ((if0 _ _).trans (feq hc234_87).1)) ?_
    refine gI X86 hx hby at_237 rfl rfl ?_
    refine gI X86 hx hby at_239 rfl rfl ?_
    refine gI X86 hx hby at_241 rfl rfl ?_
    obtain ⟨_, _, ⟨T88, L88, k88, n88⟩, -, X88, ⟨Lc88, hQ88, l88, y88, z88⟩, st88⟩ := Jvm.LawKit.callS X86 hx (y := mN24) hown (gz hZ hw 27 rfl) (gz hZ hw 28 rfl) (gz hZ hw 2 rfl) (gz hZ hw 29 rfl) (by decide) (backOf (W := 0) (rm_good l Z a0 hw [] r72 r73 r74 T81.heap n0 Z0) hZ (gw hw 29 rfl) (gw hw 2 rfl) (by decide) (by decide)) (g := (mkF m 243 #[vi x0, vi x1, vi x2, vi x3, vi x4, vi 4, vi r71, vi r72, vi r73, vi r74, vr b75, vr b80, vi r71, vi r72, vi r73, vi r74, vu] [(.int r74), (.int r73), (.int r72)])) rfl hml.symm (argsL := [(.int r72), (.int r73), (.int r74)]) (rest := []) (lenOf own_pd19 rfl) rfl (wz rfl) (hb hby at_243) (fun _ _ => ⟨rfl, e86, (by decide : 4 + 0 ≤ _), (by decide : 20 + 0 ≤ _)⟩)
    dsimp only [Pt.U, Pt.locs, Pt.cells, Pt.slots] at X88 l88 y88 z88 st88 hQ88
    subst l88 y88 z88
    obtain ⟨rfl, N88q, e88⟩ := hQ88
    have N88 := Fr.app N86 N88q
    refine Gs st88 ?_
    show Goes _ _ _ _ _ (fT T88 m 246 #[vi x0, vi x1, vi x2, vi x3, vi x4, vi 4, vi r71, vi r72, vi r73, vi r74, vr b75, vr b80, vi r71, vi r72, vi r73, vi r74, vu] [(.int (gd (cls r72) (cls r73) (cls r74)))])
    by_cases hc246_89 : (gd (cls r72) (cls r73) (cls r74)) = 0
    ·refine Gz (XS.ifYes X88.here hx rfl (pc0 := 246) (pc' := 265) rfl (hb hby at_246) rfl ((if0 _ _).trans (teq hc246_89).1) (by decide) (by decide)) ?_
     refine Gz (XS.iconst X88.here hx rfl (hb hby at_265)) ?_
     show Goes _ _ _ _ _ (fT T88 m 266 #[vi x0, vi x1, vi x2, vi x3, vi x4, vi 4, vi r71, vi r72, vi r73, vi r74, vr b75, vr b80, vi r71, vi r72, vi r73, vi r74, vu] [(.int 0)])
     have q := J T88 _ X88 e88 N88
     rw [show (own_ex (gd (cls (65 : Int32)) (cls r71) (cls r72)) (gd (cls r71) (cls r72) (cls r73)) (gd (cls r72) (cls r73) (cls r74)) (gd (cls r73) (cls r74) (cls (65 : Int32)))) = 0 from by rw [own_ex, if_neg hc222_85, if_neg hc234_87, if_pos hc246_89]] at q
     exact q
    ·refine Gz (XS.ifNo X88.here hx rfl (hb hby at_246) rfl ((if0 _ _).trans (feq hc246_89).1)) ?_
     refine gI X88 hx hby at_249 rfl rfl ?_
     refine gI X88 hx hby at_251 rfl rfl ?_
     refine Gz (XS.bipush X88.here hx rfl (hb hby at_253)) ?_
     obtain ⟨_, _, ⟨T90, L90, k90, n90⟩, -, X90, ⟨Lc90, hQ90, l90, y90, z90⟩, st90⟩ := Jvm.LawKit.callS X88 hx (y := mN24) hown (gz hZ hw 27 rfl) (gz hZ hw 28 rfl) (gz hZ hw 2 rfl) (gz hZ hw 29 rfl) (by decide) (backOf (W := 0) (rm_good l Z a0 hw [] r73 r74 (65 : Int32) T81.heap n0 Z0) hZ (gw hw 29 rfl) (gw hw 2 rfl) (by decide) (by decide)) (g := (mkF m 255 #[vi x0, vi x1, vi x2, vi x3, vi x4, vi 4, vi r71, vi r72, vi r73, vi r74, vr b75, vr b80, vi r71, vi r72, vi r73, vi r74, vu] [(.int 65), (.int r74), (.int r73)])) rfl hml.symm (argsL := [(.int r73), (.int r74), (.int 65)]) (rest := []) (lenOf own_pd19 rfl) rfl (wz rfl) (hb hby at_255) (fun _ _ => ⟨rfl, e88, (by decide : 4 + 0 ≤ _), (by decide : 20 + 0 ≤ _)⟩)
     dsimp only [Pt.U, Pt.locs, Pt.cells, Pt.slots] at X90 l90 y90 z90 st90 hQ90
     subst l90 y90 z90
     obtain ⟨rfl, N90q, e90⟩ := hQ90
     have N90 := Fr.app N88 N90q
     refine Gs st90 ?_
     show Goes _ _ _ _ _ (fT T90 m 258 #[vi x0, vi x1, vi x2, vi x3, vi x4, vi 4, vi r71, vi r72, vi r73, vi r74, vr b75, vr b80, vi r71, vi r72, vi r73, vi r74, vu] [(.int (gd (cls r73) (cls r74) (cls (65 : Int32))))])
     by_cases hc258_91 : (gd (cls r73) (cls r74) (cls (65 : Int32))) = 0
     ·refine Gz (XS.ifYes X90.here hx rfl (pc0 := 258) (pc' := 265) rfl (hb hby at_258) rfl ((if0 _ _).trans (teq hc258_91).1) (by decide) (by decide)) ?_
      refine Gz (XS.iconst X90.here hx rfl (hb hby at_265)) ?_
      show Goes _ _ _ _ _ (fT T90 m 266 #[vi x0, vi x1, vi x2, vi x3, vi x4, vi 4, vi r71, vi r72, vi r73, vi r74, vr b75, vr b80, vi r71, vi r72, vi r73, vi r74, vu] [(.int 0)])
      have q := J T90 _ X90 e90 N90
      rw [show (own_ex (gd (cls (65 : Int32)) (cls r71) (cls r72)) (gd (cls r71) (cls r72) (cls r73)) (gd (cls r72) (cls r73) (cls r74)) (gd (cls r73) (cls r74) (cls (65 : Int32)))) = 0 from by rw [own_ex, if_neg hc222_85, if_neg hc234_87, if_neg hc246_89, if_pos hc258_91]] at q
      exact q
     ·refine Gz (XS.ifNo X90.here hx rfl (hb hby at_258) rfl ((if0 _ _).trans (feq hc258_91).1)) ?_
      refine Gz (XS.iconst X90.here hx rfl (hb hby at_261)) ?_
      refine Gz (XS.goto X90.here hx rfl (pc0 := 262) (pc' := 266) rfl (hb hby at_262) (by decide) (by decide)) ?_
      show Goes _ _ _ _ _ (fT T90 m 266 #[vi x0, vi x1, vi x2, vi x3, vi x4, vi 4, vi r71, vi r72, vi r73, vi r74, vr b75, vr b80, vi r71, vi r72, vi r73, vi r74, vu] [(.int 1)])
      have q := J T90 _ X90 e90 N90
      rw [show (own_ex (gd (cls (65 : Int32)) (cls r71) (cls r72)) (gd (cls r71) (cls r72) (cls r73)) (gd (cls r72) (cls r73) (cls r74)) (gd (cls r73) (cls r74) (cls (65 : Int32)))) = 1 from by rw [own_ex, if_neg hc222_85, if_neg hc234_87, if_neg hc246_89, if_neg hc258_91]] at q
      exact q
set_option maxRecDepth 65536 in
set_option maxHeartbeats 40000000 in
theorem comes_1 {Post : Tables → Env → Array Value → State → Outcome → State → Prop} (hpost : ∀ tb e args s v u, (limb_1_1.after args s (.returned v) u = true ∧ limb_1_2.after args s (.returned v) u = true ∧ True) → ReturnedEndW s (.returned v) u (Jvm.fieldLocs frame_1_writes args s ++ Jvm.arrayLocs frame_1_arrays args s ++ Jvm.staticLocs frame_1_statics s) 24 1152 → Post tb e args s (.returned v) u) :
  ArmFor flags0 classFile x code maxLocals ret World_1 tables_1 room_1 Calls_1 rest_1 Pre_1 Post := by
 intro l hfl _ _ p e ha hc hk s m args below hf hA hF happ hP
 obtain ⟨hcalls, hrest, hpre⟩ := hP
 obtain ⟨-, -, -, hnamed, -, -, -, hat⟩ := (Spec.applies_iff hf).mp happ
 obtain ⟨hg, hn⟩ := and_e (Cond.before_iff.mp (show (Jvm.Cond.and given_1 narrow_1).before args s = true from hpre))
 obtain ⟨g0, hg0⟩ := and_e hg
 obtain ⟨ga0, hg0'⟩ := and_e hg0
 obtain ⟨ga1, hg0''⟩ := and_e hg0'
 obtain ⟨ga2, hg0'''⟩ := and_e hg0''
 obtain ⟨ga3, hg0''''⟩ := and_e hg0'''
 obtain ⟨w0, w1, w2, w3, w4, rfl⟩ : ∃ w0 w1 w2 w3 w4 : Value, args = #[w0, w1, w2, w3, w4] := by
  have hs : args.size = 5 := by simpa [Cond.value, given_1] using g0
  obtain ⟨L⟩ := args
  match L, hs with
  | [w0, w1, w2, w3, w4], _ => exact ⟨w0, w1, w2, w3, w4, rfl⟩
 have hw := fun d (hd : d ∈ tables_1) => atoms_spec (ws := Jvm.Cond.code x code maxLocals ret :: tables_1) hat d (List.mem_cons_of_mem _ hd)
 have hfit : Fit s := fun {y c} hc i hi => by
  obtain ⟨ha, rfl⟩ := Array.getElem?_eq_some_iff.mp hc
  have q := List.all_eq_true.mp ((Array.all_eq_true_iff_forall_mem.mp hF) _ (Array.getElem_mem ha)) i (List.mem_range.mpr hi)
  simpa [Array.getElem?_eq_getElem hi] using q
 obtain ⟨hsets, hown0⟩ := atoms_of _ (rest_1_c_eq ▸ (show rest_1_c.before _ s = true from hrest))
 have hr0 := Cond.before_iff.mp hown0
 obtain ⟨i0, ei0⟩ := is_v ga0
 obtain rfl : w0 = (.int i0) := Option.some.inj ei0
 obtain ⟨i1, ei1⟩ := is_v ga1
 obtain rfl : w1 = (.int i1) := Option.some.inj ei1
 obtain ⟨i2, ei2⟩ := is_v ga2
 obtain rfl : w2 = (.int i2) := Option.some.inj ei2
 obtain ⟨i3, ei3⟩ := is_v ga3
 obtain rfl : w3 = (.int i3) := Option.some.inj ei3
 obtain ⟨i4, ei4⟩ := is_v hg0''''
 obtain rfl : w4 = (.int i4) := Option.some.inj ei4
 obtain ⟨cz, evc⟩ := is_v (Cond.before_iff.mp (hsets _ (List.mem_of_getElem? (i := 1) rfl)))
 have S_c := Sta.start evc (Or.inl (hsets _ (List.mem_of_getElem? (i := 0) rfl)))
 have hcz : ¬ (cz = 0) := gotF (Cond.eq_ints evc rfl) (not_v (Cond.before_iff.mp (hsets _ (List.mem_of_getElem? (i := 2) rfl))))
 obtain ⟨fo, evf, r_fo⟩ := isR_v (Cond.before_iff.mp (hsets _ (List.mem_of_getElem? (i := 8) rfl)))
 have S_f := Sta.start evf (Or.inl (hsets _ (List.mem_of_getElem? (i := 7) rfl)))
 have ev0 := own_stv (Cond.before_iff.mp (hsets _ (List.mem_of_getElem? (i := 12) rfl)))
 have S_u0 := Sta.start ev0 (Or.inl (hsets _ (List.mem_of_getElem? (i := 11) rfl)))
 have ev1 := own_stv (Cond.before_iff.mp (hsets _ (List.mem_of_getElem? (i := 15) rfl)))
 have S_u1 := Sta.start ev1 (Or.inl (hsets _ (List.mem_of_getElem? (i := 14) rfl)))
 have ev2 := own_stv (Cond.before_iff.mp (hsets _ (List.mem_of_getElem? (i := 18) rfl)))
 have S_u2 := Sta.start ev2 (Or.inl (hsets _ (List.mem_of_getElem? (i := 17) rfl)))
 have hCH : CHv s consts_1 s.vm s.heap := CHv.start (own_EW hw) hcalls.1 (hsets _ (List.mem_of_getElem? (i := 2) rfl)) (gw hw 20 rfl) (gw hw 7 rfl)
 obtain ⟨n, o, h1, h2, h3, _, L, rfl, ⟨rfl, N⟩, hq⟩ := rm_law l s _ hw tables_1 i0 i1 i2 i3 i4 cz fo s.heap s.heap.size (Nat.le_refl _) S_c hcz S_f r_fo S_u0 S_u1 S_u2 p e ha hc hk s m _ below hf ((Spec.applies_iff_loose hf).mp happ).1 ⟨rfl, State.Warmed39.refl s, rfl, hCH⟩ trivial
 refine ⟨n, _, h1, h2, h3, hpost _ _ _ _ _ _ ⟨Cond.after_iff.mpr rfl, Cond.after_iff.mpr (eq_i res_at (Term.int_eval (1)) rfl), trivial⟩ ⟨hq.2.1, hq.2.2.1, hq.2.2.2.1, (hq.2.2.2.2.sift fun y hy => Or.inr (N y hy)).mono (by decide) (by decide)⟩⟩
theorem main_1_1 : Claimed_1_1 := comes_1 fun _ _ _ _ _ _ h hF => ⟨h.1, hF⟩
theorem main_1_2 : Claimed_1_2 := comes_1 fun _ _ _ _ _ _ h hF => ⟨h.2.1, hF⟩
end Jvm.Pilot.@@N@@
namespace Jvm.Pilot.@@N@@
open Jvm Jvm.ClassFile Sem Op Lib Jvm.Free Jvm.Stand Jvm.Pilot.@@N@@.Jvm.D
/-! MADE BY PROGRAM (witnessworld.py) out of the Statement's table words and the real class files: 21 classes; the members and pool entries that the words name. The judged class is class 1, her method 5. -/
namespace start1
open Jvm.ClassFile
def u (s : String) : CpInfo := .utf8 (stringToUtf16 s)
/-- a pool by its gaps: so many unusable entries, then the entry; so many at the end -/
def gap : Nat → List CpInfo → List CpInfo
  | 0, r => r
  | n + 1, r => .unusable :: gap n r
def poolList (es : List (Nat × CpInfo)) (last : Nat) : List CpInfo := es.foldr (fun e r => gap e.1 (e.2 :: r)) (gap last [])
def pool (es : List (Nat × CpInfo)) (last : Nat) : Array CpInfo := ⟨poolList es last⟩
def fileOf (pool : Array CpInfo) (this : Nat) (attrs : Array Attribute := #[]) (ms : Array MethodInfo := #[]) (fl : Nat := 33) (sup : Nat := 0) (ifs : Array Nat := #[]) (fds : Array FieldInfo := #[]) : ClassFile where
  minorVersion := 0
  majorVersion := 65
  constantPool := pool
  accessFlags := fl
  thisClass := this
  superClass := sup
  interfaces := ifs
  fields := fds
  methods := ms
  attributes := attrs
def plain (name : String) (sup : Option ClassId) : Class where
  name := name
  kind := .ordinary
  loader := none
  accessFlags := 33
  super := sup
  interfaces := #[]
  cf := none
  fields := #[]
  methods := #[]
  instanceTypes := #[]
  staticTypes := #[]
  resolved := #[]
  callSites := []
  init := .initialized
  statics := none
  mirror := none

def pool0 : Array CpInfo := pool [(5, u "<init>"), (0, u "()V"), (1, .class_ 10), (1, u "java/lang/Object")] 113

def k0c0 : Code := { maxStack := 0, maxLocals := 1, code := object_method_1_code, exceptionTable := #[], attributes := #[] }
def k0m0 : Method := { name := "<init>", desc := "()V", sig := { parameters := [], returnType := none }, accessFlags := 1, code := some k0c0 }
/-- java/lang/Object -/
def k0 : Class := { plain "java/lang/Object" none with
  accessFlags := 33
  interfaces := #[]
  cf := some (fileOf pool0 8 #[] #[{ accessFlags := 1, nameIndex := 5, descriptorIndex := 6, attributes := #[] }] 33 0 #[] #[])
  fields := #[]
  methods := #[k0m0]
  instanceTypes := #[]
  staticTypes := #[]
  resolved := Array.replicate 124 none
  statics := none }

def pool1 : Array CpInfo := pool [(2, .class_ 4), (1, u "java/lang/Object"), (0, u "<init>"), (0, u "()V"), (0, .integer 55296), (0, .integer 56320), (0, .integer 65535), (0, .integer 56319), (0, .integer 57343), (0, .methodref 13 14), (0, .class_ 15), (0, .nameAndType 16 17), (0, u "com/example/tandemtrie/tandemtrie/io/KeyFileCanHoldPinLaw"), (0, u "isHigh"), (0, u "(C)Z"), (0, .methodref 13 19), (0, .nameAndType 20 17), (0, u "isLow"), (0, .methodref 13 22), (0, .nameAndType 23 24), (0, u "draw"), (0, u "(I)C"), (0, .class_ 26), (0, u "java/lang/String"), (0, .methodref 25 28), (0, .nameAndType 5 29), (0, u "([C)V"), (0, .methodref 13 31), (0, .nameAndType 32 33), (0, u "good"), (0, u "(CCC)Z"), (0, .methodref 35 36), (0, .class_ 37), (0, .nameAndType 38 39), (0, u "com/example/tandemtrie/tandemtrie/io/KeyFile"), (0, u "canHold"), (0, u "(Ljava/lang/String;)Z"), (3, u "law"), (0, u "(IIIII)Z")] 4

def k1m0 : Method := { name := "<init>", desc := "()V", sig := { parameters := [], returnType := none }, accessFlags := 2, code := none }
def k1c1 : Code := { maxStack := 3, maxLocals := 3, code := method_2_code, exceptionTable := #[], attributes := #[] }
def k1m1 : Method := { name := "draw", desc := "(I)C", sig := { parameters := [.int], returnType := some .char }, accessFlags := 10, code := some k1c1 }
def k1c2 : Code := { maxStack := 2, maxLocals := 1, code := method_3_code, exceptionTable := #[], attributes := #[] }
def k1m2 : Method := { name := "isHigh", desc := "(C)Z", sig := { parameters := [.char], returnType := some .boolean }, accessFlags := 10, code := some k1c2 }
def k1c3 : Code := { maxStack := 2, maxLocals := 1, code := method_4_code, exceptionTable := #[], attributes := #[] }
def k1m3 : Method := { name := "isLow", desc := "(C)Z", sig := { parameters := [.char], returnType := some .boolean }, accessFlags := 10, code := some k1c3 }
def k1c4 : Code := { maxStack := 2, maxLocals := 3, code := method_5_code, exceptionTable := #[], attributes := #[] }
def k1m4 : Method := { name := "good", desc := "(CCC)Z", sig := { parameters := [.char, .char, .char], returnType := some .boolean }, accessFlags := 10, code := some k1c4 }
def k1c5 : Code := { maxStack := 4, maxLocals := 17, code := code, exceptionTable := #[], attributes := #[] }
def k1m5 : Method := { name := "law", desc := "(IIIII)Z", sig := { parameters := [.int, .int, .int, .int, .int], returnType := some .boolean }, accessFlags := 9, code := some k1c5 }
/-- com/example/tandemtrie/tandemtrie/io/KeyFileCanHoldPinLaw -/
def k1 : Class := { plain "com/example/tandemtrie/tandemtrie/io/KeyFileCanHoldPinLaw" (some 0) with
  accessFlags := 49
  interfaces := #[]
  cf := some (fileOf pool1 13 #[] #[{ accessFlags := 2, nameIndex := 5, descriptorIndex := 6, attributes := #[] }, { accessFlags := 10, nameIndex := 23, descriptorIndex := 24, attributes := #[] }, { accessFlags := 10, nameIndex := 16, descriptorIndex := 17, attributes := #[] }, { accessFlags := 10, nameIndex := 20, descriptorIndex := 17, attributes := #[] }, { accessFlags := 10, nameIndex := 32, descriptorIndex := 33, attributes := #[] }, { accessFlags := 9, nameIndex := 43, descriptorIndex := 44, attributes := #[] }] 49 2 #[] #[])
  fields := #[]
  methods := #[k1m0, k1m1, k1m2, k1m3, k1m4, k1m5]
  instanceTypes := #[]
  staticTypes := #[]
  resolved := Array.replicate 49 none
  statics := none }

def pool2 : Array CpInfo := pool [(1, .class_ 2), (0, u "java/io/Serializable"), (0, .class_ 4), (0, u "java/lang/Object")] 2

/-- java/io/Serializable -/
def k2 : Class := { plain "java/io/Serializable" (some 0) with
  accessFlags := 1537
  interfaces := #[]
  cf := some (fileOf pool2 1 #[] #[] 1537 3 #[] #[])
  fields := #[]
  methods := #[]
  instanceTypes := #[]
  staticTypes := #[]
  resolved := Array.replicate 7 none
  statics := none }

def pool3 : Array CpInfo := pool [(1, .class_ 2), (0, u "java/lang/Comparable"), (0, .class_ 4), (0, u "java/lang/Object")] 7

/-- java/lang/Comparable -/
def k3 : Class := { plain "java/lang/Comparable" (some 0) with
  accessFlags := 1537
  interfaces := #[]
  cf := some (fileOf pool3 1 #[] #[] 1537 3 #[] #[])
  fields := #[]
  methods := #[]
  instanceTypes := #[]
  staticTypes := #[]
  resolved := Array.replicate 12 none
  statics := none }

def pool4 : Array CpInfo := pool [(2, .class_ 4), (1, u "java/lang/CharSequence"), (42, .class_ 48), (0, u "java/lang/CharSequence$1CodePointIterator"), (10, .class_ 60), (0, u "java/lang/CharSequence$1CharIterator"), (5, .class_ 67), (0, u "java/lang/Object")] 63

/-- java/lang/CharSequence -/
def k4 : Class := { plain "java/lang/CharSequence" (some 0) with
  accessFlags := 1537
  interfaces := #[]
  cf := some (fileOf pool4 2 #[.nestMembers #[47, 59]] #[] 1537 66 #[] #[])
  fields := #[]
  methods := #[]
  instanceTypes := #[]
  staticTypes := #[]
  resolved := Array.replicate 131 none
  statics := none }

def pool5 : Array CpInfo := pool [(1, .class_ 2), (0, u "java/lang/constant/Constable"), (0, .class_ 4), (0, u "java/lang/Object")] 6

/-- java/lang/constant/Constable -/
def k5 : Class := { plain "java/lang/constant/Constable" (some 0) with
  accessFlags := 1537
  interfaces := #[]
  cf := some (fileOf pool5 1 #[] #[] 1537 3 #[] #[])
  fields := #[]
  methods := #[]
  instanceTypes := #[]
  staticTypes := #[]
  resolved := Array.replicate 11 none
  statics := none }

def pool6 : Array CpInfo := pool [(1, .class_ 2), (0, u "java/lang/constant/ConstantDesc"), (0, .class_ 4), (0, u "java/lang/Object")] 32

/-- java/lang/constant/ConstantDesc -/
def k6 : Class := { plain "java/lang/constant/ConstantDesc" (some 0) with
  accessFlags := 1537
  interfaces := #[]
  cf := some (fileOf pool6 1 #[] #[] 1537 3 #[] #[])
  fields := #[]
  methods := #[]
  instanceTypes := #[]
  staticTypes := #[]
  resolved := Array.replicate 37 none
  statics := none }

def pool7 : Array CpInfo := pool [(1, .methodref 2 3), (0, .class_ 4), (0, .nameAndType 5 6), (0, u "java/lang/Object"), (0, u "<init>"), (0, u "()V"), (0, .string 8), (0, u ""), (0, .fieldref 10 11), (0, .class_ 12), (0, .nameAndType 13 14), (0, u "java/lang/String"), (0, u "value"), (0, u "[B"), (0, .fieldref 10 16), (0, .nameAndType 17 18), (0, u "coder"), (0, u "B"), (2, u "hash"), (0, u "I"), (2, u "hashIsZero"), (0, u "Z"), (0, .methodref 10 28), (0, .nameAndType 5 29), (0, u "([CIILjava/lang/Void;)V"), (8, .fieldref 10 39), (0, .nameAndType 40 26), (0, u "COMPACT_STRINGS"), (1, .class_ 44), (1, u "java/lang/StringUTF16"), (0, u "compress"), (1, .methodref 42 48), (0, .nameAndType 49 50), (0, u "coderFromArrayLen"), (0, u "([BI)B"), (46, u "([BII)I"), (44, u "()Z"), (34, .methodref 42 178), (0, .nameAndType 45 179), (0, u "([CII)[B"), (154, u "()I"), (0, .methodref 10 336), (0, .nameAndType 17 337), (0, u "()B"), (53, u "(II)V"), (100, .methodref 10 493), (0, .nameAndType 494 142), (0, u "isLatin1"), (4, .methodref 10 500), (0, .nameAndType 501 391), (0, u "checkIndex"), (0, .methodref 42 503), (0, .nameAndType 504 97), (0, u "codePointAt"), (2, u "length"), (67, .class_ 576), (0, u "java/lang/CharSequence"), (22, u "CASE_INSENSITIVE_ORDER"), (0, u "Ljava/util/Comparator;"), (164, u "(I)I"), (244, u "([C)V"), (42, .fieldref 1054 1055), (0, .class_ 1056), (0, .nameAndType 1057 1058), (0, u "jdk/internal/util/Preconditions"), (0, u "SIOOBE_FORMATTER"), (0, u "Ljava/util/function/BiFunction;"), (0, .methodref 1054 1060), (0, .nameAndType 501 1061), (0, u "(IILjava/util/function/BiFunction;)I"), (39, u "serialPersistentFields"), (0, u "[Ljava/io/ObjectStreamField;"), (0, .class_ 1104), (0, u "java/lang/String$CaseInsensitiveComparator"), (1, .class_ 1107), (0, u "java/io/Serializable"), (0, .class_ 1109), (0, u "java/lang/Comparable"), (0, .class_ 1111), (0, u "java/lang/constant/Constable"), (0, .class_ 1113), (0, u "java/lang/constant/ConstantDesc"), (2, u "serialVersionUID"), (0, u "J"), (3, u "REPL"), (0, u "C"), (2, u "LATIN1"), (1, u "UTF16")] 323

def k7m0 : Method := { name := "<init>", desc := "()V", sig := { parameters := [], returnType := none }, accessFlags := 1, code := none }
def k7c1 : Code := { maxStack := 5, maxLocals := 2, code := jdk_42_method_3_code, exceptionTable := #[], attributes := #[] }
def k7m1 : Method := { name := "<init>", desc := "([C)V", sig := { parameters := [(.array .char)], returnType := none }, accessFlags := 1, code := some k7c1 }
def k7c2 : Code := { maxStack := 2, maxLocals := 1, code := jdk_42_method_54_code, exceptionTable := #[], attributes := #[] }
def k7m2 : Method := { name := "length", desc := "()I", sig := { parameters := [], returnType := some .int }, accessFlags := 1, code := some k7c2 }
def k7c3 : Code := { maxStack := 3, maxLocals := 3, code := jdk_42_method_57_code, exceptionTable := #[], attributes := #[] }
def k7m3 : Method := { name := "codePointAt", desc := "(I)I", sig := { parameters := [.int], returnType := some .int }, accessFlags := 1, code := some k7c3 }
def k7c4 : Code := { maxStack := 4, maxLocals := 6, code := jdk_42_method_149_code, exceptionTable := #[], attributes := #[] }
def k7m4 : Method := { name := "<init>", desc := "([CIILjava/lang/Void;)V", sig := { parameters := [(.array .char), .int, .int, (.object "java/lang/Void")], returnType := none }, accessFlags := 2, code := some k7c4 }
def k7c5 : Code := { maxStack := 1, maxLocals := 1, code := jdk_42_method_152_code, exceptionTable := #[], attributes := #[] }
def k7m5 : Method := { name := "coder", desc := "()B", sig := { parameters := [], returnType := some .byte }, accessFlags := 0, code := some k7c5 }
def k7c6 : Code := { maxStack := 1, maxLocals := 1, code := jdk_42_method_154_code, exceptionTable := #[], attributes := #[] }
def k7m6 : Method := { name := "isLatin1", desc := "()Z", sig := { parameters := [], returnType := some .boolean }, accessFlags := 0, code := some k7c6 }
def k7c7 : Code := { maxStack := 3, maxLocals := 2, code := jdk_42_method_155_code, exceptionTable := #[], attributes := #[] }
def k7m7 : Method := { name := "checkIndex", desc := "(II)V", sig := { parameters := [.int, .int], returnType := none }, accessFlags := 8, code := some k7c7 }
/-- java/lang/String -/
def k7 : Class := { plain "java/lang/String" (some 0) with
  accessFlags := 49
  interfaces := #[2, 3, 4, 5, 6]
  cf := some (fileOf pool7 10 #[.nestMembers #[1103]] #[{ accessFlags := 1, nameIndex := 5, descriptorIndex := 6, attributes := #[] }, { accessFlags := 1, nameIndex := 5, descriptorIndex := 1010, attributes := #[] }, { accessFlags := 1, nameIndex := 507, descriptorIndex := 334, attributes := #[] }, { accessFlags := 1, nameIndex := 504, descriptorIndex := 765, attributes := #[] }, { accessFlags := 2, nameIndex := 5, descriptorIndex := 29, attributes := #[] }, { accessFlags := 0, nameIndex := 17, descriptorIndex := 337, attributes := #[] }, { accessFlags := 0, nameIndex := 494, descriptorIndex := 142, attributes := #[] }, { accessFlags := 8, nameIndex := 501, descriptorIndex := 391, attributes := #[] }] 49 2 #[1106, 1108, 575, 1110, 1112] #[{ accessFlags := 18, nameIndex := 13, descriptorIndex := 14, attributes := #[] }, { accessFlags := 18, nameIndex := 17, descriptorIndex := 18, attributes := #[] }, { accessFlags := 2, nameIndex := 21, descriptorIndex := 22, attributes := #[] }, { accessFlags := 2, nameIndex := 25, descriptorIndex := 26, attributes := #[] }, { accessFlags := 26, nameIndex := 1116, descriptorIndex := 1117, attributes := #[] }, { accessFlags := 24, nameIndex := 40, descriptorIndex := 26, attributes := #[] }, { accessFlags := 26, nameIndex := 1101, descriptorIndex := 1102, attributes := #[] }, { accessFlags := 26, nameIndex := 1121, descriptorIndex := 1122, attributes := #[] }, { accessFlags := 25, nameIndex := 599, descriptorIndex := 600, attributes := #[] }, { accessFlags := 24, nameIndex := 1125, descriptorIndex := 18, attributes := #[] }, { accessFlags := 24, nameIndex := 1127, descriptorIndex := 18, attributes := #[] }])
  fields := #[{ name := "value", type := (.array .byte), accessFlags := 18, slot := 0, constantValue := 0 }, { name := "coder", type := .byte, accessFlags := 18, slot := 1, constantValue := 0 }, { name := "hash", type := .int, accessFlags := 2, slot := 2, constantValue := 0 }, { name := "hashIsZero", type := .boolean, accessFlags := 2, slot := 3, constantValue := 0 }, { name := "serialVersionUID", type := .long, accessFlags := 26, slot := 0, constantValue := 0 }, { name := "COMPACT_STRINGS", type := .boolean, accessFlags := 24, slot := 1, constantValue := 0 }, { name := "serialPersistentFields", type := (.array (.object "java/io/ObjectStreamField")), accessFlags := 26, slot := 2, constantValue := 0 }, { name := "REPL", type := .char, accessFlags := 26, slot := 3, constantValue := 0 }, { name := "CASE_INSENSITIVE_ORDER", type := (.object "java/util/Comparator"), accessFlags := 25, slot := 4, constantValue := 0 }, { name := "LATIN1", type := .byte, accessFlags := 24, slot := 5, constantValue := 0 }, { name := "UTF16", type := .byte, accessFlags := 24, slot := 6, constantValue := 0 }]
  methods := #[k7m0, k7m1, k7m2, k7m3, k7m4, k7m5, k7m6, k7m7]
  instanceTypes := #[(.array .byte), .byte, .int, .boolean]
  staticTypes := #[.long, .boolean, (.array (.object "java/io/ObjectStreamField")), .char, (.object "java/util/Comparator"), .byte, .byte]
  resolved := Array.replicate 1451 none
  statics := some 0 }

def pool8 : Array CpInfo := pool [(2, .class_ 4), (1, u "java/lang/Object"), (0, u "<init>"), (0, u "()V"), (5, .class_ 14), (1, u "com/example/tandemtrie/tandemtrie/io/KeyFile"), (5, .methodref 21 22), (0, .class_ 23), (0, .nameAndType 24 25), (0, u "java/lang/String"), (0, u "length"), (0, u "()I"), (0, .methodref 21 27), (0, .nameAndType 28 29), (0, u "codePointAt"), (0, u "(I)I"), (0, .class_ 31), (0, u "java/lang/Character"), (0, .integer 55296), (0, .integer 57343), (0, .methodref 30 35), (0, .nameAndType 36 29), (0, u "charCount"), (0, .class_ 38), (0, u "com/example/tandemtrie/tandemtrie/io/KeyFile$LineDecoder"), (59, u "canHold"), (0, u "(Ljava/lang/String;)Z"), (0, .class_ 101), (0, u "com/example/tandemtrie/tandemtrie/io/KeyFile$MalformedLine"), (23, u "DECIMAL"), (0, u "Ljava/util/regex/Pattern;"), (39, u "CHUNK_BYTES"), (0, u "I"), (15, .class_ 184), (0, u "com/example/tandemtrie/tandemtrie/io/KeyFile$LineConsumer")] 44

def k8m0 : Method := { name := "<init>", desc := "()V", sig := { parameters := [], returnType := none }, accessFlags := 2, code := none }
def k8c1 : Code := { maxStack := 2, maxLocals := 3, code := prog_20_method_4_code, exceptionTable := #[], attributes := #[] }
def k8m1 : Method := { name := "canHold", desc := "(Ljava/lang/String;)Z", sig := { parameters := [(.object "java/lang/String")], returnType := some .boolean }, accessFlags := 9, code := some k8c1 }
/-- com/example/tandemtrie/tandemtrie/io/KeyFile -/
def k8 : Class := { plain "com/example/tandemtrie/tandemtrie/io/KeyFile" (some 0) with
  accessFlags := 49
  interfaces := #[]
  cf := some (fileOf pool8 12 #[.nestMembers #[37, 100, 183]] #[{ accessFlags := 2, nameIndex := 5, descriptorIndex := 6, attributes := #[] }, { accessFlags := 9, nameIndex := 98, descriptorIndex := 99, attributes := #[] }] 49 2 #[] #[{ accessFlags := 26, nameIndex := 125, descriptorIndex := 126, attributes := #[] }, { accessFlags := 26, nameIndex := 166, descriptorIndex := 167, attributes := #[] }])
  fields := #[{ name := "DECIMAL", type := (.object "java/util/regex/Pattern"), accessFlags := 26, slot := 0, constantValue := 0 }, { name := "CHUNK_BYTES", type := .int, accessFlags := 26, slot := 1, constantValue := 0 }]
  methods := #[k8m0, k8m1]
  instanceTypes := #[]
  staticTypes := #[(.object "java/util/regex/Pattern"), .int]
  resolved := Array.replicate 229 none
  statics := none }

def pool9 : Array CpInfo := pool [(6, .class_ 8), (1, u "java/lang/Object"), (0, u "<init>"), (0, u "()V"), (0, .methodref 12 13), (0, .class_ 14), (0, .nameAndType 15 16), (0, u "java/lang/StringUTF16"), (0, u "newBytesLength"), (0, u "(I)I"), (3, .integer 1073741823), (23, .fieldref 12 45), (0, .nameAndType 46 47), (0, u "$assertionsDisabled"), (0, u "Z"), (11, .fieldref 12 60), (0, .nameAndType 61 62), (0, u "HI_BYTE_SHIFT"), (0, u "I"), (0, .fieldref 12 64), (0, .nameAndType 65 62), (0, u "LO_BYTE_SHIFT"), (5, .methodref 12 72), (0, .nameAndType 73 74), (0, u "getChar"), (0, u "([BI)C"), (0, .methodref 76 77), (0, .class_ 78), (0, .nameAndType 79 80), (0, u "java/lang/Character"), (0, u "isHighSurrogate"), (0, u "(C)Z"), (0, .methodref 76 82), (0, .nameAndType 83 80), (0, u "isLowSurrogate"), (0, .methodref 76 85), (0, .nameAndType 86 87), (0, u "toCodePoint"), (0, u "(CC)I"), (0, .methodref 12 89), (0, .nameAndType 90 91), (0, u "codePointAt"), (0, u "([BIIZ)I"), (15, .methodref 12 108), (0, .nameAndType 109 110), (0, u "newBytesFor"), (0, u "(I)[B"), (0, .methodref 12 112), (0, .nameAndType 113 114), (0, u "putChar"), (0, u "([BII)V"), (0, .methodref 12 116), (0, .nameAndType 117 118), (0, u "compress"), (0, u "([CI[BII)I"), (0, .methodref 12 120), (0, .nameAndType 121 122), (0, u "toBytes"), (0, u "([CII)[B"), (127, u "([BII)I"), (10, u "coderFromArrayLen"), (0, u "([BI)B"), (106, .class_ 371), (1, u "java/lang/StringUTF16$LinesSpliterator"), (58, u "MAX_LENGTH"), (196, .class_ 628), (0, u "java/lang/StringUTF16$CodePointsSpliterator"), (0, .class_ 630), (0, u "java/lang/StringUTF16$CharsSpliterator")] 4

def k9m0 : Method := { name := "<init>", desc := "()V", sig := { parameters := [], returnType := none }, accessFlags := 0, code := none }
def k9c1 : Code := { maxStack := 1, maxLocals := 1, code := jdk_52_method_2_code, exceptionTable := #[], attributes := #[] }
def k9m1 : Method := { name := "newBytesFor", desc := "(I)[B", sig := { parameters := [.int], returnType := some (.array .byte) }, accessFlags := 9, code := some k9c1 }
def k9c2 : Code := { maxStack := 4, maxLocals := 1, code := jdk_52_method_3_code, exceptionTable := #[], attributes := #[] }
def k9m2 : Method := { name := "newBytesLength", desc := "(I)I", sig := { parameters := [.int], returnType := some .int }, accessFlags := 9, code := some k9c2 }
def k9c3 : Code := { maxStack := 4, maxLocals := 3, code := jdk_52_method_4_code, exceptionTable := #[], attributes := #[] }
def k9m3 : Method := { name := "putChar", desc := "([BII)V", sig := { parameters := [(.array .byte), .int, .int], returnType := none }, accessFlags := 8, code := some k9c3 }
def k9c4 : Code := { maxStack := 3, maxLocals := 2, code := jdk_52_method_5_code, exceptionTable := #[], attributes := #[] }
def k9m4 : Method := { name := "getChar", desc := "([BI)C", sig := { parameters := [(.array .byte), .int], returnType := some .char }, accessFlags := 8, code := some k9c4 }
def k9c5 : Code := { maxStack := 2, maxLocals := 6, code := jdk_52_method_7_code, exceptionTable := #[], attributes := #[] }
def k9m5 : Method := { name := "codePointAt", desc := "([BIIZ)I", sig := { parameters := [(.array .byte), .int, .int, .boolean], returnType := some .int }, accessFlags := 10, code := some k9c5 }
def k9c6 : Code := { maxStack := 4, maxLocals := 3, code := jdk_52_method_8_code, exceptionTable := #[], attributes := #[] }
def k9m6 : Method := { name := "codePointAt", desc := "([BII)I", sig := { parameters := [(.array .byte), .int, .int], returnType := some .int }, accessFlags := 9, code := some k9c6 }
def k9c7 : Code := { maxStack := 4, maxLocals := 5, code := jdk_52_method_14_code, exceptionTable := #[], attributes := #[] }
def k9m7 : Method := { name := "toBytes", desc := "([CII)[B", sig := { parameters := [(.array .char), .int, .int], returnType := some (.array .byte) }, accessFlags := 9, code := some k9c7 }
def k9c8 : Code := { maxStack := 2, maxLocals := 2, code := jdk_52_method_15_code, exceptionTable := #[], attributes := #[] }
def k9m8 : Method := { name := "coderFromArrayLen", desc := "([BI)B", sig := { parameters := [(.array .byte), .int], returnType := some .byte }, accessFlags := 8, code := some k9c8 }
def k9c9 : Code := { maxStack := 5, maxLocals := 6, code := jdk_52_method_16_code, exceptionTable := #[], attributes := #[] }
def k9m9 : Method := { name := "compress", desc := "([CII)[B", sig := { parameters := [(.array .char), .int, .int], returnType := some (.array .byte) }, accessFlags := 9, code := some k9c9 }
def k9c10 : Code := { maxStack := 3, maxLocals := 7, code := jdk_52_method_21_code, exceptionTable := #[], attributes := #[] }
def k9m10 : Method := { name := "compress", desc := "([CI[BII)I", sig := { parameters := [(.array .char), .int, (.array .byte), .int, .int], returnType := some .int }, accessFlags := 9, code := some k9c10 }
/-- java/lang/StringUTF16 -/
def k9 : Class := { plain "java/lang/StringUTF16" (some 0) with
  accessFlags := 48
  interfaces := #[]
  cf := some (fileOf pool9 12 #[.nestMembers #[627, 629, 369]] #[{ accessFlags := 0, nameIndex := 9, descriptorIndex := 10, attributes := #[] }, { accessFlags := 9, nameIndex := 109, descriptorIndex := 110, attributes := #[] }, { accessFlags := 9, nameIndex := 15, descriptorIndex := 16, attributes := #[] }, { accessFlags := 8, nameIndex := 113, descriptorIndex := 114, attributes := #[] }, { accessFlags := 8, nameIndex := 73, descriptorIndex := 74, attributes := #[] }, { accessFlags := 10, nameIndex := 90, descriptorIndex := 91, attributes := #[] }, { accessFlags := 9, nameIndex := 90, descriptorIndex := 250, attributes := #[] }, { accessFlags := 9, nameIndex := 121, descriptorIndex := 122, attributes := #[] }, { accessFlags := 8, nameIndex := 261, descriptorIndex := 262, attributes := #[] }, { accessFlags := 9, nameIndex := 117, descriptorIndex := 122, attributes := #[] }, { accessFlags := 9, nameIndex := 117, descriptorIndex := 118, attributes := #[] }] 48 6 #[] #[{ accessFlags := 26, nameIndex := 61, descriptorIndex := 62, attributes := #[] }, { accessFlags := 26, nameIndex := 65, descriptorIndex := 62, attributes := #[] }, { accessFlags := 24, nameIndex := 430, descriptorIndex := 62, attributes := #[] }, { accessFlags := 4120, nameIndex := 46, descriptorIndex := 47, attributes := #[] }])
  fields := #[{ name := "HI_BYTE_SHIFT", type := .int, accessFlags := 26, slot := 0, constantValue := 0 }, { name := "LO_BYTE_SHIFT", type := .int, accessFlags := 26, slot := 1, constantValue := 0 }, { name := "MAX_LENGTH", type := .int, accessFlags := 24, slot := 2, constantValue := 0 }, { name := "$assertionsDisabled", type := .boolean, accessFlags := 4120, slot := 3, constantValue := 0 }]
  methods := #[k9m0, k9m1, k9m2, k9m3, k9m4, k9m5, k9m6, k9m7, k9m8, k9m9, k9m10]
  instanceTypes := #[]
  staticTypes := #[.int, .int, .int, .boolean]
  resolved := Array.replicate 635 none
  statics := some 1 }

def pool10 : Array CpInfo := pool [(2, .class_ 4), (1, u "java/lang/Object"), (0, u "<init>"), (0, u "()V"), (17, .class_ 26), (1, u "jdk/internal/util/Preconditions"), (6, u "checkIndex"), (21, .class_ 56), (0, u "jdk/internal/util/Preconditions$4"), (57, .class_ 115), (0, u "jdk/internal/util/Preconditions$1"), (7, u "SIOOBE_FORMATTER"), (0, u "Ljava/util/function/BiFunction;"), (0, .class_ 126), (0, u "jdk/internal/util/Preconditions$2"), (3, u "AIOOBE_FORMATTER"), (0, .class_ 132), (0, u "jdk/internal/util/Preconditions$3"), (3, u "IOOBE_FORMATTER"), (41, u "(IILjava/util/function/BiFunction;)I")] 15

def k10m0 : Method := { name := "<init>", desc := "()V", sig := { parameters := [], returnType := none }, accessFlags := 1, code := none }
def k10c1 : Code := { maxStack := 3, maxLocals := 3, code := jdk_41_method_11_code, exceptionTable := #[], attributes := #[] }
def k10m1 : Method := { name := "checkIndex", desc := "(IILjava/util/function/BiFunction;)I", sig := { parameters := [.int, .int, (.object "java/util/function/BiFunction")], returnType := some .int }, accessFlags := 9, code := some k10c1 }
/-- jdk/internal/util/Preconditions -/
def k10 : Class := { plain "jdk/internal/util/Preconditions" (some 0) with
  accessFlags := 33
  interfaces := #[]
  cf := some (fileOf pool10 24 #[.nestMembers #[55, 131, 125, 114]] #[{ accessFlags := 1, nameIndex := 5, descriptorIndex := 6, attributes := #[] }, { accessFlags := 9, nameIndex := 33, descriptorIndex := 178, attributes := #[] }] 33 2 #[] #[{ accessFlags := 25, nameIndex := 123, descriptorIndex := 124, attributes := #[] }, { accessFlags := 25, nameIndex := 130, descriptorIndex := 124, attributes := #[] }, { accessFlags := 25, nameIndex := 136, descriptorIndex := 124, attributes := #[] }])
  fields := #[{ name := "SIOOBE_FORMATTER", type := (.object "java/util/function/BiFunction"), accessFlags := 25, slot := 0, constantValue := 0 }, { name := "AIOOBE_FORMATTER", type := (.object "java/util/function/BiFunction"), accessFlags := 25, slot := 1, constantValue := 0 }, { name := "IOOBE_FORMATTER", type := (.object "java/util/function/BiFunction"), accessFlags := 25, slot := 2, constantValue := 0 }]
  methods := #[k10m0, k10m1]
  instanceTypes := #[]
  staticTypes := #[(.object "java/util/function/BiFunction"), (.object "java/util/function/BiFunction"), (.object "java/util/function/BiFunction")]
  resolved := Array.replicate 194 none
  statics := some 2 }

def pool11 : Array CpInfo := pool [(1, .class_ 2), (0, u "java/lang/Character"), (18, u "value"), (0, u "C"), (19, .class_ 44), (1, u "java/lang/Object"), (3, .class_ 50), (1, u "java/lang/Character$CharacterCache"), (22, .integer 65536), (1, .integer 55296), (0, .integer 56320), (0, .integer 57344), (2, u "isHighSurrogate"), (0, u "(C)Z"), (2, u "isLowSurrogate"), (0, .integer 4238353408), (12, u "toCodePoint"), (0, u "(CC)I"), (74, u "(I)I"), (109, u "$assertionsDisabled"), (0, u "Z"), (21, .class_ 309), (1, u "java/lang/Character$UnicodeBlock"), (73, u "TYPE"), (0, u "Ljava/lang/Class;"), (0, .class_ 386), (0, u "java/io/Serializable"), (0, .class_ 388), (0, u "java/lang/Comparable"), (0, .class_ 390), (0, u "java/lang/constant/Constable"), (0, u "MIN_RADIX"), (0, u "I"), (2, u "MAX_RADIX"), (1, u "MIN_VALUE"), (1, u "MAX_VALUE"), (3, u "UNASSIGNED"), (0, u "B"), (0, u "UPPERCASE_LETTER"), (1, u "LOWERCASE_LETTER"), (0, u "TITLECASE_LETTER"), (1, u "MODIFIER_LETTER"), (1, u "OTHER_LETTER"), (1, u "NON_SPACING_MARK"), (1, u "ENCLOSING_MARK"), (1, u "COMBINING_SPACING_MARK"), (1, u "DECIMAL_DIGIT_NUMBER"), (1, u "LETTER_NUMBER"), (1, u "OTHER_NUMBER"), (1, u "SPACE_SEPARATOR"), (1, u "LINE_SEPARATOR"), (1, u "PARAGRAPH_SEPARATOR"), (1, u "CONTROL"), (1, u "FORMAT"), (1, u "PRIVATE_USE"), (1, u "SURROGATE"), (1, u "DASH_PUNCTUATION"), (1, u "START_PUNCTUATION"), (1, u "END_PUNCTUATION"), (1, u "CONNECTOR_PUNCTUATION"), (1, u "OTHER_PUNCTUATION"), (1, u "MATH_SYMBOL"), (1, u "CURRENCY_SYMBOL"), (1, u "MODIFIER_SYMBOL"), (1, u "OTHER_SYMBOL"), (1, u "INITIAL_QUOTE_PUNCTUATION"), (1, u "FINAL_QUOTE_PUNCTUATION"), (1, u "ERROR"), (1, u "DIRECTIONALITY_UNDEFINED"), (0, u "DIRECTIONALITY_LEFT_TO_RIGHT"), (0, u "DIRECTIONALITY_RIGHT_TO_LEFT"), (0, u "DIRECTIONALITY_RIGHT_TO_LEFT_ARABIC"), (0, u "DIRECTIONALITY_EUROPEAN_NUMBER"), (0, u "DIRECTIONALITY_EUROPEAN_NUMBER_SEPARATOR"), (0, u "DIRECTIONALITY_EUROPEAN_NUMBER_TERMINATOR"), (0, u "DIRECTIONALITY_ARABIC_NUMBER"), (0, u "DIRECTIONALITY_COMMON_NUMBER_SEPARATOR"), (0, u "DIRECTIONALITY_NONSPACING_MARK"), (0, u "DIRECTIONALITY_BOUNDARY_NEUTRAL"), (0, u "DIRECTIONALITY_PARAGRAPH_SEPARATOR"), (0, u "DIRECTIONALITY_SEGMENT_SEPARATOR"), (0, u "DIRECTIONALITY_WHITESPACE"), (0, u "DIRECTIONALITY_OTHER_NEUTRALS"), (0, u "DIRECTIONALITY_LEFT_TO_RIGHT_EMBEDDING"), (0, u "DIRECTIONALITY_LEFT_TO_RIGHT_OVERRIDE"), (0, u "DIRECTIONALITY_RIGHT_TO_LEFT_EMBEDDING"), (0, u "DIRECTIONALITY_RIGHT_TO_LEFT_OVERRIDE"), (1, u "DIRECTIONALITY_POP_DIRECTIONAL_FORMAT"), (0, u "DIRECTIONALITY_LEFT_TO_RIGHT_ISOLATE"), (0, u "DIRECTIONALITY_RIGHT_TO_LEFT_ISOLATE"), (0, u "DIRECTIONALITY_FIRST_STRONG_ISOLATE"), (0, u "DIRECTIONALITY_POP_DIRECTIONAL_ISOLATE"), (0, u "MIN_HIGH_SURROGATE"), (0, u "MAX_HIGH_SURROGATE"), (1, u "MIN_LOW_SURROGATE"), (0, u "MAX_LOW_SURROGATE"), (1, u "MIN_SURROGATE"), (0, u "MAX_SURROGATE"), (0, u "MIN_SUPPLEMENTARY_CODE_POINT"), (0, u "MIN_CODE_POINT"), (0, u "MAX_CODE_POINT"), (1, u "serialVersionUID"), (0, u "J"), (2, u "SIZE"), (0, u "BYTES"), (29, u "charCount"), (58, .class_ 596), (0, u "java/lang/Character$UnicodeScript"), (0, .class_ 598), (0, u "java/lang/Character$Subset")] 5

def k11c0 : Code := { maxStack := 2, maxLocals := 1, code := jdk_89_method_14_code, exceptionTable := #[], attributes := #[] }
def k11m0 : Method := { name := "isHighSurrogate", desc := "(C)Z", sig := { parameters := [.char], returnType := some .boolean }, accessFlags := 9, code := some k11c0 }
def k11c1 : Code := { maxStack := 2, maxLocals := 1, code := jdk_89_method_15_code, exceptionTable := #[], attributes := #[] }
def k11m1 : Method := { name := "isLowSurrogate", desc := "(C)Z", sig := { parameters := [.char], returnType := some .boolean }, accessFlags := 9, code := some k11c1 }
def k11c2 : Code := { maxStack := 2, maxLocals := 1, code := jdk_89_method_18_code, exceptionTable := #[], attributes := #[] }
def k11m2 : Method := { name := "charCount", desc := "(I)I", sig := { parameters := [.int], returnType := some .int }, accessFlags := 9, code := some k11c2 }
def k11c3 : Code := { maxStack := 2, maxLocals := 2, code := jdk_89_method_19_code, exceptionTable := #[], attributes := #[] }
def k11m3 : Method := { name := "toCodePoint", desc := "(CC)I", sig := { parameters := [.char, .char], returnType := some .int }, accessFlags := 9, code := some k11c3 }
/-- java/lang/Character -/
def k11 : Class := { plain "java/lang/Character" (some 0) with
  accessFlags := 49
  interfaces := #[2, 3, 5]
  cf := some (fileOf pool11 1 #[.nestMembers #[48, 595, 307, 597]] #[{ accessFlags := 9, nameIndex := 80, descriptorIndex := 81, attributes := #[] }, { accessFlags := 9, nameIndex := 84, descriptorIndex := 81, attributes := #[] }, { accessFlags := 9, nameIndex := 536, descriptorIndex := 174, attributes := #[] }, { accessFlags := 9, nameIndex := 98, descriptorIndex := 99, attributes := #[] }] 49 42 #[385, 387, 389] #[{ accessFlags := 25, nameIndex := 391, descriptorIndex := 392, attributes := #[] }, { accessFlags := 25, nameIndex := 395, descriptorIndex := 392, attributes := #[] }, { accessFlags := 25, nameIndex := 397, descriptorIndex := 22, attributes := #[] }, { accessFlags := 25, nameIndex := 399, descriptorIndex := 22, attributes := #[] }, { accessFlags := 25, nameIndex := 383, descriptorIndex := 384, attributes := #[] }, { accessFlags := 25, nameIndex := 403, descriptorIndex := 404, attributes := #[] }, { accessFlags := 25, nameIndex := 405, descriptorIndex := 404, attributes := #[] }, { accessFlags := 25, nameIndex := 407, descriptorIndex := 404, attributes := #[] }, { accessFlags := 25, nameIndex := 408, descriptorIndex := 404, attributes := #[] }, { accessFlags := 25, nameIndex := 410, descriptorIndex := 404, attributes := #[] }, { accessFlags := 25, nameIndex := 412, descriptorIndex := 404, attributes := #[] }, { accessFlags := 25, nameIndex := 414, descriptorIndex := 404, attributes := #[] }, { accessFlags := 25, nameIndex := 416, descriptorIndex := 404, attributes := #[] }, { accessFlags := 25, nameIndex := 418, descriptorIndex := 404, attributes := #[] }, { accessFlags := 25, nameIndex := 420, descriptorIndex := 404, attributes := #[] }, { accessFlags := 25, nameIndex := 422, descriptorIndex := 404, attributes := #[] }, { accessFlags := 25, nameIndex := 424, descriptorIndex := 404, attributes := #[] }, { accessFlags := 25, nameIndex := 426, descriptorIndex := 404, attributes := #[] }, { accessFlags := 25, nameIndex := 428, descriptorIndex := 404, attributes := #[] }, { accessFlags := 25, nameIndex := 430, descriptorIndex := 404, attributes := #[] }, { accessFlags := 25, nameIndex := 432, descriptorIndex := 404, attributes := #[] }, { accessFlags := 25, nameIndex := 434, descriptorIndex := 404, attributes := #[] }, { accessFlags := 25, nameIndex := 436, descriptorIndex := 404, attributes := #[] }, { accessFlags := 25, nameIndex := 438, descriptorIndex := 404, attributes := #[] }, { accessFlags := 25, nameIndex := 440, descriptorIndex := 404, attributes := #[] }, { accessFlags := 25, nameIndex := 442, descriptorIndex := 404, attributes := #[] }, { accessFlags := 25, nameIndex := 444, descriptorIndex := 404, attributes := #[] }, { accessFlags := 25, nameIndex := 446, descriptorIndex := 404, attributes := #[] }, { accessFlags := 25, nameIndex := 448, descriptorIndex := 404, attributes := #[] }, { accessFlags := 25, nameIndex := 450, descriptorIndex := 404, attributes := #[] }, { accessFlags := 25, nameIndex := 452, descriptorIndex := 404, attributes := #[] }, { accessFlags := 25, nameIndex := 454, descriptorIndex := 404, attributes := #[] }, { accessFlags := 25, nameIndex := 456, descriptorIndex := 404, attributes := #[] }, { accessFlags := 25, nameIndex := 458, descriptorIndex := 404, attributes := #[] }, { accessFlags := 25, nameIndex := 460, descriptorIndex := 404, attributes := #[] }, { accessFlags := 24, nameIndex := 462, descriptorIndex := 392, attributes := #[] }, { accessFlags := 25, nameIndex := 464, descriptorIndex := 404, attributes := #[] }, { accessFlags := 25, nameIndex := 465, descriptorIndex := 404, attributes := #[] }, { accessFlags := 25, nameIndex := 466, descriptorIndex := 404, attributes := #[] }, { accessFlags := 25, nameIndex := 467, descriptorIndex := 404, attributes := #[] }, { accessFlags := 25, nameIndex := 468, descriptorIndex := 404, attributes := #[] }, { accessFlags := 25, nameIndex := 469, descriptorIndex := 404, attributes := #[] }, { accessFlags := 25, nameIndex := 470, descriptorIndex := 404, attributes := #[] }, { accessFlags := 25, nameIndex := 471, descriptorIndex := 404, attributes := #[] }, { accessFlags := 25, nameIndex := 472, descriptorIndex := 404, attributes := #[] }, { accessFlags := 25, nameIndex := 473, descriptorIndex := 404, attributes := #[] }, { accessFlags := 25, nameIndex := 474, descriptorIndex := 404, attributes := #[] }, { accessFlags := 25, nameIndex := 475, descriptorIndex := 404, attributes := #[] }, { accessFlags := 25, nameIndex := 476, descriptorIndex := 404, attributes := #[] }, { accessFlags := 25, nameIndex := 477, descriptorIndex := 404, attributes := #[] }, { accessFlags := 25, nameIndex := 478, descriptorIndex := 404, attributes := #[] }, { accessFlags := 25, nameIndex := 479, descriptorIndex := 404, attributes := #[] }, { accessFlags := 25, nameIndex := 480, descriptorIndex := 404, attributes := #[] }, { accessFlags := 25, nameIndex := 481, descriptorIndex := 404, attributes := #[] }, { accessFlags := 25, nameIndex := 482, descriptorIndex := 404, attributes := #[] }, { accessFlags := 25, nameIndex := 484, descriptorIndex := 404, attributes := #[] }, { accessFlags := 25, nameIndex := 485, descriptorIndex := 404, attributes := #[] }, { accessFlags := 25, nameIndex := 486, descriptorIndex := 404, attributes := #[] }, { accessFlags := 25, nameIndex := 487, descriptorIndex := 404, attributes := #[] }, { accessFlags := 25, nameIndex := 488, descriptorIndex := 404, attributes := #[] }, { accessFlags := 25, nameIndex := 489, descriptorIndex := 22, attributes := #[] }, { accessFlags := 25, nameIndex := 490, descriptorIndex := 22, attributes := #[] }, { accessFlags := 25, nameIndex := 492, descriptorIndex := 22, attributes := #[] }, { accessFlags := 25, nameIndex := 493, descriptorIndex := 22, attributes := #[] }, { accessFlags := 25, nameIndex := 495, descriptorIndex := 22, attributes := #[] }, { accessFlags := 25, nameIndex := 496, descriptorIndex := 22, attributes := #[] }, { accessFlags := 25, nameIndex := 497, descriptorIndex := 392, attributes := #[] }, { accessFlags := 25, nameIndex := 498, descriptorIndex := 392, attributes := #[] }, { accessFlags := 25, nameIndex := 499, descriptorIndex := 392, attributes := #[] }, { accessFlags := 18, nameIndex := 21, descriptorIndex := 22, attributes := #[] }, { accessFlags := 26, nameIndex := 501, descriptorIndex := 502, attributes := #[] }, { accessFlags := 25, nameIndex := 505, descriptorIndex := 392, attributes := #[] }, { accessFlags := 25, nameIndex := 506, descriptorIndex := 392, attributes := #[] }, { accessFlags := 4120, nameIndex := 284, descriptorIndex := 285, attributes := #[] }])
  fields := #[{ name := "MIN_RADIX", type := .int, accessFlags := 25, slot := 0, constantValue := 0 }, { name := "MAX_RADIX", type := .int, accessFlags := 25, slot := 1, constantValue := 0 }, { name := "MIN_VALUE", type := .char, accessFlags := 25, slot := 2, constantValue := 0 }, { name := "MAX_VALUE", type := .char, accessFlags := 25, slot := 3, constantValue := 0 }, { name := "TYPE", type := (.object "java/lang/Class"), accessFlags := 25, slot := 4, constantValue := 0 }, { name := "UNASSIGNED", type := .byte, accessFlags := 25, slot := 5, constantValue := 0 }, { name := "UPPERCASE_LETTER", type := .byte, accessFlags := 25, slot := 6, constantValue := 0 }, { name := "LOWERCASE_LETTER", type := .byte, accessFlags := 25, slot := 7, constantValue := 0 }, { name := "TITLECASE_LETTER", type := .byte, accessFlags := 25, slot := 8, constantValue := 0 }, { name := "MODIFIER_LETTER", type := .byte, accessFlags := 25, slot := 9, constantValue := 0 }, { name := "OTHER_LETTER", type := .byte, accessFlags := 25, slot := 10, constantValue := 0 }, { name := "NON_SPACING_MARK", type := .byte, accessFlags := 25, slot := 11, constantValue := 0 }, { name := "ENCLOSING_MARK", type := .byte, accessFlags := 25, slot := 12, constantValue := 0 }, { name := "COMBINING_SPACING_MARK", type := .byte, accessFlags := 25, slot := 13, constantValue := 0 }, { name := "DECIMAL_DIGIT_NUMBER", type := .byte, accessFlags := 25, slot := 14, constantValue := 0 }, { name := "LETTER_NUMBER", type := .byte, accessFlags := 25, slot := 15, constantValue := 0 }, { name := "OTHER_NUMBER", type := .byte, accessFlags := 25, slot := 16, constantValue := 0 }, { name := "SPACE_SEPARATOR", type := .byte, accessFlags := 25, slot := 17, constantValue := 0 }, { name := "LINE_SEPARATOR", type := .byte, accessFlags := 25, slot := 18, constantValue := 0 }, { name := "PARAGRAPH_SEPARATOR", type := .byte, accessFlags := 25, slot := 19, constantValue := 0 }, { name := "CONTROL", type := .byte, accessFlags := 25, slot := 20, constantValue := 0 }, { name := "FORMAT", type := .byte, accessFlags := 25, slot := 21, constantValue := 0 }, { name := "PRIVATE_USE", type := .byte, accessFlags := 25, slot := 22, constantValue := 0 }, { name := "SURROGATE", type := .byte, accessFlags := 25, slot := 23, constantValue := 0 }, { name := "DASH_PUNCTUATION", type := .byte, accessFlags := 25, slot := 24, constantValue := 0 }, { name := "START_PUNCTUATION", type := .byte, accessFlags := 25, slot := 25, constantValue := 0 }, { name := "END_PUNCTUATION", type := .byte, accessFlags := 25, slot := 26, constantValue := 0 }, { name := "CONNECTOR_PUNCTUATION", type := .byte, accessFlags := 25, slot := 27, constantValue := 0 }, { name := "OTHER_PUNCTUATION", type := .byte, accessFlags := 25, slot := 28, constantValue := 0 }, { name := "MATH_SYMBOL", type := .byte, accessFlags := 25, slot := 29, constantValue := 0 }, { name := "CURRENCY_SYMBOL", type := .byte, accessFlags := 25, slot := 30, constantValue := 0 }, { name := "MODIFIER_SYMBOL", type := .byte, accessFlags := 25, slot := 31, constantValue := 0 }, { name := "OTHER_SYMBOL", type := .byte, accessFlags := 25, slot := 32, constantValue := 0 }, { name := "INITIAL_QUOTE_PUNCTUATION", type := .byte, accessFlags := 25, slot := 33, constantValue := 0 }, { name := "FINAL_QUOTE_PUNCTUATION", type := .byte, accessFlags := 25, slot := 34, constantValue := 0 }, { name := "ERROR", type := .int, accessFlags := 24, slot := 35, constantValue := 0 }, { name := "DIRECTIONALITY_UNDEFINED", type := .byte, accessFlags := 25, slot := 36, constantValue := 0 }, { name := "DIRECTIONALITY_LEFT_TO_RIGHT", type := .byte, accessFlags := 25, slot := 37, constantValue := 0 }, { name := "DIRECTIONALITY_RIGHT_TO_LEFT", type := .byte, accessFlags := 25, slot := 38, constantValue := 0 }, { name := "DIRECTIONALITY_RIGHT_TO_LEFT_ARABIC", type := .byte, accessFlags := 25, slot := 39, constantValue := 0 }, { name := "DIRECTIONALITY_EUROPEAN_NUMBER", type := .byte, accessFlags := 25, slot := 40, constantValue := 0 }, { name := "DIRECTIONALITY_EUROPEAN_NUMBER_SEPARATOR", type := .byte, accessFlags := 25, slot := 41, constantValue := 0 }, { name := "DIRECTIONALITY_EUROPEAN_NUMBER_TERMINATOR", type := .byte, accessFlags := 25, slot := 42, constantValue := 0 }, { name := "DIRECTIONALITY_ARABIC_NUMBER", type := .byte, accessFlags := 25, slot := 43, constantValue := 0 }, { name := "DIRECTIONALITY_COMMON_NUMBER_SEPARATOR", type := .byte, accessFlags := 25, slot := 44, constantValue := 0 }, { name := "DIRECTIONALITY_NONSPACING_MARK", type := .byte, accessFlags := 25, slot := 45, constantValue := 0 }, { name := "DIRECTIONALITY_BOUNDARY_NEUTRAL", type := .byte, accessFlags := 25, slot := 46, constantValue := 0 }, { name := "DIRECTIONALITY_PARAGRAPH_SEPARATOR", type := .byte, accessFlags := 25, slot := 47, constantValue := 0 }, { name := "DIRECTIONALITY_SEGMENT_SEPARATOR", type := .byte, accessFlags := 25, slot := 48, constantValue := 0 }, { name := "DIRECTIONALITY_WHITESPACE", type := .byte, accessFlags := 25, slot := 49, constantValue := 0 }, { name := "DIRECTIONALITY_OTHER_NEUTRALS", type := .byte, accessFlags := 25, slot := 50, constantValue := 0 }, { name := "DIRECTIONALITY_LEFT_TO_RIGHT_EMBEDDING", type := .byte, accessFlags := 25, slot := 51, constantValue := 0 }, { name := "DIRECTIONALITY_LEFT_TO_RIGHT_OVERRIDE", type := .byte, accessFlags := 25, slot := 52, constantValue := 0 }, { name := "DIRECTIONALITY_RIGHT_TO_LEFT_EMBEDDING", type := .byte, accessFlags := 25, slot := 53, constantValue := 0 }, { name := "DIRECTIONALITY_RIGHT_TO_LEFT_OVERRIDE", type := .byte, accessFlags := 25, slot := 54, constantValue := 0 }, { name := "DIRECTIONALITY_POP_DIRECTIONAL_FORMAT", type := .byte, accessFlags := 25, slot := 55, constantValue := 0 }, { name := "DIRECTIONALITY_LEFT_TO_RIGHT_ISOLATE", type := .byte, accessFlags := 25, slot := 56, constantValue := 0 }, { name := "DIRECTIONALITY_RIGHT_TO_LEFT_ISOLATE", type := .byte, accessFlags := 25, slot := 57, constantValue := 0 }, { name := "DIRECTIONALITY_FIRST_STRONG_ISOLATE", type := .byte, accessFlags := 25, slot := 58, constantValue := 0 }, { name := "DIRECTIONALITY_POP_DIRECTIONAL_ISOLATE", type := .byte, accessFlags := 25, slot := 59, constantValue := 0 }, { name := "MIN_HIGH_SURROGATE", type := .char, accessFlags := 25, slot := 60, constantValue := 0 }, { name := "MAX_HIGH_SURROGATE", type := .char, accessFlags := 25, slot := 61, constantValue := 0 }, { name := "MIN_LOW_SURROGATE", type := .char, accessFlags := 25, slot := 62, constantValue := 0 }, { name := "MAX_LOW_SURROGATE", type := .char, accessFlags := 25, slot := 63, constantValue := 0 }, { name := "MIN_SURROGATE", type := .char, accessFlags := 25, slot := 64, constantValue := 0 }, { name := "MAX_SURROGATE", type := .char, accessFlags := 25, slot := 65, constantValue := 0 }, { name := "MIN_SUPPLEMENTARY_CODE_POINT", type := .int, accessFlags := 25, slot := 66, constantValue := 0 }, { name := "MIN_CODE_POINT", type := .int, accessFlags := 25, slot := 67, constantValue := 0 }, { name := "MAX_CODE_POINT", type := .int, accessFlags := 25, slot := 68, constantValue := 0 }, { name := "value", type := .char, accessFlags := 18, slot := 0, constantValue := 0 }, { name := "serialVersionUID", type := .long, accessFlags := 26, slot := 69, constantValue := 0 }, { name := "SIZE", type := .int, accessFlags := 25, slot := 70, constantValue := 0 }, { name := "BYTES", type := .int, accessFlags := 25, slot := 71, constantValue := 0 }, { name := "$assertionsDisabled", type := .boolean, accessFlags := 4120, slot := 72, constantValue := 0 }]
  methods := #[k11m0, k11m1, k11m2, k11m3]
  instanceTypes := #[.char]
  staticTypes := #[.int, .int, .char, .char, (.object "java/lang/Class"), .byte, .byte, .byte, .byte, .byte, .byte, .byte, .byte, .byte, .byte, .byte, .byte, .byte, .byte, .byte, .byte, .byte, .byte, .byte, .byte, .byte, .byte, .byte, .byte, .byte, .byte, .byte, .byte, .byte, .byte, .int, .byte, .byte, .byte, .byte, .byte, .byte, .byte, .byte, .byte, .byte, .byte, .byte, .byte, .byte, .byte, .byte, .byte, .byte, .byte, .byte, .byte, .byte, .byte, .byte, .char, .char, .char, .char, .char, .char, .int, .int, .int, .long, .int, .int, .boolean]
  resolved := Array.replicate 604 none
  statics := none }

def pool12 : Array CpInfo := pool [(4, .class_ 6), (1, u "java/lang/Object"), (0, u "<init>"), (0, u "()V"), (5, .class_ 16), (1, u "java/lang/StringLatin1"), (104, u "$assertionsDisabled"), (0, u "Z"), (98, .class_ 223), (1, u "java/lang/StringLatin1$LinesSpliterator"), (166, .class_ 391), (0, u "java/lang/StringLatin1$CharsSpliterator")] 3

def k12m0 : Method := { name := "<init>", desc := "()V", sig := { parameters := [], returnType := none }, accessFlags := 0, code := none }
/-- java/lang/StringLatin1 -/
def k12 : Class := { plain "java/lang/StringLatin1" (some 0) with
  accessFlags := 48
  interfaces := #[]
  cf := some (fileOf pool12 14 #[.nestMembers #[390, 221]] #[{ accessFlags := 0, nameIndex := 7, descriptorIndex := 8, attributes := #[] }] 48 4 #[] #[{ accessFlags := 4120, nameIndex := 121, descriptorIndex := 122, attributes := #[] }])
  fields := #[{ name := "$assertionsDisabled", type := .boolean, accessFlags := 4120, slot := 0, constantValue := 0 }]
  methods := #[k12m0]
  instanceTypes := #[]
  staticTypes := #[.boolean]
  resolved := Array.replicate 395 none
  statics := none }

def pool13 : Array CpInfo := pool [(9, u "<init>"), (6, .class_ 18), (1, u "java/lang/Object"), (0, u "()V"), (1, .class_ 23), (1, u "jdk/internal/util/ArraysSupport"), (0, u "LOG2_ARRAY_LONG_INDEX_SCALE"), (0, u "I"), (2, u "U"), (0, u "Ljdk/internal/misc/Unsafe;"), (8, u "BIG_ENDIAN"), (0, u "Z"), (8, u "LOG2_BYTE_BIT_SIZE"), (4, u "LOG2_ARRAY_INT_INDEX_SCALE"), (54, u "JLA"), (0, u "Ljdk/internal/access/JavaLangAccess;"), (11, u "LOG2_ARRAY_BOOLEAN_INDEX_SCALE"), (9, u "LOG2_ARRAY_BYTE_INDEX_SCALE"), (5, u "LOG2_ARRAY_CHAR_INDEX_SCALE"), (5, u "LOG2_ARRAY_SHORT_INDEX_SCALE"), (18, u "LOG2_ARRAY_FLOAT_INDEX_SCALE"), (24, u "LOG2_ARRAY_DOUBLE_INDEX_SCALE"), (89, u "T_BOOLEAN"), (2, u "T_CHAR"), (1, u "T_FLOAT"), (1, u "T_DOUBLE"), (1, u "T_BYTE"), (1, u "T_SHORT"), (1, u "T_INT"), (1, u "T_LONG"), (1, u "SOFT_MAX_ARRAY_LENGTH")] 83

def k13m0 : Method := { name := "<init>", desc := "()V", sig := { parameters := [], returnType := none }, accessFlags := 2, code := none }
/-- jdk/internal/util/ArraysSupport -/
def k13 : Class := { plain "jdk/internal/util/ArraysSupport" (some 0) with
  accessFlags := 33
  interfaces := #[]
  cf := some (fileOf pool13 21 #[] #[{ accessFlags := 2, nameIndex := 9, descriptorIndex := 19, attributes := #[] }] 33 16 #[] #[{ accessFlags := 24, nameIndex := 28, descriptorIndex := 29, attributes := #[] }, { accessFlags := 26, nameIndex := 38, descriptorIndex := 39, attributes := #[] }, { accessFlags := 25, nameIndex := 121, descriptorIndex := 25, attributes := #[] }, { accessFlags := 25, nameIndex := 131, descriptorIndex := 25, attributes := #[] }, { accessFlags := 25, nameIndex := 137, descriptorIndex := 25, attributes := #[] }, { accessFlags := 25, nameIndex := 143, descriptorIndex := 25, attributes := #[] }, { accessFlags := 25, nameIndex := 53, descriptorIndex := 25, attributes := #[] }, { accessFlags := 25, nameIndex := 24, descriptorIndex := 25, attributes := #[] }, { accessFlags := 25, nameIndex := 162, descriptorIndex := 25, attributes := #[] }, { accessFlags := 25, nameIndex := 187, descriptorIndex := 25, attributes := #[] }, { accessFlags := 26, nameIndex := 48, descriptorIndex := 25, attributes := #[] }, { accessFlags := 25, nameIndex := 277, descriptorIndex := 25, attributes := #[] }, { accessFlags := 25, nameIndex := 280, descriptorIndex := 25, attributes := #[] }, { accessFlags := 25, nameIndex := 282, descriptorIndex := 25, attributes := #[] }, { accessFlags := 25, nameIndex := 284, descriptorIndex := 25, attributes := #[] }, { accessFlags := 25, nameIndex := 286, descriptorIndex := 25, attributes := #[] }, { accessFlags := 25, nameIndex := 288, descriptorIndex := 25, attributes := #[] }, { accessFlags := 25, nameIndex := 290, descriptorIndex := 25, attributes := #[] }, { accessFlags := 25, nameIndex := 292, descriptorIndex := 25, attributes := #[] }, { accessFlags := 26, nameIndex := 108, descriptorIndex := 109, attributes := #[] }, { accessFlags := 25, nameIndex := 294, descriptorIndex := 25, attributes := #[] }])
  fields := #[{ name := "U", type := (.object "jdk/internal/misc/Unsafe"), accessFlags := 24, slot := 0, constantValue := 0 }, { name := "BIG_ENDIAN", type := .boolean, accessFlags := 26, slot := 1, constantValue := 0 }, { name := "LOG2_ARRAY_BOOLEAN_INDEX_SCALE", type := .int, accessFlags := 25, slot := 2, constantValue := 0 }, { name := "LOG2_ARRAY_BYTE_INDEX_SCALE", type := .int, accessFlags := 25, slot := 3, constantValue := 0 }, { name := "LOG2_ARRAY_CHAR_INDEX_SCALE", type := .int, accessFlags := 25, slot := 4, constantValue := 0 }, { name := "LOG2_ARRAY_SHORT_INDEX_SCALE", type := .int, accessFlags := 25, slot := 5, constantValue := 0 }, { name := "LOG2_ARRAY_INT_INDEX_SCALE", type := .int, accessFlags := 25, slot := 6, constantValue := 0 }, { name := "LOG2_ARRAY_LONG_INDEX_SCALE", type := .int, accessFlags := 25, slot := 7, constantValue := 0 }, { name := "LOG2_ARRAY_FLOAT_INDEX_SCALE", type := .int, accessFlags := 25, slot := 8, constantValue := 0 }, { name := "LOG2_ARRAY_DOUBLE_INDEX_SCALE", type := .int, accessFlags := 25, slot := 9, constantValue := 0 }, { name := "LOG2_BYTE_BIT_SIZE", type := .int, accessFlags := 26, slot := 10, constantValue := 0 }, { name := "T_BOOLEAN", type := .int, accessFlags := 25, slot := 11, constantValue := 0 }, { name := "T_CHAR", type := .int, accessFlags := 25, slot := 12, constantValue := 0 }, { name := "T_FLOAT", type := .int, accessFlags := 25, slot := 13, constantValue := 0 }, { name := "T_DOUBLE", type := .int, accessFlags := 25, slot := 14, constantValue := 0 }, { name := "T_BYTE", type := .int, accessFlags := 25, slot := 15, constantValue := 0 }, { name := "T_SHORT", type := .int, accessFlags := 25, slot := 16, constantValue := 0 }, { name := "T_INT", type := .int, accessFlags := 25, slot := 17, constantValue := 0 }, { name := "T_LONG", type := .int, accessFlags := 25, slot := 18, constantValue := 0 }, { name := "JLA", type := (.object "jdk/internal/access/JavaLangAccess"), accessFlags := 26, slot := 19, constantValue := 0 }, { name := "SOFT_MAX_ARRAY_LENGTH", type := .int, accessFlags := 25, slot := 20, constantValue := 0 }]
  methods := #[k13m0]
  instanceTypes := #[]
  staticTypes := #[(.object "jdk/internal/misc/Unsafe"), .boolean, .int, .int, .int, .int, .int, .int, .int, .int, .int, .int, .int, .int, .int, .int, .int, .int, .int, (.object "jdk/internal/access/JavaLangAccess"), .int]
  resolved := Array.replicate 378 none
  statics := none }

def pool14 : Array CpInfo := pool [(1, u "java/lang/Cloneable"), (0, .class_ 1), (0, u "java/lang/Object"), (0, .class_ 3)] 3

/-- java/lang/Cloneable -/
def k14 : Class := { plain "java/lang/Cloneable" (some 0) with
  accessFlags := 1537
  interfaces := #[]
  cf := some (fileOf pool14 2 #[] #[] 1537 4 #[] #[])
  fields := #[]
  methods := #[]
  instanceTypes := #[]
  staticTypes := #[]
  resolved := Array.replicate 8 none
  statics := none }

/-- the primitive byte -/
def k15 : Class := { plain "byte" none with kind := .primitive 'B', accessFlags := 0x411 }
/-- [B -/
def k16 : Class := { plain "[B" (some 0) with kind := .array 15 .byte, interfaces := #[14, 2], accessFlags := 1041 }

/-- the primitive char -/
def k17 : Class := { plain "char" none with kind := .primitive 'C', accessFlags := 0x411 }
/-- [C -/
def k18 : Class := { plain "[C" (some 0) with kind := .array 17 .char, interfaces := #[14, 2], accessFlags := 1041 }

/-- the primitive int -/
def k19 : Class := { plain "int" none with kind := .primitive 'I', accessFlags := 0x411 }
/-- [I -/
def k20 : Class := { plain "[I" (some 0) with kind := .array 19 .int, interfaces := #[14, 2], accessFlags := 1041 }

def heap : Heap := #[{ cls := 7, slots := #[.long 0, .int 1, .null, .int 0, .null, .int 0, .int 0], vm := .statics 7 },
  { cls := 9, slots := #[.int 0, .int 8, .int 0, .int 1], vm := .statics 9 },
  { cls := 10, slots := #[.null, .null, .null], vm := .statics 10 }]
def classes : Array Class := #[k0, k1, k2, k3, k4, k5, k6, k7, k8, k9, k10, k11, k12, k13, k14, k15, k16, k17, k18, k19, k20]
def interned : List (Array UInt16 × Addr) := []
def slotsUsed : Nat := 14
def theMethod : MethodId := ⟨1, 5⟩
def args0 : Array Value := #[.int 4, .int 5, .int 6, .int 7, .int 8]
def aboutOver (below : List Frame) : State where
  vm := { classes := classes, interned := interned.toArray }
  heap := heap
  slotsUsed := slotsUsed
  threads := #[{ frames := .invoking theMethod args0 :: below }]
def below0 : List Frame := [.native { method := ⟨0, 0⟩, args := #[] }]
def about1 : State := aboutOver below0
def p0 : Program := .bare "" "" ""
def e0 : Env := launch0.env 0 0 0
theorem w_frames : about1.frames = Frame.invoking theMethod args0 :: below0 := rfl
set_option maxRecDepth 65536 in
theorem w_args : argsFit about1.vm theMethod args0 = true := by decide +kernel
set_option maxRecDepth 65536 in
theorem w_heap : heapFits about1 = true := by decide +kernel
set_option maxRecDepth 65536 in
theorem w_runnable : about1.curStatus? = some .runnable := by decide +kernel
set_option maxRecDepth 65536 in
theorem w_alone : about1.alone = true := by decide +kernel
set_option maxRecDepth 65536 in
theorem w_named : about1.methodNamed? x = some theMethod := by decide +kernel
set_option maxRecDepth 65536 in
theorem w_hears : about1.hears theMethod below0 = true := by decide +kernel
set_option maxRecDepth 65536 in
theorem w_ripe : about1.ripe theMethod args0 below0 = true := by decide +kernel
theorem w_running : about1.status = .running := rfl
set_option maxRecDepth 65536 in
theorem w_room : about1.hasRoom e0.platform room_1 = true :=
  launch0.hasRoom_least _ room_1 (by decide +kernel) (by decide +kernel) (by decide +kernel) (by decide +kernel) (by decide +kernel) (by decide +kernel)
theorem allAtoms_all (ts : List Jvm.Cond) (a : Array Jvm.Value) (st : Jvm.State) : (allAtoms ts).before a st = ts.all (fun c => c.before a st) := by
  induction ts with
  | nil => rfl
  | cons c t ih =>
    show (Jvm.Cond.and c (allAtoms t)).before a st = _
    rw [Jvm.Cond.before_and, ih, List.all_cons]
def words1 : List Jvm.Cond := Jvm.Cond.code x code maxLocals ret :: tables_1
/-- a 'code' word, met by the world's own term for the bytes: nothing is compared byte by byte -/
theorem code_word {y : MethodName} {bytes : ByteArray} {mx : Nat} {rt : Option FieldType} {a : Array Value} {s : State} {m : MethodId} {meth : Method} {c : Code} (h1 : s.methodNamed? y = some m) (h2 : s.vm.method? m = some meth) (h3 : meth.code = some c) (h4 : c.code = bytes)
    (h5 : (c.maxLocals == mx && c.exceptionTable.isEmpty && decide (c.maxStack ≤ mostOperands) && decide (meth.sig.returnType = rt) && !meth.locks && decide (parseMethodDescriptor y.desc = some meth.sig)) = true) : (Jvm.Cond.code y bytes mx rt).before a s = true := by
  simp only [Bool.and_eq_true, beq_iff_eq, Bool.not_eq_true', decide_eq_true_eq] at h5
  obtain ⟨⟨⟨⟨⟨g1, g2⟩, g3⟩, g4⟩, g5⟩, g6⟩ := h5
  simp [Cond.before, Cond.holds, Cond.value, h1, h2, h3, h4, g1, g2, g3, g4, g5, g6]
def isCode : Jvm.Cond → Bool
  | .code _ _ _ _ => true
  | _ => false
theorem all_split {L : List Jvm.Cond} {P : Jvm.Cond → Bool} (h1 : L.all (fun c => isCode c || P c) = true) (h2 : ∀ c ∈ L.filter isCode, P c = true) : L.all P = true := by
  refine List.all_eq_true.mpr fun c hc => ?_
  have h := List.all_eq_true.mp h1 c hc
  rcases Bool.eq_false_or_eq_true (isCode c) with hi | hi
  · exact h2 c (List.mem_filter.mpr ⟨hc, hi⟩)
  · simpa [hi] using h
set_option maxRecDepth 65536 in
theorem w_c0 : (Jvm.Cond.code x code maxLocals ret).before args0 about1 = true := code_word (m := ⟨1, 5⟩) (meth := k1m5) (c := k1c5) (by decide +kernel) rfl rfl rfl (by decide +kernel)
set_option maxRecDepth 65536 in
theorem w_c1 : (Jvm.Cond.code ({ cls := "com/example/tandemtrie/tandemtrie/io/KeyFileCanHoldPinLaw", name := "draw", desc := "(I)C" } : Jvm.MethodName) method_2_code (3 : Nat) (Option.some Jvm.ClassFile.FieldType.char)).before args0 about1 = true := code_word (m := ⟨1, 1⟩) (meth := k1m1) (c := k1c1) (by decide +kernel) rfl rfl rfl (by decide +kernel)
set_option maxRecDepth 65536 in
theorem w_c2 : (Jvm.Cond.code ({ cls := "java/lang/String", name := "<init>", desc := "([C)V" } : Jvm.MethodName) jdk_42_method_3_code (2 : Nat) (Option.none : Option Jvm.ClassFile.FieldType)).before args0 about1 = true := code_word (m := ⟨7, 1⟩) (meth := k7m1) (c := k7c1) (by decide +kernel) rfl rfl rfl (by decide +kernel)
set_option maxRecDepth 65536 in
theorem w_c3 : (Jvm.Cond.code ({ cls := "java/lang/String", name := "<init>", desc := "([CIILjava/lang/Void;)V" } : Jvm.MethodName) jdk_42_method_149_code (6 : Nat) (Option.none : Option Jvm.ClassFile.FieldType)).before args0 about1 = true := code_word (m := ⟨7, 4⟩) (meth := k7m4) (c := k7c4) (by decide +kernel) rfl rfl rfl (by decide +kernel)
set_option maxRecDepth 65536 in
theorem w_c4 : (Jvm.Cond.code ({ cls := "java/lang/Object", name := "<init>", desc := "()V" } : Jvm.MethodName) object_method_1_code (1 : Nat) (Option.none : Option Jvm.ClassFile.FieldType)).before args0 about1 = true := code_word (m := ⟨0, 0⟩) (meth := k0m0) (c := k0c0) (by decide +kernel) rfl rfl rfl (by decide +kernel)
set_option maxRecDepth 65536 in
theorem w_c5 : (Jvm.Cond.code ({ cls := "com/example/tandemtrie/tandemtrie/io/KeyFileCanHoldPinLaw", name := "good", desc := "(CCC)Z" } : Jvm.MethodName) method_5_code (3 : Nat) (Option.some Jvm.ClassFile.FieldType.boolean)).before args0 about1 = true := code_word (m := ⟨1, 4⟩) (meth := k1m4) (c := k1c4) (by decide +kernel) rfl rfl rfl (by decide +kernel)
set_option maxRecDepth 65536 in
theorem w_c6 : (Jvm.Cond.code ({ cls := "com/example/tandemtrie/tandemtrie/io/KeyFileCanHoldPinLaw", name := "isHigh", desc := "(C)Z" } : Jvm.MethodName) method_3_code (1 : Nat) (Option.some Jvm.ClassFile.FieldType.boolean)).before args0 about1 = true := code_word (m := ⟨1, 2⟩) (meth := k1m2) (c := k1c2) (by decide +kernel) rfl rfl rfl (by decide +kernel)
set_option maxRecDepth 65536 in
theorem w_c7 : (Jvm.Cond.code ({ cls := "com/example/tandemtrie/tandemtrie/io/KeyFileCanHoldPinLaw", name := "isLow", desc := "(C)Z" } : Jvm.MethodName) method_4_code (1 : Nat) (Option.some Jvm.ClassFile.FieldType.boolean)).before args0 about1 = true := code_word (m := ⟨1, 3⟩) (meth := k1m3) (c := k1c3) (by decide +kernel) rfl rfl rfl (by decide +kernel)
set_option maxRecDepth 65536 in
theorem w_c8 : (Jvm.Cond.code ({ cls := "com/example/tandemtrie/tandemtrie/io/KeyFile", name := "canHold", desc := "(Ljava/lang/String;)Z" } : Jvm.MethodName) prog_20_method_4_code (3 : Nat) (Option.some Jvm.ClassFile.FieldType.boolean)).before args0 about1 = true := code_word (m := ⟨8, 1⟩) (meth := k8m1) (c := k8c1) (by decide +kernel) rfl rfl rfl (by decide +kernel)
set_option maxRecDepth 65536 in
theorem w_c9 : (Jvm.Cond.code ({ cls := "java/lang/String", name := "length", desc := "()I" } : Jvm.MethodName) jdk_42_method_54_code (1 : Nat) (Option.some Jvm.ClassFile.FieldType.int)).before args0 about1 = true := code_word (m := ⟨7, 2⟩) (meth := k7m2) (c := k7c2) (by decide +kernel) rfl rfl rfl (by decide +kernel)
set_option maxRecDepth 65536 in
theorem w_c10 : (Jvm.Cond.code ({ cls := "java/lang/String", name := "coder", desc := "()B" } : Jvm.MethodName) jdk_42_method_152_code (1 : Nat) (Option.some Jvm.ClassFile.FieldType.byte)).before args0 about1 = true := code_word (m := ⟨7, 5⟩) (meth := k7m5) (c := k7c5) (by decide +kernel) rfl rfl rfl (by decide +kernel)
set_option maxRecDepth 65536 in
theorem w_c11 : (Jvm.Cond.code ({ cls := "java/lang/StringUTF16", name := "compress", desc := "([CII)[B" } : Jvm.MethodName) jdk_52_method_16_code (6 : Nat) (Option.some (Jvm.ClassFile.FieldType.array Jvm.ClassFile.FieldType.byte))).before args0 about1 = true := code_word (m := ⟨9, 9⟩) (meth := k9m9) (c := k9c9) (by decide +kernel) rfl rfl rfl (by decide +kernel)
set_option maxRecDepth 65536 in
theorem w_c12 : (Jvm.Cond.code ({ cls := "java/lang/StringUTF16", name := "compress", desc := "([CI[BII)I" } : Jvm.MethodName) jdk_52_method_21_code (7 : Nat) (Option.some Jvm.ClassFile.FieldType.int)).before args0 about1 = true := code_word (m := ⟨9, 10⟩) (meth := k9m10) (c := k9c10) (by decide +kernel) rfl rfl rfl (by decide +kernel)
set_option maxRecDepth 65536 in
theorem w_c13 : (Jvm.Cond.code ({ cls := "java/lang/StringUTF16", name := "toBytes", desc := "([CII)[B" } : Jvm.MethodName) jdk_52_method_14_code (5 : Nat) (Option.some (Jvm.ClassFile.FieldType.array Jvm.ClassFile.FieldType.byte))).before args0 about1 = true := code_word (m := ⟨9, 7⟩) (meth := k9m7) (c := k9c7) (by decide +kernel) rfl rfl rfl (by decide +kernel)
set_option maxRecDepth 65536 in
theorem w_c14 : (Jvm.Cond.code ({ cls := "java/lang/StringUTF16", name := "newBytesFor", desc := "(I)[B" } : Jvm.MethodName) jdk_52_method_2_code (1 : Nat) (Option.some (Jvm.ClassFile.FieldType.array Jvm.ClassFile.FieldType.byte))).before args0 about1 = true := code_word (m := ⟨9, 1⟩) (meth := k9m1) (c := k9c1) (by decide +kernel) rfl rfl rfl (by decide +kernel)
set_option maxRecDepth 65536 in
theorem w_c15 : (Jvm.Cond.code ({ cls := "java/lang/StringUTF16", name := "newBytesLength", desc := "(I)I" } : Jvm.MethodName) jdk_52_method_3_code (1 : Nat) (Option.some Jvm.ClassFile.FieldType.int)).before args0 about1 = true := code_word (m := ⟨9, 2⟩) (meth := k9m2) (c := k9c2) (by decide +kernel) rfl rfl rfl (by decide +kernel)
set_option maxRecDepth 65536 in
theorem w_c16 : (Jvm.Cond.code ({ cls := "java/lang/StringUTF16", name := "putChar", desc := "([BII)V" } : Jvm.MethodName) jdk_52_method_4_code (3 : Nat) (Option.none : Option Jvm.ClassFile.FieldType)).before args0 about1 = true := code_word (m := ⟨9, 3⟩) (meth := k9m3) (c := k9c3) (by decide +kernel) rfl rfl rfl (by decide +kernel)
set_option maxRecDepth 65536 in
theorem w_c17 : (Jvm.Cond.code ({ cls := "java/lang/StringUTF16", name := "getChar", desc := "([BI)C" } : Jvm.MethodName) jdk_52_method_5_code (2 : Nat) (Option.some Jvm.ClassFile.FieldType.char)).before args0 about1 = true := code_word (m := ⟨9, 4⟩) (meth := k9m4) (c := k9c4) (by decide +kernel) rfl rfl rfl (by decide +kernel)
set_option maxRecDepth 65536 in
theorem w_c18 : (Jvm.Cond.code ({ cls := "java/lang/StringUTF16", name := "coderFromArrayLen", desc := "([BI)B" } : Jvm.MethodName) jdk_52_method_15_code (2 : Nat) (Option.some Jvm.ClassFile.FieldType.byte)).before args0 about1 = true := code_word (m := ⟨9, 8⟩) (meth := k9m8) (c := k9c8) (by decide +kernel) rfl rfl rfl (by decide +kernel)
set_option maxRecDepth 65536 in
theorem w_c19 : (Jvm.Cond.code ({ cls := "java/lang/String", name := "codePointAt", desc := "(I)I" } : Jvm.MethodName) jdk_42_method_57_code (3 : Nat) (Option.some Jvm.ClassFile.FieldType.int)).before args0 about1 = true := code_word (m := ⟨7, 3⟩) (meth := k7m3) (c := k7c3) (by decide +kernel) rfl rfl rfl (by decide +kernel)
set_option maxRecDepth 65536 in
theorem w_c20 : (Jvm.Cond.code ({ cls := "java/lang/String", name := "isLatin1", desc := "()Z" } : Jvm.MethodName) jdk_42_method_154_code (1 : Nat) (Option.some Jvm.ClassFile.FieldType.boolean)).before args0 about1 = true := code_word (m := ⟨7, 6⟩) (meth := k7m6) (c := k7c6) (by decide +kernel) rfl rfl rfl (by decide +kernel)
set_option maxRecDepth 65536 in
theorem w_c21 : (Jvm.Cond.code ({ cls := "java/lang/String", name := "checkIndex", desc := "(II)V" } : Jvm.MethodName) jdk_42_method_155_code (2 : Nat) (Option.none : Option Jvm.ClassFile.FieldType)).before args0 about1 = true := code_word (m := ⟨7, 7⟩) (meth := k7m7) (c := k7c7) (by decide +kernel) rfl rfl rfl (by decide +kernel)
set_option maxRecDepth 65536 in
theorem w_c22 : (Jvm.Cond.code ({ cls := "jdk/internal/util/Preconditions", name := "checkIndex", desc := "(IILjava/util/function/BiFunction;)I" } : Jvm.MethodName) jdk_41_method_11_code (3 : Nat) (Option.some Jvm.ClassFile.FieldType.int)).before args0 about1 = true := code_word (m := ⟨10, 1⟩) (meth := k10m1) (c := k10c1) (by decide +kernel) rfl rfl rfl (by decide +kernel)
set_option maxRecDepth 65536 in
theorem w_c23 : (Jvm.Cond.code ({ cls := "java/lang/StringUTF16", name := "codePointAt", desc := "([BII)I" } : Jvm.MethodName) jdk_52_method_8_code (3 : Nat) (Option.some Jvm.ClassFile.FieldType.int)).before args0 about1 = true := code_word (m := ⟨9, 6⟩) (meth := k9m6) (c := k9c6) (by decide +kernel) rfl rfl rfl (by decide +kernel)
set_option maxRecDepth 65536 in
theorem w_c24 : (Jvm.Cond.code ({ cls := "java/lang/StringUTF16", name := "codePointAt", desc := "([BIIZ)I" } : Jvm.MethodName) jdk_52_method_7_code (6 : Nat) (Option.some Jvm.ClassFile.FieldType.int)).before args0 about1 = true := code_word (m := ⟨9, 5⟩) (meth := k9m5) (c := k9c5) (by decide +kernel) rfl rfl rfl (by decide +kernel)
set_option maxRecDepth 65536 in
theorem w_c25 : (Jvm.Cond.code ({ cls := "java/lang/Character", name := "isHighSurrogate", desc := "(C)Z" } : Jvm.MethodName) jdk_89_method_14_code (1 : Nat) (Option.some Jvm.ClassFile.FieldType.boolean)).before args0 about1 = true := code_word (m := ⟨11, 0⟩) (meth := k11m0) (c := k11c0) (by decide +kernel) rfl rfl rfl (by decide +kernel)
set_option maxRecDepth 65536 in
theorem w_c26 : (Jvm.Cond.code ({ cls := "java/lang/Character", name := "charCount", desc := "(I)I" } : Jvm.MethodName) jdk_89_method_18_code (1 : Nat) (Option.some Jvm.ClassFile.FieldType.int)).before args0 about1 = true := code_word (m := ⟨11, 2⟩) (meth := k11m2) (c := k11c2) (by decide +kernel) rfl rfl rfl (by decide +kernel)
set_option maxRecDepth 65536 in
theorem w_c27 : (Jvm.Cond.code ({ cls := "java/lang/Character", name := "isLowSurrogate", desc := "(C)Z" } : Jvm.MethodName) jdk_89_method_15_code (1 : Nat) (Option.some Jvm.ClassFile.FieldType.boolean)).before args0 about1 = true := code_word (m := ⟨11, 1⟩) (meth := k11m1) (c := k11c1) (by decide +kernel) rfl rfl rfl (by decide +kernel)
set_option maxRecDepth 65536 in
theorem w_c28 : (Jvm.Cond.code ({ cls := "java/lang/Character", name := "toCodePoint", desc := "(CC)I" } : Jvm.MethodName) jdk_89_method_19_code (2 : Nat) (Option.some Jvm.ClassFile.FieldType.int)).before args0 about1 = true := code_word (m := ⟨11, 3⟩) (meth := k11m3) (c := k11c3) (by decide +kernel) rfl rfl rfl (by decide +kernel)
def codes1 : List Jvm.Cond := [Jvm.Cond.code x code maxLocals ret, Jvm.Cond.code ({ cls := "com/example/tandemtrie/tandemtrie/io/KeyFileCanHoldPinLaw", name := "draw", desc := "(I)C" } : Jvm.MethodName) method_2_code (3 : Nat) (Option.some Jvm.ClassFile.FieldType.char), Jvm.Cond.code ({ cls := "java/lang/String", name := "<init>", desc := "([C)V" } : Jvm.MethodName) jdk_42_method_3_code (2 : Nat) (Option.none : Option Jvm.ClassFile.FieldType), Jvm.Cond.code ({ cls := "java/lang/String", name := "<init>", desc := "([CIILjava/lang/Void;)V" } : Jvm.MethodName) jdk_42_method_149_code (6 : Nat) (Option.none : Option Jvm.ClassFile.FieldType), Jvm.Cond.code ({ cls := "java/lang/Object", name := "<init>", desc := "()V" } : Jvm.MethodName) object_method_1_code (1 : Nat) (Option.none : Option Jvm.ClassFile.FieldType), Jvm.Cond.code ({ cls := "com/example/tandemtrie/tandemtrie/io/KeyFileCanHoldPinLaw", name := "good", desc := "(CCC)Z" } : Jvm.MethodName) method_5_code (3 : Nat) (Option.some Jvm.ClassFile.FieldType.boolean), Jvm.Cond.code ({ cls := "com/example/tandemtrie/tandemtrie/io/KeyFileCanHoldPinLaw", name := "isHigh", desc := "(C)Z" } : Jvm.MethodName) method_3_code (1 : Nat) (Option.some Jvm.ClassFile.FieldType.boolean), Jvm.Cond.code ({ cls := "com/example/tandemtrie/tandemtrie/io/KeyFileCanHoldPinLaw", name := "isLow", desc := "(C)Z" } : Jvm.MethodName) method_4_code (1 : Nat) (Option.some Jvm.ClassFile.FieldType.boolean), Jvm.Cond.code ({ cls := "com/example/tandemtrie/tandemtrie/io/KeyFile", name := "canHold", desc := "(Ljava/lang/String;)Z" } : Jvm.MethodName) prog_20_method_4_code (3 : Nat) (Option.some Jvm.ClassFile.FieldType.boolean), Jvm.Cond.code ({ cls := "java/lang/String", name := "length", desc := "()I" } : Jvm.MethodName) jdk_42_method_54_code (1 : Nat) (Option.some Jvm.ClassFile.FieldType.int), Jvm.Cond.code ({ cls := "java/lang/String", name := "coder", desc := "()B" } : Jvm.MethodName) jdk_42_method_152_code (1 : Nat) (Option.some Jvm.ClassFile.FieldType.byte), Jvm.Cond.code ({ cls := "java/lang/StringUTF16", name := "compress", desc := "([CII)[B" } : Jvm.MethodName) jdk_52_method_16_code (6 : Nat) (Option.some (Jvm.ClassFile.FieldType.array Jvm.ClassFile.FieldType.byte)), Jvm.Cond.code ({ cls := "java/lang/StringUTF16", name := "compress", desc := "([CI[BII)I" } : Jvm.MethodName) jdk_52_method_21_code (7 : Nat) (Option.some Jvm.ClassFile.FieldType.int), Jvm.Cond.code ({ cls := "java/lang/StringUTF16", name := "toBytes", desc := "([CII)[B" } : Jvm.MethodName) jdk_52_method_14_code (5 : Nat) (Option.some (Jvm.ClassFile.FieldType.array Jvm.ClassFile.FieldType.byte)), Jvm.Cond.code ({ cls := "java/lang/StringUTF16", name := "newBytesFor", desc := "(I)[B" } : Jvm.MethodName) jdk_52_method_2_code (1 : Nat) (Option.some (Jvm.ClassFile.FieldType.array Jvm.ClassFile.FieldType.byte)), Jvm.Cond.code ({ cls := "java/lang/StringUTF16", name := "newBytesLength", desc := "(I)I" } : Jvm.MethodName) jdk_52_method_3_code (1 : Nat) (Option.some Jvm.ClassFile.FieldType.int), Jvm.Cond.code ({ cls := "java/lang/StringUTF16", name := "putChar", desc := "([BII)V" } : Jvm.MethodName) jdk_52_method_4_code (3 : Nat) (Option.none : Option Jvm.ClassFile.FieldType), Jvm.Cond.code ({ cls := "java/lang/StringUTF16", name := "getChar", desc := "([BI)C" } : Jvm.MethodName) jdk_52_method_5_code (2 : Nat) (Option.some Jvm.ClassFile.FieldType.char), Jvm.Cond.code ({ cls := "java/lang/StringUTF16", name := "coderFromArrayLen", desc := "([BI)B" } : Jvm.MethodName) jdk_52_method_15_code (2 : Nat) (Option.some Jvm.ClassFile.FieldType.byte), Jvm.Cond.code ({ cls := "java/lang/String", name := "codePointAt", desc := "(I)I" } : Jvm.MethodName) jdk_42_method_57_code (3 : Nat) (Option.some Jvm.ClassFile.FieldType.int), Jvm.Cond.code ({ cls := "java/lang/String", name := "isLatin1", desc := "()Z" } : Jvm.MethodName) jdk_42_method_154_code (1 : Nat) (Option.some Jvm.ClassFile.FieldType.boolean), Jvm.Cond.code ({ cls := "java/lang/String", name := "checkIndex", desc := "(II)V" } : Jvm.MethodName) jdk_42_method_155_code (2 : Nat) (Option.none : Option Jvm.ClassFile.FieldType), Jvm.Cond.code ({ cls := "jdk/internal/util/Preconditions", name := "checkIndex", desc := "(IILjava/util/function/BiFunction;)I" } : Jvm.MethodName) jdk_41_method_11_code (3 : Nat) (Option.some Jvm.ClassFile.FieldType.int), Jvm.Cond.code ({ cls := "java/lang/StringUTF16", name := "codePointAt", desc := "([BII)I" } : Jvm.MethodName) jdk_52_method_8_code (3 : Nat) (Option.some Jvm.ClassFile.FieldType.int), Jvm.Cond.code ({ cls := "java/lang/StringUTF16", name := "codePointAt", desc := "([BIIZ)I" } : Jvm.MethodName) jdk_52_method_7_code (6 : Nat) (Option.some Jvm.ClassFile.FieldType.int), Jvm.Cond.code ({ cls := "java/lang/Character", name := "isHighSurrogate", desc := "(C)Z" } : Jvm.MethodName) jdk_89_method_14_code (1 : Nat) (Option.some Jvm.ClassFile.FieldType.boolean), Jvm.Cond.code ({ cls := "java/lang/Character", name := "charCount", desc := "(I)I" } : Jvm.MethodName) jdk_89_method_18_code (1 : Nat) (Option.some Jvm.ClassFile.FieldType.int), Jvm.Cond.code ({ cls := "java/lang/Character", name := "isLowSurrogate", desc := "(C)Z" } : Jvm.MethodName) jdk_89_method_15_code (1 : Nat) (Option.some Jvm.ClassFile.FieldType.boolean), Jvm.Cond.code ({ cls := "java/lang/Character", name := "toCodePoint", desc := "(CC)I" } : Jvm.MethodName) jdk_89_method_19_code (2 : Nat) (Option.some Jvm.ClassFile.FieldType.int)]
set_option maxRecDepth 65536 in
theorem codes_eq : words1.filter isCode = codes1 := rfl
theorem w_codes : ∀ c ∈ words1.filter isCode, c.before args0 about1 = true := by
  rw [codes_eq]
  intro c hc
  simp only [codes1, List.mem_cons, List.not_mem_nil, or_false] at hc
  rcases hc with rfl | rfl | rfl | rfl | rfl | rfl | rfl | rfl | rfl | rfl | rfl | rfl | rfl | rfl | rfl | rfl | rfl | rfl | rfl | rfl | rfl | rfl | rfl | rfl | rfl | rfl | rfl | rfl | rfl
  · exact w_c0
  · exact w_c1
  · exact w_c2
  · exact w_c3
  · exact w_c4
  · exact w_c5
  · exact w_c6
  · exact w_c7
  · exact w_c8
  · exact w_c9
  · exact w_c10
  · exact w_c11
  · exact w_c12
  · exact w_c13
  · exact w_c14
  · exact w_c15
  · exact w_c16
  · exact w_c17
  · exact w_c18
  · exact w_c19
  · exact w_c20
  · exact w_c21
  · exact w_c22
  · exact w_c23
  · exact w_c24
  · exact w_c25
  · exact w_c26
  · exact w_c27
  · exact w_c28
set_option maxRecDepth 65536 in
theorem w_t1 : (words1.take 24).all (fun c => isCode c || c.before args0 about1) = true := by decide +kernel
set_option maxRecDepth 65536 in
theorem w_t2 : ((words1.drop 24).take 24).all (fun c => isCode c || c.before args0 about1) = true := by decide +kernel
set_option maxRecDepth 65536 in
theorem w_t3 : (((words1.drop 24).drop 24).take 24).all (fun c => isCode c || c.before args0 about1) = true := by decide +kernel
set_option maxRecDepth 65536 in
theorem w_t4 : ((((words1.drop 24).drop 24).drop 24).take 24).all (fun c => isCode c || c.before args0 about1) = true := by decide +kernel
set_option maxRecDepth 65536 in
theorem w_t5 : (((((words1.drop 24).drop 24).drop 24).drop 24).take 24).all (fun c => isCode c || c.before args0 about1) = true := by decide +kernel
set_option maxRecDepth 65536 in
theorem w_t6 : (((((words1.drop 24).drop 24).drop 24).drop 24).drop 24).all (fun c => isCode c || c.before args0 about1) = true := by decide +kernel
theorem w_tables : (allAtoms (Jvm.Cond.code x code maxLocals ret :: tables_1)).before args0 about1 = true := by
  rw [allAtoms_all]
  show words1.all (fun c => c.before args0 about1) = true
  refine all_split ?_ w_codes
  rw [← List.take_append_drop 24 words1, List.all_append, w_t1, ← List.take_append_drop 24 (words1.drop 24), List.all_append, w_t2, ← List.take_append_drop 24 ((words1.drop 24).drop 24), List.all_append, w_t3, ← List.take_append_drop 24 (((words1.drop 24).drop 24).drop 24), List.all_append, w_t4, ← List.take_append_drop 24 ((((words1.drop 24).drop 24).drop 24).drop 24), List.all_append, w_t5, w_t6]
  rfl
set_option maxRecDepth 65536 in
theorem w_rest : rest_1_c.before args0 about1 = true := by decide +kernel
set_option maxRecDepth 65536 in
theorem w_case : (Jvm.Cond.and given_1 narrow_1).before args0 about1 = true := by decide +kernel
set_option maxRecDepth 65536 in
theorem w_consts : constsHeld consts_1 about1 := Jvm.Lit.constsHeldB_iff.mp (by decide +kernel)
theorem w_applies : (headSpec (Jvm.Cond.code x code maxLocals ret :: tables_1) room_1).applies x e0.platform about1 = true :=
  (Spec.applies_iff w_frames).mpr ⟨w_running, w_runnable, w_alone, w_named, w_hears, w_ripe, w_room, w_tables⟩
theorem atStart : AtStart classFile x code maxLocals ret World_1 tables_1 room_1 Calls_1 rest_1 Pre_1 launch0 p0 e0 about1 theMethod args0 below0 :=
  ⟨lists_1, trivial, launch0.admits_env _ _ _, launch0.least_env, fairChoices_fair.cas, fairChoices_fair.clock, w_frames, w_args, w_heap, w_applies, ⟨w_consts, trivial⟩, w_rest, w_case⟩
end start1
theorem witness_1 : WitnessClaimed_1 := ⟨start1.p0, start1.e0, start1.about1, start1.theMethod, start1.args0, start1.below0, start1.atStart⟩
end Jvm.Pilot.@@N@@
