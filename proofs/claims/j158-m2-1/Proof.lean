import JvmDerived
import JvmDerived.Pilot.@@N@@Statement
import JvmDerived.Pilot.@@N@@Code
set_option linter.unusedVariables false
set_option linter.unusedSimpArgs false
namespace Jvm.Pilot.@@N@@
open Jvm Jvm.ClassFile Sem Op Lib Jvm.Free Jvm.Stand Jvm.LawKit Jvm.RoadKit Bundle Jvm.Pilot.@@N@@.Jvm.D
/-- from A the run comes to its end, as the contract wants it -/
def Goes (p : Program) (e : Env) (below : List Frame) (En : Outcome → State → List Loc → Prop) (Q : Option Value → Heap → List Loc → Prop) (A : State) : Prop :=
  ∃ s₂ o, Steps p.tables e below A s₂ ∧ s₂.status = .running ∧ Ended s₂ below o ∧ ∃ v L, o = .returned v ∧ Q v s₂.heap L ∧ En o s₂ L
abbrev Met (l : Launch) (Z : State) (y : MethodName) (bytes : ByteArray) (maxL : Nat) (ret : Option FieldType) (rm : Room) (ws : List Jvm.Cond) (as : Array Value) (h0 : Heap) (Q : Option Value → Heap → List Loc → Prop) : Prop :=
  MetFree l y (head1 (Jvm.Cond.code y bytes maxL ret :: ws) rm) (fun aa U => aa = as ∧ Z.Warmed39 U.vm ∧ U.heap = h0) (fun _ _ _ _ _ => True) (fun _ U o U' => ∃ v L, o = .returned v ∧ Q v U'.heap L ∧ FrameEnd U o U' L rm.cells rm.slots)
abbrev MetW (l : Launch) (Z : State) (y : MethodName) (bytes : ByteArray) (maxL : Nat) (ret : Option FieldType) (rm : Room) (ws : List Jvm.Cond) (as : Array Value) (h0 : Heap) (Q : Option Value → Heap → List Loc → Prop) : Prop :=
  MetFree l y (head1 (Jvm.Cond.code y bytes maxL ret :: ws) rm) (fun aa U => aa = as ∧ Z.Warmed39 U.vm ∧ U.heap = h0) (fun _ _ _ _ _ => True) (fun _ U o U' => ∃ v L, o = .returned v ∧ Q v U'.heap L ∧ ReturnedEndW U o U' L rm.cells rm.slots)
section OwnSteps
variable {p : Program} {l : Launch} {e : Env} {R : Room} {s : State} {m : MethodId} {args : Array Value} {below : List Frame} {meth : Method} {c : Code} {T : State} {locs : List Loc} {cells slots : Nat}
theorem Goes.step {En : Outcome → State → List Loc → Prop} {Q : Option Value → Heap → List Loc → Prop} {A B : State} (st : ∀ t, Steps p.tables e below A t → Steps p.tables e below B t) (h : Goes p e below En Q A) : Goes p e below En Q B :=
  let ⟨s₂, o, h1, r⟩ := h; ⟨s₂, o, st _ h1, r⟩
theorem Goes.ret (X : Stand p l e R s m args below meth c T locs cells slots) {rc rs : Nat} {Q : Option Value → Heap → List Loc → Prop} {B : State} (v : Option Value) (hv : meth.sig.returnType = none → v = none) (hlk : meth.locks = false) (hc : cells ≤ rc) (hs : slots ≤ rs) (q : Q v T.heap locs)
    (k : ∀ fs, (∀ (f : JFrame) (acts : List Action), f.method = m → f.locked = none → f.entered = [] → (doReturn e (T.setTop f) acts v).1 = T.setFrames fs) → Steps p.tables e below B (T.setFrames fs)) : Goes p e below (fun o u L => FrameEnd s o u L rc rs) Q B := by
  obtain ⟨fs, hr, hrun, hended, hW, hsame⟩ := X.leave (v := v) hv hlk
  exact ⟨_, _, k fs hr, hrun, hended, _, _, rfl, q, ⟨_, rfl⟩, hW, hsame.mono hc hs⟩
theorem Goes.retW {vm₁ : Vm} (X : Stand p l e R (s.setVm vm₁) m args below meth c T locs cells slots) {n : Nat} (hS : s.Since vm₁ n) (hn : n ≤ T.heap.size) {rc rs : Nat} {Q : Option Value → Heap → List Loc → Prop} {B : State} (v : Option Value) (hv : meth.sig.returnType = none → v = none) (hlk : meth.locks = false) (hc : cells ≤ rc) (hs : slots ≤ rs) (q : Q v T.heap locs)
    (k : ∀ fs, (∀ (f : JFrame) (acts : List Action), f.method = m → f.locked = none → f.entered = [] → (doReturn e (T.setTop f) acts v).1 = T.setFrames fs) → Steps p.tables e below B (T.setFrames fs)) : Goes p e below (fun o u L => ReturnedEndW s o u L rc rs) Q B := by
  obtain ⟨fs, hr, hrun, hended, h1, h2, h3, h4⟩ := X.leaveW hS hn (v := v) hv hlk
  exact ⟨_, _, k fs hr, hrun, hended, _, _, rfl, q, h1, h2, h3, h4.mono hc hs⟩
theorem own_retN (X : Stand p l e R s m args below meth c T locs cells slots) (hx : p.tables.exec = Jvm.exec) {pc : Nat} {Ls : Array Slot} {z : Int32} {t : FieldType} {rest : List Value} (hret : meth.sig.returnType = some t) (ht : t = .boolean ∨ t = .byte ∨ t = .char ∨ t = .short) (hn : nar t z = z) (hd : decode c.code pc = .ok (.ireturn, 1)) {fs : List Frame}
    (hl : ∀ (f : JFrame) (acts : List Action), f.method = m → f.locked = none → f.entered = [] → (doReturn e (T.setTop f) acts (some (.int z))).1 = T.setFrames fs) : Steps p.tables e below (T.setTop (mkF m pc Ls (.int z :: rest))) (T.setFrames fs) :=
  retN X hx hret ht hd (by rw [hn]; exact hl)
theorem own_retA (X : Stand p l e R s m args below meth c T locs cells slots) (hx : p.tables.exec = Jvm.exec) {pc : Nat} {Ls : Array Slot} {z : Value} {t : FieldType} {rest : List Value} (hret : meth.sig.returnType = some t) (ht : t.isReference = true) (hz : z.isRef = true) (hd : decode c.code pc = .ok (.areturn, 1)) {fs : List Frame}
    (hl : ∀ (f : JFrame) (acts : List Action), f.method = m → f.locked = none → f.entered = [] → (doReturn e (T.setTop f) acts (some z)).1 = T.setFrames fs) : Steps p.tables e below (T.setTop (mkF m pc Ls (z :: rest))) (T.setFrames fs) := by
  have hm' : T.vm.method? m = some meth := X.method'
  show Steps p.tables e below (T.setTop { method := m, pc := pc, locals := Ls, stack := _ :: rest, locked := none }) _
  jvm_step X.here [X.here.top, hx, hd, hm', hret, hz, ht]
  first | (intro acts; rw [hl _ acts rfl rfl rfl]) | rw [hl _ _ rfl rfl rfl]
  exact Steps.refl _
end OwnSteps
theorem own_fld {s : State} {args : Array Value} {t : Term} {a : Addr} {C n d : String} {k : Int32} (ev : t.eval args s none [] s = some (.ref a)) (h : (Jvm.Cond.eq (Jvm.Term.field t C n d) (Jvm.Term.int k)).value args s none s [] = some true) : Fld s s.heap a C n d (.int k) := by
  refine Fld.start ?_
  simp only [Cond.value, Term.eval, ev] at h ⊢
  cases hf : s.fieldOf? a C n d with
  | none => simp [hf] at h
  | some v => cases v <;> simp_all
theorem own_nul {s : State} {args : Array Value} {t : Term} {a : Addr} {C n d : String} (ev : t.eval args s none [] s = some (.ref a)) (h : (Jvm.Cond.eq (Jvm.Term.field t C n d) (Jvm.Term.null)).value args s none s [] = some true) : Fld s s.heap a C n d .null := by
  refine Fld.start ?_
  simp only [Cond.value, Term.eval, ev] at h ⊢
  cases hf : s.fieldOf? a C n d with
  | none => simp [hf] at h
  | some v => cases v <;> simp_all
theorem own_d_prog_23_method_6_0 : decode prog_23_method_6_code 0 = .ok (.aload_n 0, 1) := by decide +kernel
theorem own_d_prog_23_method_6_1 : decode prog_23_method_6_code 1 = .ok (.getfield 38, 3) := by decide +kernel
theorem own_d_prog_23_method_6_4 : decode prog_23_method_6_code 4 = .ok (.areturn, 1) := by decide +kernel
theorem own_pn0 : plainName "com/example/surfacemap/surfacemap/operations/Upload" = true := by first | (simp [plainName, overriddenIn]; done) | decide +kernel
theorem own_ef_rm_type (m : MethodId) (x0 : Addr) : entryFrame m #[(.ref x0)] 1 = mkF m 0 #[.val (.ref x0)] [] := by first | (simp [entryFrame, mkF, argsToLocals, Value.category]; done) | rfl
def Q_rm_type (Z : State) (a : Addr) (t : Addr) (h0 : Heap) (n0 : Nat) (v : Option Value) (h : Heap) (L : List Loc) : Prop := v = some (.ref t) ∧ Fr n0 L ∧ h = h0
set_option maxRecDepth 65536 in
set_option maxHeartbeats 40000000 in
theorem rm_type (l : Launch) (Z : State) (a0 : Array Value) (hw : ∀ d ∈ tables_1, d.before a0 Z = true) (ws : List Jvm.Cond) (a : Addr) (t : Addr) (h0 : Heap) (n0 : Nat) (Z0 : n0 ≤ h0.size) (F : Fld Z h0 a "com/example/surfacemap/surfacemap/operations/Upload" "type" "Lcom/example/surfacemap/surfacemap/operations/Upload$Type;" (.ref t)) :
    Met l Z (⟨"com/example/surfacemap/surfacemap/operations/Upload", "type", "()Lcom/example/surfacemap/surfacemap/operations/Upload$Type;"⟩ : MethodName) prog_23_method_6_code 1 (some (.object "com/example/surfacemap/surfacemap/operations/Upload$Type")) ({ frames := 0, cells := 0, slots := 0, locals := 0 } : Room) ws #[(.ref a)] h0 (Q_rm_type Z a t h0 n0) := by
  refine MetFree.of_bodySF (plainFor_of_name own_pn0) hisR ?_
  intro p e s m args below meth c s₁ Bd hml0 hP hK
  obtain ⟨rfl, hZ, hh⟩ := hP
  have hx := Bd.exec
  have hby := Bd.bytes
  have hlk : meth.locks = false := BodyLoose.notSynchronized Bd
  have hml : c.maxLocals = 1 := hml0
  have hown : s.vm.findClass "com/example/surfacemap/surfacemap/operations/Upload" = some m.cls := findClass_of_methodNamed Bd.named
  have hnm := (name_of_methodNamed Bd.named Bd.method).1
  have X0 : Stand p l e ({ frames := 0, cells := 0, slots := 0, locals := 0 } : Room) s m #[(.ref a)] below meth c s₁ [] 0 0 := Stand.of_body Bd
  have e0 : s₁.heap = h0 := by rw [← hh, Bd.state]; rfl
  have N0 := Fr.nil n0
  show Goes p e below (fun o u L => FrameEnd s o u L ({ frames := 0, cells := 0, slots := 0, locals := 0 } : Room).cells ({ frames := 0, cells := 0, slots := 0, locals := 0 } : Room).slots) (Q_rm_type Z a t h0 n0) (s₁.setTop (entryFrame m #[(.ref a)] 1))
  refine Goes.step (fun _ tk => castTop (own_ef_rm_type m a) tk) ?_
  show Goes _ _ _ _ _ (s₁.setTop (mkF m 0 #[.val (.ref a)] []))
  refine Goes.step (fun _ tk => XS.aloadN X0.here hx rfl (hb hby own_d_prog_23_method_6_0) rfl rfl tk) ?_
  show Goes _ _ _ _ _ (s₁.setTop (mkF m 1 #[.val (.ref a)] [(.ref a)]))
  obtain ⟨T1, X1, e1, st1⟩ := getF X0 hx hZ hown (host := "") (Or.inl (hw _ (List.mem_of_getElem? (i := 52) rfl))) Via.refl e0 F (g := (mkF m 1 #[.val (.ref a)] [(.ref a)])) rfl rfl (hb hby own_d_prog_23_method_6_1)
  refine Goes.step st1 ?_
  show Goes _ _ _ _ _ (T1.setTop (mkF m 4 #[.val (.ref a)] [(.ref t)]))
  refine Goes.ret X1 (some (.ref t)) (fun h => by rw [Bd.returns] at h; cases h) hlk (by decide) (by decide) ?_ (fun fs hr => ?_)
  · exact ⟨rfl, N0, e1⟩
  · exact own_retA X1 hx Bd.returns rfl rfl (hb hby own_d_prog_23_method_6_4) hr
theorem own_d_prog_23_method_7_0 : decode prog_23_method_7_code 0 = .ok (.aload_n 0, 1) := by decide +kernel
theorem own_d_prog_23_method_7_1 : decode prog_23_method_7_code 1 = .ok (.getfield 43, 3) := by decide +kernel
theorem own_d_prog_23_method_7_4 : decode prog_23_method_7_code 4 = .ok (.areturn, 1) := by decide +kernel
theorem own_ef_rm_ct (m : MethodId) (x0 : Addr) : entryFrame m #[(.ref x0)] 1 = mkF m 0 #[.val (.ref x0)] [] := by first | (simp [entryFrame, mkF, argsToLocals, Value.category]; done) | rfl
def Q_rm_ct (Z : State) (a : Addr) (t : Addr) (h0 : Heap) (n0 : Nat) (v : Option Value) (h : Heap) (L : List Loc) : Prop := v = some (.ref t) ∧ Fr n0 L ∧ h = h0
set_option maxRecDepth 65536 in
set_option maxHeartbeats 40000000 in
theorem rm_ct (l : Launch) (Z : State) (a0 : Array Value) (hw : ∀ d ∈ tables_1, d.before a0 Z = true) (ws : List Jvm.Cond) (a : Addr) (t : Addr) (h0 : Heap) (n0 : Nat) (Z0 : n0 ≤ h0.size) (F : Fld Z h0 a "com/example/surfacemap/surfacemap/operations/Upload" "contentType" "Ljava/util/Optional;" (.ref t)) :
    Met l Z (⟨"com/example/surfacemap/surfacemap/operations/Upload", "contentType", "()Ljava/util/Optional;"⟩ : MethodName) prog_23_method_7_code 1 (some (.object "java/util/Optional")) ({ frames := 0, cells := 0, slots := 0, locals := 0 } : Room) ws #[(.ref a)] h0 (Q_rm_ct Z a t h0 n0) := by
  refine MetFree.of_bodySF (plainFor_of_name own_pn0) hisR ?_
  intro p e s m args below meth c s₁ Bd hml0 hP hK
  obtain ⟨rfl, hZ, hh⟩ := hP
  have hx := Bd.exec
  have hby := Bd.bytes
  have hlk : meth.locks = false := BodyLoose.notSynchronized Bd
  have hml : c.maxLocals = 1 := hml0
  have hown : s.vm.findClass "com/example/surfacemap/surfacemap/operations/Upload" = some m.cls := findClass_of_methodNamed Bd.named
  have hnm := (name_of_methodNamed Bd.named Bd.method).1
  have X0 : Stand p l e ({ frames := 0, cells := 0, slots := 0, locals := 0 } : Room) s m #[(.ref a)] below meth c s₁ [] 0 0 := Stand.of_body Bd
  have e0 : s₁.heap = h0 := by rw [← hh, Bd.state]; rfl
  have N0 := Fr.nil n0
  show Goes p e below (fun o u L => FrameEnd s o u L ({ frames := 0, cells := 0, slots := 0, locals := 0 } : Room).cells ({ frames := 0, cells := 0, slots := 0, locals := 0 } : Room).slots) (Q_rm_ct Z a t h0 n0) (s₁.setTop (entryFrame m #[(.ref a)] 1))
  refine Goes.step (fun _ tk => castTop (own_ef_rm_ct m a) tk) ?_
  show Goes _ _ _ _ _ (s₁.setTop (mkF m 0 #[.val (.ref a)] []))
  refine Goes.step (fun _ tk => XS.aloadN X0.here hx rfl (hb hby own_d_prog_23_method_7_0) rfl rfl tk) ?_
  show Goes _ _ _ _ _ (s₁.setTop (mkF m 1 #[.val (.ref a)] [(.ref a)]))
  obtain ⟨T1, X1, e1, st1⟩ := getF X0 hx hZ hown (host := "") (Or.inl (hw _ (List.mem_of_getElem? (i := 54) rfl))) Via.refl e0 F (g := (mkF m 1 #[.val (.ref a)] [(.ref a)])) rfl rfl (hb hby own_d_prog_23_method_7_1)
  refine Goes.step st1 ?_
  show Goes _ _ _ _ _ (T1.setTop (mkF m 4 #[.val (.ref a)] [(.ref t)]))
  refine Goes.ret X1 (some (.ref t)) (fun h => by rw [Bd.returns] at h; cases h) hlk (by decide) (by decide) ?_ (fun fs hr => ?_)
  · exact ⟨rfl, N0, e1⟩
  · exact own_retA X1 hx Bd.returns rfl rfl (hb hby own_d_prog_23_method_7_4) hr
theorem own_d_prog_23_method_8_0 : decode prog_23_method_8_code 0 = .ok (.aload_n 0, 1) := by decide +kernel
theorem own_d_prog_23_method_8_1 : decode prog_23_method_8_code 1 = .ok (.getfield 46, 3) := by decide +kernel
theorem own_d_prog_23_method_8_4 : decode prog_23_method_8_code 4 = .ok (.areturn, 1) := by decide +kernel
theorem own_ef_rm_size (m : MethodId) (x0 : Addr) : entryFrame m #[(.ref x0)] 1 = mkF m 0 #[.val (.ref x0)] [] := by first | (simp [entryFrame, mkF, argsToLocals, Value.category]; done) | rfl
def Q_rm_size (Z : State) (a : Addr) (t : Addr) (h0 : Heap) (n0 : Nat) (v : Option Value) (h : Heap) (L : List Loc) : Prop := v = some (.ref t) ∧ Fr n0 L ∧ h = h0
set_option maxRecDepth 65536 in
set_option maxHeartbeats 40000000 in
theorem rm_size (l : Launch) (Z : State) (a0 : Array Value) (hw : ∀ d ∈ tables_1, d.before a0 Z = true) (ws : List Jvm.Cond) (a : Addr) (t : Addr) (h0 : Heap) (n0 : Nat) (Z0 : n0 ≤ h0.size) (F : Fld Z h0 a "com/example/surfacemap/surfacemap/operations/Upload" "size" "Ljava/util/OptionalLong;" (.ref t)) :
    Met l Z (⟨"com/example/surfacemap/surfacemap/operations/Upload", "size", "()Ljava/util/OptionalLong;"⟩ : MethodName) prog_23_method_8_code 1 (some (.object "java/util/OptionalLong")) ({ frames := 0, cells := 0, slots := 0, locals := 0 } : Room) ws #[(.ref a)] h0 (Q_rm_size Z a t h0 n0) := by
  refine MetFree.of_bodySF (plainFor_of_name own_pn0) hisR ?_
  intro p e s m args below meth c s₁ Bd hml0 hP hK
  obtain ⟨rfl, hZ, hh⟩ := hP
  have hx := Bd.exec
  have hby := Bd.bytes
  have hlk : meth.locks = false := BodyLoose.notSynchronized Bd
  have hml : c.maxLocals = 1 := hml0
  have hown : s.vm.findClass "com/example/surfacemap/surfacemap/operations/Upload" = some m.cls := findClass_of_methodNamed Bd.named
  have hnm := (name_of_methodNamed Bd.named Bd.method).1
  have X0 : Stand p l e ({ frames := 0, cells := 0, slots := 0, locals := 0 } : Room) s m #[(.ref a)] below meth c s₁ [] 0 0 := Stand.of_body Bd
  have e0 : s₁.heap = h0 := by rw [← hh, Bd.state]; rfl
  have N0 := Fr.nil n0
  show Goes p e below (fun o u L => FrameEnd s o u L ({ frames := 0, cells := 0, slots := 0, locals := 0 } : Room).cells ({ frames := 0, cells := 0, slots := 0, locals := 0 } : Room).slots) (Q_rm_size Z a t h0 n0) (s₁.setTop (entryFrame m #[(.ref a)] 1))
  refine Goes.step (fun _ tk => castTop (own_ef_rm_size m a) tk) ?_
  show Goes _ _ _ _ _ (s₁.setTop (mkF m 0 #[.val (.ref a)] []))
  refine Goes.step (fun _ tk => XS.aloadN X0.here hx rfl (hb hby own_d_prog_23_method_8_0) rfl rfl tk) ?_
  show Goes _ _ _ _ _ (s₁.setTop (mkF m 1 #[.val (.ref a)] [(.ref a)]))
  obtain ⟨T1, X1, e1, st1⟩ := getF X0 hx hZ hown (host := "") (Or.inl (hw _ (List.mem_of_getElem? (i := 56) rfl))) Via.refl e0 F (g := (mkF m 1 #[.val (.ref a)] [(.ref a)])) rfl rfl (hb hby own_d_prog_23_method_8_1)
  refine Goes.step st1 ?_
  show Goes _ _ _ _ _ (T1.setTop (mkF m 4 #[.val (.ref a)] [(.ref t)]))
  refine Goes.ret X1 (some (.ref t)) (fun h => by rw [Bd.returns] at h; cases h) hlk (by decide) (by decide) ?_ (fun fs hr => ?_)
  · exact ⟨rfl, N0, e1⟩
  · exact own_retA X1 hx Bd.returns rfl rfl (hb hby own_d_prog_23_method_8_4) hr
theorem own_d_jdk_2650_method_6_0 : decode jdk_2650_method_6_code 0 = .ok (.aload_n 0, 1) := by decide +kernel
theorem own_d_jdk_2650_method_6_1 : decode jdk_2650_method_6_code 1 = .ok (.getfield 7, 3) := by decide +kernel
theorem own_d_jdk_2650_method_6_4 : decode jdk_2650_method_6_code 4 = .ok (.ireturn, 1) := by decide +kernel
theorem own_pn1 : plainName "java/util/OptionalLong" = true := by first | (simp [plainName, overriddenIn]; done) | decide +kernel
theorem own_ef_rm_lpres (m : MethodId) (x0 : Addr) : entryFrame m #[(.ref x0)] 1 = mkF m 0 #[.val (.ref x0)] [] := by first | (simp [entryFrame, mkF, argsToLocals, Value.category]; done) | rfl
def Q_rm_lpres (Z : State) (a : Addr) (h0 : Heap) (n0 : Nat) (v : Option Value) (h : Heap) (L : List Loc) : Prop := v = some (.int (0 : Int32)) ∧ Fr n0 L ∧ h = h0
set_option maxRecDepth 65536 in
set_option maxHeartbeats 40000000 in
theorem rm_lpres (l : Launch) (Z : State) (a0 : Array Value) (hw : ∀ d ∈ tables_1, d.before a0 Z = true) (ws : List Jvm.Cond) (a : Addr) (h0 : Heap) (n0 : Nat) (Z0 : n0 ≤ h0.size) (F : Fld Z h0 a "java/util/OptionalLong" "isPresent" "Z" (.int (0 : Int32))) :
    Met l Z (⟨"java/util/OptionalLong", "isPresent", "()Z"⟩ : MethodName) jdk_2650_method_6_code 1 (some .boolean) ({ frames := 0, cells := 0, slots := 0, locals := 0 } : Room) ws #[(.ref a)] h0 (Q_rm_lpres Z a h0 n0) := by
  refine MetFree.of_bodySF (plainFor_of_name own_pn1) hisR ?_
  intro p e s m args below meth c s₁ Bd hml0 hP hK
  obtain ⟨rfl, hZ, hh⟩ := hP
  have hx := Bd.exec
  have hby := Bd.bytes
  have hlk : meth.locks = false := BodyLoose.notSynchronized Bd
  have hml : c.maxLocals = 1 := hml0
  have hown : s.vm.findClass "java/util/OptionalLong" = some m.cls := findClass_of_methodNamed Bd.named
  have hnm := (name_of_methodNamed Bd.named Bd.method).1
  have X0 : Stand p l e ({ frames := 0, cells := 0, slots := 0, locals := 0 } : Room) s m #[(.ref a)] below meth c s₁ [] 0 0 := Stand.of_body Bd
  have e0 : s₁.heap = h0 := by rw [← hh, Bd.state]; rfl
  have N0 := Fr.nil n0
  show Goes p e below (fun o u L => FrameEnd s o u L ({ frames := 0, cells := 0, slots := 0, locals := 0 } : Room).cells ({ frames := 0, cells := 0, slots := 0, locals := 0 } : Room).slots) (Q_rm_lpres Z a h0 n0) (s₁.setTop (entryFrame m #[(.ref a)] 1))
  refine Goes.step (fun _ tk => castTop (own_ef_rm_lpres m a) tk) ?_
  show Goes _ _ _ _ _ (s₁.setTop (mkF m 0 #[.val (.ref a)] []))
  refine Goes.step (fun _ tk => XS.aloadN X0.here hx rfl (hb hby own_d_jdk_2650_method_6_0) rfl rfl tk) ?_
  show Goes _ _ _ _ _ (s₁.setTop (mkF m 1 #[.val (.ref a)] [(.ref a)]))
  obtain ⟨T1, X1, e1, st1⟩ := getF X0 hx hZ hown (host := "") (Or.inl (hw _ (List.mem_of_getElem? (i := 50) rfl))) Via.refl e0 F (g := (mkF m 1 #[.val (.ref a)] [(.ref a)])) rfl rfl (hb hby own_d_jdk_2650_method_6_1)
  refine Goes.step st1 ?_
  show Goes _ _ _ _ _ (T1.setTop (mkF m 4 #[.val (.ref a)] [(.int (0 : Int32))]))
  refine Goes.ret X1 (some (.int (0 : Int32))) (fun h => by rw [Bd.returns] at h; cases h) hlk (by decide) (by decide) ?_ (fun fs hr => ?_)
  · exact ⟨rfl, N0, e1⟩
  · exact own_retN X1 hx (t := .boolean) Bd.returns (by simp) rfl (hb hby own_d_jdk_2650_method_6_4) hr
theorem own_d_jdk_32_method_6_0 : decode jdk_32_method_6_code 0 = .ok (.aload_n 0, 1) := by decide +kernel
theorem own_d_jdk_32_method_6_1 : decode jdk_32_method_6_code 1 = .ok (.getfield 13, 3) := by decide +kernel
theorem own_d_jdk_32_method_6_4 : decode jdk_32_method_6_code 4 = .ok (.ifnull 7, 3) := by decide +kernel
theorem own_d_jdk_32_method_6_11 : decode jdk_32_method_6_code 11 = .ok (.iconst 0, 1) := by decide +kernel
theorem own_d_jdk_32_method_6_12 : decode jdk_32_method_6_code 12 = .ok (.ireturn, 1) := by decide +kernel
theorem own_pn2 : plainName "java/util/Optional" = true := by first | (simp [plainName, overriddenIn]; done) | decide +kernel
theorem own_ef_rm_opres (m : MethodId) (x0 : Addr) : entryFrame m #[(.ref x0)] 1 = mkF m 0 #[.val (.ref x0)] [] := by first | (simp [entryFrame, mkF, argsToLocals, Value.category]; done) | rfl
def Q_rm_opres (Z : State) (a : Addr) (h0 : Heap) (n0 : Nat) (v : Option Value) (h : Heap) (L : List Loc) : Prop := v = some (.int 0) ∧ Fr n0 L ∧ h = h0
set_option maxRecDepth 65536 in
set_option maxHeartbeats 40000000 in
theorem rm_opres (l : Launch) (Z : State) (a0 : Array Value) (hw : ∀ d ∈ tables_1, d.before a0 Z = true) (ws : List Jvm.Cond) (a : Addr) (h0 : Heap) (n0 : Nat) (Z0 : n0 ≤ h0.size) (F : Fld Z h0 a "java/util/Optional" "value" "Ljava/lang/Object;" .null) :
    Met l Z (⟨"java/util/Optional", "isPresent", "()Z"⟩ : MethodName) jdk_32_method_6_code 1 (some .boolean) ({ frames := 0, cells := 0, slots := 0, locals := 0 } : Room) ws #[(.ref a)] h0 (Q_rm_opres Z a h0 n0) := by
  refine MetFree.of_bodySF (plainFor_of_name own_pn2) hisR ?_
  intro p e s m args below meth c s₁ Bd hml0 hP hK
  obtain ⟨rfl, hZ, hh⟩ := hP
  have hx := Bd.exec
  have hby := Bd.bytes
  have hlk : meth.locks = false := BodyLoose.notSynchronized Bd
  have hml : c.maxLocals = 1 := hml0
  have hown : s.vm.findClass "java/util/Optional" = some m.cls := findClass_of_methodNamed Bd.named
  have hnm := (name_of_methodNamed Bd.named Bd.method).1
  have X0 : Stand p l e ({ frames := 0, cells := 0, slots := 0, locals := 0 } : Room) s m #[(.ref a)] below meth c s₁ [] 0 0 := Stand.of_body Bd
  have e0 : s₁.heap = h0 := by rw [← hh, Bd.state]; rfl
  have N0 := Fr.nil n0
  show Goes p e below (fun o u L => FrameEnd s o u L ({ frames := 0, cells := 0, slots := 0, locals := 0 } : Room).cells ({ frames := 0, cells := 0, slots := 0, locals := 0 } : Room).slots) (Q_rm_opres Z a h0 n0) (s₁.setTop (entryFrame m #[(.ref a)] 1))
  refine Goes.step (fun _ tk => castTop (own_ef_rm_opres m a) tk) ?_
  show Goes _ _ _ _ _ (s₁.setTop (mkF m 0 #[.val (.ref a)] []))
  refine Goes.step (fun _ tk => XS.aloadN X0.here hx rfl (hb hby own_d_jdk_32_method_6_0) rfl rfl tk) ?_
  show Goes _ _ _ _ _ (s₁.setTop (mkF m 1 #[.val (.ref a)] [(.ref a)]))
  obtain ⟨T1, X1, e1, st1⟩ := getF X0 hx hZ hown (host := "") (Or.inl (hw _ (List.mem_of_getElem? (i := 73) rfl))) Via.refl e0 F (g := (mkF m 1 #[.val (.ref a)] [(.ref a)])) rfl rfl (hb hby own_d_jdk_32_method_6_1)
  refine Goes.step st1 ?_
  show Goes _ _ _ _ _ (T1.setTop (mkF m 4 #[.val (.ref a)] [.null]))
  refine Goes.step (fun _ tk => XS.ifnullYes X1.here hx rfl (pc0 := 4) (pc' := 11) rfl (hb hby own_d_jdk_32_method_6_4) rfl (by decide) (by decide) tk) ?_
  show Goes _ _ _ _ _ (T1.setTop (mkF m 11 #[.val (.ref a)] []))
  refine Goes.step (fun _ tk => XS.iconst X1.here hx rfl (hb hby own_d_jdk_32_method_6_11) tk) ?_
  show Goes _ _ _ _ _ (T1.setTop (mkF m 12 #[.val (.ref a)] [(.int (0 : Int32))]))
  refine Goes.ret X1 (some (.int (0 : Int32))) (fun h => by rw [Bd.returns] at h; cases h) hlk (by decide) (by decide) ?_ (fun fs hr => ?_)
  · exact ⟨rfl, N0, e1⟩
  · exact own_retN X1 hx (t := .boolean) Bd.returns (by simp) rfl (hb hby own_d_jdk_32_method_6_12) hr
theorem own_d_jdk_32_method_1_0 : decode jdk_32_method_1_code 0 = .ok (.getstatic 1, 3) := by decide +kernel
theorem own_d_jdk_32_method_1_3 : decode jdk_32_method_1_code 3 = .ok (.astore_n 0, 1) := by decide +kernel
theorem own_d_jdk_32_method_1_4 : decode jdk_32_method_1_code 4 = .ok (.aload_n 0, 1) := by decide +kernel
theorem own_d_jdk_32_method_1_5 : decode jdk_32_method_1_code 5 = .ok (.areturn, 1) := by decide +kernel
theorem own_ef_rm_oe (m : MethodId)  : entryFrame m #[] 1 = mkF m 0 #[.unset] [] := by first | (simp [entryFrame, mkF, argsToLocals, Value.category]; done) | rfl
def Q_rm_oe (Z : State) (w : Addr) (h0 : Heap) (n0 : Nat) (v : Option Value) (h : Heap) (L : List Loc) : Prop := v = some (.ref w) ∧ Fr n0 L ∧ h = h0
set_option maxRecDepth 65536 in
set_option maxHeartbeats 40000000 in
theorem rm_oe (l : Launch) (Z : State) (a0 : Array Value) (hw : ∀ d ∈ tables_1, d.before a0 Z = true) (ws : List Jvm.Cond) (w : Addr) (h0 : Heap) (n0 : Nat) (Z0 : n0 ≤ h0.size) (S : Sta Z h0 "java/util/Optional" "EMPTY" "Ljava/util/Optional;" (.ref w)) :
    Met l Z (⟨"java/util/Optional", "empty", "()Ljava/util/Optional;"⟩ : MethodName) jdk_32_method_1_code 1 (some (.object "java/util/Optional")) ({ frames := 0, cells := 0, slots := 0, locals := 0 } : Room) ws #[] h0 (Q_rm_oe Z w h0 n0) := by
  refine MetFree.of_bodySF (plainFor_of_name own_pn2) hisR ?_
  intro p e s m args below meth c s₁ Bd hml0 hP hK
  obtain ⟨rfl, hZ, hh⟩ := hP
  have hx := Bd.exec
  have hby := Bd.bytes
  have hlk : meth.locks = false := BodyLoose.notSynchronized Bd
  have hml : c.maxLocals = 1 := hml0
  have hown : s.vm.findClass "java/util/Optional" = some m.cls := findClass_of_methodNamed Bd.named
  have hnm := (name_of_methodNamed Bd.named Bd.method).1
  have X0 : Stand p l e ({ frames := 0, cells := 0, slots := 0, locals := 0 } : Room) s m #[] below meth c s₁ [] 0 0 := Stand.of_body Bd
  have e0 : s₁.heap = h0 := by rw [← hh, Bd.state]; rfl
  have N0 := Fr.nil n0
  show Goes p e below (fun o u L => FrameEnd s o u L ({ frames := 0, cells := 0, slots := 0, locals := 0 } : Room).cells ({ frames := 0, cells := 0, slots := 0, locals := 0 } : Room).slots) (Q_rm_oe Z w h0 n0) (s₁.setTop (entryFrame m #[] 1))
  refine Goes.step (fun _ tk => castTop (own_ef_rm_oe m ) tk) ?_
  show Goes _ _ _ _ _ (s₁.setTop (mkF m 0 #[.unset] []))
  obtain ⟨T1, X1, e1, st1⟩ := getS2 X0 hx hZ hown (host := "") (Or.inl (hw _ (List.mem_of_getElem? (i := 14) rfl))) Via.refl e0 S (g := (mkF m 0 #[.unset] [])) rfl (hb hby own_d_jdk_32_method_1_0)
  refine Goes.step st1 ?_
  show Goes _ _ _ _ _ (T1.setTop (mkF m 3 #[.unset] [(.ref w)]))
  refine Goes.step (fun _ tk => XS.astoreN X1.here hx rfl (hb hby own_d_jdk_32_method_1_3) rfl rfl (l' := #[.val (.ref w)]) rfl tk) ?_
  show Goes _ _ _ _ _ (T1.setTop (mkF m 4 #[.val (.ref w)] []))
  refine Goes.step (fun _ tk => XS.aloadN X1.here hx rfl (hb hby own_d_jdk_32_method_1_4) rfl rfl tk) ?_
  show Goes _ _ _ _ _ (T1.setTop (mkF m 5 #[.val (.ref w)] [(.ref w)]))
  refine Goes.ret X1 (some (.ref w)) (fun h => by rw [Bd.returns] at h; cases h) hlk (by decide) (by decide) ?_ (fun fs hr => ?_)
  · exact ⟨rfl, N0, e1⟩
  · exact own_retA X1 hx Bd.returns rfl rfl (hb hby own_d_jdk_32_method_1_5) hr
theorem own_d_jdk_2650_method_2_0 : decode jdk_2650_method_2_code 0 = .ok (.getstatic 17, 3) := by decide +kernel
theorem own_d_jdk_2650_method_2_3 : decode jdk_2650_method_2_code 3 = .ok (.areturn, 1) := by decide +kernel
theorem own_ef_rm_le (m : MethodId)  : entryFrame m #[] 0 = mkF m 0 #[] [] := by first | (simp [entryFrame, mkF, argsToLocals, Value.category]; done) | rfl
def Q_rm_le (Z : State) (w : Addr) (h0 : Heap) (n0 : Nat) (v : Option Value) (h : Heap) (L : List Loc) : Prop := v = some (.ref w) ∧ Fr n0 L ∧ h = h0
set_option maxRecDepth 65536 in
set_option maxHeartbeats 40000000 in
theorem rm_le (l : Launch) (Z : State) (a0 : Array Value) (hw : ∀ d ∈ tables_1, d.before a0 Z = true) (ws : List Jvm.Cond) (w : Addr) (h0 : Heap) (n0 : Nat) (Z0 : n0 ≤ h0.size) (S : Sta Z h0 "java/util/OptionalLong" "EMPTY" "Ljava/util/OptionalLong;" (.ref w)) :
    Met l Z (⟨"java/util/OptionalLong", "empty", "()Ljava/util/OptionalLong;"⟩ : MethodName) jdk_2650_method_2_code 0 (some (.object "java/util/OptionalLong")) ({ frames := 0, cells := 0, slots := 0, locals := 0 } : Room) ws #[] h0 (Q_rm_le Z w h0 n0) := by
  refine MetFree.of_bodySF (plainFor_of_name own_pn1) hisR ?_
  intro p e s m args below meth c s₁ Bd hml0 hP hK
  obtain ⟨rfl, hZ, hh⟩ := hP
  have hx := Bd.exec
  have hby := Bd.bytes
  have hlk : meth.locks = false := BodyLoose.notSynchronized Bd
  have hml : c.maxLocals = 0 := hml0
  have hown : s.vm.findClass "java/util/OptionalLong" = some m.cls := findClass_of_methodNamed Bd.named
  have hnm := (name_of_methodNamed Bd.named Bd.method).1
  have X0 : Stand p l e ({ frames := 0, cells := 0, slots := 0, locals := 0 } : Room) s m #[] below meth c s₁ [] 0 0 := Stand.of_body Bd
  have e0 : s₁.heap = h0 := by rw [← hh, Bd.state]; rfl
  have N0 := Fr.nil n0
  show Goes p e below (fun o u L => FrameEnd s o u L ({ frames := 0, cells := 0, slots := 0, locals := 0 } : Room).cells ({ frames := 0, cells := 0, slots := 0, locals := 0 } : Room).slots) (Q_rm_le Z w h0 n0) (s₁.setTop (entryFrame m #[] 0))
  refine Goes.step (fun _ tk => castTop (own_ef_rm_le m ) tk) ?_
  show Goes _ _ _ _ _ (s₁.setTop (mkF m 0 #[] []))
  obtain ⟨T1, X1, e1, st1⟩ := getS2 X0 hx hZ hown (host := "") (Or.inl (hw _ (List.mem_of_getElem? (i := 19) rfl))) Via.refl e0 S (g := (mkF m 0 #[] [])) rfl (hb hby own_d_jdk_2650_method_2_0)
  refine Goes.step st1 ?_
  show Goes _ _ _ _ _ (T1.setTop (mkF m 3 #[] [(.ref w)]))
  refine Goes.ret X1 (some (.ref w)) (fun h => by rw [Bd.returns] at h; cases h) hlk (by decide) (by decide) ?_ (fun fs hr => ?_)
  · exact ⟨rfl, N0, e1⟩
  · exact own_retA X1 hx Bd.returns rfl rfl (hb hby own_d_jdk_2650_method_2_3) hr
theorem own_d_jdk_31_method_11_0 : decode jdk_31_method_11_code 0 = .ok (.aload_n 0, 1) := by decide +kernel
theorem own_d_jdk_31_method_11_1 : decode jdk_31_method_11_code 1 = .ok (.ifnonnull 12, 3) := by decide +kernel
theorem own_d_jdk_31_method_11_13 : decode jdk_31_method_11_code 13 = .ok (.aload_n 0, 1) := by decide +kernel
theorem own_d_jdk_31_method_11_14 : decode jdk_31_method_11_code 14 = .ok (.areturn, 1) := by decide +kernel
theorem own_pn3 : plainName "java/util/Objects" = true := by first | (simp [plainName, overriddenIn]; done) | decide +kernel
theorem own_ef_rm_nn (m : MethodId) (x0 : Addr) (x1 : Addr) : entryFrame m #[(.ref x0), (.ref x1)] 2 = mkF m 0 #[.val (.ref x0), .val (.ref x1)] [] := by first | (simp [entryFrame, mkF, argsToLocals, Value.category]; done) | rfl
def Q_rm_nn (Z : State) (a : Addr) (b : Addr) (h0 : Heap) (n0 : Nat) (v : Option Value) (h : Heap) (L : List Loc) : Prop := v = some (.ref a) ∧ Fr n0 L ∧ h = h0
set_option maxRecDepth 65536 in
set_option maxHeartbeats 40000000 in
theorem rm_nn (l : Launch) (Z : State) (a0 : Array Value) (hw : ∀ d ∈ tables_1, d.before a0 Z = true) (ws : List Jvm.Cond) (a : Addr) (b : Addr) (h0 : Heap) (n0 : Nat) (Z0 : n0 ≤ h0.size) :
    Met l Z (⟨"java/util/Objects", "requireNonNull", "(Ljava/lang/Object;Ljava/lang/String;)Ljava/lang/Object;"⟩ : MethodName) jdk_31_method_11_code 2 (some (.object "java/lang/Object")) ({ frames := 0, cells := 0, slots := 0, locals := 0 } : Room) ws #[(.ref a), (.ref b)] h0 (Q_rm_nn Z a b h0 n0) := by
  refine MetFree.of_bodySF (plainFor_of_name own_pn3) hisR ?_
  intro p e s m args below meth c s₁ Bd hml0 hP hK
  obtain ⟨rfl, hZ, hh⟩ := hP
  have hx := Bd.exec
  have hby := Bd.bytes
  have hlk : meth.locks = false := BodyLoose.notSynchronized Bd
  have hml : c.maxLocals = 2 := hml0
  have hown : s.vm.findClass "java/util/Objects" = some m.cls := findClass_of_methodNamed Bd.named
  have hnm := (name_of_methodNamed Bd.named Bd.method).1
  have X0 : Stand p l e ({ frames := 0, cells := 0, slots := 0, locals := 0 } : Room) s m #[(.ref a), (.ref b)] below meth c s₁ [] 0 0 := Stand.of_body Bd
  have e0 : s₁.heap = h0 := by rw [← hh, Bd.state]; rfl
  have N0 := Fr.nil n0
  show Goes p e below (fun o u L => FrameEnd s o u L ({ frames := 0, cells := 0, slots := 0, locals := 0 } : Room).cells ({ frames := 0, cells := 0, slots := 0, locals := 0 } : Room).slots) (Q_rm_nn Z a b h0 n0) (s₁.setTop (entryFrame m #[(.ref a), (.ref b)] 2))
  refine Goes.step (fun _ tk => castTop (own_ef_rm_nn m a b) tk) ?_
  show Goes _ _ _ _ _ (s₁.setTop (mkF m 0 #[.val (.ref a), .val (.ref b)] []))
  refine Goes.step (fun _ tk => XS.aloadN X0.here hx rfl (hb hby own_d_jdk_31_method_11_0) rfl rfl tk) ?_
  show Goes _ _ _ _ _ (s₁.setTop (mkF m 1 #[.val (.ref a), .val (.ref b)] [(.ref a)]))
  refine Goes.step (fun _ tk => XS.ifnonnullYes X0.here hx rfl (pc0 := 1) (pc' := 13) rfl (hb hby own_d_jdk_31_method_11_1) rfl (by decide) (by decide) tk) ?_
  show Goes _ _ _ _ _ (s₁.setTop (mkF m 13 #[.val (.ref a), .val (.ref b)] []))
  refine Goes.step (fun _ tk => XS.aloadN X0.here hx rfl (hb hby own_d_jdk_31_method_11_13) rfl rfl tk) ?_
  show Goes _ _ _ _ _ (s₁.setTop (mkF m 14 #[.val (.ref a), .val (.ref b)] [(.ref a)]))
  refine Goes.ret X0 (some (.ref a)) (fun h => by rw [Bd.returns] at h; cases h) hlk (by decide) (by decide) ?_ (fun fs hr => ?_)
  · exact ⟨rfl, N0, e0⟩
  · exact own_retA X0 hx Bd.returns rfl rfl (hb hby own_d_jdk_31_method_11_14) hr
theorem own_d_jdk_30_method_1_0 : decode jdk_30_method_1_code 0 = .ok (.aload_n 0, 1) := by decide +kernel
theorem own_d_jdk_30_method_1_1 : decode jdk_30_method_1_code 1 = .ok (.invokespecial 1, 3) := by decide +kernel
theorem own_d_jdk_30_method_1_4 : decode jdk_30_method_1_code 4 = .ok (.return_, 1) := by decide +kernel
theorem own_pn4 : plainName "java/lang/Record" = true := by first | (simp [plainName, overriddenIn]; done) | decide +kernel
theorem own_ef_rm_rec (m : MethodId) (x0 : Addr) : entryFrame m #[(.ref x0)] 1 = mkF m 0 #[.val (.ref x0)] [] := by first | (simp [entryFrame, mkF, argsToLocals, Value.category]; done) | rfl
def Q_rm_rec (Z : State) (a : Addr) (h0 : Heap) (n0 : Nat) (v : Option Value) (h : Heap) (L : List Loc) : Prop := v = none ∧ Fr n0 L ∧ h = h0
set_option maxRecDepth 65536 in
set_option maxHeartbeats 40000000 in
theorem rm_rec (l : Launch) (Z : State) (a0 : Array Value) (hw : ∀ d ∈ tables_1, d.before a0 Z = true) (ws : List Jvm.Cond) (a : Addr) (h0 : Heap) (n0 : Nat) (Z0 : n0 ≤ h0.size) :
    Met l Z (⟨"java/lang/Record", "<init>", "()V"⟩ : MethodName) jdk_30_method_1_code 1 none ({ frames := 1, cells := 0, slots := 0, locals := 12 } : Room) ws #[(.ref a)] h0 (Q_rm_rec Z a h0 n0) := by
  refine MetFree.of_bodySF (plainFor_of_name own_pn4) hisR ?_
  intro p e s m args below meth c s₁ Bd hml0 hP hK
  obtain ⟨rfl, hZ, hh⟩ := hP
  have hx := Bd.exec
  have hby := Bd.bytes
  have hlk : meth.locks = false := BodyLoose.notSynchronized Bd
  have hml : c.maxLocals = 1 := hml0
  have hown : s.vm.findClass "java/lang/Record" = some m.cls := findClass_of_methodNamed Bd.named
  have hnm := (name_of_methodNamed Bd.named Bd.method).1
  have X0 : Stand p l e ({ frames := 1, cells := 0, slots := 0, locals := 12 } : Room) s m #[(.ref a)] below meth c s₁ [] 0 0 := Stand.of_body Bd
  have e0 : s₁.heap = h0 := by rw [← hh, Bd.state]; rfl
  have N0 := Fr.nil n0
  show Goes p e below (fun o u L => FrameEnd s o u L ({ frames := 1, cells := 0, slots := 0, locals := 12 } : Room).cells ({ frames := 1, cells := 0, slots := 0, locals := 12 } : Room).slots) (Q_rm_rec Z a h0 n0) (s₁.setTop (entryFrame m #[(.ref a)] 1))
  refine Goes.step (fun _ tk => castTop (own_ef_rm_rec m a) tk) ?_
  show Goes _ _ _ _ _ (s₁.setTop (mkF m 0 #[.val (.ref a)] []))
  refine Goes.step (fun _ tk => XS.aloadN X0.here hx rfl (hb hby own_d_jdk_30_method_1_0) rfl rfl tk) ?_
  show Goes _ _ _ _ _ (s₁.setTop (mkF m 1 #[.val (.ref a)] [(.ref a)]))
  obtain ⟨T1, X1, e1, st1⟩ := initO X0 hx hZ hown (hw _ (List.mem_of_getElem? (i := 28) rfl)) (hw _ (List.mem_of_getElem? (i := 29) rfl)) (hw _ (List.mem_of_getElem? (i := 30) rfl)) e0 (g := (mkF m 1 #[.val (.ref a)] [(.ref a)])) rfl (by rw [hml]; rfl) rfl (hb hby own_d_jdk_30_method_1_1) (by decide) (W := 0) (by show 2 * 0 + _ ≤ _; exact Nat.le_of_eq rfl) (by decide)
  refine Goes.step st1 ?_
  show Goes _ _ _ _ _ (T1.setTop (mkF m 4 #[.val (.ref a)] []))
  refine Goes.ret X1 none (fun _ => rfl) hlk (by decide) (by decide) ?_ (fun fs hr => ?_)
  · exact ⟨rfl, N0, e1⟩
  · exact X1.returnOut hx Bd.returns (hb hby own_d_jdk_30_method_1_4) hr
theorem own_d_prog_23_method_1_0 : decode prog_23_method_1_code 0 = .ok (.aload_n 0, 1) := by decide +kernel
theorem own_d_prog_23_method_1_1 : decode prog_23_method_1_code 1 = .ok (.invokespecial 1, 3) := by decide +kernel
theorem own_pd0 : parseMethodDescriptor "()V" = some ⟨[], none⟩ := by decide +kernel
theorem own_d_prog_23_method_1_4 : decode prog_23_method_1_code 4 = .ok (.aload_n 1, 1) := by decide +kernel
theorem own_d_prog_23_method_1_5 : decode prog_23_method_1_code 5 = .ok (.ldc 7, 2) := by decide +kernel
theorem own_strW {a0 : Array Value} {Z : State} (hw : ∀ d ∈ tables_1, d.before a0 Z = true) : ∀ a ∈ Bundle.stringAtoms, a.before a0 Z = true := by
  intro a ha
  simp only [Bundle.stringAtoms, List.mem_cons, List.not_mem_nil, or_false] at ha
  rcases ha with rfl | rfl | rfl | rfl | rfl | rfl | rfl
  · exact (hw _ (List.mem_of_getElem? (i := 32) rfl))
  · exact (hw _ (List.mem_of_getElem? (i := 33) rfl))
  · exact (hw _ (List.mem_of_getElem? (i := 34) rfl))
  · exact (hw _ (List.mem_of_getElem? (i := 35) rfl))
  · exact (hw _ (List.mem_of_getElem? (i := 36) rfl))
  · exact (hw _ (List.mem_of_getElem? (i := 37) rfl))
  · exact (hw _ (List.mem_of_getElem? (i := 38) rfl))
theorem own_d_prog_23_method_1_7 : decode prog_23_method_1_code 7 = .ok (.invokestatic 9, 3) := by decide +kernel
theorem own_pd1 : parseMethodDescriptor "(Ljava/lang/Object;Ljava/lang/String;)Ljava/lang/Object;" = some ⟨[(.object "java/lang/Object"), (.object "java/lang/String")], some (.object "java/lang/Object")⟩ := by decide +kernel
theorem own_d_prog_23_method_1_10 : decode prog_23_method_1_code 10 = .ok (.pop, 1) := by decide +kernel
theorem own_d_prog_23_method_1_11 : decode prog_23_method_1_code 11 = .ok (.aload_n 2, 1) := by decide +kernel
theorem own_d_prog_23_method_1_12 : decode prog_23_method_1_code 12 = .ok (.ldc 15, 2) := by decide +kernel
theorem own_d_prog_23_method_1_14 : decode prog_23_method_1_code 14 = .ok (.invokestatic 9, 3) := by decide +kernel
theorem own_d_prog_23_method_1_17 : decode prog_23_method_1_code 17 = .ok (.pop, 1) := by decide +kernel
theorem own_d_prog_23_method_1_18 : decode prog_23_method_1_code 18 = .ok (.aload_n 3, 1) := by decide +kernel
theorem own_d_prog_23_method_1_19 : decode prog_23_method_1_code 19 = .ok (.ldc 17, 2) := by decide +kernel
theorem own_d_prog_23_method_1_21 : decode prog_23_method_1_code 21 = .ok (.invokestatic 9, 3) := by decide +kernel
theorem own_d_prog_23_method_1_24 : decode prog_23_method_1_code 24 = .ok (.pop, 1) := by decide +kernel
theorem own_d_prog_23_method_1_25 : decode prog_23_method_1_code 25 = .ok (.aload_n 3, 1) := by decide +kernel
theorem own_d_prog_23_method_1_26 : decode prog_23_method_1_code 26 = .ok (.invokevirtual 19, 3) := by decide +kernel
theorem own_pd2 : parseMethodDescriptor "()Z" = some ⟨[], some .boolean⟩ := by decide +kernel
theorem own_d_prog_23_method_1_29 : decode prog_23_method_1_code 29 = .ok (.ifCond .eq 29, 3) := by decide +kernel
theorem own_d_prog_23_method_1_58 : decode prog_23_method_1_code 58 = .ok (.aload_n 0, 1) := by decide +kernel
theorem own_d_prog_23_method_1_59 : decode prog_23_method_1_code 59 = .ok (.aload_n 1, 1) := by decide +kernel
theorem own_d_prog_23_method_1_60 : decode prog_23_method_1_code 60 = .ok (.putfield 38, 3) := by decide +kernel
theorem own_d_prog_23_method_1_63 : decode prog_23_method_1_code 63 = .ok (.aload_n 0, 1) := by decide +kernel
theorem own_d_prog_23_method_1_64 : decode prog_23_method_1_code 64 = .ok (.aload_n 2, 1) := by decide +kernel
theorem own_d_prog_23_method_1_65 : decode prog_23_method_1_code 65 = .ok (.putfield 43, 3) := by decide +kernel
theorem own_d_prog_23_method_1_68 : decode prog_23_method_1_code 68 = .ok (.aload_n 0, 1) := by decide +kernel
theorem own_d_prog_23_method_1_69 : decode prog_23_method_1_code 69 = .ok (.aload_n 3, 1) := by decide +kernel
theorem own_d_prog_23_method_1_70 : decode prog_23_method_1_code 70 = .ok (.putfield 46, 3) := by decide +kernel
theorem own_d_prog_23_method_1_73 : decode prog_23_method_1_code 73 = .ok (.return_, 1) := by decide +kernel
theorem own_ef_rm_init (m : MethodId) (x0 : Addr) (x1 : Addr) (x2 : Addr) (x3 : Addr) : entryFrame m #[(.ref x0), (.ref x1), (.ref x2), (.ref x3)] 4 = mkF m 0 #[.val (.ref x0), .val (.ref x1), .val (.ref x2), .val (.ref x3)] [] := by first | (simp [entryFrame, mkF, argsToLocals, Value.category]; done) | rfl
def Q_rm_init (Z : State) (a : Addr) (t : Addr) (o : Addr) (l0 : Addr) (h0 : Heap) (n0 : Nat) (v : Option Value) (h : Heap) (L : List Loc) : Prop := v = none ∧ Fr n0 L ∧ Keep h0 h [a] ∧ Exa Z h a "com/example/surfacemap/surfacemap/operations/Upload" ∧ Fld Z h a "com/example/surfacemap/surfacemap/operations/Upload" "type" "Lcom/example/surfacemap/surfacemap/operations/Upload$Type;" (.ref t) ∧ Fld Z h a "com/example/surfacemap/surfacemap/operations/Upload" "contentType" "Ljava/util/Optional;" (.ref o) ∧ Fld Z h a "com/example/surfacemap/surfacemap/operations/Upload" "size" "Ljava/util/OptionalLong;" (.ref l0)
set_option maxRecDepth 65536 in
set_option maxHeartbeats 40000000 in
theorem rm_init (l : Launch) (Z : State) (a0 : Array Value) (hw : ∀ d ∈ tables_1, d.before a0 Z = true) (ws : List Jvm.Cond) (a : Addr) (t : Addr) (o : Addr) (l0 : Addr) (h0 : Heap) (n0 : Nat) (Z0 : n0 ≤ h0.size) (A_a : Exa Z h0 a "com/example/surfacemap/surfacemap/operations/Upload") (F_type : Fld Z h0 a "com/example/surfacemap/surfacemap/operations/Upload" "type" "Lcom/example/surfacemap/surfacemap/operations/Upload$Type;" .null) (F_contentType : Fld Z h0 a "com/example/surfacemap/surfacemap/operations/Upload" "contentType" "Ljava/util/Optional;" .null) (F_size : Fld Z h0 a "com/example/surfacemap/surfacemap/operations/Upload" "size" "Ljava/util/OptionalLong;" .null) (E_l : Exa Z h0 l0 "java/util/OptionalLong") (F_l : Fld Z h0 l0 "java/util/OptionalLong" "isPresent" "Z" (.int 0)) (g_a : n0 ≤ a) (ne_l0_a : l0 ≠ a) :
    MetW l Z (⟨"com/example/surfacemap/surfacemap/operations/Upload", "<init>", "(Lcom/example/surfacemap/surfacemap/operations/Upload$Type;Ljava/util/Optional;Ljava/util/OptionalLong;)V"⟩ : MethodName) prog_23_method_1_code 4 none ({ frames := 2, cells := 6, slots := 88, locals := 24 } : Room) ws #[(.ref a), (.ref t), (.ref o), (.ref l0)] h0 (Q_rm_init Z a t o l0 h0 n0) := by
  refine MetFree.of_bodySF (plainFor_of_name own_pn0) hisR ?_
  intro p e s m args below meth c s₁ Bd hml0 hP hK
  obtain ⟨rfl, hZ, hh⟩ := hP
  have hx := Bd.exec
  have hby := Bd.bytes
  have hlk : meth.locks = false := BodyLoose.notSynchronized Bd
  have hml : c.maxLocals = 4 := hml0
  have hown : s.vm.findClass "com/example/surfacemap/surfacemap/operations/Upload" = some m.cls := findClass_of_methodNamed Bd.named
  have hnm := (name_of_methodNamed Bd.named Bd.method).1
  have X0 : Stand p l e ({ frames := 2, cells := 6, slots := 88, locals := 24 } : Room) (s.setVm s.vm) m #[(.ref a), (.ref t), (.ref o), (.ref l0)] below meth c s₁ [] 0 0 := Stand.of_body Bd
  have e0 : s₁.heap = h0 := by rw [← hh, Bd.state]; rfl
  have N0 := Fr.nil n0
  have hS : s.Since s.vm h0.size := (State.WarmedH.refl s).since _
  have hk : h0.size ≤ h0.size := Nat.le_refl _
  replace hZ : Z.Warmed39 (s.setVm s.vm).vm := hZ
  replace hown : (s.setVm s.vm).vm.findClass "com/example/surfacemap/surfacemap/operations/Upload" = some m.cls := hown
  show Goes p e below (fun o u L => ReturnedEndW s o u L ({ frames := 2, cells := 6, slots := 88, locals := 24 } : Room).cells ({ frames := 2, cells := 6, slots := 88, locals := 24 } : Room).slots) (Q_rm_init Z a t o l0 h0 n0) (s₁.setTop (entryFrame m #[(.ref a), (.ref t), (.ref o), (.ref l0)] 4))
  refine Goes.step (fun _ tk => castTop (own_ef_rm_init m a t o l0) tk) ?_
  have KP : Keep h0 h0 [a] := Keep.refl _ _
  show Goes _ _ _ _ _ (s₁.setTop (mkF m 0 #[.val (.ref a), .val (.ref t), .val (.ref o), .val (.ref l0)] []))
  refine Goes.step (fun _ tk => XS.aloadN X0.here hx rfl (hb hby own_d_prog_23_method_1_0) rfl rfl tk) ?_
  show Goes _ _ _ _ _ (s₁.setTop (mkF m 1 #[.val (.ref a), .val (.ref t), .val (.ref o), .val (.ref l0)] [(.ref a)]))
  obtain ⟨_, _, ⟨T1, L1, k1, n1⟩, -, X1, ⟨Lc1, hQ1, l1, y1, z1⟩, st1⟩ := X0.specialBack hx (y := (⟨"java/lang/Record", "<init>", "()V"⟩ : MethodName)) rfl hown (mvT hZ (hw _ (List.mem_of_getElem? (i := 23) rfl))) (mvT hZ (hw _ (List.mem_of_getElem? (i := 24) rfl))) (mvT hZ (hw _ (List.mem_of_getElem? (i := 27) rfl))) (by decide) (backOf (W := 0) (rm_rec l Z a0 hw [] a h0 n0 Z0) hZ (hw _ (List.mem_of_getElem? (i := 27) rfl)) (hw _ (List.mem_of_getElem? (i := 26) rfl)) (by decide) (by decide)) (g := (mkF m 1 #[.val (.ref a), .val (.ref t), .val (.ref o), .val (.ref l0)] [(.ref a)])) rfl (by rw [hml]; rfl) (Steps.refl _) (a := a) (argsL := []) (rest := []) (lenOf own_pd0 rfl) rfl (by show 2 * 0 + _ ≤ _; exact Nat.le_of_eq rfl) (hb hby own_d_prog_23_method_1_1) (fun _ _ => ⟨rfl, e0, (by decide : 0 + 0 ≤ _), (by decide : 0 + 0 ≤ _)⟩)
  dsimp only [Pt.U, Pt.locs, Pt.cells, Pt.slots] at X1 l1 y1 z1 st1 hQ1
  subst l1 y1 z1
  obtain ⟨rfl, N1q, e1⟩ := hQ1
  have N1 := Fr.app N0 N1q
  refine Goes.step (fun _ tk => st1.trans tk) ?_
  show Goes _ _ _ _ _ (T1.setTop (mkF m 4 #[.val (.ref a), .val (.ref t), .val (.ref o), .val (.ref l0)] []))
  refine Goes.step (fun _ tk => XS.aloadN X1.here hx rfl (hb hby own_d_prog_23_method_1_4) rfl rfl tk) ?_
  show Goes _ _ _ _ _ (T1.setTop (mkF m 5 #[.val (.ref a), .val (.ref t), .val (.ref o), .val (.ref l0)] [(.ref t)]))
  obtain ⟨c2, T2, h2, kk2, X2, e2, E2, hS, hk2, hZ, hown, st2⟩ := ldcS X1 hx hZ hown (hw _ (List.mem_of_getElem? (i := 31) rfl)) (own_strW hw) e1 hS hk (g := (mkF m 5 #[.val (.ref a), .val (.ref t), .val (.ref o), .val (.ref l0)] [(.ref t)])) rfl (hb hby own_d_prog_23_method_1_5) (n := 16) (by decide) (by decide) (by decide) (by decide)
  replace A_a := A_a.ext E2
  replace F_type := F_type.ext E2
  replace F_contentType := F_contentType.ext E2
  replace F_size := F_size.ext E2
  replace E_l := E_l.ext E2
  replace F_l := F_l.ext E2
  replace KP := KP.ext E2
  replace Z0 : n0 ≤ h2.size := Nat.le_trans Z0 E2.1
  replace hk := hk2
  refine Goes.step st2 ?_
  show Goes _ _ _ _ _ (T2.setTop (mkF m 7 #[.val (.ref a), .val (.ref t), .val (.ref o), .val (.ref l0)] [(.ref c2), (.ref t)]))
  obtain ⟨_, _, ⟨T3, L3, k3, n3⟩, -, X3, ⟨Lc3, hQ3, l3, y3, z3⟩, st3⟩ := Jvm.LawKit.callS X2 hx (y := (⟨"java/util/Objects", "requireNonNull", "(Ljava/lang/Object;Ljava/lang/String;)Ljava/lang/Object;"⟩ : MethodName)) hown (mvT hZ (hw _ (List.mem_of_getElem? (i := 39) rfl))) (mvT hZ (hw _ (List.mem_of_getElem? (i := 40) rfl))) (mvT hZ (hw _ (List.mem_of_getElem? (i := 41) rfl))) (mvT hZ (hw _ (List.mem_of_getElem? (i := 42) rfl))) (by decide) (backOf (W := 0) (rm_nn l Z a0 hw [] t c2 h2 n0 Z0) hZ (hw _ (List.mem_of_getElem? (i := 42) rfl)) (hw _ (List.mem_of_getElem? (i := 41) rfl)) (by decide) (by decide)) (g := (mkF m 7 #[.val (.ref a), .val (.ref t), .val (.ref o), .val (.ref l0)] [(.ref c2), (.ref t)])) rfl (by rw [hml]; rfl) (argsL := [(.ref t), (.ref c2)]) (rest := []) (lenOf own_pd1 rfl) rfl (by show 2 * 0 + _ ≤ _; exact Nat.le_of_eq rfl) (hb hby own_d_prog_23_method_1_7) (fun _ _ => ⟨rfl, e2, (by decide : 2 + 0 ≤ _), (by decide : 20 + 0 ≤ _)⟩)
  dsimp only [Pt.U, Pt.locs, Pt.cells, Pt.slots] at X3 l3 y3 z3 st3 hQ3
  subst l3 y3 z3
  obtain ⟨rfl, N3q, e3⟩ := hQ3
  have N3 := Fr.app N1 N3q
  refine Goes.step st3 ?_
  show Goes _ _ _ _ _ (T3.setTop (mkF m 10 #[.val (.ref a), .val (.ref t), .val (.ref o), .val (.ref l0)] [(.ref t)]))
  refine Goes.step (fun _ tk => XS.pop X3.here hx rfl (hb hby own_d_prog_23_method_1_10) rfl rfl tk) ?_
  show Goes _ _ _ _ _ (T3.setTop (mkF m 11 #[.val (.ref a), .val (.ref t), .val (.ref o), .val (.ref l0)] []))
  refine Goes.step (fun _ tk => XS.aloadN X3.here hx rfl (hb hby own_d_prog_23_method_1_11) rfl rfl tk) ?_
  show Goes _ _ _ _ _ (T3.setTop (mkF m 12 #[.val (.ref a), .val (.ref t), .val (.ref o), .val (.ref l0)] [(.ref o)]))
  obtain ⟨c4, T4, h4, kk4, X4, e4, E4, hS, hk4, hZ, hown, st4⟩ := ldcS X3 hx hZ hown (hw _ (List.mem_of_getElem? (i := 43) rfl)) (own_strW hw) e3 hS hk (g := (mkF m 12 #[.val (.ref a), .val (.ref t), .val (.ref o), .val (.ref l0)] [(.ref o)])) rfl (hb hby own_d_prog_23_method_1_12) (n := 44) (by decide) (by decide) (by decide) (by decide)
  replace A_a := A_a.ext E4
  replace F_type := F_type.ext E4
  replace F_contentType := F_contentType.ext E4
  replace F_size := F_size.ext E4
  replace E_l := E_l.ext E4
  replace F_l := F_l.ext E4
  replace KP := KP.ext E4
  replace Z0 : n0 ≤ h4.size := Nat.le_trans Z0 E4.1
  replace hk := hk4
  refine Goes.step st4 ?_
  show Goes _ _ _ _ _ (T4.setTop (mkF m 14 #[.val (.ref a), .val (.ref t), .val (.ref o), .val (.ref l0)] [(.ref c4), (.ref o)]))
  obtain ⟨_, _, ⟨T5, L5, k5, n5⟩, -, X5, ⟨Lc5, hQ5, l5, y5, z5⟩, st5⟩ := Jvm.LawKit.callS X4 hx (y := (⟨"java/util/Objects", "requireNonNull", "(Ljava/lang/Object;Ljava/lang/String;)Ljava/lang/Object;"⟩ : MethodName)) hown (mvT hZ (hw _ (List.mem_of_getElem? (i := 39) rfl))) (mvT hZ (hw _ (List.mem_of_getElem? (i := 40) rfl))) (mvT hZ (hw _ (List.mem_of_getElem? (i := 41) rfl))) (mvT hZ (hw _ (List.mem_of_getElem? (i := 42) rfl))) (by decide) (backOf (W := 0) (rm_nn l Z a0 hw [] o c4 h4 n0 Z0) hZ (hw _ (List.mem_of_getElem? (i := 42) rfl)) (hw _ (List.mem_of_getElem? (i := 41) rfl)) (by decide) (by decide)) (g := (mkF m 14 #[.val (.ref a), .val (.ref t), .val (.ref o), .val (.ref l0)] [(.ref c4), (.ref o)])) rfl (by rw [hml]; rfl) (argsL := [(.ref o), (.ref c4)]) (rest := []) (lenOf own_pd1 rfl) rfl (by show 2 * 0 + _ ≤ _; exact Nat.le_of_eq rfl) (hb hby own_d_prog_23_method_1_14) (fun _ _ => ⟨rfl, e4, (by decide : 4 + 0 ≤ _), (by decide : 68 + 0 ≤ _)⟩)
  dsimp only [Pt.U, Pt.locs, Pt.cells, Pt.slots] at X5 l5 y5 z5 st5 hQ5
  subst l5 y5 z5
  obtain ⟨rfl, N5q, e5⟩ := hQ5
  have N5 := Fr.app N3 N5q
  refine Goes.step st5 ?_
  show Goes _ _ _ _ _ (T5.setTop (mkF m 17 #[.val (.ref a), .val (.ref t), .val (.ref o), .val (.ref l0)] [(.ref o)]))
  refine Goes.step (fun _ tk => XS.pop X5.here hx rfl (hb hby own_d_prog_23_method_1_17) rfl rfl tk) ?_
  show Goes _ _ _ _ _ (T5.setTop (mkF m 18 #[.val (.ref a), .val (.ref t), .val (.ref o), .val (.ref l0)] []))
  refine Goes.step (fun _ tk => XS.aloadN X5.here hx rfl (hb hby own_d_prog_23_method_1_18) rfl rfl tk) ?_
  show Goes _ _ _ _ _ (T5.setTop (mkF m 19 #[.val (.ref a), .val (.ref t), .val (.ref o), .val (.ref l0)] [(.ref l0)]))
  obtain ⟨c6, T6, h6, kk6, X6, e6, E6, hS, hk6, hZ, hown, st6⟩ := ldcS X5 hx hZ hown (hw _ (List.mem_of_getElem? (i := 44) rfl)) (own_strW hw) e5 hS hk (g := (mkF m 19 #[.val (.ref a), .val (.ref t), .val (.ref o), .val (.ref l0)] [(.ref l0)])) rfl (hb hby own_d_prog_23_method_1_19) (n := 16) (by decide) (by decide) (by decide) (by decide)
  replace A_a := A_a.ext E6
  replace F_type := F_type.ext E6
  replace F_contentType := F_contentType.ext E6
  replace F_size := F_size.ext E6
  replace E_l := E_l.ext E6
  replace F_l := F_l.ext E6
  replace KP := KP.ext E6
  replace Z0 : n0 ≤ h6.size := Nat.le_trans Z0 E6.1
  replace hk := hk6
  refine Goes.step st6 ?_
  show Goes _ _ _ _ _ (T6.setTop (mkF m 21 #[.val (.ref a), .val (.ref t), .val (.ref o), .val (.ref l0)] [(.ref c6), (.ref l0)]))
  obtain ⟨_, _, ⟨T7, L7, k7, n7⟩, -, X7, ⟨Lc7, hQ7, l7, y7, z7⟩, st7⟩ := Jvm.LawKit.callS X6 hx (y := (⟨"java/util/Objects", "requireNonNull", "(Ljava/lang/Object;Ljava/lang/String;)Ljava/lang/Object;"⟩ : MethodName)) hown (mvT hZ (hw _ (List.mem_of_getElem? (i := 39) rfl))) (mvT hZ (hw _ (List.mem_of_getElem? (i := 40) rfl))) (mvT hZ (hw _ (List.mem_of_getElem? (i := 41) rfl))) (mvT hZ (hw _ (List.mem_of_getElem? (i := 42) rfl))) (by decide) (backOf (W := 0) (rm_nn l Z a0 hw [] l0 c6 h6 n0 Z0) hZ (hw _ (List.mem_of_getElem? (i := 42) rfl)) (hw _ (List.mem_of_getElem? (i := 41) rfl)) (by decide) (by decide)) (g := (mkF m 21 #[.val (.ref a), .val (.ref t), .val (.ref o), .val (.ref l0)] [(.ref c6), (.ref l0)])) rfl (by rw [hml]; rfl) (argsL := [(.ref l0), (.ref c6)]) (rest := []) (lenOf own_pd1 rfl) rfl (by show 2 * 0 + _ ≤ _; exact Nat.le_of_eq rfl) (hb hby own_d_prog_23_method_1_21) (fun _ _ => ⟨rfl, e6, (by decide : 6 + 0 ≤ _), (by decide : 88 + 0 ≤ _)⟩)
  dsimp only [Pt.U, Pt.locs, Pt.cells, Pt.slots] at X7 l7 y7 z7 st7 hQ7
  subst l7 y7 z7
  obtain ⟨rfl, N7q, e7⟩ := hQ7
  have N7 := Fr.app N5 N7q
  refine Goes.step st7 ?_
  show Goes _ _ _ _ _ (T7.setTop (mkF m 24 #[.val (.ref a), .val (.ref t), .val (.ref o), .val (.ref l0)] [(.ref l0)]))
  refine Goes.step (fun _ tk => XS.pop X7.here hx rfl (hb hby own_d_prog_23_method_1_24) rfl rfl tk) ?_
  show Goes _ _ _ _ _ (T7.setTop (mkF m 25 #[.val (.ref a), .val (.ref t), .val (.ref o), .val (.ref l0)] []))
  refine Goes.step (fun _ tk => XS.aloadN X7.here hx rfl (hb hby own_d_prog_23_method_1_25) rfl rfl tk) ?_
  show Goes _ _ _ _ _ (T7.setTop (mkF m 26 #[.val (.ref a), .val (.ref t), .val (.ref o), .val (.ref l0)] [(.ref l0)]))
  obtain ⟨cq8, kq8, q8a, q8b, q8c⟩ := isOf hZ e7 E_l
  obtain ⟨_, _, ⟨T8, L8, k8, n8⟩, -, X8, ⟨Lc8, hQ8, l8, y8, z8⟩, st8⟩ := X7.virtualBack hx (y := (⟨"java/util/OptionalLong", "isPresent", "()Z"⟩ : MethodName)) (z := (⟨"java/util/OptionalLong", "isPresent", "()Z"⟩ : MethodName)) hown (mvT hZ (hw _ (List.mem_of_getElem? (i := 45) rfl))) (mvT hZ (hw _ (List.mem_of_getElem? (i := 46) rfl))) (notFace_of_selects (args := #[]) (mvT hZ (hw _ (List.mem_of_getElem? (i := 48) rfl)))) (mvT hZ (hw _ (List.mem_of_getElem? (i := 48) rfl))) (mvT hZ (hw _ (List.mem_of_getElem? (i := 47) rfl))) (by decide) (backOf (W := 0) (rm_lpres l Z a0 hw [] l0 h6 n0 Z0 F_l) hZ (hw _ (List.mem_of_getElem? (i := 49) rfl)) (hw _ (List.mem_of_getElem? (i := 17) rfl)) (by decide) (by decide)) q8a q8c (g := (mkF m 26 #[.val (.ref a), .val (.ref t), .val (.ref o), .val (.ref l0)] [(.ref l0)])) rfl (by rw [hml]; rfl) (Steps.refl _) (argsL := []) (rest := []) (lenOf own_pd2 rfl) rfl (by show 2 * 0 + _ ≤ _; exact Nat.le_of_eq rfl) (hb hby own_d_prog_23_method_1_26) (fun _ _ => ⟨rfl, e7, (by decide : 6 + 0 ≤ _), (by decide : 88 + 0 ≤ _)⟩)
  dsimp only [Pt.U, Pt.locs, Pt.cells, Pt.slots] at X8 l8 y8 z8 st8 hQ8
  subst l8 y8 z8
  obtain ⟨rfl, N8q, e8⟩ := hQ8
  have N8 := Fr.app N7 N8q
  refine Goes.step (fun _ tk => st8.trans tk) ?_
  show Goes _ _ _ _ _ (T8.setTop (mkF m 29 #[.val (.ref a), .val (.ref t), .val (.ref o), .val (.ref l0)] [(.int (0 : Int32))]))
  refine Goes.step (fun _ tk => XS.ifYes X8.here hx rfl (pc0 := 29) (pc' := 58) rfl (hb hby own_d_prog_23_method_1_29) rfl ((if0 _ _).trans (teq (by decide : ((0 : Int32) = (0 : Int32)))).1) (by decide) (by decide) tk) ?_
  show Goes _ _ _ _ _ (T8.setTop (mkF m 58 #[.val (.ref a), .val (.ref t), .val (.ref o), .val (.ref l0)] []))
  refine Goes.step (fun _ tk => XS.aloadN X8.here hx rfl (hb hby own_d_prog_23_method_1_58) rfl rfl tk) ?_
  show Goes _ _ _ _ _ (T8.setTop (mkF m 59 #[.val (.ref a), .val (.ref t), .val (.ref o), .val (.ref l0)] [(.ref a)]))
  refine Goes.step (fun _ tk => XS.aloadN X8.here hx rfl (hb hby own_d_prog_23_method_1_59) rfl rfl tk) ?_
  show Goes _ _ _ _ _ (T8.setTop (mkF m 60 #[.val (.ref a), .val (.ref t), .val (.ref o), .val (.ref l0)] [(.ref t), (.ref a)]))
  obtain ⟨T9, h9, X9, e9, W9, st9⟩ := putF X8 hx hZ hown (host := "") (Or.inl (hw _ (List.mem_of_getElem? (i := 52) rfl))) Via.refl e8 F_type A_a (Or.inr ⟨(hw _ (List.mem_of_getElem? (i := 53) rfl)), rfl, hnm⟩) (hw _ (List.mem_of_getElem? (i := 9) rfl)) (ty := (.object "com/example/surfacemap/surfacemap/operations/Upload$Type")) (by decide) rfl rfl (g := (mkF m 60 #[.val (.ref a), .val (.ref t), .val (.ref o), .val (.ref l0)] [(.ref t), (.ref a)])) rfl rfl (hb hby own_d_prog_23_method_1_60)
  have N9 := Fr.snoc X9 N8 g_a
  replace A_a := A_a.wr W9
  replace F_contentType := F_contentType.other W9 (Or.inr (slot_ne (Or.inr (hw _ (List.mem_of_getElem? (i := 55) rfl))) (Or.inr (hw _ (List.mem_of_getElem? (i := 53) rfl))) (by decide) (t := (.object "java/util/Optional")) (t' := (.object "com/example/surfacemap/surfacemap/operations/Upload$Type")) (by decide) (by decide)))
  replace F_size := F_size.other W9 (Or.inr (slot_ne (Or.inr (hw _ (List.mem_of_getElem? (i := 57) rfl))) (Or.inr (hw _ (List.mem_of_getElem? (i := 53) rfl))) (by decide) (t := (.object "java/util/OptionalLong")) (t' := (.object "com/example/surfacemap/surfacemap/operations/Upload$Type")) (by decide) (by decide)))
  replace E_l := E_l.wr W9
  replace F_l := F_l.other W9 (Or.inl ne_l0_a)
  replace KP := KP.wr W9 (Or.inl (List.mem_of_getElem? (i := 0) rfl))
  replace F_type := F_type.same W9
  replace Z0 : n0 ≤ h9.size := by rw [W9.size]; exact Z0
  replace hk := Nat.le_trans hk (Nat.le_of_eq W9.size.symm)
  refine Goes.step st9 ?_
  show Goes _ _ _ _ _ (T9.setTop (mkF m 63 #[.val (.ref a), .val (.ref t), .val (.ref o), .val (.ref l0)] []))
  refine Goes.step (fun _ tk => XS.aloadN X9.here hx rfl (hb hby own_d_prog_23_method_1_63) rfl rfl tk) ?_
  show Goes _ _ _ _ _ (T9.setTop (mkF m 64 #[.val (.ref a), .val (.ref t), .val (.ref o), .val (.ref l0)] [(.ref a)]))
  refine Goes.step (fun _ tk => XS.aloadN X9.here hx rfl (hb hby own_d_prog_23_method_1_64) rfl rfl tk) ?_
  show Goes _ _ _ _ _ (T9.setTop (mkF m 65 #[.val (.ref a), .val (.ref t), .val (.ref o), .val (.ref l0)] [(.ref o), (.ref a)]))
  obtain ⟨T10, h10, X10, e10, W10, st10⟩ := putF X9 hx hZ hown (host := "") (Or.inl (hw _ (List.mem_of_getElem? (i := 54) rfl))) Via.refl e9 F_contentType A_a (Or.inr ⟨(hw _ (List.mem_of_getElem? (i := 55) rfl)), rfl, hnm⟩) (hw _ (List.mem_of_getElem? (i := 9) rfl)) (ty := (.object "java/util/Optional")) (by decide) rfl rfl (g := (mkF m 65 #[.val (.ref a), .val (.ref t), .val (.ref o), .val (.ref l0)] [(.ref o), (.ref a)])) rfl rfl (hb hby own_d_prog_23_method_1_65)
  have N10 := Fr.snoc X10 N9 g_a
  replace A_a := A_a.wr W10
  replace F_type := F_type.other W10 (Or.inr (slot_ne (Or.inr (hw _ (List.mem_of_getElem? (i := 53) rfl))) (Or.inr (hw _ (List.mem_of_getElem? (i := 55) rfl))) (by decide) (t := (.object "com/example/surfacemap/surfacemap/operations/Upload$Type")) (t' := (.object "java/util/Optional")) (by decide) (by decide)))
  replace F_size := F_size.other W10 (Or.inr (slot_ne (Or.inr (hw _ (List.mem_of_getElem? (i := 57) rfl))) (Or.inr (hw _ (List.mem_of_getElem? (i := 55) rfl))) (by decide) (t := (.object "java/util/OptionalLong")) (t' := (.object "java/util/Optional")) (by decide) (by decide)))
  replace E_l := E_l.wr W10
  replace F_l := F_l.other W10 (Or.inl ne_l0_a)
  replace KP := KP.wr W10 (Or.inl (List.mem_of_getElem? (i := 0) rfl))
  replace F_contentType := F_contentType.same W10
  replace Z0 : n0 ≤ h10.size := by rw [W10.size]; exact Z0
  replace hk := Nat.le_trans hk (Nat.le_of_eq W10.size.symm)
  refine Goes.step st10 ?_
  show Goes _ _ _ _ _ (T10.setTop (mkF m 68 #[.val (.ref a), .val (.ref t), .val (.ref o), .val (.ref l0)] []))
  refine Goes.step (fun _ tk => XS.aloadN X10.here hx rfl (hb hby own_d_prog_23_method_1_68) rfl rfl tk) ?_
  show Goes _ _ _ _ _ (T10.setTop (mkF m 69 #[.val (.ref a), .val (.ref t), .val (.ref o), .val (.ref l0)] [(.ref a)]))
  refine Goes.step (fun _ tk => XS.aloadN X10.here hx rfl (hb hby own_d_prog_23_method_1_69) rfl rfl tk) ?_
  show Goes _ _ _ _ _ (T10.setTop (mkF m 70 #[.val (.ref a), .val (.ref t), .val (.ref o), .val (.ref l0)] [(.ref l0), (.ref a)]))
  obtain ⟨T11, h11, X11, e11, W11, st11⟩ := putF X10 hx hZ hown (host := "") (Or.inl (hw _ (List.mem_of_getElem? (i := 56) rfl))) Via.refl e10 F_size A_a (Or.inr ⟨(hw _ (List.mem_of_getElem? (i := 57) rfl)), rfl, hnm⟩) (hw _ (List.mem_of_getElem? (i := 9) rfl)) (ty := (.object "java/util/OptionalLong")) (by decide) rfl rfl (g := (mkF m 70 #[.val (.ref a), .val (.ref t), .val (.ref o), .val (.ref l0)] [(.ref l0), (.ref a)])) rfl rfl (hb hby own_d_prog_23_method_1_70)
  have N11 := Fr.snoc X11 N10 g_a
  replace A_a := A_a.wr W11
  replace F_type := F_type.other W11 (Or.inr (slot_ne (Or.inr (hw _ (List.mem_of_getElem? (i := 53) rfl))) (Or.inr (hw _ (List.mem_of_getElem? (i := 57) rfl))) (by decide) (t := (.object "com/example/surfacemap/surfacemap/operations/Upload$Type")) (t' := (.object "java/util/OptionalLong")) (by decide) (by decide)))
  replace F_contentType := F_contentType.other W11 (Or.inr (slot_ne (Or.inr (hw _ (List.mem_of_getElem? (i := 55) rfl))) (Or.inr (hw _ (List.mem_of_getElem? (i := 57) rfl))) (by decide) (t := (.object "java/util/Optional")) (t' := (.object "java/util/OptionalLong")) (by decide) (by decide)))
  replace E_l := E_l.wr W11
  replace F_l := F_l.other W11 (Or.inl ne_l0_a)
  replace KP := KP.wr W11 (Or.inl (List.mem_of_getElem? (i := 0) rfl))
  replace F_size := F_size.same W11
  replace Z0 : n0 ≤ h11.size := by rw [W11.size]; exact Z0
  replace hk := Nat.le_trans hk (Nat.le_of_eq W11.size.symm)
  refine Goes.step st11 ?_
  show Goes _ _ _ _ _ (T11.setTop (mkF m 73 #[.val (.ref a), .val (.ref t), .val (.ref o), .val (.ref l0)] []))
  refine Goes.retW X11 hS (by rw [e11]; exact hk) none (fun _ => rfl) hlk (by decide) (by decide) ?_ (fun fs hr => ?_)
  · rw [e11]; exact ⟨rfl, N11, KP, A_a, F_type, F_contentType, F_size⟩
  · exact X11.returnOut hx Bd.returns (hb hby own_d_prog_23_method_1_73) hr
theorem own_d_prog_23_method_2_0 : decode prog_23_method_2_code 0 = .ok (.new 39, 3) := by decide +kernel
theorem own_d_prog_23_method_2_3 : decode prog_23_method_2_code 3 = .ok (.dup, 1) := by decide +kernel
theorem own_d_prog_23_method_2_4 : decode prog_23_method_2_code 4 = .ok (.aload_n 0, 1) := by decide +kernel
theorem own_d_prog_23_method_2_5 : decode prog_23_method_2_code 5 = .ok (.invokestatic 49, 3) := by decide +kernel
theorem own_pd3 : parseMethodDescriptor "()Ljava/util/Optional;" = some ⟨[], some (.object "java/util/Optional")⟩ := by decide +kernel
theorem own_d_prog_23_method_2_8 : decode prog_23_method_2_code 8 = .ok (.invokestatic 55, 3) := by decide +kernel
theorem own_pd4 : parseMethodDescriptor "()Ljava/util/OptionalLong;" = some ⟨[], some (.object "java/util/OptionalLong")⟩ := by decide +kernel
theorem own_d_prog_23_method_2_11 : decode prog_23_method_2_code 11 = .ok (.invokespecial 58, 3) := by decide +kernel
theorem own_pd5 : parseMethodDescriptor "(Lcom/example/surfacemap/surfacemap/operations/Upload$Type;Ljava/util/Optional;Ljava/util/OptionalLong;)V" = some ⟨[(.object "com/example/surfacemap/surfacemap/operations/Upload$Type"), (.object "java/util/Optional"), (.object "java/util/OptionalLong")], none⟩ := by decide +kernel
theorem own_d_prog_23_method_2_14 : decode prog_23_method_2_code 14 = .ok (.areturn, 1) := by decide +kernel
theorem own_ef_rm_of (m : MethodId) (x0 : Addr) : entryFrame m #[(.ref x0)] 1 = mkF m 0 #[.val (.ref x0)] [] := by first | (simp [entryFrame, mkF, argsToLocals, Value.category]; done) | rfl
def Q_rm_of (Z : State) (t : Addr) (o : Addr) (l0 : Addr) (h0 : Heap) (n0 : Nat) (v : Option Value) (h : Heap) (L : List Loc) : Prop := ∃ u : Addr, v = some (.ref u) ∧ Fr n0 L ∧ Keep h0 h [] ∧ n0 ≤ u ∧ Exa Z h u "com/example/surfacemap/surfacemap/operations/Upload" ∧ Fld Z h u "com/example/surfacemap/surfacemap/operations/Upload" "type" "Lcom/example/surfacemap/surfacemap/operations/Upload$Type;" (.ref t) ∧ Fld Z h u "com/example/surfacemap/surfacemap/operations/Upload" "contentType" "Ljava/util/Optional;" (.ref o) ∧ Fld Z h u "com/example/surfacemap/surfacemap/operations/Upload" "size" "Ljava/util/OptionalLong;" (.ref l0)
set_option maxRecDepth 65536 in
set_option maxHeartbeats 40000000 in
theorem rm_of (l : Launch) (Z : State) (a0 : Array Value) (hw : ∀ d ∈ tables_1, d.before a0 Z = true) (ws : List Jvm.Cond) (t : Addr) (o : Addr) (l0 : Addr) (h0 : Heap) (n0 : Nat) (Z0 : n0 ≤ h0.size) (S_o : Sta Z h0 "java/util/Optional" "EMPTY" "Ljava/util/Optional;" (.ref o)) (S_l : Sta Z h0 "java/util/OptionalLong" "EMPTY" "Ljava/util/OptionalLong;" (.ref l0)) (E_l : Exa Z h0 l0 "java/util/OptionalLong") (F_l : Fld Z h0 l0 "java/util/OptionalLong" "isPresent" "Z" (.int 0)) :
    MetW l Z (⟨"com/example/surfacemap/surfacemap/operations/Upload", "of", "(Lcom/example/surfacemap/surfacemap/operations/Upload$Type;)Lcom/example/surfacemap/surfacemap/operations/Upload;"⟩ : MethodName) prog_23_method_2_code 1 (some (.object "com/example/surfacemap/surfacemap/operations/Upload")) ({ frames := 3, cells := 7, slots := 91, locals := 40 } : Room) ws #[(.ref t)] h0 (Q_rm_of Z t o l0 h0 n0) := by
  refine MetFree.of_bodySF (plainFor_of_name own_pn0) hisR ?_
  intro p e s m args below meth c s₁ Bd hml0 hP hK
  obtain ⟨rfl, hZ, hh⟩ := hP
  have hx := Bd.exec
  have hby := Bd.bytes
  have hlk : meth.locks = false := BodyLoose.notSynchronized Bd
  have hml : c.maxLocals = 1 := hml0
  have hown : s.vm.findClass "com/example/surfacemap/surfacemap/operations/Upload" = some m.cls := findClass_of_methodNamed Bd.named
  have hnm := (name_of_methodNamed Bd.named Bd.method).1
  have X0 : Stand p l e ({ frames := 3, cells := 7, slots := 91, locals := 40 } : Room) (s.setVm s.vm) m #[(.ref t)] below meth c s₁ [] 0 0 := Stand.of_body Bd
  have e0 : s₁.heap = h0 := by rw [← hh, Bd.state]; rfl
  have N0 := Fr.nil n0
  have hS : s.Since s.vm h0.size := (State.WarmedH.refl s).since _
  have hk : h0.size ≤ h0.size := Nat.le_refl _
  replace hZ : Z.Warmed39 (s.setVm s.vm).vm := hZ
  replace hown : (s.setVm s.vm).vm.findClass "com/example/surfacemap/surfacemap/operations/Upload" = some m.cls := hown
  show Goes p e below (fun o u L => ReturnedEndW s o u L ({ frames := 3, cells := 7, slots := 91, locals := 40 } : Room).cells ({ frames := 3, cells := 7, slots := 91, locals := 40 } : Room).slots) (Q_rm_of Z t o l0 h0 n0) (s₁.setTop (entryFrame m #[(.ref t)] 1))
  refine Goes.step (fun _ tk => castTop (own_ef_rm_of m t) tk) ?_
  have KP : Keep h0 h0 [] := Keep.refl _ _
  show Goes _ _ _ _ _ (s₁.setTop (mkF m 0 #[.val (.ref t)] []))
  obtain ⟨T1, h1, X1, e1, E1, A1, D1, -, st1⟩ := newO X0 hx hZ hown (hw _ (List.mem_of_getElem? (i := 8) rfl)) (hw _ (List.mem_of_getElem? (i := 9) rfl)) (hw _ (List.mem_of_getElem? (i := 6) rfl)) e0 (g := (mkF m 0 #[.val (.ref t)] [])) rfl (hb hby own_d_prog_23_method_2_0) (by decide) (by decide)
  obtain ⟨b1, gq1⟩ : ∃ z, z = h0.size := ⟨_, rfl⟩
  rw [← gq1] at A1 st1 D1
  have g_b1 : n0 ≤ b1 := by rw [gq1]; exact Z0
  have sz_b1 : h0.size ≤ b1 := by rw [gq1]; exact KP.1
  have ne_l0_b1 : l0 ≠ b1 := by rw [gq1]; exact Nat.ne_of_lt E_l.lt
  replace S_o := S_o.ext E1
  replace S_l := S_l.ext E1
  replace E_l := E_l.ext E1
  replace F_l := F_l.ext E1
  replace KP := KP.ext E1
  replace Z0 : n0 ≤ h1.size := Nat.le_trans Z0 E1.1
  replace hk := Nat.le_trans hk E1.1
  have A_b1 : Exa Z h1 b1 "com/example/surfacemap/surfacemap/operations/Upload" := A1
  have F_type_b1 : Fld Z h1 b1 "com/example/surfacemap/surfacemap/operations/Upload" "type" "Lcom/example/surfacemap/surfacemap/operations/Upload$Type;" .null := D1 (Or.inr (hw _ (List.mem_of_getElem? (i := 53) rfl))) (ty := (.object "com/example/surfacemap/surfacemap/operations/Upload$Type")) (by decide)
  have F_contentType_b1 : Fld Z h1 b1 "com/example/surfacemap/surfacemap/operations/Upload" "contentType" "Ljava/util/Optional;" .null := D1 (Or.inr (hw _ (List.mem_of_getElem? (i := 55) rfl))) (ty := (.object "java/util/Optional")) (by decide)
  have F_size_b1 : Fld Z h1 b1 "com/example/surfacemap/surfacemap/operations/Upload" "size" "Ljava/util/OptionalLong;" .null := D1 (Or.inr (hw _ (List.mem_of_getElem? (i := 57) rfl))) (ty := (.object "java/util/OptionalLong")) (by decide)
  refine Goes.step st1 ?_
  show Goes _ _ _ _ _ (T1.setTop (mkF m 3 #[.val (.ref t)] [(.ref b1)]))
  refine Goes.step (fun _ tk => XS.dup X1.here hx rfl (hb hby own_d_prog_23_method_2_3) rfl rfl tk) ?_
  show Goes _ _ _ _ _ (T1.setTop (mkF m 4 #[.val (.ref t)] [(.ref b1), (.ref b1)]))
  refine Goes.step (fun _ tk => XS.aloadN X1.here hx rfl (hb hby own_d_prog_23_method_2_4) rfl rfl tk) ?_
  show Goes _ _ _ _ _ (T1.setTop (mkF m 5 #[.val (.ref t)] [(.ref t), (.ref b1), (.ref b1)]))
  obtain ⟨_, _, ⟨T2, L2, k2, n2⟩, -, X2, ⟨Lc2, hQ2, l2, y2, z2⟩, st2⟩ := Jvm.LawKit.callS X1 hx (y := (⟨"java/util/Optional", "empty", "()Ljava/util/Optional;"⟩ : MethodName)) hown (mvT hZ (hw _ (List.mem_of_getElem? (i := 10) rfl))) (mvT hZ (hw _ (List.mem_of_getElem? (i := 11) rfl))) (mvT hZ (hw _ (List.mem_of_getElem? (i := 12) rfl))) (mvT hZ (hw _ (List.mem_of_getElem? (i := 13) rfl))) (by decide) (backOf (W := 3) (rm_oe l Z a0 hw [] o h1 n0 Z0 S_o) hZ (hw _ (List.mem_of_getElem? (i := 13) rfl)) (hw _ (List.mem_of_getElem? (i := 12) rfl)) (by decide) (by decide)) (g := (mkF m 5 #[.val (.ref t)] [(.ref t), (.ref b1), (.ref b1)])) rfl (by rw [hml]; rfl) (argsL := []) (rest := [(.ref t), (.ref b1), (.ref b1)]) (lenOf own_pd3 rfl) rfl (by show 2 * 0 + _ ≤ _; exact Nat.le_of_eq rfl) (hb hby own_d_prog_23_method_2_5) (fun _ _ => ⟨rfl, e1, (by decide : 1 + 0 ≤ _), (by decide : 3 + 0 ≤ _)⟩)
  dsimp only [Pt.U, Pt.locs, Pt.cells, Pt.slots] at X2 l2 y2 z2 st2 hQ2
  subst l2 y2 z2
  obtain ⟨rfl, N2q, e2⟩ := hQ2
  have N2 := Fr.app N0 N2q
  refine Goes.step st2 ?_
  show Goes _ _ _ _ _ (T2.setTop (mkF m 8 #[.val (.ref t)] [(.ref o), (.ref t), (.ref b1), (.ref b1)]))
  obtain ⟨_, _, ⟨T3, L3, k3, n3⟩, -, X3, ⟨Lc3, hQ3, l3, y3, z3⟩, st3⟩ := Jvm.LawKit.callS X2 hx (y := (⟨"java/util/OptionalLong", "empty", "()Ljava/util/OptionalLong;"⟩ : MethodName)) hown (mvT hZ (hw _ (List.mem_of_getElem? (i := 15) rfl))) (mvT hZ (hw _ (List.mem_of_getElem? (i := 16) rfl))) (mvT hZ (hw _ (List.mem_of_getElem? (i := 17) rfl))) (mvT hZ (hw _ (List.mem_of_getElem? (i := 18) rfl))) (by decide) (backOf (W := 4) (rm_le l Z a0 hw [] l0 h1 n0 Z0 S_l) hZ (hw _ (List.mem_of_getElem? (i := 18) rfl)) (hw _ (List.mem_of_getElem? (i := 17) rfl)) (by decide) (by decide)) (g := (mkF m 8 #[.val (.ref t)] [(.ref o), (.ref t), (.ref b1), (.ref b1)])) rfl (by rw [hml]; rfl) (argsL := []) (rest := [(.ref o), (.ref t), (.ref b1), (.ref b1)]) (lenOf own_pd4 rfl) rfl (by show 2 * 0 + _ ≤ _; exact Nat.le_of_eq rfl) (hb hby own_d_prog_23_method_2_8) (fun _ _ => ⟨rfl, e2, (by decide : 1 + 0 ≤ _), (by decide : 3 + 0 ≤ _)⟩)
  dsimp only [Pt.U, Pt.locs, Pt.cells, Pt.slots] at X3 l3 y3 z3 st3 hQ3
  subst l3 y3 z3
  obtain ⟨rfl, N3q, e3⟩ := hQ3
  have N3 := Fr.app N2 N3q
  refine Goes.step st3 ?_
  show Goes _ _ _ _ _ (T3.setTop (mkF m 11 #[.val (.ref t)] [(.ref l0), (.ref o), (.ref t), (.ref b1), (.ref b1)]))
  obtain ⟨_, _, ⟨T4, L4, k4, n4⟩, -, X4, hS4, gr4, ⟨Lc4, hQ4, l4, y4, z4⟩, st4⟩ := X3.specialBackS hx (y := (⟨"com/example/surfacemap/surfacemap/operations/Upload", "<init>", "(Lcom/example/surfacemap/surfacemap/operations/Upload$Type;Ljava/util/Optional;Ljava/util/OptionalLong;)V"⟩ : MethodName)) rfl hown (mvT hZ (hw _ (List.mem_of_getElem? (i := 20) rfl))) (mvT hZ (hw _ (List.mem_of_getElem? (i := 21) rfl))) (mvT hZ (hw _ (List.mem_of_getElem? (i := 22) rfl))) (by decide) (backOfS (W := 1) (rm_init l Z a0 hw [] b1 t o l0 h1 n0 Z0 A_b1 F_type_b1 F_contentType_b1 F_size_b1 E_l F_l g_b1 ne_l0_b1) hZ (hw _ (List.mem_of_getElem? (i := 22) rfl)) (hw _ (List.mem_of_getElem? (i := 6) rfl)) (by decide) (by decide)) (g := (mkF m 11 #[.val (.ref t)] [(.ref l0), (.ref o), (.ref t), (.ref b1), (.ref b1)])) rfl (by rw [hml]; rfl) (Steps.refl _) (a := b1) (argsL := [(.ref t), (.ref o), (.ref l0)]) (rest := [(.ref b1)]) (lenOf own_pd5 rfl) rfl (by show 2 * 0 + _ ≤ _; exact Nat.le_of_eq rfl) (hb hby own_d_prog_23_method_2_11) (fun _ _ => ⟨rfl, e3, (by decide : 1 + 6 ≤ _), (by decide : 3 + 88 ≤ _)⟩)
  dsimp only [Pt.U, Pt.locs, Pt.cells, Pt.slots] at X4 l4 y4 z4 st4 hQ4 hS4 gr4
  subst l4 y4 z4
  obtain ⟨X4, hS, hZ, hown⟩ := rebS hS hk X4 hS4 (by have q := gr4; rw [e3] at q; exact q) hZ hown
  replace hk : T4.heap.size ≤ T4.heap.size := Nat.le_refl _
  obtain ⟨rfl, N4q, K4, A_u, F_type, F_contentType, F_size⟩ := hQ4
  have N4 := Fr.app N3 N4q
  replace E_l := E_l.keep K4
  replace F_l := F_l.keep K4 (ninS ne_l0_b1 nin0)
  replace KP := KP.trans K4 (allS (Or.inr sz_b1) all0)
  replace Z0 := Nat.le_trans Z0 K4.1
  refine Goes.step (fun _ tk => st4.trans tk) ?_
  show Goes _ _ _ _ _ (T4.setTop (mkF m 14 #[.val (.ref t)] [(.ref b1)]))
  refine Goes.retW X4 hS hk (some (.ref b1)) (fun h => by rw [Bd.returns] at h; cases h) hlk (by decide) (by decide) ?_ (fun fs hr => ?_)
  · exact ⟨b1, rfl, N4, KP, g_b1, A_u, F_type, F_contentType, F_size⟩
  · exact own_retA X4 hx Bd.returns rfl rfl (hb hby own_d_prog_23_method_2_14) hr
theorem own_pd6 : parseMethodDescriptor "(Lcom/example/surfacemap/surfacemap/operations/Upload$Type;)Lcom/example/surfacemap/surfacemap/operations/Upload;" = some ⟨[(.object "com/example/surfacemap/surfacemap/operations/Upload$Type")], some (.object "com/example/surfacemap/surfacemap/operations/Upload")⟩ := by decide +kernel
theorem own_pd7 : parseMethodDescriptor "()Lcom/example/surfacemap/surfacemap/operations/Upload$Type;" = some ⟨[], some (.object "com/example/surfacemap/surfacemap/operations/Upload$Type")⟩ := by decide +kernel
theorem own_pn5 : plainName "com/example/surfacemap/surfacemap/operations/UploadOfPinLaw" = true := by first | (simp [plainName, overriddenIn]; done) | decide +kernel
theorem own_ef_rm_law (m : MethodId) (x0 : Int32) : entryFrame m #[(.int x0)] maxLocals = mkF m 0 #[.val (.int x0), .unset, .unset, .unset] [] := by first | (simp [entryFrame, mkF, argsToLocals, Value.category, maxLocals]; done) | rfl
def Q_rm_law (Z : State) (x0 : Int32) (w0 : Addr) (w1 : Addr) (w2 : Addr) (o : Addr) (l0 : Addr) (h0 : Heap) (n0 : Nat) (v : Option Value) (h : Heap) (L : List Loc) : Prop := v = some (.int 1) ∧ Fr n0 L
set_option maxRecDepth 65536 in
set_option maxHeartbeats 40000000 in
theorem rm_law (l : Launch) (Z : State) (a0 : Array Value) (hw : ∀ d ∈ tables_1, d.before a0 Z = true) (ws : List Jvm.Cond) (x0 : Int32) (w0 : Addr) (w1 : Addr) (w2 : Addr) (o : Addr) (l0 : Addr) (h0 : Heap) (n0 : Nat) (Z0 : n0 ≤ h0.size) (S0 : Sta Z h0 "com/example/surfacemap/surfacemap/operations/Upload$Type" "MEDIA" "Lcom/example/surfacemap/surfacemap/operations/Upload$Type;" (.ref w0)) (S1 : Sta Z h0 "com/example/surfacemap/surfacemap/operations/Upload$Type" "MULTIPART" "Lcom/example/surfacemap/surfacemap/operations/Upload$Type;" (.ref w1)) (S2 : Sta Z h0 "com/example/surfacemap/surfacemap/operations/Upload$Type" "RESUMABLE" "Lcom/example/surfacemap/surfacemap/operations/Upload$Type;" (.ref w2)) (S_o : Sta Z h0 "java/util/Optional" "EMPTY" "Ljava/util/Optional;" (.ref o)) (S_l : Sta Z h0 "java/util/OptionalLong" "EMPTY" "Ljava/util/OptionalLong;" (.ref l0)) (E_o : Exa Z h0 o "java/util/Optional") (F_o : Fld Z h0 o "java/util/Optional" "value" "Ljava/lang/Object;" .null) (E_l : Exa Z h0 l0 "java/util/OptionalLong") (F_l : Fld Z h0 l0 "java/util/OptionalLong" "isPresent" "Z" (.int 0)) :
    MetW l Z x code maxLocals ret room_1 ws #[(.int x0)] h0 (Q_rm_law Z x0 w0 w1 w2 o l0 h0 n0) := by
  refine MetFree.of_bodySF (plainFor_of_name own_pn5) hisR ?_
  intro p e s m args below meth c s₁ Bd hml0 hP hK
  obtain ⟨rfl, hZ, hh⟩ := hP
  have hx := Bd.exec
  have hby := Bd.bytes
  have hlk : meth.locks = false := BodyLoose.notSynchronized Bd
  have hml : c.maxLocals = 4 := hml0
  have hown : s.vm.findClass "com/example/surfacemap/surfacemap/operations/UploadOfPinLaw" = some m.cls := findClass_of_methodNamed Bd.named
  have hnm := (name_of_methodNamed Bd.named Bd.method).1
  have X0 : Stand p l e room_1 (s.setVm s.vm) m #[(.int x0)] below meth c s₁ [] 0 0 := Stand.of_body Bd
  have e0 : s₁.heap = h0 := by rw [← hh, Bd.state]; rfl
  have N0 := Fr.nil n0
  have hS : s.Since s.vm h0.size := (State.WarmedH.refl s).since _
  have hk : h0.size ≤ h0.size := Nat.le_refl _
  replace hZ : Z.Warmed39 (s.setVm s.vm).vm := hZ
  replace hown : (s.setVm s.vm).vm.findClass "com/example/surfacemap/surfacemap/operations/UploadOfPinLaw" = some m.cls := hown
  show Goes p e below (fun o u L => ReturnedEndW s o u L room_1.cells room_1.slots) (Q_rm_law Z x0 w0 w1 w2 o l0 h0 n0) (s₁.setTop (entryFrame m #[(.int x0)] maxLocals))
  refine Goes.step (fun _ tk => castTop (own_ef_rm_law m x0) tk) ?_
  show Goes _ _ _ _ _ (s₁.setTop (mkF m 0 #[.val (.int x0), .unset, .unset, .unset] []))
  refine Goes.step (fun _ tk => XS.iloadN X0.here hx rfl (hb hby at_0) rfl tk) ?_
  show Goes _ _ _ _ _ (s₁.setTop (mkF m 1 #[.val (.int x0), .unset, .unset, .unset] [(.int x0)]))
  refine Goes.step (fun _ tk => Jvm.Stand.ldcI X0 hx hown (mvT hZ (hw _ (List.mem_of_getElem? (i := 0) rfl))) rfl (hb hby at_1) tk) ?_
  show Goes _ _ _ _ _ (s₁.setTop (mkF m 3 #[.val (.int x0), .unset, .unset, .unset] [(.int (2147483647 : Int32)), (.int x0)]))
  refine Goes.step (fun _ tk => XS.iand X0.here hx rfl (hb hby at_3) rfl tk) ?_
  show Goes _ _ _ _ _ (s₁.setTop (mkF m 4 #[.val (.int x0), .unset, .unset, .unset] [(.int (x0 &&& (2147483647 : Int32)))]))
  refine Goes.step (fun _ tk => XS.iconst X0.here hx rfl (hb hby at_4) tk) ?_
  show Goes _ _ _ _ _ (s₁.setTop (mkF m 5 #[.val (.int x0), .unset, .unset, .unset] [(.int (3 : Int32)), (.int (x0 &&& (2147483647 : Int32)))]))
  refine Goes.step (fun _ tk => XS.irem X0.here hx rfl (hb hby at_5) rfl (by decide) tk) ?_
  rw [Jvm.irem_eq_mod]
  show Goes _ _ _ _ _ (s₁.setTop (mkF m 6 #[.val (.int x0), .unset, .unset, .unset] [(.int ((x0 &&& (2147483647 : Int32)) % (3 : Int32)))]))
  generalize hr : ((x0 &&& (2147483647 : Int32)) % (3 : Int32)) = r
  show Goes _ _ _ _ _ (s₁.setTop (mkF m 6 #[.val (.int x0), .unset, .unset, .unset] [(.int r)]))
  refine Goes.step (fun _ tk => XS.istoreN X0.here hx rfl (hb hby at_6) rfl (l' := #[.val (.int x0), .val (.int r), .unset, .unset]) rfl tk) ?_
  show Goes _ _ _ _ _ (s₁.setTop (mkF m 7 #[.val (.int x0), .val (.int r), .unset, .unset] []))
  refine Goes.step (fun _ tk => XS.iloadN X0.here hx rfl (hb hby at_7) rfl tk) ?_
  show Goes _ _ _ _ _ (s₁.setTop (mkF m 8 #[.val (.int x0), .val (.int r), .unset, .unset] [(.int r)]))
  by_cases hc8_1 : r = (0 : Int32)
  · refine Goes.step (fun _ tk => XS.ifNo X0.here hx rfl (hb hby at_8) rfl ((if0 _ _).trans (teq hc8_1).2) tk) ?_
    show Goes _ _ _ _ _ (s₁.setTop (mkF m 11 #[.val (.int x0), .val (.int r), .unset, .unset] []))
    obtain ⟨T2, X2, e2, st2⟩ := getS2 X0 hx hZ hown (host := "") (Or.inl (hw _ (List.mem_of_getElem? (i := 1) rfl))) Via.refl e0 S0 (g := (mkF m 11 #[.val (.int x0), .val (.int r), .unset, .unset] [])) rfl (hb hby at_11)
    refine Goes.step st2 ?_
    show Goes _ _ _ _ _ (T2.setTop (mkF m 14 #[.val (.int x0), .val (.int r), .unset, .unset] [(.ref w0)]))
    refine Goes.step (fun _ tk => XS.astoreN X2.here hx rfl (hb hby at_14) rfl rfl (l' := #[.val (.int x0), .val (.int r), .val (.ref w0), .unset]) rfl tk) ?_
    show Goes _ _ _ _ _ (T2.setTop (mkF m 15 #[.val (.int x0), .val (.int r), .val (.ref w0), .unset] []))
    refine Goes.step (fun _ tk => XS.goto X2.here hx rfl (pc0 := 15) (pc' := 34) rfl (hb hby at_15) (by decide) (by decide) tk) ?_
    show Goes _ _ _ _ _ (T2.setTop (mkF m 34 #[.val (.int x0), .val (.int r), .val (.ref w0), .unset] []))
    refine Goes.step (fun _ tk => XS.aloadN X2.here hx rfl (hb hby at_34) rfl rfl tk) ?_
    show Goes _ _ _ _ _ (T2.setTop (mkF m 35 #[.val (.int x0), .val (.int r), .val (.ref w0), .unset] [(.ref w0)]))
    obtain ⟨_, _, ⟨T3, L3, k3, n3⟩, -, X3, hS3, gr3, ⟨Lc3, hQ3, l3, y3, z3⟩, st3⟩ := callSS X2 hx (y := (⟨"com/example/surfacemap/surfacemap/operations/Upload", "of", "(Lcom/example/surfacemap/surfacemap/operations/Upload$Type;)Lcom/example/surfacemap/surfacemap/operations/Upload;"⟩ : MethodName)) hown (mvT hZ (hw _ (List.mem_of_getElem? (i := 4) rfl))) (mvT hZ (hw _ (List.mem_of_getElem? (i := 5) rfl))) (mvT hZ (hw _ (List.mem_of_getElem? (i := 6) rfl))) (mvT hZ (hw _ (List.mem_of_getElem? (i := 7) rfl))) (by decide) (backOfS (W := 0) (rm_of l Z a0 hw [] w0 o l0 h0 n0 Z0 S_o S_l E_l F_l) hZ (hw _ (List.mem_of_getElem? (i := 7) rfl)) (hw _ (List.mem_of_getElem? (i := 6) rfl)) (by decide) (by decide)) (g := (mkF m 35 #[.val (.int x0), .val (.int r), .val (.ref w0), .unset] [(.ref w0)])) rfl (by rw [hml]; rfl) (argsL := [(.ref w0)]) (rest := []) (lenOf own_pd6 rfl) rfl (by show 2 * 0 + _ ≤ _; exact Nat.le_of_eq rfl) (hb hby at_35) (fun _ _ => ⟨rfl, e2, (by decide : 0 + 7 ≤ _), (by decide : 0 + 91 ≤ _)⟩)
    dsimp only [Pt.U, Pt.locs, Pt.cells, Pt.slots] at X3 l3 y3 z3 st3 hQ3 hS3 gr3
    subst l3 y3 z3
    obtain ⟨X3, hS, hZ, hown⟩ := rebS hS hk X3 hS3 (by have q := gr3; rw [e2] at q; exact q) hZ hown
    replace hk : T3.heap.size ≤ T3.heap.size := Nat.le_refl _
    obtain ⟨u, rfl, N3q, K3, g_u, A_u, F_type, F_contentType, F_size⟩ := hQ3
    have N3 := Fr.app N0 N3q
    replace E_o := E_o.keep K3
    replace F_o := F_o.keep K3 nin0
    replace E_l := E_l.keep K3
    replace F_l := F_l.keep K3 nin0
    replace Z0 := Nat.le_trans Z0 K3.1
    refine Goes.step (fun _ tk => st3.trans tk) ?_
    show Goes _ _ _ _ _ (T3.setTop (mkF m 38 #[.val (.int x0), .val (.int r), .val (.ref w0), .unset] [(.ref u)]))
    refine Goes.step (fun _ tk => XS.astoreN X3.here hx rfl (hb hby at_38) rfl rfl (l' := #[.val (.int x0), .val (.int r), .val (.ref w0), .val (.ref u)]) rfl tk) ?_
    show Goes _ _ _ _ _ (T3.setTop (mkF m 39 #[.val (.int x0), .val (.int r), .val (.ref w0), .val (.ref u)] []))
    refine Goes.step (fun _ tk => XS.aloadN X3.here hx rfl (hb hby at_39) rfl rfl tk) ?_
    show Goes _ _ _ _ _ (T3.setTop (mkF m 40 #[.val (.int x0), .val (.int r), .val (.ref w0), .val (.ref u)] [(.ref u)]))
    obtain ⟨cq4, kq4, q4a, q4b, q4c⟩ := isOf hZ rfl A_u
    obtain ⟨_, _, ⟨T4, L4, k4, n4⟩, -, X4, ⟨Lc4, hQ4, l4, y4, z4⟩, st4⟩ := X3.virtualBack hx (y := (⟨"com/example/surfacemap/surfacemap/operations/Upload", "type", "()Lcom/example/surfacemap/surfacemap/operations/Upload$Type;"⟩ : MethodName)) (z := (⟨"com/example/surfacemap/surfacemap/operations/Upload", "type", "()Lcom/example/surfacemap/surfacemap/operations/Upload$Type;"⟩ : MethodName)) hown (mvT hZ (hw _ (List.mem_of_getElem? (i := 58) rfl))) (mvT hZ (hw _ (List.mem_of_getElem? (i := 59) rfl))) (notFace_of_selects (args := #[]) (mvT hZ (hw _ (List.mem_of_getElem? (i := 61) rfl)))) (mvT hZ (hw _ (List.mem_of_getElem? (i := 61) rfl))) (mvT hZ (hw _ (List.mem_of_getElem? (i := 60) rfl))) (by decide) (backOf (W := 0) (rm_type l Z a0 hw [] u w0 T3.heap n0 Z0 F_type) hZ (hw _ (List.mem_of_getElem? (i := 62) rfl)) (hw _ (List.mem_of_getElem? (i := 6) rfl)) (by decide) (by decide)) q4a q4c (g := (mkF m 40 #[.val (.int x0), .val (.int r), .val (.ref w0), .val (.ref u)] [(.ref u)])) rfl (by rw [hml]; rfl) (Steps.refl _) (argsL := []) (rest := []) (lenOf own_pd7 rfl) rfl (by show 2 * 0 + _ ≤ _; exact Nat.le_of_eq rfl) (hb hby at_40) (fun _ _ => ⟨rfl, rfl, (by decide : 7 + 0 ≤ _), (by decide : 91 + 0 ≤ _)⟩)
    dsimp only [Pt.U, Pt.locs, Pt.cells, Pt.slots] at X4 l4 y4 z4 st4 hQ4
    subst l4 y4 z4
    obtain ⟨rfl, N4q, e4⟩ := hQ4
    have N4 := Fr.app N3 N4q
    refine Goes.step (fun _ tk => st4.trans tk) ?_
    show Goes _ _ _ _ _ (T4.setTop (mkF m 43 #[.val (.int x0), .val (.int r), .val (.ref w0), .val (.ref u)] [(.ref w0)]))
    refine Goes.step (fun _ tk => XS.aloadN X4.here hx rfl (hb hby at_43) rfl rfl tk) ?_
    show Goes _ _ _ _ _ (T4.setTop (mkF m 44 #[.val (.int x0), .val (.int r), .val (.ref w0), .val (.ref u)] [(.ref w0), (.ref w0)]))
    refine Goes.step (fun _ tk => Jvm.RoadKit.acmp (g := (mkF m 44 #[.val (.int x0), .val (.int r), .val (.ref w0), .val (.ref u)] [(.ref w0), (.ref w0)])) X4 hx rfl rfl rfl (pc0 := 44) (pc' := 47) (same := true) rfl (hb hby at_44) rfl (decide_eq_true (congrArg Value.ref rfl)) (by decide) (by decide) tk) ?_
    show Goes _ _ _ _ _ (T4.setTop (mkF m 47 #[.val (.int x0), .val (.int r), .val (.ref w0), .val (.ref u)] []))
    refine Goes.step (fun _ tk => XS.aloadN X4.here hx rfl (hb hby at_47) rfl rfl tk) ?_
    show Goes _ _ _ _ _ (T4.setTop (mkF m 48 #[.val (.int x0), .val (.int r), .val (.ref w0), .val (.ref u)] [(.ref u)]))
    obtain ⟨cq5, kq5, q5a, q5b, q5c⟩ := isOf hZ e4 A_u
    obtain ⟨_, _, ⟨T5, L5, k5, n5⟩, -, X5, ⟨Lc5, hQ5, l5, y5, z5⟩, st5⟩ := X4.virtualBack hx (y := (⟨"com/example/surfacemap/surfacemap/operations/Upload", "contentType", "()Ljava/util/Optional;"⟩ : MethodName)) (z := (⟨"com/example/surfacemap/surfacemap/operations/Upload", "contentType", "()Ljava/util/Optional;"⟩ : MethodName)) hown (mvT hZ (hw _ (List.mem_of_getElem? (i := 63) rfl))) (mvT hZ (hw _ (List.mem_of_getElem? (i := 64) rfl))) (notFace_of_selects (args := #[]) (mvT hZ (hw _ (List.mem_of_getElem? (i := 66) rfl)))) (mvT hZ (hw _ (List.mem_of_getElem? (i := 66) rfl))) (mvT hZ (hw _ (List.mem_of_getElem? (i := 65) rfl))) (by decide) (backOf (W := 0) (rm_ct l Z a0 hw [] u o T3.heap n0 Z0 F_contentType) hZ (hw _ (List.mem_of_getElem? (i := 67) rfl)) (hw _ (List.mem_of_getElem? (i := 6) rfl)) (by decide) (by decide)) q5a q5c (g := (mkF m 48 #[.val (.int x0), .val (.int r), .val (.ref w0), .val (.ref u)] [(.ref u)])) rfl (by rw [hml]; rfl) (Steps.refl _) (argsL := []) (rest := []) (lenOf own_pd3 rfl) rfl (by show 2 * 0 + _ ≤ _; exact Nat.le_of_eq rfl) (hb hby at_48) (fun _ _ => ⟨rfl, e4, (by decide : 7 + 0 ≤ _), (by decide : 91 + 0 ≤ _)⟩)
    dsimp only [Pt.U, Pt.locs, Pt.cells, Pt.slots] at X5 l5 y5 z5 st5 hQ5
    subst l5 y5 z5
    obtain ⟨rfl, N5q, e5⟩ := hQ5
    have N5 := Fr.app N4 N5q
    refine Goes.step (fun _ tk => st5.trans tk) ?_
    show Goes _ _ _ _ _ (T5.setTop (mkF m 51 #[.val (.int x0), .val (.int r), .val (.ref w0), .val (.ref u)] [(.ref o)]))
    obtain ⟨cq6, kq6, q6a, q6b, q6c⟩ := isOf hZ e5 E_o
    obtain ⟨_, _, ⟨T6, L6, k6, n6⟩, -, X6, ⟨Lc6, hQ6, l6, y6, z6⟩, st6⟩ := X5.virtualBack hx (y := (⟨"java/util/Optional", "isPresent", "()Z"⟩ : MethodName)) (z := (⟨"java/util/Optional", "isPresent", "()Z"⟩ : MethodName)) hown (mvT hZ (hw _ (List.mem_of_getElem? (i := 68) rfl))) (mvT hZ (hw _ (List.mem_of_getElem? (i := 69) rfl))) (notFace_of_selects (args := #[]) (mvT hZ (hw _ (List.mem_of_getElem? (i := 71) rfl)))) (mvT hZ (hw _ (List.mem_of_getElem? (i := 71) rfl))) (mvT hZ (hw _ (List.mem_of_getElem? (i := 70) rfl))) (by decide) (backOf (W := 0) (rm_opres l Z a0 hw [] o T3.heap n0 Z0 F_o) hZ (hw _ (List.mem_of_getElem? (i := 72) rfl)) (hw _ (List.mem_of_getElem? (i := 12) rfl)) (by decide) (by decide)) q6a q6c (g := (mkF m 51 #[.val (.int x0), .val (.int r), .val (.ref w0), .val (.ref u)] [(.ref o)])) rfl (by rw [hml]; rfl) (Steps.refl _) (argsL := []) (rest := []) (lenOf own_pd2 rfl) rfl (by show 2 * 0 + _ ≤ _; exact Nat.le_of_eq rfl) (hb hby at_51) (fun _ _ => ⟨rfl, e5, (by decide : 7 + 0 ≤ _), (by decide : 91 + 0 ≤ _)⟩)
    dsimp only [Pt.U, Pt.locs, Pt.cells, Pt.slots] at X6 l6 y6 z6 st6 hQ6
    subst l6 y6 z6
    obtain ⟨rfl, N6q, e6⟩ := hQ6
    have N6 := Fr.app N5 N6q
    refine Goes.step (fun _ tk => st6.trans tk) ?_
    show Goes _ _ _ _ _ (T6.setTop (mkF m 54 #[.val (.int x0), .val (.int r), .val (.ref w0), .val (.ref u)] [(.int (0 : Int32))]))
    refine Goes.step (fun _ tk => XS.ifNo X6.here hx rfl (hb hby at_54) rfl ((if0 _ _).trans (teq (by decide : ((0 : Int32) = (0 : Int32)))).2) tk) ?_
    show Goes _ _ _ _ _ (T6.setTop (mkF m 57 #[.val (.int x0), .val (.int r), .val (.ref w0), .val (.ref u)] []))
    refine Goes.step (fun _ tk => XS.aloadN X6.here hx rfl (hb hby at_57) rfl rfl tk) ?_
    show Goes _ _ _ _ _ (T6.setTop (mkF m 58 #[.val (.int x0), .val (.int r), .val (.ref w0), .val (.ref u)] [(.ref u)]))
    obtain ⟨cq7, kq7, q7a, q7b, q7c⟩ := isOf hZ e6 A_u
    obtain ⟨_, _, ⟨T7, L7, k7, n7⟩, -, X7, ⟨Lc7, hQ7, l7, y7, z7⟩, st7⟩ := X6.virtualBack hx (y := (⟨"com/example/surfacemap/surfacemap/operations/Upload", "size", "()Ljava/util/OptionalLong;"⟩ : MethodName)) (z := (⟨"com/example/surfacemap/surfacemap/operations/Upload", "size", "()Ljava/util/OptionalLong;"⟩ : MethodName)) hown (mvT hZ (hw _ (List.mem_of_getElem? (i := 75) rfl))) (mvT hZ (hw _ (List.mem_of_getElem? (i := 76) rfl))) (notFace_of_selects (args := #[]) (mvT hZ (hw _ (List.mem_of_getElem? (i := 78) rfl)))) (mvT hZ (hw _ (List.mem_of_getElem? (i := 78) rfl))) (mvT hZ (hw _ (List.mem_of_getElem? (i := 77) rfl))) (by decide) (backOf (W := 0) (rm_size l Z a0 hw [] u l0 T3.heap n0 Z0 F_size) hZ (hw _ (List.mem_of_getElem? (i := 79) rfl)) (hw _ (List.mem_of_getElem? (i := 6) rfl)) (by decide) (by decide)) q7a q7c (g := (mkF m 58 #[.val (.int x0), .val (.int r), .val (.ref w0), .val (.ref u)] [(.ref u)])) rfl (by rw [hml]; rfl) (Steps.refl _) (argsL := []) (rest := []) (lenOf own_pd4 rfl) rfl (by show 2 * 0 + _ ≤ _; exact Nat.le_of_eq rfl) (hb hby at_58) (fun _ _ => ⟨rfl, e6, (by decide : 7 + 0 ≤ _), (by decide : 91 + 0 ≤ _)⟩)
    dsimp only [Pt.U, Pt.locs, Pt.cells, Pt.slots] at X7 l7 y7 z7 st7 hQ7
    subst l7 y7 z7
    obtain ⟨rfl, N7q, e7⟩ := hQ7
    have N7 := Fr.app N6 N7q
    refine Goes.step (fun _ tk => st7.trans tk) ?_
    show Goes _ _ _ _ _ (T7.setTop (mkF m 61 #[.val (.int x0), .val (.int r), .val (.ref w0), .val (.ref u)] [(.ref l0)]))
    obtain ⟨cq8, kq8, q8a, q8b, q8c⟩ := isOf hZ e7 E_l
    obtain ⟨_, _, ⟨T8, L8, k8, n8⟩, -, X8, ⟨Lc8, hQ8, l8, y8, z8⟩, st8⟩ := X7.virtualBack hx (y := (⟨"java/util/OptionalLong", "isPresent", "()Z"⟩ : MethodName)) (z := (⟨"java/util/OptionalLong", "isPresent", "()Z"⟩ : MethodName)) hown (mvT hZ (hw _ (List.mem_of_getElem? (i := 80) rfl))) (mvT hZ (hw _ (List.mem_of_getElem? (i := 46) rfl))) (notFace_of_selects (args := #[]) (mvT hZ (hw _ (List.mem_of_getElem? (i := 48) rfl)))) (mvT hZ (hw _ (List.mem_of_getElem? (i := 48) rfl))) (mvT hZ (hw _ (List.mem_of_getElem? (i := 47) rfl))) (by decide) (backOf (W := 0) (rm_lpres l Z a0 hw [] l0 T3.heap n0 Z0 F_l) hZ (hw _ (List.mem_of_getElem? (i := 49) rfl)) (hw _ (List.mem_of_getElem? (i := 17) rfl)) (by decide) (by decide)) q8a q8c (g := (mkF m 61 #[.val (.int x0), .val (.int r), .val (.ref w0), .val (.ref u)] [(.ref l0)])) rfl (by rw [hml]; rfl) (Steps.refl _) (argsL := []) (rest := []) (lenOf own_pd2 rfl) rfl (by show 2 * 0 + _ ≤ _; exact Nat.le_of_eq rfl) (hb hby at_61) (fun _ _ => ⟨rfl, e7, (by decide : 7 + 0 ≤ _), (by decide : 91 + 0 ≤ _)⟩)
    dsimp only [Pt.U, Pt.locs, Pt.cells, Pt.slots] at X8 l8 y8 z8 st8 hQ8
    subst l8 y8 z8
    obtain ⟨rfl, N8q, e8⟩ := hQ8
    have N8 := Fr.app N7 N8q
    refine Goes.step (fun _ tk => st8.trans tk) ?_
    show Goes _ _ _ _ _ (T8.setTop (mkF m 64 #[.val (.int x0), .val (.int r), .val (.ref w0), .val (.ref u)] [(.int (0 : Int32))]))
    refine Goes.step (fun _ tk => XS.ifNo X8.here hx rfl (hb hby at_64) rfl ((if0 _ _).trans (teq (by decide : ((0 : Int32) = (0 : Int32)))).2) tk) ?_
    show Goes _ _ _ _ _ (T8.setTop (mkF m 67 #[.val (.int x0), .val (.int r), .val (.ref w0), .val (.ref u)] []))
    refine Goes.step (fun _ tk => XS.iconst X8.here hx rfl (hb hby at_67) tk) ?_
    show Goes _ _ _ _ _ (T8.setTop (mkF m 68 #[.val (.int x0), .val (.int r), .val (.ref w0), .val (.ref u)] [(.int (1 : Int32))]))
    refine Goes.step (fun _ tk => XS.goto X8.here hx rfl (pc0 := 68) (pc' := 72) rfl (hb hby at_68) (by decide) (by decide) tk) ?_
    show Goes _ _ _ _ _ (T8.setTop (mkF m 72 #[.val (.int x0), .val (.int r), .val (.ref w0), .val (.ref u)] [(.int (1 : Int32))]))
    refine Goes.retW X8 hS (by rw [e8]; exact hk) (some (.int (1 : Int32))) (fun h => by rw [Bd.returns] at h; cases h) hlk (by decide) (by decide) ?_ (fun fs hr => ?_)
    · exact ⟨rfl, N8⟩
    · exact own_retN X8 hx (t := .boolean) Bd.returns (by simp) rfl (hb hby at_72) hr
  · refine Goes.step (fun _ tk => XS.ifYes X0.here hx rfl (pc0 := 8) (pc' := 18) rfl (hb hby at_8) rfl ((if0 _ _).trans (feq hc8_1).2) (by decide) (by decide) tk) ?_
    show Goes _ _ _ _ _ (s₁.setTop (mkF m 18 #[.val (.int x0), .val (.int r), .unset, .unset] []))
    refine Goes.step (fun _ tk => XS.iloadN X0.here hx rfl (hb hby at_18) rfl tk) ?_
    show Goes _ _ _ _ _ (s₁.setTop (mkF m 19 #[.val (.int x0), .val (.int r), .unset, .unset] [(.int r)]))
    refine Goes.step (fun _ tk => XS.iconst X0.here hx rfl (hb hby at_19) tk) ?_
    show Goes _ _ _ _ _ (s₁.setTop (mkF m 20 #[.val (.int x0), .val (.int r), .unset, .unset] [(.int (1 : Int32)), (.int r)]))
    by_cases hc20_9 : r = (1 : Int32)
    · refine Goes.step (fun _ tk => XS.icmpNo X0.here hx rfl (hb hby at_20) rfl (teq hc20_9).2 tk) ?_
      show Goes _ _ _ _ _ (s₁.setTop (mkF m 23 #[.val (.int x0), .val (.int r), .unset, .unset] []))
      obtain ⟨T10, X10, e10, st10⟩ := getS2 X0 hx hZ hown (host := "") (Or.inl (hw _ (List.mem_of_getElem? (i := 83) rfl))) Via.refl e0 S1 (g := (mkF m 23 #[.val (.int x0), .val (.int r), .unset, .unset] [])) rfl (hb hby at_23)
      refine Goes.step st10 ?_
      show Goes _ _ _ _ _ (T10.setTop (mkF m 26 #[.val (.int x0), .val (.int r), .unset, .unset] [(.ref w1)]))
      refine Goes.step (fun _ tk => XS.astoreN X10.here hx rfl (hb hby at_26) rfl rfl (l' := #[.val (.int x0), .val (.int r), .val (.ref w1), .unset]) rfl tk) ?_
      show Goes _ _ _ _ _ (T10.setTop (mkF m 27 #[.val (.int x0), .val (.int r), .val (.ref w1), .unset] []))
      refine Goes.step (fun _ tk => XS.goto X10.here hx rfl (pc0 := 27) (pc' := 34) rfl (hb hby at_27) (by decide) (by decide) tk) ?_
      show Goes _ _ _ _ _ (T10.setTop (mkF m 34 #[.val (.int x0), .val (.int r), .val (.ref w1), .unset] []))
      refine Goes.step (fun _ tk => XS.aloadN X10.here hx rfl (hb hby at_34) rfl rfl tk) ?_
      show Goes _ _ _ _ _ (T10.setTop (mkF m 35 #[.val (.int x0), .val (.int r), .val (.ref w1), .unset] [(.ref w1)]))
      obtain ⟨_, _, ⟨T11, L11, k11, n11⟩, -, X11, hS11, gr11, ⟨Lc11, hQ11, l11, y11, z11⟩, st11⟩ := callSS X10 hx (y := (⟨"com/example/surfacemap/surfacemap/operations/Upload", "of", "(Lcom/example/surfacemap/surfacemap/operations/Upload$Type;)Lcom/example/surfacemap/surfacemap/operations/Upload;"⟩ : MethodName)) hown (mvT hZ (hw _ (List.mem_of_getElem? (i := 4) rfl))) (mvT hZ (hw _ (List.mem_of_getElem? (i := 5) rfl))) (mvT hZ (hw _ (List.mem_of_getElem? (i := 6) rfl))) (mvT hZ (hw _ (List.mem_of_getElem? (i := 7) rfl))) (by decide) (backOfS (W := 0) (rm_of l Z a0 hw [] w1 o l0 h0 n0 Z0 S_o S_l E_l F_l) hZ (hw _ (List.mem_of_getElem? (i := 7) rfl)) (hw _ (List.mem_of_getElem? (i := 6) rfl)) (by decide) (by decide)) (g := (mkF m 35 #[.val (.int x0), .val (.int r), .val (.ref w1), .unset] [(.ref w1)])) rfl (by rw [hml]; rfl) (argsL := [(.ref w1)]) (rest := []) (lenOf own_pd6 rfl) rfl (by show 2 * 0 + _ ≤ _; exact Nat.le_of_eq rfl) (hb hby at_35) (fun _ _ => ⟨rfl, e10, (by decide : 0 + 7 ≤ _), (by decide : 0 + 91 ≤ _)⟩)
      dsimp only [Pt.U, Pt.locs, Pt.cells, Pt.slots] at X11 l11 y11 z11 st11 hQ11 hS11 gr11
      subst l11 y11 z11
      obtain ⟨X11, hS, hZ, hown⟩ := rebS hS hk X11 hS11 (by have q := gr11; rw [e10] at q; exact q) hZ hown
      replace hk : T11.heap.size ≤ T11.heap.size := Nat.le_refl _
      obtain ⟨u, rfl, N11q, K11, g_u, A_u, F_type, F_contentType, F_size⟩ := hQ11
      have N11 := Fr.app N0 N11q
      replace E_o := E_o.keep K11
      replace F_o := F_o.keep K11 nin0
      replace E_l := E_l.keep K11
      replace F_l := F_l.keep K11 nin0
      replace Z0 := Nat.le_trans Z0 K11.1
      refine Goes.step (fun _ tk => st11.trans tk) ?_
      show Goes _ _ _ _ _ (T11.setTop (mkF m 38 #[.val (.int x0), .val (.int r), .val (.ref w1), .unset] [(.ref u)]))
      refine Goes.step (fun _ tk => XS.astoreN X11.here hx rfl (hb hby at_38) rfl rfl (l' := #[.val (.int x0), .val (.int r), .val (.ref w1), .val (.ref u)]) rfl tk) ?_
      show Goes _ _ _ _ _ (T11.setTop (mkF m 39 #[.val (.int x0), .val (.int r), .val (.ref w1), .val (.ref u)] []))
      refine Goes.step (fun _ tk => XS.aloadN X11.here hx rfl (hb hby at_39) rfl rfl tk) ?_
      show Goes _ _ _ _ _ (T11.setTop (mkF m 40 #[.val (.int x0), .val (.int r), .val (.ref w1), .val (.ref u)] [(.ref u)]))
      obtain ⟨cq12, kq12, q12a, q12b, q12c⟩ := isOf hZ rfl A_u
      obtain ⟨_, _, ⟨T12, L12, k12, n12⟩, -, X12, ⟨Lc12, hQ12, l12, y12, z12⟩, st12⟩ := X11.virtualBack hx (y := (⟨"com/example/surfacemap/surfacemap/operations/Upload", "type", "()Lcom/example/surfacemap/surfacemap/operations/Upload$Type;"⟩ : MethodName)) (z := (⟨"com/example/surfacemap/surfacemap/operations/Upload", "type", "()Lcom/example/surfacemap/surfacemap/operations/Upload$Type;"⟩ : MethodName)) hown (mvT hZ (hw _ (List.mem_of_getElem? (i := 58) rfl))) (mvT hZ (hw _ (List.mem_of_getElem? (i := 59) rfl))) (notFace_of_selects (args := #[]) (mvT hZ (hw _ (List.mem_of_getElem? (i := 61) rfl)))) (mvT hZ (hw _ (List.mem_of_getElem? (i := 61) rfl))) (mvT hZ (hw _ (List.mem_of_getElem? (i := 60) rfl))) (by decide) (backOf (W := 0) (rm_type l Z a0 hw [] u w1 T11.heap n0 Z0 F_type) hZ (hw _ (List.mem_of_getElem? (i := 62) rfl)) (hw _ (List.mem_of_getElem? (i := 6) rfl)) (by decide) (by decide)) q12a q12c (g := (mkF m 40 #[.val (.int x0), .val (.int r), .val (.ref w1), .val (.ref u)] [(.ref u)])) rfl (by rw [hml]; rfl) (Steps.refl _) (argsL := []) (rest := []) (lenOf own_pd7 rfl) rfl (by show 2 * 0 + _ ≤ _; exact Nat.le_of_eq rfl) (hb hby at_40) (fun _ _ => ⟨rfl, rfl, (by decide : 7 + 0 ≤ _), (by decide : 91 + 0 ≤ _)⟩)
      dsimp only [Pt.U, Pt.locs, Pt.cells, Pt.slots] at X12 l12 y12 z12 st12 hQ12
      subst l12 y12 z12
      obtain ⟨rfl, N12q, e12⟩ := hQ12
      have N12 := Fr.app N11 N12q
      refine Goes.step (fun _ tk => st12.trans tk) ?_
      show Goes _ _ _ _ _ (T12.setTop (mkF m 43 #[.val (.int x0), .val (.int r), .val (.ref w1), .val (.ref u)] [(.ref w1)]))
      refine Goes.step (fun _ tk => XS.aloadN X12.here hx rfl (hb hby at_43) rfl rfl tk) ?_
      show Goes _ _ _ _ _ (T12.setTop (mkF m 44 #[.val (.int x0), .val (.int r), .val (.ref w1), .val (.ref u)] [(.ref w1), (.ref w1)]))
      refine Goes.step (fun _ tk => Jvm.RoadKit.acmp (g := (mkF m 44 #[.val (.int x0), .val (.int r), .val (.ref w1), .val (.ref u)] [(.ref w1), (.ref w1)])) X12 hx rfl rfl rfl (pc0 := 44) (pc' := 47) (same := true) rfl (hb hby at_44) rfl (decide_eq_true (congrArg Value.ref rfl)) (by decide) (by decide) tk) ?_
      show Goes _ _ _ _ _ (T12.setTop (mkF m 47 #[.val (.int x0), .val (.int r), .val (.ref w1), .val (.ref u)] []))
      refine Goes.step (fun _ tk => XS.aloadN X12.here hx rfl (hb hby at_47) rfl rfl tk) ?_
      show Goes _ _ _ _ _ (T12.setTop (mkF m 48 #[.val (.int x0), .val (.int r), .val (.ref w1), .val (.ref u)] [(.ref u)]))
      obtain ⟨cq13, kq13, q13a, q13b, q13c⟩ := isOf hZ e12 A_u
      obtain ⟨_, _, ⟨T13, L13, k13, n13⟩, -, X13, ⟨Lc13, hQ13, l13, y13, z13⟩, st13⟩ := X12.virtualBack hx (y := (⟨"com/example/surfacemap/surfacemap/operations/Upload", "contentType", "()Ljava/util/Optional;"⟩ : MethodName)) (z := (⟨"com/example/surfacemap/surfacemap/operations/Upload", "contentType", "()Ljava/util/Optional;"⟩ : MethodName)) hown (mvT hZ (hw _ (List.mem_of_getElem? (i := 63) rfl))) (mvT hZ (hw _ (List.mem_of_getElem? (i := 64) rfl))) (notFace_of_selects (args := #[]) (mvT hZ (hw _ (List.mem_of_getElem? (i := 66) rfl)))) (mvT hZ (hw _ (List.mem_of_getElem? (i := 66) rfl))) (mvT hZ (hw _ (List.mem_of_getElem? (i := 65) rfl))) (by decide) (backOf (W := 0) (rm_ct l Z a0 hw [] u o T11.heap n0 Z0 F_contentType) hZ (hw _ (List.mem_of_getElem? (i := 67) rfl)) (hw _ (List.mem_of_getElem? (i := 6) rfl)) (by decide) (by decide)) q13a q13c (g := (mkF m 48 #[.val (.int x0), .val (.int r), .val (.ref w1), .val (.ref u)] [(.ref u)])) rfl (by rw [hml]; rfl) (Steps.refl _) (argsL := []) (rest := []) (lenOf own_pd3 rfl) rfl (by show 2 * 0 + _ ≤ _; exact Nat.le_of_eq rfl) (hb hby at_48) (fun _ _ => ⟨rfl, e12, (by decide : 7 + 0 ≤ _), (by decide : 91 + 0 ≤ _)⟩)
      dsimp only [Pt.U, Pt.locs, Pt.cells, Pt.slots] at X13 l13 y13 z13 st13 hQ13
      subst l13 y13 z13
      obtain ⟨rfl, N13q, e13⟩ := hQ13
      have N13 := Fr.app N12 N13q
      refine Goes.step (fun _ tk => st13.trans tk) ?_
      show Goes _ _ _ _ _ (T13.setTop (mkF m 51 #[.val (.int x0), .val (.int r), .val (.ref w1), .val (.ref u)] [(.ref o)]))
      obtain ⟨cq14, kq14, q14a, q14b, q14c⟩ := isOf hZ e13 E_o
      obtain ⟨_, _, ⟨T14, L14, k14, n14⟩, -, X14, ⟨Lc14, hQ14, l14, y14, z14⟩, st14⟩ := X13.virtualBack hx (y := (⟨"java/util/Optional", "isPresent", "()Z"⟩ : MethodName)) (z := (⟨"java/util/Optional", "isPresent", "()Z"⟩ : MethodName)) hown (mvT hZ (hw _ (List.mem_of_getElem? (i := 68) rfl))) (mvT hZ (hw _ (List.mem_of_getElem? (i := 69) rfl))) (notFace_of_selects (args := #[]) (mvT hZ (hw _ (List.mem_of_getElem? (i := 71) rfl)))) (mvT hZ (hw _ (List.mem_of_getElem? (i := 71) rfl))) (mvT hZ (hw _ (List.mem_of_getElem? (i := 70) rfl))) (by decide) (backOf (W := 0) (rm_opres l Z a0 hw [] o T11.heap n0 Z0 F_o) hZ (hw _ (List.mem_of_getElem? (i := 72) rfl)) (hw _ (List.mem_of_getElem? (i := 12) rfl)) (by decide) (by decide)) q14a q14c (g := (mkF m 51 #[.val (.int x0), .val (.int r), .val (.ref w1), .val (.ref u)] [(.ref o)])) rfl (by rw [hml]; rfl) (Steps.refl _) (argsL := []) (rest := []) (lenOf own_pd2 rfl) rfl (by show 2 * 0 + _ ≤ _; exact Nat.le_of_eq rfl) (hb hby at_51) (fun _ _ => ⟨rfl, e13, (by decide : 7 + 0 ≤ _), (by decide : 91 + 0 ≤ _)⟩)
      dsimp only [Pt.U, Pt.locs, Pt.cells, Pt.slots] at X14 l14 y14 z14 st14 hQ14
      subst l14 y14 z14
      obtain ⟨rfl, N14q, e14⟩ := hQ14
      have N14 := Fr.app N13 N14q
      refine Goes.step (fun _ tk => st14.trans tk) ?_
      show Goes _ _ _ _ _ (T14.setTop (mkF m 54 #[.val (.int x0), .val (.int r), .val (.ref w1), .val (.ref u)] [(.int (0 : Int32))]))
      refine Goes.step (fun _ tk => XS.ifNo X14.here hx rfl (hb hby at_54) rfl ((if0 _ _).trans (teq (by decide : ((0 : Int32) = (0 : Int32)))).2) tk) ?_
      show Goes _ _ _ _ _ (T14.setTop (mkF m 57 #[.val (.int x0), .val (.int r), .val (.ref w1), .val (.ref u)] []))
      refine Goes.step (fun _ tk => XS.aloadN X14.here hx rfl (hb hby at_57) rfl rfl tk) ?_
      show Goes _ _ _ _ _ (T14.setTop (mkF m 58 #[.val (.int x0), .val (.int r), .val (.ref w1), .val (.ref u)] [(.ref u)]))
      obtain ⟨cq15, kq15, q15a, q15b, q15c⟩ := isOf hZ e14 A_u
      obtain ⟨_, _, ⟨T15, L15, k15, n15⟩, -, X15, ⟨Lc15, hQ15, l15, y15, z15⟩, st15⟩ := X14.virtualBack hx (y := (⟨"com/example/surfacemap/surfacemap/operations/Upload", "size", "()Ljava/util/OptionalLong;"⟩ : MethodName)) (z := (⟨"com/example/surfacemap/surfacemap/operations/Upload", "size", "()Ljava/util/OptionalLong;"⟩ : MethodName)) hown (mvT hZ (hw _ (List.mem_of_getElem? (i := 75) rfl))) (mvT hZ (hw _ (List.mem_of_getElem? (i := 76) rfl))) (notFace_of_selects (args := #[]) (mvT hZ (hw _ (List.mem_of_getElem? (i := 78) rfl)))) (mvT hZ (hw _ (List.mem_of_getElem? (i := 78) rfl))) (mvT hZ (hw _ (List.mem_of_getElem? (i := 77) rfl))) (by decide) (backOf (W := 0) (rm_size l Z a0 hw [] u l0 T11.heap n0 Z0 F_size) hZ (hw _ (List.mem_of_getElem? (i := 79) rfl)) (hw _ (List.mem_of_getElem? (i := 6) rfl)) (by decide) (by decide)) q15a q15c (g := (mkF m 58 #[.val (.int x0), .val (.int r), .val (.ref w1), .val (.ref u)] [(.ref u)])) rfl (by rw [hml]; rfl) (Steps.refl _) (argsL := []) (rest := []) (lenOf own_pd4 rfl) rfl (by show 2 * 0 + _ ≤ _; exact Nat.le_of_eq rfl) (hb hby at_58) (fun _ _ => ⟨rfl, e14, (by decide : 7 + 0 ≤ _), (by decide : 91 + 0 ≤ _)⟩)
      dsimp only [Pt.U, Pt.locs, Pt.cells, Pt.slots] at X15 l15 y15 z15 st15 hQ15
      subst l15 y15 z15
      obtain ⟨rfl, N15q, e15⟩ := hQ15
      have N15 := Fr.app N14 N15q
      refine Goes.step (fun _ tk => st15.trans tk) ?_
      show Goes _ _ _ _ _ (T15.setTop (mkF m 61 #[.val (.int x0), .val (.int r), .val (.ref w1), .val (.ref u)] [(.ref l0)]))
      obtain ⟨cq16, kq16, q16a, q16b, q16c⟩ := isOf hZ e15 E_l
      obtain ⟨_, _, ⟨T16, L16, k16, n16⟩, -, X16, ⟨Lc16, hQ16, l16, y16, z16⟩, st16⟩ := X15.virtualBack hx (y := (⟨"java/util/OptionalLong", "isPresent", "()Z"⟩ : MethodName)) (z := (⟨"java/util/OptionalLong", "isPresent", "()Z"⟩ : MethodName)) hown (mvT hZ (hw _ (List.mem_of_getElem? (i := 80) rfl))) (mvT hZ (hw _ (List.mem_of_getElem? (i := 46) rfl))) (notFace_of_selects (args := #[]) (mvT hZ (hw _ (List.mem_of_getElem? (i := 48) rfl)))) (mvT hZ (hw _ (List.mem_of_getElem? (i := 48) rfl))) (mvT hZ (hw _ (List.mem_of_getElem? (i := 47) rfl))) (by decide) (backOf (W := 0) (rm_lpres l Z a0 hw [] l0 T11.heap n0 Z0 F_l) hZ (hw _ (List.mem_of_getElem? (i := 49) rfl)) (hw _ (List.mem_of_getElem? (i := 17) rfl)) (by decide) (by decide)) q16a q16c (g := (mkF m 61 #[.val (.int x0), .val (.int r), .val (.ref w1), .val (.ref u)] [(.ref l0)])) rfl (by rw [hml]; rfl) (Steps.refl _) (argsL := []) (rest := []) (lenOf own_pd2 rfl) rfl (by show 2 * 0 + _ ≤ _; exact Nat.le_of_eq rfl) (hb hby at_61) (fun _ _ => ⟨rfl, e15, (by decide : 7 + 0 ≤ _), (by decide : 91 + 0 ≤ _)⟩)
      dsimp only [Pt.U, Pt.locs, Pt.cells, Pt.slots] at X16 l16 y16 z16 st16 hQ16
      subst l16 y16 z16
      obtain ⟨rfl, N16q, e16⟩ := hQ16
      have N16 := Fr.app N15 N16q
      refine Goes.step (fun _ tk => st16.trans tk) ?_
      show Goes _ _ _ _ _ (T16.setTop (mkF m 64 #[.val (.int x0), .val (.int r), .val (.ref w1), .val (.ref u)] [(.int (0 : Int32))]))
      refine Goes.step (fun _ tk => XS.ifNo X16.here hx rfl (hb hby at_64) rfl ((if0 _ _).trans (teq (by decide : ((0 : Int32) = (0 : Int32)))).2) tk) ?_
      show Goes _ _ _ _ _ (T16.setTop (mkF m 67 #[.val (.int x0), .val (.int r), .val (.ref w1), .val (.ref u)] []))
      refine Goes.step (fun _ tk => XS.iconst X16.here hx rfl (hb hby at_67) tk) ?_
      show Goes _ _ _ _ _ (T16.setTop (mkF m 68 #[.val (.int x0), .val (.int r), .val (.ref w1), .val (.ref u)] [(.int (1 : Int32))]))
      refine Goes.step (fun _ tk => XS.goto X16.here hx rfl (pc0 := 68) (pc' := 72) rfl (hb hby at_68) (by decide) (by decide) tk) ?_
      show Goes _ _ _ _ _ (T16.setTop (mkF m 72 #[.val (.int x0), .val (.int r), .val (.ref w1), .val (.ref u)] [(.int (1 : Int32))]))
      refine Goes.retW X16 hS (by rw [e16]; exact hk) (some (.int (1 : Int32))) (fun h => by rw [Bd.returns] at h; cases h) hlk (by decide) (by decide) ?_ (fun fs hr => ?_)
      · exact ⟨rfl, N16⟩
      · exact own_retN X16 hx (t := .boolean) Bd.returns (by simp) rfl (hb hby at_72) hr
    · refine Goes.step (fun _ tk => XS.icmpYes X0.here hx rfl (pc0 := 20) (pc' := 30) rfl (hb hby at_20) rfl (feq hc20_9).2 (by decide) (by decide) tk) ?_
      show Goes _ _ _ _ _ (s₁.setTop (mkF m 30 #[.val (.int x0), .val (.int r), .unset, .unset] []))
      obtain ⟨T17, X17, e17, st17⟩ := getS2 X0 hx hZ hown (host := "") (Or.inl (hw _ (List.mem_of_getElem? (i := 81) rfl))) Via.refl e0 S2 (g := (mkF m 30 #[.val (.int x0), .val (.int r), .unset, .unset] [])) rfl (hb hby at_30)
      refine Goes.step st17 ?_
      show Goes _ _ _ _ _ (T17.setTop (mkF m 33 #[.val (.int x0), .val (.int r), .unset, .unset] [(.ref w2)]))
      refine Goes.step (fun _ tk => XS.astoreN X17.here hx rfl (hb hby at_33) rfl rfl (l' := #[.val (.int x0), .val (.int r), .val (.ref w2), .unset]) rfl tk) ?_
      show Goes _ _ _ _ _ (T17.setTop (mkF m 34 #[.val (.int x0), .val (.int r), .val (.ref w2), .unset] []))
      refine Goes.step (fun _ tk => XS.aloadN X17.here hx rfl (hb hby at_34) rfl rfl tk) ?_
      show Goes _ _ _ _ _ (T17.setTop (mkF m 35 #[.val (.int x0), .val (.int r), .val (.ref w2), .unset] [(.ref w2)]))
      obtain ⟨_, _, ⟨T18, L18, k18, n18⟩, -, X18, hS18, gr18, ⟨Lc18, hQ18, l18, y18, z18⟩, st18⟩ := callSS X17 hx (y := (⟨"com/example/surfacemap/surfacemap/operations/Upload", "of", "(Lcom/example/surfacemap/surfacemap/operations/Upload$Type;)Lcom/example/surfacemap/surfacemap/operations/Upload;"⟩ : MethodName)) hown (mvT hZ (hw _ (List.mem_of_getElem? (i := 4) rfl))) (mvT hZ (hw _ (List.mem_of_getElem? (i := 5) rfl))) (mvT hZ (hw _ (List.mem_of_getElem? (i := 6) rfl))) (mvT hZ (hw _ (List.mem_of_getElem? (i := 7) rfl))) (by decide) (backOfS (W := 0) (rm_of l Z a0 hw [] w2 o l0 h0 n0 Z0 S_o S_l E_l F_l) hZ (hw _ (List.mem_of_getElem? (i := 7) rfl)) (hw _ (List.mem_of_getElem? (i := 6) rfl)) (by decide) (by decide)) (g := (mkF m 35 #[.val (.int x0), .val (.int r), .val (.ref w2), .unset] [(.ref w2)])) rfl (by rw [hml]; rfl) (argsL := [(.ref w2)]) (rest := []) (lenOf own_pd6 rfl) rfl (by show 2 * 0 + _ ≤ _; exact Nat.le_of_eq rfl) (hb hby at_35) (fun _ _ => ⟨rfl, e17, (by decide : 0 + 7 ≤ _), (by decide : 0 + 91 ≤ _)⟩)
      dsimp only [Pt.U, Pt.locs, Pt.cells, Pt.slots] at X18 l18 y18 z18 st18 hQ18 hS18 gr18
      subst l18 y18 z18
      obtain ⟨X18, hS, hZ, hown⟩ := rebS hS hk X18 hS18 (by have q := gr18; rw [e17] at q; exact q) hZ hown
      replace hk : T18.heap.size ≤ T18.heap.size := Nat.le_refl _
      obtain ⟨u, rfl, N18q, K18, g_u, A_u, F_type, F_contentType, F_size⟩ := hQ18
      have N18 := Fr.app N0 N18q
      replace E_o := E_o.keep K18
      replace F_o := F_o.keep K18 nin0
      replace E_l := E_l.keep K18
      replace F_l := F_l.keep K18 nin0
      replace Z0 := Nat.le_trans Z0 K18.1
      refine Goes.step (fun _ tk => st18.trans tk) ?_
      show Goes _ _ _ _ _ (T18.setTop (mkF m 38 #[.val (.int x0), .val (.int r), .val (.ref w2), .unset] [(.ref u)]))
      refine Goes.step (fun _ tk => XS.astoreN X18.here hx rfl (hb hby at_38) rfl rfl (l' := #[.val (.int x0), .val (.int r), .val (.ref w2), .val (.ref u)]) rfl tk) ?_
      show Goes _ _ _ _ _ (T18.setTop (mkF m 39 #[.val (.int x0), .val (.int r), .val (.ref w2), .val (.ref u)] []))
      refine Goes.step (fun _ tk => XS.aloadN X18.here hx rfl (hb hby at_39) rfl rfl tk) ?_
      show Goes _ _ _ _ _ (T18.setTop (mkF m 40 #[.val (.int x0), .val (.int r), .val (.ref w2), .val (.ref u)] [(.ref u)]))
      obtain ⟨cq19, kq19, q19a, q19b, q19c⟩ := isOf hZ rfl A_u
      obtain ⟨_, _, ⟨T19, L19, k19, n19⟩, -, X19, ⟨Lc19, hQ19, l19, y19, z19⟩, st19⟩ := X18.virtualBack hx (y := (⟨"com/example/surfacemap/surfacemap/operations/Upload", "type", "()Lcom/example/surfacemap/surfacemap/operations/Upload$Type;"⟩ : MethodName)) (z := (⟨"com/example/surfacemap/surfacemap/operations/Upload", "type", "()Lcom/example/surfacemap/surfacemap/operations/Upload$Type;"⟩ : MethodName)) hown (mvT hZ (hw _ (List.mem_of_getElem? (i := 58) rfl))) (mvT hZ (hw _ (List.mem_of_getElem? (i := 59) rfl))) (notFace_of_selects (args := #[]) (mvT hZ (hw _ (List.mem_of_getElem? (i := 61) rfl)))) (mvT hZ (hw _ (List.mem_of_getElem? (i := 61) rfl))) (mvT hZ (hw _ (List.mem_of_getElem? (i := 60) rfl))) (by decide) (backOf (W := 0) (rm_type l Z a0 hw [] u w2 T18.heap n0 Z0 F_type) hZ (hw _ (List.mem_of_getElem? (i := 62) rfl)) (hw _ (List.mem_of_getElem? (i := 6) rfl)) (by decide) (by decide)) q19a q19c (g := (mkF m 40 #[.val (.int x0), .val (.int r), .val (.ref w2), .val (.ref u)] [(.ref u)])) rfl (by rw [hml]; rfl) (Steps.refl _) (argsL := []) (rest := []) (lenOf own_pd7 rfl) rfl (by show 2 * 0 + _ ≤ _; exact Nat.le_of_eq rfl) (hb hby at_40) (fun _ _ => ⟨rfl, rfl, (by decide : 7 + 0 ≤ _), (by decide : 91 + 0 ≤ _)⟩)
      dsimp only [Pt.U, Pt.locs, Pt.cells, Pt.slots] at X19 l19 y19 z19 st19 hQ19
      subst l19 y19 z19
      obtain ⟨rfl, N19q, e19⟩ := hQ19
      have N19 := Fr.app N18 N19q
      refine Goes.step (fun _ tk => st19.trans tk) ?_
      show Goes _ _ _ _ _ (T19.setTop (mkF m 43 #[.val (.int x0), .val (.int r), .val (.ref w2), .val (.ref u)] [(.ref w2)]))
      refine Goes.step (fun _ tk => XS.aloadN X19.here hx rfl (hb hby at_43) rfl rfl tk) ?_
      show Goes _ _ _ _ _ (T19.setTop (mkF m 44 #[.val (.int x0), .val (.int r), .val (.ref w2), .val (.ref u)] [(.ref w2), (.ref w2)]))
      refine Goes.step (fun _ tk => Jvm.RoadKit.acmp (g := (mkF m 44 #[.val (.int x0), .val (.int r), .val (.ref w2), .val (.ref u)] [(.ref w2), (.ref w2)])) X19 hx rfl rfl rfl (pc0 := 44) (pc' := 47) (same := true) rfl (hb hby at_44) rfl (decide_eq_true (congrArg Value.ref rfl)) (by decide) (by decide) tk) ?_
      show Goes _ _ _ _ _ (T19.setTop (mkF m 47 #[.val (.int x0), .val (.int r), .val (.ref w2), .val (.ref u)] []))
      refine Goes.step (fun _ tk => XS.aloadN X19.here hx rfl (hb hby at_47) rfl rfl tk) ?_
      show Goes _ _ _ _ _ (T19.setTop (mkF m 48 #[.val (.int x0), .val (.int r), .val (.ref w2), .val (.ref u)] [(.ref u)]))
      obtain ⟨cq20, kq20, q20a, q20b, q20c⟩ := isOf hZ e19 A_u
      obtain ⟨_, _, ⟨T20, L20, k20, n20⟩, -, X20, ⟨Lc20, hQ20, l20, y20, z20⟩, st20⟩ := X19.virtualBack hx (y := (⟨"com/example/surfacemap/surfacemap/operations/Upload", "contentType", "()Ljava/util/Optional;"⟩ : MethodName)) (z := (⟨"com/example/surfacemap/surfacemap/operations/Upload", "contentType", "()Ljava/util/Optional;"⟩ : MethodName)) hown (mvT hZ (hw _ (List.mem_of_getElem? (i := 63) rfl))) (mvT hZ (hw _ (List.mem_of_getElem? (i := 64) rfl))) (notFace_of_selects (args := #[]) (mvT hZ (hw _ (List.mem_of_getElem? (i := 66) rfl)))) (mvT hZ (hw _ (List.mem_of_getElem? (i := 66) rfl))) (mvT hZ (hw _ (List.mem_of_getElem? (i := 65) rfl))) (by decide) (backOf (W := 0) (rm_ct l Z a0 hw [] u o T18.heap n0 Z0 F_contentType) hZ (hw _ (List.mem_of_getElem? (i := 67) rfl)) (hw _ (List.mem_of_getElem? (i := 6) rfl)) (by decide) (by decide)) q20a q20c (g := (mkF m 48 #[.val (.int x0), .val (.int r), .val (.ref w2), .val (.ref u)] [(.ref u)])) rfl (by rw [hml]; rfl) (Steps.refl _) (argsL := []) (rest := []) (lenOf own_pd3 rfl) rfl (by show 2 * 0 + _ ≤ _; exact Nat.le_of_eq rfl) (hb hby at_48) (fun _ _ => ⟨rfl, e19, (by decide : 7 + 0 ≤ _), (by decide : 91 + 0 ≤ _)⟩)
      dsimp only [Pt.U, Pt.locs, Pt.cells, Pt.slots] at X20 l20 y20 z20 st20 hQ20
      subst l20 y20 z20
      obtain ⟨rfl, N20q, e20⟩ := hQ20
      have N20 := Fr.app N19 N20q
      refine Goes.step (fun _ tk => st20.trans tk) ?_
      show Goes _ _ _ _ _ (T20.setTop (mkF m 51 #[.val (.int x0), .val (.int r), .val (.ref w2), .val (.ref u)] [(.ref o)]))
      obtain ⟨cq21, kq21, q21a, q21b, q21c⟩ := isOf hZ e20 E_o
      obtain ⟨_, _, ⟨T21, L21, k21, n21⟩, -, X21, ⟨Lc21, hQ21, l21, y21, z21⟩, st21⟩ := X20.virtualBack hx (y := (⟨"java/util/Optional", "isPresent", "()Z"⟩ : MethodName)) (z := (⟨"java/util/Optional", "isPresent", "()Z"⟩ : MethodName)) hown (mvT hZ (hw _ (List.mem_of_getElem? (i := 68) rfl))) (mvT hZ (hw _ (List.mem_of_getElem? (i := 69) rfl))) (notFace_of_selects (args := #[]) (mvT hZ (hw _ (List.mem_of_getElem? (i := 71) rfl)))) (mvT hZ (hw _ (List.mem_of_getElem? (i := 71) rfl))) (mvT hZ (hw _ (List.mem_of_getElem? (i := 70) rfl))) (by decide) (backOf (W := 0) (rm_opres l Z a0 hw [] o T18.heap n0 Z0 F_o) hZ (hw _ (List.mem_of_getElem? (i := 72) rfl)) (hw _ (List.mem_of_getElem? (i := 12) rfl)) (by decide) (by decide)) q21a q21c (g := (mkF m 51 #[.val (.int x0), .val (.int r), .val (.ref w2), .val (.ref u)] [(.ref o)])) rfl (by rw [hml]; rfl) (Steps.refl _) (argsL := []) (rest := []) (lenOf own_pd2 rfl) rfl (by show 2 * 0 + _ ≤ _; exact Nat.le_of_eq rfl) (hb hby at_51) (fun _ _ => ⟨rfl, e20, (by decide : 7 + 0 ≤ _), (by decide : 91 + 0 ≤ _)⟩)
      dsimp only [Pt.U, Pt.locs, Pt.cells, Pt.slots] at X21 l21 y21 z21 st21 hQ21
      subst l21 y21 z21
      obtain ⟨rfl, N21q, e21⟩ := hQ21
      have N21 := Fr.app N20 N21q
      refine Goes.step (fun _ tk => st21.trans tk) ?_
      show Goes _ _ _ _ _ (T21.setTop (mkF m 54 #[.val (.int x0), .val (.int r), .val (.ref w2), .val (.ref u)] [(.int (0 : Int32))]))
      refine Goes.step (fun _ tk => XS.ifNo X21.here hx rfl (hb hby at_54) rfl ((if0 _ _).trans (teq (by decide : ((0 : Int32) = (0 : Int32)))).2) tk) ?_
      show Goes _ _ _ _ _ (T21.setTop (mkF m 57 #[.val (.int x0), .val (.int r), .val (.ref w2), .val (.ref u)] []))
      refine Goes.step (fun _ tk => XS.aloadN X21.here hx rfl (hb hby at_57) rfl rfl tk) ?_
      show Goes _ _ _ _ _ (T21.setTop (mkF m 58 #[.val (.int x0), .val (.int r), .val (.ref w2), .val (.ref u)] [(.ref u)]))
      obtain ⟨cq22, kq22, q22a, q22b, q22c⟩ := isOf hZ e21 A_u
      obtain ⟨_, _, ⟨T22, L22, k22, n22⟩, -, X22, ⟨Lc22, hQ22, l22, y22, z22⟩, st22⟩ := X21.virtualBack hx (y := (⟨"com/example/surfacemap/surfacemap/operations/Upload", "size", "()Ljava/util/OptionalLong;"⟩ : MethodName)) (z := (⟨"com/example/surfacemap/surfacemap/operations/Upload", "size", "()Ljava/util/OptionalLong;"⟩ : MethodName)) hown (mvT hZ (hw _ (List.mem_of_getElem? (i := 75) rfl))) (mvT hZ (hw _ (List.mem_of_getElem? (i := 76) rfl))) (notFace_of_selects (args := #[]) (mvT hZ (hw _ (List.mem_of_getElem? (i := 78) rfl)))) (mvT hZ (hw _ (List.mem_of_getElem? (i := 78) rfl))) (mvT hZ (hw _ (List.mem_of_getElem? (i := 77) rfl))) (by decide) (backOf (W := 0) (rm_size l Z a0 hw [] u l0 T18.heap n0 Z0 F_size) hZ (hw _ (List.mem_of_getElem? (i := 79) rfl)) (hw _ (List.mem_of_getElem? (i := 6) rfl)) (by decide) (by decide)) q22a q22c (g := (mkF m 58 #[.val (.int x0), .val (.int r), .val (.ref w2), .val (.ref u)] [(.ref u)])) rfl (by rw [hml]; rfl) (Steps.refl _) (argsL := []) (rest := []) (lenOf own_pd4 rfl) rfl (by show 2 * 0 + _ ≤ _; exact Nat.le_of_eq rfl) (hb hby at_58) (fun _ _ => ⟨rfl, e21, (by decide : 7 + 0 ≤ _), (by decide : 91 + 0 ≤ _)⟩)
      dsimp only [Pt.U, Pt.locs, Pt.cells, Pt.slots] at X22 l22 y22 z22 st22 hQ22
      subst l22 y22 z22
      obtain ⟨rfl, N22q, e22⟩ := hQ22
      have N22 := Fr.app N21 N22q
      refine Goes.step (fun _ tk => st22.trans tk) ?_
      show Goes _ _ _ _ _ (T22.setTop (mkF m 61 #[.val (.int x0), .val (.int r), .val (.ref w2), .val (.ref u)] [(.ref l0)]))
      obtain ⟨cq23, kq23, q23a, q23b, q23c⟩ := isOf hZ e22 E_l
      obtain ⟨_, _, ⟨T23, L23, k23, n23⟩, -, X23, ⟨Lc23, hQ23, l23, y23, z23⟩, st23⟩ := X22.virtualBack hx (y := (⟨"java/util/OptionalLong", "isPresent", "()Z"⟩ : MethodName)) (z := (⟨"java/util/OptionalLong", "isPresent", "()Z"⟩ : MethodName)) hown (mvT hZ (hw _ (List.mem_of_getElem? (i := 80) rfl))) (mvT hZ (hw _ (List.mem_of_getElem? (i := 46) rfl))) (notFace_of_selects (args := #[]) (mvT hZ (hw _ (List.mem_of_getElem? (i := 48) rfl)))) (mvT hZ (hw _ (List.mem_of_getElem? (i := 48) rfl))) (mvT hZ (hw _ (List.mem_of_getElem? (i := 47) rfl))) (by decide) (backOf (W := 0) (rm_lpres l Z a0 hw [] l0 T18.heap n0 Z0 F_l) hZ (hw _ (List.mem_of_getElem? (i := 49) rfl)) (hw _ (List.mem_of_getElem? (i := 17) rfl)) (by decide) (by decide)) q23a q23c (g := (mkF m 61 #[.val (.int x0), .val (.int r), .val (.ref w2), .val (.ref u)] [(.ref l0)])) rfl (by rw [hml]; rfl) (Steps.refl _) (argsL := []) (rest := []) (lenOf own_pd2 rfl) rfl (by show 2 * 0 + _ ≤ _; exact Nat.le_of_eq rfl) (hb hby at_61) (fun _ _ => ⟨rfl, e22, (by decide : 7 + 0 ≤ _), (by decide : 91 + 0 ≤ _)⟩)
      dsimp only [Pt.U, Pt.locs, Pt.cells, Pt.slots] at X23 l23 y23 z23 st23 hQ23
      subst l23 y23 z23
      obtain ⟨rfl, N23q, e23⟩ := hQ23
      have N23 := Fr.app N22 N23q
      refine Goes.step (fun _ tk => st23.trans tk) ?_
      show Goes _ _ _ _ _ (T23.setTop (mkF m 64 #[.val (.int x0), .val (.int r), .val (.ref w2), .val (.ref u)] [(.int (0 : Int32))]))
      refine Goes.step (fun _ tk => XS.ifNo X23.here hx rfl (hb hby at_64) rfl ((if0 _ _).trans (teq (by decide : ((0 : Int32) = (0 : Int32)))).2) tk) ?_
      show Goes _ _ _ _ _ (T23.setTop (mkF m 67 #[.val (.int x0), .val (.int r), .val (.ref w2), .val (.ref u)] []))
      refine Goes.step (fun _ tk => XS.iconst X23.here hx rfl (hb hby at_67) tk) ?_
      show Goes _ _ _ _ _ (T23.setTop (mkF m 68 #[.val (.int x0), .val (.int r), .val (.ref w2), .val (.ref u)] [(.int (1 : Int32))]))
      refine Goes.step (fun _ tk => XS.goto X23.here hx rfl (pc0 := 68) (pc' := 72) rfl (hb hby at_68) (by decide) (by decide) tk) ?_
      show Goes _ _ _ _ _ (T23.setTop (mkF m 72 #[.val (.int x0), .val (.int r), .val (.ref w2), .val (.ref u)] [(.int (1 : Int32))]))
      refine Goes.retW X23 hS (by rw [e23]; exact hk) (some (.int (1 : Int32))) (fun h => by rw [Bd.returns] at h; cases h) hlk (by decide) (by decide) ?_ (fun fs hr => ?_)
      · exact ⟨rfl, N23⟩
      · exact own_retN X23 hx (t := .boolean) Bd.returns (by simp) rfl (hb hby at_72) hr
set_option maxRecDepth 65536 in
set_option maxHeartbeats 40000000 in
theorem comes_1 {Post : Tables → Env → Array Value → State → Outcome → State → Prop} (hpost : ∀ tb e args s v u, (limb_1_1.after args s (.returned v) u = true ∧ limb_1_2.after args s (.returned v) u = true ∧ True) → ReturnedEndW s (.returned v) u (Jvm.fieldLocs frame_1_writes args s ++ Jvm.arrayLocs frame_1_arrays args s ++ Jvm.staticLocs frame_1_statics s) 16 3200 → Post tb e args s (.returned v) u) :
    ArmFor flags0 classFile x code maxLocals ret World_1 tables_1 room_1 Calls_1 rest_1 Pre_1 Post := by
  intro l hfl _ _ p e ha hc hk s m args below hf hA hF happ hP
  obtain ⟨hcalls, hrest, hpre⟩ := hP
  obtain ⟨-, -, -, hnamed, -, -, -, hat⟩ := (Spec.applies_iff hf).mp happ
  obtain ⟨hg, hn⟩ := and_e (Cond.before_iff.mp (show (Jvm.Cond.and given_1 narrow_1).before args s = true from hpre))
  obtain ⟨g0, hg0⟩ := and_e hg
  obtain ⟨w0, rfl⟩ : ∃ w0 : Value, args = #[w0] := by
    have hs : args.size = 1 := by simpa [Cond.value, given_1] using g0
    obtain ⟨L⟩ := args
    match L, hs with
    | [w0], _ => exact ⟨w0, rfl⟩
  have hw := fun d (hd : d ∈ tables_1) => atoms_spec (ws := Jvm.Cond.code x code maxLocals ret :: tables_1) hat d (List.mem_cons_of_mem _ hd)
  have hfit : Fit s := fun {y c} hc i hi => by
    obtain ⟨ha, rfl⟩ := Array.getElem?_eq_some_iff.mp hc
    have q := List.all_eq_true.mp ((Array.all_eq_true_iff_forall_mem.mp hF) _ (Array.getElem_mem ha)) i (List.mem_range.mpr hi)
    simpa [Array.getElem?_eq_getElem hi] using q
  obtain ⟨hsets, hown0⟩ := atoms_of _ (rest_1_c_eq ▸ (show rest_1_c.before _ s = true from hrest))
  have hr0 := Cond.before_iff.mp hown0
  obtain ⟨i0, ei0⟩ := is_v hg0
  obtain rfl : w0 = (.int i0) := Option.some.inj ei0
  obtain ⟨cx0, hn'⟩ := and_e hn
  obtain ⟨cx2, cx1⟩ := and_e hn'
  obtain ⟨w0, ev0⟩ := exa_v cx0
  have S0 := Sta.start ev0 (Or.inr ⟨(hw _ (List.mem_of_getElem? (i := 2) rfl)), (hw _ (List.mem_of_getElem? (i := 3) rfl))⟩)
  obtain ⟨w1, ev1⟩ := exa_v cx1
  have S1 := Sta.start ev1 (Or.inr ⟨(hw _ (List.mem_of_getElem? (i := 2) rfl)), (hw _ (List.mem_of_getElem? (i := 84) rfl))⟩)
  obtain ⟨w2, ev2⟩ := exa_v cx2
  have S2 := Sta.start ev2 (Or.inr ⟨(hw _ (List.mem_of_getElem? (i := 2) rfl)), (hw _ (List.mem_of_getElem? (i := 82) rfl))⟩)
  have cxo := Cond.before_iff.mp (hsets _ (List.mem_of_getElem? (i := 2) rfl))
  obtain ⟨wo, evo⟩ := exa_v cxo
  have S_o := Sta.start evo (Or.inl (hsets _ (List.mem_of_getElem? (i := 1) rfl)))
  have E_o := Exa.start evo cxo
  have F_o := own_nul evo (Cond.before_iff.mp (hsets _ (List.mem_of_getElem? (i := 3) rfl)))
  have cxl := Cond.before_iff.mp (hsets _ (List.mem_of_getElem? (i := 6) rfl))
  obtain ⟨wl, evl⟩ := exa_v cxl
  have S_l := Sta.start evl (Or.inl (hsets _ (List.mem_of_getElem? (i := 5) rfl)))
  have E_l := Exa.start evl cxl
  have F_l := own_fld evl (Cond.before_iff.mp (hsets _ (List.mem_of_getElem? (i := 7) rfl)))
  obtain ⟨n, o, h1, h2, h3, _, L, rfl, ⟨rfl, N⟩, hq⟩ := rm_law l s _ hw tables_1 i0 w0 w1 w2 wo wl s.heap s.heap.size (Nat.le_refl _) S0 S1 S2 S_o S_l E_o F_o E_l F_l p e ha hc hk s m _ below hf ((Spec.applies_iff_loose hf).mp happ).1 ⟨rfl, State.Warmed39.refl s, rfl⟩ trivial
  refine ⟨n, _, h1, h2, h3, hpost _ _ _ _ _ _ ⟨Cond.after_iff.mpr rfl, Cond.after_iff.mpr (eq_i res_at (Term.int_eval (1)) rfl), trivial⟩ ⟨hq.1, hq.2.1, hq.2.2.1, (hq.2.2.2.sift fun y hy => Or.inr (N y hy)).mono (by decide) (by decide)⟩⟩
theorem main_1_1 : Claimed_1_1 := comes_1 fun _ _ _ _ _ _ h hF => ⟨h.1, hF⟩
theorem main_1_2 : Claimed_1_2 := comes_1 fun _ _ _ _ _ _ h hF => ⟨h.2.1, hF⟩
end Jvm.Pilot.@@N@@
namespace Jvm.Pilot.@@N@@
open Jvm Jvm.ClassFile Sem Op Lib Jvm.Free Jvm.Stand Jvm.Pilot.@@N@@.Jvm.D
/-! MADE BY PROGRAM (witnessworld.py) out of the Statement's table words and the real class files: 20 classes; the members and pool entries that the words name. The judged class is class 1, her method 1. -/
namespace start1
open Jvm.ClassFile
def u (s : String) : CpInfo := .utf8 (stringToUtf16 s)
/-- a pool by its gaps: so many unusable entries, then the entry; so many at the end -/
def gap : Nat → List CpInfo → List CpInfo
  | 0, r => r
  | n + 1, r => .unusable :: gap n r
def poolList (es : List (Nat × CpInfo)) (last : Nat) : List CpInfo := es.foldr (fun e r => gap e.1 (e.2 :: r)) (gap last [])
def pool (es : List (Nat × CpInfo)) (last : Nat) : Array CpInfo := ⟨poolList es last⟩
def fileOf (pool : Array CpInfo) (this : Nat) (attrs : Array Attribute := #[]) (ms : Array MethodInfo := #[]) (fl : Nat := 33) (sup : Nat := 0) (ifs : Array Nat := #[]) (fds : Array FieldInfo := #[]) : ClassFile where
  minorVersion := 0
  majorVersion := 65
  constantPool := pool
  accessFlags := fl
  thisClass := this
  superClass := sup
  interfaces := ifs
  fields := fds
  methods := ms
  attributes := attrs
def plain (name : String) (sup : Option ClassId) : Class where
  name := name
  kind := .ordinary
  loader := none
  accessFlags := 33
  super := sup
  interfaces := #[]
  cf := none
  fields := #[]
  methods := #[]
  instanceTypes := #[]
  staticTypes := #[]
  resolved := #[]
  callSites := []
  init := .initialized
  statics := none
  mirror := none

def pool0 : Array CpInfo := pool [(5, u "<init>"), (0, u "()V"), (1, .class_ 10), (1, u "java/lang/Object")] 113

def k0c0 : Code := { maxStack := 0, maxLocals := 1, code := object_method_1_code, exceptionTable := #[], attributes := #[] }
def k0m0 : Method := { name := "<init>", desc := "()V", sig := { parameters := [], returnType := none }, accessFlags := 1, code := some k0c0 }
/-- java/lang/Object -/
def k0 : Class := { plain "java/lang/Object" none with
  accessFlags := 33
  interfaces := #[]
  cf := some (fileOf pool0 8 #[] #[{ accessFlags := 1, nameIndex := 5, descriptorIndex := 6, attributes := #[] }] 33 0 #[] #[])
  fields := #[]
  methods := #[k0m0]
  instanceTypes := #[]
  staticTypes := #[]
  resolved := Array.replicate 124 none
  statics := none }

def pool1 : Array CpInfo := pool [(2, .class_ 4), (1, u "java/lang/Object"), (0, u "<init>"), (0, u "()V"), (0, .integer 2147483647), (0, .fieldref 9 10), (0, .class_ 11), (0, .nameAndType 12 13), (0, u "com/example/surfacemap/surfacemap/operations/Upload$Type"), (0, u "MEDIA"), (0, u "Lcom/example/surfacemap/surfacemap/operations/Upload$Type;"), (0, .fieldref 9 15), (0, .nameAndType 16 13), (0, u "MULTIPART"), (0, .fieldref 9 18), (0, .nameAndType 19 13), (0, u "RESUMABLE"), (0, .methodref 21 22), (0, .class_ 23), (0, .nameAndType 24 25), (0, u "com/example/surfacemap/surfacemap/operations/Upload"), (0, u "of"), (0, u "(Lcom/example/surfacemap/surfacemap/operations/Upload$Type;)Lcom/example/surfacemap/surfacemap/operations/Upload;"), (0, .methodref 21 27), (0, .nameAndType 28 29), (0, u "type"), (0, u "()Lcom/example/surfacemap/surfacemap/operations/Upload$Type;"), (0, .methodref 21 31), (0, .nameAndType 32 33), (0, u "contentType"), (0, u "()Ljava/util/Optional;"), (0, .methodref 35 36), (0, .class_ 37), (0, .nameAndType 38 39), (0, u "java/util/Optional"), (0, u "isPresent"), (0, u "()Z"), (0, .methodref 21 41), (0, .nameAndType 42 43), (0, u "size"), (0, u "()Ljava/util/OptionalLong;"), (0, .methodref 45 36), (0, .class_ 46), (0, u "java/util/OptionalLong"), (0, .class_ 48), (0, u "com/example/surfacemap/surfacemap/operations/UploadOfPinLaw"), (2, u "law"), (0, u "(I)Z")] 5

def k1m0 : Method := { name := "<init>", desc := "()V", sig := { parameters := [], returnType := none }, accessFlags := 2, code := none }
def k1c1 : Code := { maxStack := 2, maxLocals := 4, code := code, exceptionTable := #[], attributes := #[] }
def k1m1 : Method := { name := "law", desc := "(I)Z", sig := { parameters := [.int], returnType := some .boolean }, accessFlags := 9, code := some k1c1 }
/-- com/example/surfacemap/surfacemap/operations/UploadOfPinLaw -/
def k1 : Class := { plain "com/example/surfacemap/surfacemap/operations/UploadOfPinLaw" (some 0) with
  accessFlags := 49
  interfaces := #[]
  cf := some (fileOf pool1 47 #[] #[{ accessFlags := 2, nameIndex := 5, descriptorIndex := 6, attributes := #[] }, { accessFlags := 9, nameIndex := 51, descriptorIndex := 52, attributes := #[] }] 49 2 #[] #[])
  fields := #[]
  methods := #[k1m0, k1m1]
  instanceTypes := #[]
  staticTypes := #[]
  resolved := Array.replicate 58 none
  statics := none }

def pool2 : Array CpInfo := pool [(1, .class_ 2), (0, u "java/lang/constant/Constable"), (0, .class_ 4), (0, u "java/lang/Object")] 6

/-- java/lang/constant/Constable -/
def k2 : Class := { plain "java/lang/constant/Constable" (some 0) with
  accessFlags := 1537
  interfaces := #[]
  cf := some (fileOf pool2 1 #[] #[] 1537 3 #[] #[])
  fields := #[]
  methods := #[]
  instanceTypes := #[]
  staticTypes := #[]
  resolved := Array.replicate 11 none
  statics := none }

def pool3 : Array CpInfo := pool [(1, .class_ 2), (0, u "java/lang/Comparable"), (0, .class_ 4), (0, u "java/lang/Object")] 7

/-- java/lang/Comparable -/
def k3 : Class := { plain "java/lang/Comparable" (some 0) with
  accessFlags := 1537
  interfaces := #[]
  cf := some (fileOf pool3 1 #[] #[] 1537 3 #[] #[])
  fields := #[]
  methods := #[]
  instanceTypes := #[]
  staticTypes := #[]
  resolved := Array.replicate 12 none
  statics := none }

def pool4 : Array CpInfo := pool [(1, .class_ 2), (0, u "java/io/Serializable"), (0, .class_ 4), (0, u "java/lang/Object")] 2

/-- java/io/Serializable -/
def k4 : Class := { plain "java/io/Serializable" (some 0) with
  accessFlags := 1537
  interfaces := #[]
  cf := some (fileOf pool4 1 #[] #[] 1537 3 #[] #[])
  fields := #[]
  methods := #[]
  instanceTypes := #[]
  staticTypes := #[]
  resolved := Array.replicate 7 none
  statics := none }

def pool5 : Array CpInfo := pool [(2, .class_ 4), (1, u "java/lang/Enum"), (0, u "name"), (0, u "Ljava/lang/String;"), (2, u "ordinal"), (0, u "I"), (1, .class_ 14), (1, u "java/lang/Object"), (4, u "hash"), (86, .class_ 108), (1, u "java/lang/Enum$EnumDesc"), (2, .class_ 112), (0, u "java/lang/constant/Constable"), (0, .class_ 114), (0, u "java/lang/Comparable"), (0, .class_ 116), (0, u "java/io/Serializable")] 87

/-- java/lang/Enum -/
def k5 : Class := { plain "java/lang/Enum" (some 0) with
  accessFlags := 1057
  interfaces := #[2, 3, 4]
  cf := some (fileOf pool5 2 #[.nestMembers #[106]] #[] 1057 12 #[111, 113, 115] #[{ accessFlags := 18, nameIndex := 5, descriptorIndex := 6, attributes := #[] }, { accessFlags := 18, nameIndex := 9, descriptorIndex := 10, attributes := #[] }, { accessFlags := 2, nameIndex := 19, descriptorIndex := 10, attributes := #[] }])
  fields := #[{ name := "name", type := (.object "java/lang/String"), accessFlags := 18, slot := 0, constantValue := 0 }, { name := "ordinal", type := .int, accessFlags := 18, slot := 1, constantValue := 0 }, { name := "hash", type := .int, accessFlags := 2, slot := 2, constantValue := 0 }]
  methods := #[]
  instanceTypes := #[(.object "java/lang/String"), .int, .int]
  staticTypes := #[]
  resolved := Array.replicate 204 none
  statics := none }

def pool6 : Array CpInfo := pool [(1, .class_ 2), (0, u "com/example/surfacemap/surfacemap/operations/Upload$Type"), (2, u "MEDIA"), (0, u "Lcom/example/surfacemap/surfacemap/operations/Upload$Type;"), (2, u "MULTIPART"), (2, u "RESUMABLE"), (2, u "$VALUES"), (0, u "[Lcom/example/surfacemap/surfacemap/operations/Upload$Type;"), (6, .class_ 25), (1, u "java/lang/Enum"), (8, u "protocol"), (0, u "Ljava/lang/String;"), (44, .class_ 81), (0, u "com/example/surfacemap/surfacemap/operations/Upload")] 2

/-- com/example/surfacemap/surfacemap/operations/Upload$Type -/
def k6 : Class := { plain "com/example/surfacemap/surfacemap/operations/Upload$Type" (some 5) with
  accessFlags := 16433
  interfaces := #[]
  cf := some (fileOf pool6 1 #[.nestHost 80] #[] 16433 23 #[] #[{ accessFlags := 16409, nameIndex := 5, descriptorIndex := 6, attributes := #[] }, { accessFlags := 16409, nameIndex := 9, descriptorIndex := 6, attributes := #[] }, { accessFlags := 16409, nameIndex := 12, descriptorIndex := 6, attributes := #[] }, { accessFlags := 18, nameIndex := 34, descriptorIndex := 35, attributes := #[] }, { accessFlags := 4122, nameIndex := 15, descriptorIndex := 16, attributes := #[] }])
  fields := #[{ name := "MEDIA", type := (.object "com/example/surfacemap/surfacemap/operations/Upload$Type"), accessFlags := 16409, slot := 0, constantValue := 0 }, { name := "MULTIPART", type := (.object "com/example/surfacemap/surfacemap/operations/Upload$Type"), accessFlags := 16409, slot := 1, constantValue := 0 }, { name := "RESUMABLE", type := (.object "com/example/surfacemap/surfacemap/operations/Upload$Type"), accessFlags := 16409, slot := 2, constantValue := 0 }, { name := "protocol", type := (.object "java/lang/String"), accessFlags := 18, slot := 3, constantValue := 0 }, { name := "$VALUES", type := (.array (.object "com/example/surfacemap/surfacemap/operations/Upload$Type")), accessFlags := 4122, slot := 3, constantValue := 0 }]
  methods := #[]
  instanceTypes := #[(.object "java/lang/String"), .int, .int, (.object "java/lang/String")]
  staticTypes := #[(.object "com/example/surfacemap/surfacemap/operations/Upload$Type"), (.object "com/example/surfacemap/surfacemap/operations/Upload$Type"), (.object "com/example/surfacemap/surfacemap/operations/Upload$Type"), (.array (.object "com/example/surfacemap/surfacemap/operations/Upload$Type"))]
  resolved := Array.replicate 84 none
  statics := some 0 }

def pool7 : Array CpInfo := pool [(1, .methodref 2 3), (0, .class_ 4), (0, .nameAndType 5 6), (0, u "java/lang/Object"), (0, u "<init>"), (0, u "()V"), (0, .class_ 8), (0, u "java/lang/Record")] 13

def k7c0 : Code := { maxStack := 1, maxLocals := 1, code := jdk_30_method_1_code, exceptionTable := #[], attributes := #[] }
def k7m0 : Method := { name := "<init>", desc := "()V", sig := { parameters := [], returnType := none }, accessFlags := 4, code := some k7c0 }
/-- java/lang/Record -/
def k7 : Class := { plain "java/lang/Record" (some 0) with
  accessFlags := 1057
  interfaces := #[]
  cf := some (fileOf pool7 7 #[] #[{ accessFlags := 4, nameIndex := 5, descriptorIndex := 6, attributes := #[] }] 1057 2 #[] #[])
  fields := #[]
  methods := #[k7m0]
  instanceTypes := #[]
  staticTypes := #[]
  resolved := Array.replicate 22 none
  statics := none }

def pool8 : Array CpInfo := pool [(1, .methodref 2 3), (0, .class_ 4), (0, .nameAndType 5 6), (0, u "java/lang/Record"), (0, u "<init>"), (0, u "()V"), (0, .string 8), (0, u "type"), (0, .methodref 10 11), (0, .class_ 12), (0, .nameAndType 13 14), (0, u "java/util/Objects"), (0, u "requireNonNull"), (0, u "(Ljava/lang/Object;Ljava/lang/String;)Ljava/lang/Object;"), (0, .string 16), (0, u "contentType"), (0, .string 18), (0, u "size"), (0, .methodref 20 21), (0, .class_ 22), (0, .nameAndType 23 24), (0, u "java/util/OptionalLong"), (0, u "isPresent"), (0, u "()Z"), (13, .fieldref 39 40), (0, .class_ 41), (0, .nameAndType 8 42), (0, u "com/example/surfacemap/surfacemap/operations/Upload"), (0, u "Lcom/example/surfacemap/surfacemap/operations/Upload$Type;"), (0, .fieldref 39 44), (0, .nameAndType 16 45), (0, u "Ljava/util/Optional;"), (0, .fieldref 39 47), (0, .nameAndType 18 48), (0, u "Ljava/util/OptionalLong;"), (0, .methodref 50 51), (0, .class_ 52), (0, .nameAndType 53 54), (0, u "java/util/Optional"), (0, u "empty"), (0, u "()Ljava/util/Optional;"), (0, .methodref 20 56), (0, .nameAndType 53 57), (0, u "()Ljava/util/OptionalLong;"), (0, .methodref 39 59), (0, .nameAndType 5 60), (0, u "(Lcom/example/surfacemap/surfacemap/operations/Upload$Type;Ljava/util/Optional;Ljava/util/OptionalLong;)V"), (17, .class_ 79), (0, u "com/example/surfacemap/surfacemap/operations/Upload$Type"), (2, u "of"), (0, u "(Lcom/example/surfacemap/surfacemap/operations/Upload$Type;)Lcom/example/surfacemap/surfacemap/operations/Upload;"), (3, u "()Lcom/example/surfacemap/surfacemap/operations/Upload$Type;")] 33

def k8c0 : Code := { maxStack := 4, maxLocals := 4, code := prog_23_method_1_code, exceptionTable := #[], attributes := #[] }
def k8m0 : Method := { name := "<init>", desc := "(Lcom/example/surfacemap/surfacemap/operations/Upload$Type;Ljava/util/Optional;Ljava/util/OptionalLong;)V", sig := { parameters := [(.object "com/example/surfacemap/surfacemap/operations/Upload$Type"), (.object "java/util/Optional"), (.object "java/util/OptionalLong")], returnType := none }, accessFlags := 1, code := some k8c0 }
def k8c1 : Code := { maxStack := 5, maxLocals := 1, code := prog_23_method_2_code, exceptionTable := #[], attributes := #[] }
def k8m1 : Method := { name := "of", desc := "(Lcom/example/surfacemap/surfacemap/operations/Upload$Type;)Lcom/example/surfacemap/surfacemap/operations/Upload;", sig := { parameters := [(.object "com/example/surfacemap/surfacemap/operations/Upload$Type")], returnType := some (.object "com/example/surfacemap/surfacemap/operations/Upload") }, accessFlags := 9, code := some k8c1 }
def k8c2 : Code := { maxStack := 1, maxLocals := 1, code := prog_23_method_6_code, exceptionTable := #[], attributes := #[] }
def k8m2 : Method := { name := "type", desc := "()Lcom/example/surfacemap/surfacemap/operations/Upload$Type;", sig := { parameters := [], returnType := some (.object "com/example/surfacemap/surfacemap/operations/Upload$Type") }, accessFlags := 1, code := some k8c2 }
def k8c3 : Code := { maxStack := 1, maxLocals := 1, code := prog_23_method_7_code, exceptionTable := #[], attributes := #[] }
def k8m3 : Method := { name := "contentType", desc := "()Ljava/util/Optional;", sig := { parameters := [], returnType := some (.object "java/util/Optional") }, accessFlags := 1, code := some k8c3 }
def k8c4 : Code := { maxStack := 1, maxLocals := 1, code := prog_23_method_8_code, exceptionTable := #[], attributes := #[] }
def k8m4 : Method := { name := "size", desc := "()Ljava/util/OptionalLong;", sig := { parameters := [], returnType := some (.object "java/util/OptionalLong") }, accessFlags := 1, code := some k8c4 }
/-- com/example/surfacemap/surfacemap/operations/Upload -/
def k8 : Class := { plain "com/example/surfacemap/surfacemap/operations/Upload" (some 7) with
  accessFlags := 49
  interfaces := #[]
  cf := some (fileOf pool8 39 #[.nestMembers #[78]] #[{ accessFlags := 1, nameIndex := 5, descriptorIndex := 60, attributes := #[] }, { accessFlags := 9, nameIndex := 82, descriptorIndex := 83, attributes := #[] }, { accessFlags := 1, nameIndex := 8, descriptorIndex := 87, attributes := #[] }, { accessFlags := 1, nameIndex := 16, descriptorIndex := 54, attributes := #[] }, { accessFlags := 1, nameIndex := 18, descriptorIndex := 57, attributes := #[] }] 49 2 #[] #[{ accessFlags := 18, nameIndex := 8, descriptorIndex := 42, attributes := #[] }, { accessFlags := 18, nameIndex := 16, descriptorIndex := 45, attributes := #[] }, { accessFlags := 18, nameIndex := 18, descriptorIndex := 48, attributes := #[] }])
  fields := #[{ name := "type", type := (.object "com/example/surfacemap/surfacemap/operations/Upload$Type"), accessFlags := 18, slot := 0, constantValue := 0 }, { name := "contentType", type := (.object "java/util/Optional"), accessFlags := 18, slot := 1, constantValue := 0 }, { name := "size", type := (.object "java/util/OptionalLong"), accessFlags := 18, slot := 2, constantValue := 0 }]
  methods := #[k8m0, k8m1, k8m2, k8m3, k8m4]
  instanceTypes := #[(.object "com/example/surfacemap/surfacemap/operations/Upload$Type"), (.object "java/util/Optional"), (.object "java/util/OptionalLong")]
  staticTypes := #[]
  resolved := Array.replicate 121 none
  statics := none }

def pool9 : Array CpInfo := pool [(1, .fieldref 2 3), (0, .class_ 4), (0, .nameAndType 5 6), (0, u "java/util/Optional"), (0, u "EMPTY"), (0, u "Ljava/util/Optional;"), (1, .class_ 10), (1, u "java/lang/Object"), (2, .fieldref 2 14), (0, .nameAndType 15 16), (0, u "value"), (0, u "Ljava/lang/Object;"), (29, u "()Z"), (8, u "empty"), (0, u "()Ljava/util/Optional;"), (11, u "isPresent")] 118

def k9c0 : Code := { maxStack := 1, maxLocals := 1, code := jdk_32_method_1_code, exceptionTable := #[], attributes := #[] }
def k9m0 : Method := { name := "empty", desc := "()Ljava/util/Optional;", sig := { parameters := [], returnType := some (.object "java/util/Optional") }, accessFlags := 9, code := some k9c0 }
def k9c1 : Code := { maxStack := 1, maxLocals := 1, code := jdk_32_method_6_code, exceptionTable := #[], attributes := #[] }
def k9m1 : Method := { name := "isPresent", desc := "()Z", sig := { parameters := [], returnType := some .boolean }, accessFlags := 1, code := some k9c1 }
/-- java/util/Optional -/
def k9 : Class := { plain "java/util/Optional" (some 0) with
  accessFlags := 49
  interfaces := #[]
  cf := some (fileOf pool9 2 #[] #[{ accessFlags := 9, nameIndex := 55, descriptorIndex := 56, attributes := #[] }, { accessFlags := 1, nameIndex := 68, descriptorIndex := 46, attributes := #[] }] 49 8 #[] #[{ accessFlags := 26, nameIndex := 5, descriptorIndex := 6, attributes := #[] }, { accessFlags := 18, nameIndex := 15, descriptorIndex := 16, attributes := #[] }])
  fields := #[{ name := "EMPTY", type := (.object "java/util/Optional"), accessFlags := 26, slot := 0, constantValue := 0 }, { name := "value", type := (.object "java/lang/Object"), accessFlags := 18, slot := 0, constantValue := 0 }]
  methods := #[k9m0, k9m1]
  instanceTypes := #[(.object "java/lang/Object")]
  staticTypes := #[(.object "java/util/Optional")]
  resolved := Array.replicate 187 none
  statics := some 1 }

def pool10 : Array CpInfo := pool [(2, .class_ 4), (1, u "java/lang/Object"), (0, u "<init>"), (0, u "()V"), (0, .fieldref 8 9), (0, .class_ 10), (0, .nameAndType 11 12), (0, u "java/util/OptionalLong"), (0, u "isPresent"), (0, u "Z"), (2, u "value"), (0, u "J"), (0, .fieldref 8 18), (0, .nameAndType 19 20), (0, u "EMPTY"), (0, u "Ljava/util/OptionalLong;"), (28, u "empty"), (46, u "()Ljava/util/OptionalLong;"), (2, u "()Z")] 38

def k10m0 : Method := { name := "<init>", desc := "()V", sig := { parameters := [], returnType := none }, accessFlags := 2, code := none }
def k10c1 : Code := { maxStack := 1, maxLocals := 0, code := jdk_2650_method_2_code, exceptionTable := #[], attributes := #[] }
def k10m1 : Method := { name := "empty", desc := "()Ljava/util/OptionalLong;", sig := { parameters := [], returnType := some (.object "java/util/OptionalLong") }, accessFlags := 9, code := some k10c1 }
def k10c2 : Code := { maxStack := 1, maxLocals := 1, code := jdk_2650_method_6_code, exceptionTable := #[], attributes := #[] }
def k10m2 : Method := { name := "isPresent", desc := "()Z", sig := { parameters := [], returnType := some .boolean }, accessFlags := 1, code := some k10c2 }
/-- java/util/OptionalLong -/
def k10 : Class := { plain "java/util/OptionalLong" (some 0) with
  accessFlags := 49
  interfaces := #[]
  cf := some (fileOf pool10 8 #[] #[{ accessFlags := 2, nameIndex := 5, descriptorIndex := 6, attributes := #[] }, { accessFlags := 9, nameIndex := 49, descriptorIndex := 96, attributes := #[] }, { accessFlags := 1, nameIndex := 11, descriptorIndex := 99, attributes := #[] }] 49 2 #[] #[{ accessFlags := 26, nameIndex := 19, descriptorIndex := 20, attributes := #[] }, { accessFlags := 18, nameIndex := 11, descriptorIndex := 12, attributes := #[] }, { accessFlags := 18, nameIndex := 15, descriptorIndex := 16, attributes := #[] }])
  fields := #[{ name := "EMPTY", type := (.object "java/util/OptionalLong"), accessFlags := 26, slot := 0, constantValue := 0 }, { name := "isPresent", type := .boolean, accessFlags := 18, slot := 0, constantValue := 0 }, { name := "value", type := .long, accessFlags := 18, slot := 1, constantValue := 0 }]
  methods := #[k10m0, k10m1, k10m2]
  instanceTypes := #[.boolean, .long]
  staticTypes := #[(.object "java/util/OptionalLong")]
  resolved := Array.replicate 138 none
  statics := some 2 }

def pool11 : Array CpInfo := pool [(2, .class_ 4), (1, u "java/lang/CharSequence"), (42, .class_ 48), (0, u "java/lang/CharSequence$1CodePointIterator"), (10, .class_ 60), (0, u "java/lang/CharSequence$1CharIterator"), (5, .class_ 67), (0, u "java/lang/Object")] 63

/-- java/lang/CharSequence -/
def k11 : Class := { plain "java/lang/CharSequence" (some 0) with
  accessFlags := 1537
  interfaces := #[]
  cf := some (fileOf pool11 2 #[.nestMembers #[47, 59]] #[] 1537 66 #[] #[])
  fields := #[]
  methods := #[]
  instanceTypes := #[]
  staticTypes := #[]
  resolved := Array.replicate 131 none
  statics := none }

def pool12 : Array CpInfo := pool [(1, .class_ 2), (0, u "java/lang/constant/ConstantDesc"), (0, .class_ 4), (0, u "java/lang/Object")] 32

/-- java/lang/constant/ConstantDesc -/
def k12 : Class := { plain "java/lang/constant/ConstantDesc" (some 0) with
  accessFlags := 1537
  interfaces := #[]
  cf := some (fileOf pool12 1 #[] #[] 1537 3 #[] #[])
  fields := #[]
  methods := #[]
  instanceTypes := #[]
  staticTypes := #[]
  resolved := Array.replicate 37 none
  statics := none }

def pool13 : Array CpInfo := pool [(2, .class_ 4), (1, u "java/lang/Object"), (0, u "<init>"), (0, u "()V"), (3, .class_ 12), (1, u "java/lang/String"), (0, u "value"), (0, u "[B"), (2, u "coder"), (0, u "B"), (2, u "hash"), (0, u "I"), (2, u "hashIsZero"), (0, u "Z"), (13, u "COMPACT_STRINGS"), (534, .class_ 576), (0, u "java/lang/CharSequence"), (22, u "CASE_INSENSITIVE_ORDER"), (0, u "Ljava/util/Comparator;"), (500, u "serialPersistentFields"), (0, u "[Ljava/io/ObjectStreamField;"), (0, .class_ 1104), (0, u "java/lang/String$CaseInsensitiveComparator"), (1, .class_ 1107), (0, u "java/io/Serializable"), (0, .class_ 1109), (0, u "java/lang/Comparable"), (0, .class_ 1111), (0, u "java/lang/constant/Constable"), (0, .class_ 1113), (0, u "java/lang/constant/ConstantDesc"), (2, u "serialVersionUID"), (0, u "J"), (3, u "REPL"), (0, u "C"), (2, u "LATIN1"), (1, u "UTF16")] 323

def k13m0 : Method := { name := "<init>", desc := "()V", sig := { parameters := [], returnType := none }, accessFlags := 1, code := none }
/-- java/lang/String -/
def k13 : Class := { plain "java/lang/String" (some 0) with
  accessFlags := 49
  interfaces := #[4, 3, 11, 2, 12]
  cf := some (fileOf pool13 10 #[.nestMembers #[1103]] #[{ accessFlags := 1, nameIndex := 5, descriptorIndex := 6, attributes := #[] }] 49 2 #[1106, 1108, 575, 1110, 1112] #[{ accessFlags := 18, nameIndex := 13, descriptorIndex := 14, attributes := #[] }, { accessFlags := 18, nameIndex := 17, descriptorIndex := 18, attributes := #[] }, { accessFlags := 2, nameIndex := 21, descriptorIndex := 22, attributes := #[] }, { accessFlags := 2, nameIndex := 25, descriptorIndex := 26, attributes := #[] }, { accessFlags := 26, nameIndex := 1116, descriptorIndex := 1117, attributes := #[] }, { accessFlags := 24, nameIndex := 40, descriptorIndex := 26, attributes := #[] }, { accessFlags := 26, nameIndex := 1101, descriptorIndex := 1102, attributes := #[] }, { accessFlags := 26, nameIndex := 1121, descriptorIndex := 1122, attributes := #[] }, { accessFlags := 25, nameIndex := 599, descriptorIndex := 600, attributes := #[] }, { accessFlags := 24, nameIndex := 1125, descriptorIndex := 18, attributes := #[] }, { accessFlags := 24, nameIndex := 1127, descriptorIndex := 18, attributes := #[] }])
  fields := #[{ name := "value", type := (.array .byte), accessFlags := 18, slot := 0, constantValue := 0 }, { name := "coder", type := .byte, accessFlags := 18, slot := 1, constantValue := 0 }, { name := "hash", type := .int, accessFlags := 2, slot := 2, constantValue := 0 }, { name := "hashIsZero", type := .boolean, accessFlags := 2, slot := 3, constantValue := 0 }, { name := "serialVersionUID", type := .long, accessFlags := 26, slot := 0, constantValue := 0 }, { name := "COMPACT_STRINGS", type := .boolean, accessFlags := 24, slot := 1, constantValue := 0 }, { name := "serialPersistentFields", type := (.array (.object "java/io/ObjectStreamField")), accessFlags := 26, slot := 2, constantValue := 0 }, { name := "REPL", type := .char, accessFlags := 26, slot := 3, constantValue := 0 }, { name := "CASE_INSENSITIVE_ORDER", type := (.object "java/util/Comparator"), accessFlags := 25, slot := 4, constantValue := 0 }, { name := "LATIN1", type := .byte, accessFlags := 24, slot := 5, constantValue := 0 }, { name := "UTF16", type := .byte, accessFlags := 24, slot := 6, constantValue := 0 }]
  methods := #[k13m0]
  instanceTypes := #[(.array .byte), .byte, .int, .boolean]
  staticTypes := #[.long, .boolean, (.array (.object "java/io/ObjectStreamField")), .char, (.object "java/util/Comparator"), .byte, .byte]
  resolved := Array.replicate 1451 none
  statics := none }

def pool14 : Array CpInfo := pool [(2, .class_ 4), (1, u "java/lang/Object"), (0, u "<init>"), (0, u "()V"), (35, .class_ 44), (1, u "java/util/Objects"), (0, u "requireNonNull"), (48, u "(Ljava/lang/Object;Ljava/lang/String;)Ljava/lang/Object;")] 89

def k14m0 : Method := { name := "<init>", desc := "()V", sig := { parameters := [], returnType := none }, accessFlags := 2, code := none }
def k14c1 : Code := { maxStack := 3, maxLocals := 2, code := jdk_31_method_11_code, exceptionTable := #[], attributes := #[] }
def k14m1 : Method := { name := "requireNonNull", desc := "(Ljava/lang/Object;Ljava/lang/String;)Ljava/lang/Object;", sig := { parameters := [(.object "java/lang/Object"), (.object "java/lang/String")], returnType := some (.object "java/lang/Object") }, accessFlags := 9, code := some k14c1 }
/-- java/util/Objects -/
def k14 : Class := { plain "java/util/Objects" (some 0) with
  accessFlags := 49
  interfaces := #[]
  cf := some (fileOf pool14 42 #[] #[{ accessFlags := 2, nameIndex := 5, descriptorIndex := 6, attributes := #[] }, { accessFlags := 9, nameIndex := 45, descriptorIndex := 94, attributes := #[] }] 49 2 #[] #[])
  fields := #[]
  methods := #[k14m0, k14m1]
  instanceTypes := #[]
  staticTypes := #[]
  resolved := Array.replicate 184 none
  statics := none }

def pool15 : Array CpInfo := pool [(1, u "java/lang/Cloneable"), (0, .class_ 1), (0, u "java/lang/Object"), (0, .class_ 3)] 3

/-- java/lang/Cloneable -/
def k15 : Class := { plain "java/lang/Cloneable" (some 0) with
  accessFlags := 1537
  interfaces := #[]
  cf := some (fileOf pool15 2 #[] #[] 1537 4 #[] #[])
  fields := #[]
  methods := #[]
  instanceTypes := #[]
  staticTypes := #[]
  resolved := Array.replicate 8 none
  statics := none }

/-- the primitive byte -/
def k16 : Class := { plain "byte" none with kind := .primitive 'B', accessFlags := 0x411 }
/-- [B -/
def k17 : Class := { plain "[B" (some 0) with kind := .array 16 .byte, interfaces := #[15, 4], accessFlags := 1041 }

/-- the primitive int -/
def k18 : Class := { plain "int" none with kind := .primitive 'I', accessFlags := 0x411 }
/-- [I -/
def k19 : Class := { plain "[I" (some 0) with kind := .array 18 .int, interfaces := #[15, 4], accessFlags := 1041 }

def heap : Heap := #[{ cls := 6, slots := #[.ref 3, .ref 4, .ref 5, .null], vm := .statics 6 },
  { cls := 9, slots := #[.ref 6], vm := .statics 9 },
  { cls := 10, slots := #[.ref 7], vm := .statics 10 },
  { cls := 6, slots := #[.null, .int 0, .int 0, .null], vm := .none },
  { cls := 6, slots := #[.null, .int 1, .int 0, .null], vm := .none },
  { cls := 6, slots := #[.null, .int 2, .int 0, .null], vm := .none },
  { cls := 9, slots := #[.null], vm := .none },
  { cls := 10, slots := #[.int 0, .long 0], vm := .none }]
def classes : Array Class := #[k0, k1, k2, k3, k4, k5, k6, k7, k8, k9, k10, k11, k12, k13, k14, k15, k16, k17, k18, k19]
def interned : List (Array UInt16 × Addr) := []
def slotsUsed : Nat := 21
def theMethod : MethodId := ⟨1, 1⟩
def args0 : Array Value := #[.int 5]
def aboutOver (below : List Frame) : State where
  vm := { classes := classes, interned := interned.toArray }
  heap := heap
  slotsUsed := slotsUsed
  threads := #[{ frames := .invoking theMethod args0 :: below }]
def below0 : List Frame := [.native { method := ⟨0, 0⟩, args := #[] }]
def about1 : State := aboutOver below0
def p0 : Program := .bare "" "" ""
def e0 : Env := launch0.env 0 0 0
theorem w_frames : about1.frames = Frame.invoking theMethod args0 :: below0 := rfl
set_option maxRecDepth 65536 in
theorem w_args : argsFit about1.vm theMethod args0 = true := by decide +kernel
set_option maxRecDepth 65536 in
theorem w_heap : heapFits about1 = true := by decide +kernel
set_option maxRecDepth 65536 in
theorem w_runnable : about1.curStatus? = some .runnable := by decide +kernel
set_option maxRecDepth 65536 in
theorem w_alone : about1.alone = true := by decide +kernel
set_option maxRecDepth 65536 in
theorem w_named : about1.methodNamed? x = some theMethod := by decide +kernel
set_option maxRecDepth 65536 in
theorem w_hears : about1.hears theMethod below0 = true := by decide +kernel
set_option maxRecDepth 65536 in
theorem w_ripe : about1.ripe theMethod args0 below0 = true := by decide +kernel
theorem w_running : about1.status = .running := rfl
set_option maxRecDepth 65536 in
theorem w_room : about1.hasRoom e0.platform room_1 = true :=
  launch0.hasRoom_least _ room_1 (by decide +kernel) (by decide +kernel) (by decide +kernel) (by decide +kernel) (by decide +kernel) (by decide +kernel)
theorem allAtoms_all (ts : List Jvm.Cond) (a : Array Jvm.Value) (st : Jvm.State) : (allAtoms ts).before a st = ts.all (fun c => c.before a st) := by
  induction ts with
  | nil => rfl
  | cons c t ih =>
    show (Jvm.Cond.and c (allAtoms t)).before a st = _
    rw [Jvm.Cond.before_and, ih, List.all_cons]
def words1 : List Jvm.Cond := Jvm.Cond.code x code maxLocals ret :: tables_1
/-- a 'code' word, met by the world's own term for the bytes: nothing is compared byte by byte -/
theorem code_word {y : MethodName} {bytes : ByteArray} {mx : Nat} {rt : Option FieldType} {a : Array Value} {s : State} {m : MethodId} {meth : Method} {c : Code} (h1 : s.methodNamed? y = some m) (h2 : s.vm.method? m = some meth) (h3 : meth.code = some c) (h4 : c.code = bytes)
    (h5 : (c.maxLocals == mx && c.exceptionTable.isEmpty && decide (c.maxStack ≤ mostOperands) && decide (meth.sig.returnType = rt) && !meth.locks && decide (parseMethodDescriptor y.desc = some meth.sig)) = true) : (Jvm.Cond.code y bytes mx rt).before a s = true := by
  simp only [Bool.and_eq_true, beq_iff_eq, Bool.not_eq_true', decide_eq_true_eq] at h5
  obtain ⟨⟨⟨⟨⟨g1, g2⟩, g3⟩, g4⟩, g5⟩, g6⟩ := h5
  simp [Cond.before, Cond.holds, Cond.value, h1, h2, h3, h4, g1, g2, g3, g4, g5, g6]
def isCode : Jvm.Cond → Bool
  | .code _ _ _ _ => true
  | _ => false
theorem all_split {L : List Jvm.Cond} {P : Jvm.Cond → Bool} (h1 : L.all (fun c => isCode c || P c) = true) (h2 : ∀ c ∈ L.filter isCode, P c = true) : L.all P = true := by
  refine List.all_eq_true.mpr fun c hc => ?_
  have h := List.all_eq_true.mp h1 c hc
  rcases Bool.eq_false_or_eq_true (isCode c) with hi | hi
  · exact h2 c (List.mem_filter.mpr ⟨hc, hi⟩)
  · simpa [hi] using h
set_option maxRecDepth 65536 in
theorem w_c0 : (Jvm.Cond.code x code maxLocals ret).before args0 about1 = true := code_word (m := ⟨1, 1⟩) (meth := k1m1) (c := k1c1) (by decide +kernel) rfl rfl rfl (by decide +kernel)
set_option maxRecDepth 65536 in
theorem w_c1 : (Jvm.Cond.code ({ cls := "com/example/surfacemap/surfacemap/operations/Upload", name := "of", desc := "(Lcom/example/surfacemap/surfacemap/operations/Upload$Type;)Lcom/example/surfacemap/surfacemap/operations/Upload;" } : Jvm.MethodName) prog_23_method_2_code (1 : Nat) (Option.some (Jvm.ClassFile.FieldType.object "com/example/surfacemap/surfacemap/operations/Upload"))).before args0 about1 = true := code_word (m := ⟨8, 1⟩) (meth := k8m1) (c := k8c1) (by decide +kernel) rfl rfl rfl (by decide +kernel)
set_option maxRecDepth 65536 in
theorem w_c2 : (Jvm.Cond.code ({ cls := "java/util/Optional", name := "empty", desc := "()Ljava/util/Optional;" } : Jvm.MethodName) jdk_32_method_1_code (1 : Nat) (Option.some (Jvm.ClassFile.FieldType.object "java/util/Optional"))).before args0 about1 = true := code_word (m := ⟨9, 0⟩) (meth := k9m0) (c := k9c0) (by decide +kernel) rfl rfl rfl (by decide +kernel)
set_option maxRecDepth 65536 in
theorem w_c3 : (Jvm.Cond.code ({ cls := "java/util/OptionalLong", name := "empty", desc := "()Ljava/util/OptionalLong;" } : Jvm.MethodName) jdk_2650_method_2_code (0 : Nat) (Option.some (Jvm.ClassFile.FieldType.object "java/util/OptionalLong"))).before args0 about1 = true := code_word (m := ⟨10, 1⟩) (meth := k10m1) (c := k10c1) (by decide +kernel) rfl rfl rfl (by decide +kernel)
set_option maxRecDepth 65536 in
theorem w_c4 : (Jvm.Cond.code ({ cls := "com/example/surfacemap/surfacemap/operations/Upload", name := "<init>", desc := "(Lcom/example/surfacemap/surfacemap/operations/Upload$Type;Ljava/util/Optional;Ljava/util/OptionalLong;)V" } : Jvm.MethodName) prog_23_method_1_code (4 : Nat) (Option.none : Option Jvm.ClassFile.FieldType)).before args0 about1 = true := code_word (m := ⟨8, 0⟩) (meth := k8m0) (c := k8c0) (by decide +kernel) rfl rfl rfl (by decide +kernel)
set_option maxRecDepth 65536 in
theorem w_c5 : (Jvm.Cond.code ({ cls := "java/lang/Record", name := "<init>", desc := "()V" } : Jvm.MethodName) jdk_30_method_1_code (1 : Nat) (Option.none : Option Jvm.ClassFile.FieldType)).before args0 about1 = true := code_word (m := ⟨7, 0⟩) (meth := k7m0) (c := k7c0) (by decide +kernel) rfl rfl rfl (by decide +kernel)
set_option maxRecDepth 65536 in
theorem w_c6 : (Jvm.Cond.code ({ cls := "java/lang/Object", name := "<init>", desc := "()V" } : Jvm.MethodName) object_method_1_code (1 : Nat) (Option.none : Option Jvm.ClassFile.FieldType)).before args0 about1 = true := code_word (m := ⟨0, 0⟩) (meth := k0m0) (c := k0c0) (by decide +kernel) rfl rfl rfl (by decide +kernel)
set_option maxRecDepth 65536 in
theorem w_c7 : (Jvm.Cond.code ({ cls := "java/util/Objects", name := "requireNonNull", desc := "(Ljava/lang/Object;Ljava/lang/String;)Ljava/lang/Object;" } : Jvm.MethodName) jdk_31_method_11_code (2 : Nat) (Option.some (Jvm.ClassFile.FieldType.object "java/lang/Object"))).before args0 about1 = true := code_word (m := ⟨14, 1⟩) (meth := k14m1) (c := k14c1) (by decide +kernel) rfl rfl rfl (by decide +kernel)
set_option maxRecDepth 65536 in
theorem w_c8 : (Jvm.Cond.code ({ cls := "java/util/OptionalLong", name := "isPresent", desc := "()Z" } : Jvm.MethodName) jdk_2650_method_6_code (1 : Nat) (Option.some Jvm.ClassFile.FieldType.boolean)).before args0 about1 = true := code_word (m := ⟨10, 2⟩) (meth := k10m2) (c := k10c2) (by decide +kernel) rfl rfl rfl (by decide +kernel)
set_option maxRecDepth 65536 in
theorem w_c9 : (Jvm.Cond.code ({ cls := "com/example/surfacemap/surfacemap/operations/Upload", name := "type", desc := "()Lcom/example/surfacemap/surfacemap/operations/Upload$Type;" } : Jvm.MethodName) prog_23_method_6_code (1 : Nat) (Option.some (Jvm.ClassFile.FieldType.object "com/example/surfacemap/surfacemap/operations/Upload$Type"))).before args0 about1 = true := code_word (m := ⟨8, 2⟩) (meth := k8m2) (c := k8c2) (by decide +kernel) rfl rfl rfl (by decide +kernel)
set_option maxRecDepth 65536 in
theorem w_c10 : (Jvm.Cond.code ({ cls := "com/example/surfacemap/surfacemap/operations/Upload", name := "contentType", desc := "()Ljava/util/Optional;" } : Jvm.MethodName) prog_23_method_7_code (1 : Nat) (Option.some (Jvm.ClassFile.FieldType.object "java/util/Optional"))).before args0 about1 = true := code_word (m := ⟨8, 3⟩) (meth := k8m3) (c := k8c3) (by decide +kernel) rfl rfl rfl (by decide +kernel)
set_option maxRecDepth 65536 in
theorem w_c11 : (Jvm.Cond.code ({ cls := "java/util/Optional", name := "isPresent", desc := "()Z" } : Jvm.MethodName) jdk_32_method_6_code (1 : Nat) (Option.some Jvm.ClassFile.FieldType.boolean)).before args0 about1 = true := code_word (m := ⟨9, 1⟩) (meth := k9m1) (c := k9c1) (by decide +kernel) rfl rfl rfl (by decide +kernel)
set_option maxRecDepth 65536 in
theorem w_c12 : (Jvm.Cond.code ({ cls := "com/example/surfacemap/surfacemap/operations/Upload", name := "size", desc := "()Ljava/util/OptionalLong;" } : Jvm.MethodName) prog_23_method_8_code (1 : Nat) (Option.some (Jvm.ClassFile.FieldType.object "java/util/OptionalLong"))).before args0 about1 = true := code_word (m := ⟨8, 4⟩) (meth := k8m4) (c := k8c4) (by decide +kernel) rfl rfl rfl (by decide +kernel)
def codes1 : List Jvm.Cond := [Jvm.Cond.code x code maxLocals ret, Jvm.Cond.code ({ cls := "com/example/surfacemap/surfacemap/operations/Upload", name := "of", desc := "(Lcom/example/surfacemap/surfacemap/operations/Upload$Type;)Lcom/example/surfacemap/surfacemap/operations/Upload;" } : Jvm.MethodName) prog_23_method_2_code (1 : Nat) (Option.some (Jvm.ClassFile.FieldType.object "com/example/surfacemap/surfacemap/operations/Upload")), Jvm.Cond.code ({ cls := "java/util/Optional", name := "empty", desc := "()Ljava/util/Optional;" } : Jvm.MethodName) jdk_32_method_1_code (1 : Nat) (Option.some (Jvm.ClassFile.FieldType.object "java/util/Optional")), Jvm.Cond.code ({ cls := "java/util/OptionalLong", name := "empty", desc := "()Ljava/util/OptionalLong;" } : Jvm.MethodName) jdk_2650_method_2_code (0 : Nat) (Option.some (Jvm.ClassFile.FieldType.object "java/util/OptionalLong")), Jvm.Cond.code ({ cls := "com/example/surfacemap/surfacemap/operations/Upload", name := "<init>", desc := "(Lcom/example/surfacemap/surfacemap/operations/Upload$Type;Ljava/util/Optional;Ljava/util/OptionalLong;)V" } : Jvm.MethodName) prog_23_method_1_code (4 : Nat) (Option.none : Option Jvm.ClassFile.FieldType), Jvm.Cond.code ({ cls := "java/lang/Record", name := "<init>", desc := "()V" } : Jvm.MethodName) jdk_30_method_1_code (1 : Nat) (Option.none : Option Jvm.ClassFile.FieldType), Jvm.Cond.code ({ cls := "java/lang/Object", name := "<init>", desc := "()V" } : Jvm.MethodName) object_method_1_code (1 : Nat) (Option.none : Option Jvm.ClassFile.FieldType), Jvm.Cond.code ({ cls := "java/util/Objects", name := "requireNonNull", desc := "(Ljava/lang/Object;Ljava/lang/String;)Ljava/lang/Object;" } : Jvm.MethodName) jdk_31_method_11_code (2 : Nat) (Option.some (Jvm.ClassFile.FieldType.object "java/lang/Object")), Jvm.Cond.code ({ cls := "java/util/OptionalLong", name := "isPresent", desc := "()Z" } : Jvm.MethodName) jdk_2650_method_6_code (1 : Nat) (Option.some Jvm.ClassFile.FieldType.boolean), Jvm.Cond.code ({ cls := "com/example/surfacemap/surfacemap/operations/Upload", name := "type", desc := "()Lcom/example/surfacemap/surfacemap/operations/Upload$Type;" } : Jvm.MethodName) prog_23_method_6_code (1 : Nat) (Option.some (Jvm.ClassFile.FieldType.object "com/example/surfacemap/surfacemap/operations/Upload$Type")), Jvm.Cond.code ({ cls := "com/example/surfacemap/surfacemap/operations/Upload", name := "contentType", desc := "()Ljava/util/Optional;" } : Jvm.MethodName) prog_23_method_7_code (1 : Nat) (Option.some (Jvm.ClassFile.FieldType.object "java/util/Optional")), Jvm.Cond.code ({ cls := "java/util/Optional", name := "isPresent", desc := "()Z" } : Jvm.MethodName) jdk_32_method_6_code (1 : Nat) (Option.some Jvm.ClassFile.FieldType.boolean), Jvm.Cond.code ({ cls := "com/example/surfacemap/surfacemap/operations/Upload", name := "size", desc := "()Ljava/util/OptionalLong;" } : Jvm.MethodName) prog_23_method_8_code (1 : Nat) (Option.some (Jvm.ClassFile.FieldType.object "java/util/OptionalLong"))]
set_option maxRecDepth 65536 in
theorem codes_eq : words1.filter isCode = codes1 := rfl
theorem w_codes : ∀ c ∈ words1.filter isCode, c.before args0 about1 = true := by
  rw [codes_eq]
  intro c hc
  simp only [codes1, List.mem_cons, List.not_mem_nil, or_false] at hc
  rcases hc with rfl | rfl | rfl | rfl | rfl | rfl | rfl | rfl | rfl | rfl | rfl | rfl | rfl
  · exact w_c0
  · exact w_c1
  · exact w_c2
  · exact w_c3
  · exact w_c4
  · exact w_c5
  · exact w_c6
  · exact w_c7
  · exact w_c8
  · exact w_c9
  · exact w_c10
  · exact w_c11
  · exact w_c12
set_option maxRecDepth 65536 in
theorem w_t1 : (words1.take 24).all (fun c => isCode c || c.before args0 about1) = true := by decide +kernel
set_option maxRecDepth 65536 in
theorem w_t2 : ((words1.drop 24).take 24).all (fun c => isCode c || c.before args0 about1) = true := by decide +kernel
set_option maxRecDepth 65536 in
theorem w_t3 : (((words1.drop 24).drop 24).take 24).all (fun c => isCode c || c.before args0 about1) = true := by decide +kernel
set_option maxRecDepth 65536 in
theorem w_t4 : (((words1.drop 24).drop 24).drop 24).all (fun c => isCode c || c.before args0 about1) = true := by decide +kernel
theorem w_tables : (allAtoms (Jvm.Cond.code x code maxLocals ret :: tables_1)).before args0 about1 = true := by
  rw [allAtoms_all]
  show words1.all (fun c => c.before args0 about1) = true
  refine all_split ?_ w_codes
  rw [← List.take_append_drop 24 words1, List.all_append, w_t1, ← List.take_append_drop 24 (words1.drop 24), List.all_append, w_t2, ← List.take_append_drop 24 ((words1.drop 24).drop 24), List.all_append, w_t3, w_t4]
  rfl
set_option maxRecDepth 65536 in
theorem w_rest : rest_1_c.before args0 about1 = true := by decide +kernel
set_option maxRecDepth 65536 in
theorem w_case : (Jvm.Cond.and given_1 narrow_1).before args0 about1 = true := by decide +kernel
theorem w_applies : (headSpec (Jvm.Cond.code x code maxLocals ret :: tables_1) room_1).applies x e0.platform about1 = true :=
  (Spec.applies_iff w_frames).mpr ⟨w_running, w_runnable, w_alone, w_named, w_hears, w_ripe, w_room, w_tables⟩
theorem atStart : AtStart classFile x code maxLocals ret World_1 tables_1 room_1 Calls_1 rest_1 Pre_1 launch0 p0 e0 about1 theMethod args0 below0 :=
  ⟨lists_1, trivial, launch0.admits_env _ _ _, launch0.least_env, fairChoices_fair.cas, fairChoices_fair.clock, w_frames, w_args, w_heap, w_applies, trivial, w_rest, w_case⟩
end start1
theorem witness_1 : WitnessClaimed_1 := ⟨start1.p0, start1.e0, start1.about1, start1.theMethod, start1.args0, start1.below0, start1.atStart⟩
end Jvm.Pilot.@@N@@
