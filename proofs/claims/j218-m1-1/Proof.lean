import JvmDerived
import JvmDerived.Pilot.@@N@@Statement
import JvmDerived.Pilot.@@N@@Code
set_option linter.unusedVariables false
set_option linter.unusedSimpArgs false
namespace Jvm.Pilot.@@N@@
open Jvm Jvm.ClassFile Sem Op Lib Jvm.Free Jvm.Stand Jvm.LawKit Jvm.RoadKit Bundle Jvm.Pilot.@@N@@.Jvm.D
/-- from A the run comes to its end, as the contract wants it -/
def Goes (p : Program) (e : Env) (below : List Frame) (En : Outcome → State → List Loc → Prop) (Q : Option Value → Heap → List Loc → Prop) (A : State) : Prop :=
  ∃ s₂ o, Steps p.tables e below A s₂ ∧ s₂.status = .running ∧ Ended s₂ below o ∧ ∃ v L, o = .returned v ∧ Q v s₂.heap L ∧ En o s₂ L
abbrev Met (l : Launch) (Z : State) (y : MethodName) (bytes : ByteArray) (maxL : Nat) (ret : Option FieldType) (rm : Room) (ws : List Jvm.Cond) (as : Array Value) (h0 : Heap) (Q : Option Value → Heap → List Loc → Prop) : Prop :=
  MetFree l y (head1 (Jvm.Cond.code y bytes maxL ret :: ws) rm) (fun aa U => aa = as ∧ Z.Warmed39 U.vm ∧ U.heap = h0) (fun _ _ _ _ _ => True) (fun _ U o U' => ∃ v L, o = .returned v ∧ Q v U'.heap L ∧ FrameEnd U o U' L rm.cells rm.slots)
abbrev MetW (l : Launch) (Z : State) (y : MethodName) (bytes : ByteArray) (maxL : Nat) (ret : Option FieldType) (rm : Room) (ws : List Jvm.Cond) (as : Array Value) (h0 : Heap) (Q : Option Value → Heap → List Loc → Prop) : Prop :=
  MetFree l y (head1 (Jvm.Cond.code y bytes maxL ret :: ws) rm) (fun aa U => aa = as ∧ Z.Warmed39 U.vm ∧ U.heap = h0) (fun _ _ _ _ _ => True) (fun _ U o U' => ∃ v L, o = .returned v ∧ Q v U'.heap L ∧ ReturnedEndW U o U' L rm.cells rm.slots)
section OwnSteps
variable {p : Program} {l : Launch} {e : Env} {R : Room} {s : State} {m : MethodId} {args : Array Value} {below : List Frame} {meth : Method} {c : Code} {T : State} {locs : List Loc} {cells slots : Nat}
theorem Goes.step {En : Outcome → State → List Loc → Prop} {Q : Option Value → Heap → List Loc → Prop} {A B : State} (st : ∀ t, Steps p.tables e below A t → Steps p.tables e below B t) (h : Goes p e below En Q A) : Goes p e below En Q B :=
  let ⟨s₂, o, h1, r⟩ := h; ⟨s₂, o, st _ h1, r⟩
theorem Goes.ret (X : Stand p l e R s m args below meth c T locs cells slots) {rc rs : Nat} {Q : Option Value → Heap → List Loc → Prop} {B : State} (v : Option Value) (hv : meth.sig.returnType = none → v = none) (hlk : meth.locks = false) (hc : cells ≤ rc) (hs : slots ≤ rs) (q : Q v T.heap locs)
    (k : ∀ fs, (∀ (f : JFrame) (acts : List Action), f.method = m → f.locked = none → f.entered = [] → (doReturn e (T.setTop f) acts v).1 = T.setFrames fs) → Steps p.tables e below B (T.setFrames fs)) : Goes p e below (fun o u L => FrameEnd s o u L rc rs) Q B := by
  obtain ⟨fs, hr, hrun, hended, hW, hsame⟩ := X.leave (v := v) hv hlk
  exact ⟨_, _, k fs hr, hrun, hended, _, _, rfl, q, ⟨_, rfl⟩, hW, hsame.mono hc hs⟩
theorem Goes.retW {vm₁ : Vm} (X : Stand p l e R (s.setVm vm₁) m args below meth c T locs cells slots) {n : Nat} (hS : s.Since vm₁ n) (hn : n ≤ T.heap.size) {rc rs : Nat} {Q : Option Value → Heap → List Loc → Prop} {B : State} (v : Option Value) (hv : meth.sig.returnType = none → v = none) (hlk : meth.locks = false) (hc : cells ≤ rc) (hs : slots ≤ rs) (q : Q v T.heap locs)
    (k : ∀ fs, (∀ (f : JFrame) (acts : List Action), f.method = m → f.locked = none → f.entered = [] → (doReturn e (T.setTop f) acts v).1 = T.setFrames fs) → Steps p.tables e below B (T.setFrames fs)) : Goes p e below (fun o u L => ReturnedEndW s o u L rc rs) Q B := by
  obtain ⟨fs, hr, hrun, hended, h1, h2, h3, h4⟩ := X.leaveW hS hn (v := v) hv hlk
  exact ⟨_, _, k fs hr, hrun, hended, _, _, rfl, q, h1, h2, h3, h4.mono hc hs⟩
theorem own_retN (X : Stand p l e R s m args below meth c T locs cells slots) (hx : p.tables.exec = Jvm.exec) {pc : Nat} {Ls : Array Slot} {z : Int32} {t : FieldType} {rest : List Value} (hret : meth.sig.returnType = some t) (ht : t = .boolean ∨ t = .byte ∨ t = .char ∨ t = .short) (hn : nar t z = z) (hd : decode c.code pc = .ok (.ireturn, 1)) {fs : List Frame}
    (hl : ∀ (f : JFrame) (acts : List Action), f.method = m → f.locked = none → f.entered = [] → (doReturn e (T.setTop f) acts (some (.int z))).1 = T.setFrames fs) : Steps p.tables e below (T.setTop (mkF m pc Ls (.int z :: rest))) (T.setFrames fs) :=
  retN X hx hret ht hd (by rw [hn]; exact hl)
theorem own_retA (X : Stand p l e R s m args below meth c T locs cells slots) (hx : p.tables.exec = Jvm.exec) {pc : Nat} {Ls : Array Slot} {z : Value} {t : FieldType} {rest : List Value} (hret : meth.sig.returnType = some t) (ht : t.isReference = true) (hz : z.isRef = true) (hd : decode c.code pc = .ok (.areturn, 1)) {fs : List Frame}
    (hl : ∀ (f : JFrame) (acts : List Action), f.method = m → f.locked = none → f.entered = [] → (doReturn e (T.setTop f) acts (some z)).1 = T.setFrames fs) : Steps p.tables e below (T.setTop (mkF m pc Ls (z :: rest))) (T.setFrames fs) := by
  have hm' : T.vm.method? m = some meth := X.method'
  show Steps p.tables e below (T.setTop { method := m, pc := pc, locals := Ls, stack := _ :: rest, locked := none }) _
  jvm_step X.here [X.here.top, hx, hd, hm', hret, hz, ht]
  first | (intro acts; rw [hl _ acts rfl rfl rfl]) | rw [hl _ _ rfl rfl rfl]
  exact Steps.refl _
end OwnSteps
def own_pick (k : Int32) (w0 w1 w2 w3 w4 w5 : Addr) : Addr := if k = 0 then w0 else if k = 1 then w1 else if k = 2 then w2 else if k = 3 then w3 else if k = 4 then w4 else w5
def own_not (k : Int32) : Int32 := if k = 1 then 1 else if k = 3 then 1 else if k = 5 then 1 else 0
def own_holds (g b : Int32) : Int32 := if g = 0 then b else if b = 0 then 1 else 0
theorem own_six (x : Int32) : ((x &&& (2147483647 : Int32)) % (6 : Int32)) = 0 ∨ ((x &&& (2147483647 : Int32)) % (6 : Int32)) = 1 ∨ ((x &&& (2147483647 : Int32)) % (6 : Int32)) = 2 ∨ ((x &&& (2147483647 : Int32)) % (6 : Int32)) = 3 ∨ ((x &&& (2147483647 : Int32)) % (6 : Int32)) = 4 ∨ ((x &&& (2147483647 : Int32)) % (6 : Int32)) = 5 := by
  have h := c_and x 2147483647 (by decide)
  have h2 := (c_irem (x &&& (2147483647 : Int32)) 6 6 (by decide)).1 h.1
  generalize ((x &&& (2147483647 : Int32)) % (6 : Int32)) = r at *
  generalize (x &&& (2147483647 : Int32)) = y at *
  have e0 : (0 : Int32).toInt = 0 := by decide
  have e1 : (1 : Int32).toInt = 1 := by decide
  have e2 : (2 : Int32).toInt = 2 := by decide
  have e3 : (3 : Int32).toInt = 3 := by decide
  have e4 : (4 : Int32).toInt = 4 := by decide
  have e5 : (5 : Int32).toInt = 5 := by decide
  simp only [← Int32.toInt_inj, e0, e1, e2, e3, e4, e5]
  omega
theorem own_fld {s : State} {args : Array Value} {t : Term} {a : Addr} {C n d : String} {k : Int32} (ev : t.eval args s none [] s = some (.ref a)) (h : (Jvm.Cond.eq (Jvm.Term.field t C n d) (Jvm.Term.int k)).value args s none s [] = some true) : Fld s s.heap a C n d (.int k) := by
  refine Fld.start ?_
  simp only [Cond.value, Term.eval, ev] at h ⊢
  cases hf : s.fieldOf? a C n d with
  | none => simp [hf] at h
  | some v => cases v <;> simp_all
theorem own_d_method_2_0 : decode method_2_code 0 = .ok (.iload_n 0, 1) := by decide +kernel
theorem own_d_method_2_1 : decode method_2_code 1 = .ok (.ifCond .ne 7, 3) := by decide +kernel
theorem own_d_method_2_4 : decode method_2_code 4 = .ok (.getstatic 7, 3) := by decide +kernel
theorem own_d_method_2_7 : decode method_2_code 7 = .ok (.areturn, 1) := by decide +kernel
theorem own_d_method_2_8 : decode method_2_code 8 = .ok (.iload_n 0, 1) := by decide +kernel
theorem own_d_method_2_9 : decode method_2_code 9 = .ok (.iconst 1, 1) := by decide +kernel
theorem own_d_method_2_10 : decode method_2_code 10 = .ok (.if_icmp .ne 7, 3) := by decide +kernel
theorem own_d_method_2_13 : decode method_2_code 13 = .ok (.getstatic 13, 3) := by decide +kernel
theorem own_d_method_2_16 : decode method_2_code 16 = .ok (.areturn, 1) := by decide +kernel
theorem own_d_method_2_17 : decode method_2_code 17 = .ok (.iload_n 0, 1) := by decide +kernel
theorem own_d_method_2_18 : decode method_2_code 18 = .ok (.iconst 2, 1) := by decide +kernel
theorem own_d_method_2_19 : decode method_2_code 19 = .ok (.if_icmp .ne 7, 3) := by decide +kernel
theorem own_d_method_2_22 : decode method_2_code 22 = .ok (.getstatic 16, 3) := by decide +kernel
theorem own_d_method_2_25 : decode method_2_code 25 = .ok (.areturn, 1) := by decide +kernel
theorem own_d_method_2_26 : decode method_2_code 26 = .ok (.iload_n 0, 1) := by decide +kernel
theorem own_d_method_2_27 : decode method_2_code 27 = .ok (.iconst 3, 1) := by decide +kernel
theorem own_d_method_2_28 : decode method_2_code 28 = .ok (.if_icmp .ne 7, 3) := by decide +kernel
theorem own_d_method_2_31 : decode method_2_code 31 = .ok (.getstatic 19, 3) := by decide +kernel
theorem own_d_method_2_34 : decode method_2_code 34 = .ok (.areturn, 1) := by decide +kernel
theorem own_d_method_2_35 : decode method_2_code 35 = .ok (.iload_n 0, 1) := by decide +kernel
theorem own_d_method_2_36 : decode method_2_code 36 = .ok (.iconst 4, 1) := by decide +kernel
theorem own_d_method_2_37 : decode method_2_code 37 = .ok (.if_icmp .ne 7, 3) := by decide +kernel
theorem own_d_method_2_40 : decode method_2_code 40 = .ok (.getstatic 22, 3) := by decide +kernel
theorem own_d_method_2_43 : decode method_2_code 43 = .ok (.areturn, 1) := by decide +kernel
theorem own_d_method_2_44 : decode method_2_code 44 = .ok (.getstatic 25, 3) := by decide +kernel
theorem own_d_method_2_47 : decode method_2_code 47 = .ok (.areturn, 1) := by decide +kernel
theorem own_pn0 : plainName "com/example/token_into_keys/tokenintokeys/policy/OperatorHoldsWhenPinLaw" = true := by first | (simp [plainName, overriddenIn]; done) | decide +kernel
theorem own_ef_rm_pick (m : MethodId) (x0 : Int32) : entryFrame m #[(.int x0)] 1 = mkF m 0 #[.val (.int x0)] [] := by first | (simp [entryFrame, mkF, argsToLocals, Value.category]; done) | rfl
def Q_rm_pick (Z : State) (k : Int32) (w0 : Addr) (w1 : Addr) (w2 : Addr) (w3 : Addr) (w4 : Addr) (w5 : Addr) (h0 : Heap) (n0 : Nat) (v : Option Value) (h : Heap) (L : List Loc) : Prop := v = some (.ref (own_pick k w0 w1 w2 w3 w4 w5)) ∧ Fr n0 L ∧ h = h0
set_option maxRecDepth 65536 in
set_option maxHeartbeats 40000000 in
theorem rm_pick (l : Launch) (Z : State) (a0 : Array Value) (hw : ∀ d ∈ tables_1, d.before a0 Z = true) (ws : List Jvm.Cond) (k : Int32) (w0 : Addr) (w1 : Addr) (w2 : Addr) (w3 : Addr) (w4 : Addr) (w5 : Addr) (h0 : Heap) (n0 : Nat) (Z0 : n0 ≤ h0.size) (S0 : Sta Z h0 "com/example/token_into_keys/tokenintokeys/policy/Operator" "STRING_EQUALS" "Lcom/example/token_into_keys/tokenintokeys/policy/Operator;" (.ref w0)) (S1 : Sta Z h0 "com/example/token_into_keys/tokenintokeys/policy/Operator" "STRING_NOT_EQUALS" "Lcom/example/token_into_keys/tokenintokeys/policy/Operator;" (.ref w1)) (S2 : Sta Z h0 "com/example/token_into_keys/tokenintokeys/policy/Operator" "STRING_EQUALS_IGNORE_CASE" "Lcom/example/token_into_keys/tokenintokeys/policy/Operator;" (.ref w2)) (S3 : Sta Z h0 "com/example/token_into_keys/tokenintokeys/policy/Operator" "STRING_NOT_EQUALS_IGNORE_CASE" "Lcom/example/token_into_keys/tokenintokeys/policy/Operator;" (.ref w3)) (S4 : Sta Z h0 "com/example/token_into_keys/tokenintokeys/policy/Operator" "STRING_LIKE" "Lcom/example/token_into_keys/tokenintokeys/policy/Operator;" (.ref w4)) (S5 : Sta Z h0 "com/example/token_into_keys/tokenintokeys/policy/Operator" "STRING_NOT_LIKE" "Lcom/example/token_into_keys/tokenintokeys/policy/Operator;" (.ref w5)) :
    Met l Z (⟨"com/example/token_into_keys/tokenintokeys/policy/OperatorHoldsWhenPinLaw", "pick", "(I)Lcom/example/token_into_keys/tokenintokeys/policy/Operator;"⟩ : MethodName) method_2_code 1 (some (.object "com/example/token_into_keys/tokenintokeys/policy/Operator")) ({ frames := 0, cells := 0, slots := 0, locals := 0 } : Room) ws #[(.int k)] h0 (Q_rm_pick Z k w0 w1 w2 w3 w4 w5 h0 n0) := by
  refine MetFree.of_bodySF (plainFor_of_name own_pn0) hisR ?_
  intro p e s m args below meth c s₁ Bd hml0 hP hK
  obtain ⟨rfl, hZ, hh⟩ := hP
  have hx := Bd.exec
  have hby := Bd.bytes
  have hlk : meth.locks = false := BodyLoose.notSynchronized Bd
  have hml : c.maxLocals = 1 := hml0
  have hown : s.vm.findClass "com/example/token_into_keys/tokenintokeys/policy/OperatorHoldsWhenPinLaw" = some m.cls := findClass_of_methodNamed Bd.named
  have hnm := (name_of_methodNamed Bd.named Bd.method).1
  have X0 : Stand p l e ({ frames := 0, cells := 0, slots := 0, locals := 0 } : Room) s m #[(.int k)] below meth c s₁ [] 0 0 := Stand.of_body Bd
  have e0 : s₁.heap = h0 := by rw [← hh, Bd.state]; rfl
  have N0 := Fr.nil n0
  show Goes p e below (fun o u L => FrameEnd s o u L ({ frames := 0, cells := 0, slots := 0, locals := 0 } : Room).cells ({ frames := 0, cells := 0, slots := 0, locals := 0 } : Room).slots) (Q_rm_pick Z k w0 w1 w2 w3 w4 w5 h0 n0) (s₁.setTop (entryFrame m #[(.int k)] 1))
  refine Goes.step (fun _ tk => castTop (own_ef_rm_pick m k) tk) ?_
  show Goes _ _ _ _ _ (s₁.setTop (mkF m 0 #[.val (.int k)] []))
  refine Goes.step (fun _ tk => XS.iloadN X0.here hx rfl (hb hby own_d_method_2_0) rfl tk) ?_
  show Goes _ _ _ _ _ (s₁.setTop (mkF m 1 #[.val (.int k)] [(.int k)]))
  by_cases hc1_1 : k = (0 : Int32)
  · refine Goes.step (fun _ tk => XS.ifNo X0.here hx rfl (hb hby own_d_method_2_1) rfl ((if0 _ _).trans (teq hc1_1).2) tk) ?_
    show Goes _ _ _ _ _ (s₁.setTop (mkF m 4 #[.val (.int k)] []))
    obtain ⟨T2, X2, e2, st2⟩ := getS2 X0 hx hZ hown (host := "") (Or.inl (hw _ (List.mem_of_getElem? (i := 5) rfl))) Via.refl e0 S0 (g := (mkF m 4 #[.val (.int k)] [])) rfl (hb hby own_d_method_2_4)
    refine Goes.step st2 ?_
    show Goes _ _ _ _ _ (T2.setTop (mkF m 7 #[.val (.int k)] [(.ref w0)]))
    refine Goes.ret X2 (some (.ref w0)) (fun h => by rw [Bd.returns] at h; cases h) hlk (by decide) (by decide) ?_ (fun fs hr => ?_)
    · exact ⟨by simp [own_pick, *], N0, e2⟩
    · exact own_retA X2 hx Bd.returns rfl rfl (hb hby own_d_method_2_7) hr
  · refine Goes.step (fun _ tk => XS.ifYes X0.here hx rfl (pc0 := 1) (pc' := 8) rfl (hb hby own_d_method_2_1) rfl ((if0 _ _).trans (feq hc1_1).2) (by decide) (by decide) tk) ?_
    show Goes _ _ _ _ _ (s₁.setTop (mkF m 8 #[.val (.int k)] []))
    refine Goes.step (fun _ tk => XS.iloadN X0.here hx rfl (hb hby own_d_method_2_8) rfl tk) ?_
    show Goes _ _ _ _ _ (s₁.setTop (mkF m 9 #[.val (.int k)] [(.int k)]))
    refine Goes.step (fun _ tk => XS.iconst X0.here hx rfl (hb hby own_d_method_2_9) tk) ?_
    show Goes _ _ _ _ _ (s₁.setTop (mkF m 10 #[.val (.int k)] [(.int (1 : Int32)), (.int k)]))
    by_cases hc10_3 : k = (1 : Int32)
    · refine Goes.step (fun _ tk => XS.icmpNo X0.here hx rfl (hb hby own_d_method_2_10) rfl (teq hc10_3).2 tk) ?_
      show Goes _ _ _ _ _ (s₁.setTop (mkF m 13 #[.val (.int k)] []))
      obtain ⟨T4, X4, e4, st4⟩ := getS2 X0 hx hZ hown (host := "") (Or.inl (hw _ (List.mem_of_getElem? (i := 22) rfl))) Via.refl e0 S1 (g := (mkF m 13 #[.val (.int k)] [])) rfl (hb hby own_d_method_2_13)
      refine Goes.step st4 ?_
      show Goes _ _ _ _ _ (T4.setTop (mkF m 16 #[.val (.int k)] [(.ref w1)]))
      refine Goes.ret X4 (some (.ref w1)) (fun h => by rw [Bd.returns] at h; cases h) hlk (by decide) (by decide) ?_ (fun fs hr => ?_)
      · exact ⟨by simp [own_pick, *], N0, e4⟩
      · exact own_retA X4 hx Bd.returns rfl rfl (hb hby own_d_method_2_16) hr
    · refine Goes.step (fun _ tk => XS.icmpYes X0.here hx rfl (pc0 := 10) (pc' := 17) rfl (hb hby own_d_method_2_10) rfl (feq hc10_3).2 (by decide) (by decide) tk) ?_
      show Goes _ _ _ _ _ (s₁.setTop (mkF m 17 #[.val (.int k)] []))
      refine Goes.step (fun _ tk => XS.iloadN X0.here hx rfl (hb hby own_d_method_2_17) rfl tk) ?_
      show Goes _ _ _ _ _ (s₁.setTop (mkF m 18 #[.val (.int k)] [(.int k)]))
      refine Goes.step (fun _ tk => XS.iconst X0.here hx rfl (hb hby own_d_method_2_18) tk) ?_
      show Goes _ _ _ _ _ (s₁.setTop (mkF m 19 #[.val (.int k)] [(.int (2 : Int32)), (.int k)]))
      by_cases hc19_5 : k = (2 : Int32)
      · refine Goes.step (fun _ tk => XS.icmpNo X0.here hx rfl (hb hby own_d_method_2_19) rfl (teq hc19_5).2 tk) ?_
        show Goes _ _ _ _ _ (s₁.setTop (mkF m 22 #[.val (.int k)] []))
        obtain ⟨T6, X6, e6, st6⟩ := getS2 X0 hx hZ hown (host := "") (Or.inl (hw _ (List.mem_of_getElem? (i := 18) rfl))) Via.refl e0 S2 (g := (mkF m 22 #[.val (.int k)] [])) rfl (hb hby own_d_method_2_22)
        refine Goes.step st6 ?_
        show Goes _ _ _ _ _ (T6.setTop (mkF m 25 #[.val (.int k)] [(.ref w2)]))
        refine Goes.ret X6 (some (.ref w2)) (fun h => by rw [Bd.returns] at h; cases h) hlk (by decide) (by decide) ?_ (fun fs hr => ?_)
        · exact ⟨by simp [own_pick, *], N0, e6⟩
        · exact own_retA X6 hx Bd.returns rfl rfl (hb hby own_d_method_2_25) hr
      · refine Goes.step (fun _ tk => XS.icmpYes X0.here hx rfl (pc0 := 19) (pc' := 26) rfl (hb hby own_d_method_2_19) rfl (feq hc19_5).2 (by decide) (by decide) tk) ?_
        show Goes _ _ _ _ _ (s₁.setTop (mkF m 26 #[.val (.int k)] []))
        refine Goes.step (fun _ tk => XS.iloadN X0.here hx rfl (hb hby own_d_method_2_26) rfl tk) ?_
        show Goes _ _ _ _ _ (s₁.setTop (mkF m 27 #[.val (.int k)] [(.int k)]))
        refine Goes.step (fun _ tk => XS.iconst X0.here hx rfl (hb hby own_d_method_2_27) tk) ?_
        show Goes _ _ _ _ _ (s₁.setTop (mkF m 28 #[.val (.int k)] [(.int (3 : Int32)), (.int k)]))
        by_cases hc28_7 : k = (3 : Int32)
        · refine Goes.step (fun _ tk => XS.icmpNo X0.here hx rfl (hb hby own_d_method_2_28) rfl (teq hc28_7).2 tk) ?_
          show Goes _ _ _ _ _ (s₁.setTop (mkF m 31 #[.val (.int k)] []))
          obtain ⟨T8, X8, e8, st8⟩ := getS2 X0 hx hZ hown (host := "") (Or.inl (hw _ (List.mem_of_getElem? (i := 26) rfl))) Via.refl e0 S3 (g := (mkF m 31 #[.val (.int k)] [])) rfl (hb hby own_d_method_2_31)
          refine Goes.step st8 ?_
          show Goes _ _ _ _ _ (T8.setTop (mkF m 34 #[.val (.int k)] [(.ref w3)]))
          refine Goes.ret X8 (some (.ref w3)) (fun h => by rw [Bd.returns] at h; cases h) hlk (by decide) (by decide) ?_ (fun fs hr => ?_)
          · exact ⟨by simp [own_pick, *], N0, e8⟩
          · exact own_retA X8 hx Bd.returns rfl rfl (hb hby own_d_method_2_34) hr
        · refine Goes.step (fun _ tk => XS.icmpYes X0.here hx rfl (pc0 := 28) (pc' := 35) rfl (hb hby own_d_method_2_28) rfl (feq hc28_7).2 (by decide) (by decide) tk) ?_
          show Goes _ _ _ _ _ (s₁.setTop (mkF m 35 #[.val (.int k)] []))
          refine Goes.step (fun _ tk => XS.iloadN X0.here hx rfl (hb hby own_d_method_2_35) rfl tk) ?_
          show Goes _ _ _ _ _ (s₁.setTop (mkF m 36 #[.val (.int k)] [(.int k)]))
          refine Goes.step (fun _ tk => XS.iconst X0.here hx rfl (hb hby own_d_method_2_36) tk) ?_
          show Goes _ _ _ _ _ (s₁.setTop (mkF m 37 #[.val (.int k)] [(.int (4 : Int32)), (.int k)]))
          by_cases hc37_9 : k = (4 : Int32)
          · refine Goes.step (fun _ tk => XS.icmpNo X0.here hx rfl (hb hby own_d_method_2_37) rfl (teq hc37_9).2 tk) ?_
            show Goes _ _ _ _ _ (s₁.setTop (mkF m 40 #[.val (.int k)] []))
            obtain ⟨T10, X10, e10, st10⟩ := getS2 X0 hx hZ hown (host := "") (Or.inl (hw _ (List.mem_of_getElem? (i := 20) rfl))) Via.refl e0 S4 (g := (mkF m 40 #[.val (.int k)] [])) rfl (hb hby own_d_method_2_40)
            refine Goes.step st10 ?_
            show Goes _ _ _ _ _ (T10.setTop (mkF m 43 #[.val (.int k)] [(.ref w4)]))
            refine Goes.ret X10 (some (.ref w4)) (fun h => by rw [Bd.returns] at h; cases h) hlk (by decide) (by decide) ?_ (fun fs hr => ?_)
            · exact ⟨by simp [own_pick, *], N0, e10⟩
            · exact own_retA X10 hx Bd.returns rfl rfl (hb hby own_d_method_2_43) hr
          · refine Goes.step (fun _ tk => XS.icmpYes X0.here hx rfl (pc0 := 37) (pc' := 44) rfl (hb hby own_d_method_2_37) rfl (feq hc37_9).2 (by decide) (by decide) tk) ?_
            show Goes _ _ _ _ _ (s₁.setTop (mkF m 44 #[.val (.int k)] []))
            obtain ⟨T11, X11, e11, st11⟩ := getS2 X0 hx hZ hown (host := "") (Or.inl (hw _ (List.mem_of_getElem? (i := 24) rfl))) Via.refl e0 S5 (g := (mkF m 44 #[.val (.int k)] [])) rfl (hb hby own_d_method_2_44)
            refine Goes.step st11 ?_
            show Goes _ _ _ _ _ (T11.setTop (mkF m 47 #[.val (.int k)] [(.ref w5)]))
            refine Goes.ret X11 (some (.ref w5)) (fun h => by rw [Bd.returns] at h; cases h) hlk (by decide) (by decide) ?_ (fun fs hr => ?_)
            · exact ⟨by simp [own_pick, *], N0, e11⟩
            · exact own_retA X11 hx Bd.returns rfl rfl (hb hby own_d_method_2_47) hr
theorem own_d_method_3_0 : decode method_3_code 0 = .ok (.iload_n 0, 1) := by decide +kernel
theorem own_d_method_3_1 : decode method_3_code 1 = .ok (.iconst 1, 1) := by decide +kernel
theorem own_d_method_3_2 : decode method_3_code 2 = .ok (.if_icmp .eq 13, 3) := by decide +kernel
theorem own_d_method_3_15 : decode method_3_code 15 = .ok (.iconst 1, 1) := by decide +kernel
theorem own_d_method_3_16 : decode method_3_code 16 = .ok (.goto 4, 3) := by decide +kernel
theorem own_d_method_3_20 : decode method_3_code 20 = .ok (.ireturn, 1) := by decide +kernel
theorem own_d_method_3_5 : decode method_3_code 5 = .ok (.iload_n 0, 1) := by decide +kernel
theorem own_d_method_3_6 : decode method_3_code 6 = .ok (.iconst 3, 1) := by decide +kernel
theorem own_d_method_3_7 : decode method_3_code 7 = .ok (.if_icmp .eq 8, 3) := by decide +kernel
theorem own_d_method_3_10 : decode method_3_code 10 = .ok (.iload_n 0, 1) := by decide +kernel
theorem own_d_method_3_11 : decode method_3_code 11 = .ok (.iconst 5, 1) := by decide +kernel
theorem own_d_method_3_12 : decode method_3_code 12 = .ok (.if_icmp .ne 7, 3) := by decide +kernel
theorem own_d_method_3_19 : decode method_3_code 19 = .ok (.iconst 0, 1) := by decide +kernel
theorem own_ef_rm_not (m : MethodId) (x0 : Int32) : entryFrame m #[(.int x0)] 1 = mkF m 0 #[.val (.int x0)] [] := by first | (simp [entryFrame, mkF, argsToLocals, Value.category]; done) | rfl
def Q_rm_not (Z : State) (k : Int32) (h0 : Heap) (n0 : Nat) (v : Option Value) (h : Heap) (L : List Loc) : Prop := v = some (.int (own_not k)) ∧ Fr n0 L ∧ h = h0
set_option maxRecDepth 65536 in
set_option maxHeartbeats 40000000 in
theorem rm_not (l : Launch) (Z : State) (a0 : Array Value) (hw : ∀ d ∈ tables_1, d.before a0 Z = true) (ws : List Jvm.Cond) (k : Int32) (h0 : Heap) (n0 : Nat) (Z0 : n0 ≤ h0.size) :
    Met l Z (⟨"com/example/token_into_keys/tokenintokeys/policy/OperatorHoldsWhenPinLaw", "isNot", "(I)Z"⟩ : MethodName) method_3_code 1 (some .boolean) ({ frames := 0, cells := 0, slots := 0, locals := 0 } : Room) ws #[(.int k)] h0 (Q_rm_not Z k h0 n0) := by
  refine MetFree.of_bodySF (plainFor_of_name own_pn0) hisR ?_
  intro p e s m args below meth c s₁ Bd hml0 hP hK
  obtain ⟨rfl, hZ, hh⟩ := hP
  have hx := Bd.exec
  have hby := Bd.bytes
  have hlk : meth.locks = false := BodyLoose.notSynchronized Bd
  have hml : c.maxLocals = 1 := hml0
  have hown : s.vm.findClass "com/example/token_into_keys/tokenintokeys/policy/OperatorHoldsWhenPinLaw" = some m.cls := findClass_of_methodNamed Bd.named
  have hnm := (name_of_methodNamed Bd.named Bd.method).1
  have X0 : Stand p l e ({ frames := 0, cells := 0, slots := 0, locals := 0 } : Room) s m #[(.int k)] below meth c s₁ [] 0 0 := Stand.of_body Bd
  have e0 : s₁.heap = h0 := by rw [← hh, Bd.state]; rfl
  have N0 := Fr.nil n0
  show Goes p e below (fun o u L => FrameEnd s o u L ({ frames := 0, cells := 0, slots := 0, locals := 0 } : Room).cells ({ frames := 0, cells := 0, slots := 0, locals := 0 } : Room).slots) (Q_rm_not Z k h0 n0) (s₁.setTop (entryFrame m #[(.int k)] 1))
  refine Goes.step (fun _ tk => castTop (own_ef_rm_not m k) tk) ?_
  show Goes _ _ _ _ _ (s₁.setTop (mkF m 0 #[.val (.int k)] []))
  refine Goes.step (fun _ tk => XS.iloadN X0.here hx rfl (hb hby own_d_method_3_0) rfl tk) ?_
  show Goes _ _ _ _ _ (s₁.setTop (mkF m 1 #[.val (.int k)] [(.int k)]))
  refine Goes.step (fun _ tk => XS.iconst X0.here hx rfl (hb hby own_d_method_3_1) tk) ?_
  show Goes _ _ _ _ _ (s₁.setTop (mkF m 2 #[.val (.int k)] [(.int (1 : Int32)), (.int k)]))
  by_cases hc2_1 : k = (1 : Int32)
  · refine Goes.step (fun _ tk => XS.icmpYes X0.here hx rfl (pc0 := 2) (pc' := 15) rfl (hb hby own_d_method_3_2) rfl (teq hc2_1).1 (by decide) (by decide) tk) ?_
    show Goes _ _ _ _ _ (s₁.setTop (mkF m 15 #[.val (.int k)] []))
    refine Goes.step (fun _ tk => XS.iconst X0.here hx rfl (hb hby own_d_method_3_15) tk) ?_
    show Goes _ _ _ _ _ (s₁.setTop (mkF m 16 #[.val (.int k)] [(.int (1 : Int32))]))
    refine Goes.step (fun _ tk => XS.goto X0.here hx rfl (pc0 := 16) (pc' := 20) rfl (hb hby own_d_method_3_16) (by decide) (by decide) tk) ?_
    show Goes _ _ _ _ _ (s₁.setTop (mkF m 20 #[.val (.int k)] [(.int (1 : Int32))]))
    refine Goes.ret X0 (some (.int (1 : Int32))) (fun h => by rw [Bd.returns] at h; cases h) hlk (by decide) (by decide) ?_ (fun fs hr => ?_)
    · exact ⟨by simp [own_not, *], N0, e0⟩
    · exact own_retN X0 hx (t := .boolean) Bd.returns (by simp) rfl (hb hby own_d_method_3_20) hr
  · refine Goes.step (fun _ tk => XS.icmpNo X0.here hx rfl (hb hby own_d_method_3_2) rfl (feq hc2_1).1 tk) ?_
    show Goes _ _ _ _ _ (s₁.setTop (mkF m 5 #[.val (.int k)] []))
    refine Goes.step (fun _ tk => XS.iloadN X0.here hx rfl (hb hby own_d_method_3_5) rfl tk) ?_
    show Goes _ _ _ _ _ (s₁.setTop (mkF m 6 #[.val (.int k)] [(.int k)]))
    refine Goes.step (fun _ tk => XS.iconst X0.here hx rfl (hb hby own_d_method_3_6) tk) ?_
    show Goes _ _ _ _ _ (s₁.setTop (mkF m 7 #[.val (.int k)] [(.int (3 : Int32)), (.int k)]))
    by_cases hc7_2 : k = (3 : Int32)
    · refine Goes.step (fun _ tk => XS.icmpYes X0.here hx rfl (pc0 := 7) (pc' := 15) rfl (hb hby own_d_method_3_7) rfl (teq hc7_2).1 (by decide) (by decide) tk) ?_
      show Goes _ _ _ _ _ (s₁.setTop (mkF m 15 #[.val (.int k)] []))
      refine Goes.step (fun _ tk => XS.iconst X0.here hx rfl (hb hby own_d_method_3_15) tk) ?_
      show Goes _ _ _ _ _ (s₁.setTop (mkF m 16 #[.val (.int k)] [(.int (1 : Int32))]))
      refine Goes.step (fun _ tk => XS.goto X0.here hx rfl (pc0 := 16) (pc' := 20) rfl (hb hby own_d_method_3_16) (by decide) (by decide) tk) ?_
      show Goes _ _ _ _ _ (s₁.setTop (mkF m 20 #[.val (.int k)] [(.int (1 : Int32))]))
      refine Goes.ret X0 (some (.int (1 : Int32))) (fun h => by rw [Bd.returns] at h; cases h) hlk (by decide) (by decide) ?_ (fun fs hr => ?_)
      · exact ⟨by simp [own_not, *], N0, e0⟩
      · exact own_retN X0 hx (t := .boolean) Bd.returns (by simp) rfl (hb hby own_d_method_3_20) hr
    · refine Goes.step (fun _ tk => XS.icmpNo X0.here hx rfl (hb hby own_d_method_3_7) rfl (feq hc7_2).1 tk) ?_
      show Goes _ _ _ _ _ (s₁.setTop (mkF m 10 #[.val (.int k)] []))
      refine Goes.step (fun _ tk => XS.iloadN X0.here hx rfl (hb hby own_d_method_3_10) rfl tk) ?_
      show Goes _ _ _ _ _ (s₁.setTop (mkF m 11 #[.val (.int k)] [(.int k)]))
      refine Goes.step (fun _ tk => XS.iconst X0.here hx rfl (hb hby own_d_method_3_11) tk) ?_
      show Goes _ _ _ _ _ (s₁.setTop (mkF m 12 #[.val (.int k)] [(.int (5 : Int32)), (.int k)]))
      by_cases hc12_3 : k = (5 : Int32)
      · refine Goes.step (fun _ tk => XS.icmpNo X0.here hx rfl (hb hby own_d_method_3_12) rfl (teq hc12_3).2 tk) ?_
        show Goes _ _ _ _ _ (s₁.setTop (mkF m 15 #[.val (.int k)] []))
        refine Goes.step (fun _ tk => XS.iconst X0.here hx rfl (hb hby own_d_method_3_15) tk) ?_
        show Goes _ _ _ _ _ (s₁.setTop (mkF m 16 #[.val (.int k)] [(.int (1 : Int32))]))
        refine Goes.step (fun _ tk => XS.goto X0.here hx rfl (pc0 := 16) (pc' := 20) rfl (hb hby own_d_method_3_16) (by decide) (by decide) tk) ?_
        show Goes _ _ _ _ _ (s₁.setTop (mkF m 20 #[.val (.int k)] [(.int (1 : Int32))]))
        refine Goes.ret X0 (some (.int (1 : Int32))) (fun h => by rw [Bd.returns] at h; cases h) hlk (by decide) (by decide) ?_ (fun fs hr => ?_)
        · exact ⟨by simp [own_not, *], N0, e0⟩
        · exact own_retN X0 hx (t := .boolean) Bd.returns (by simp) rfl (hb hby own_d_method_3_20) hr
      · refine Goes.step (fun _ tk => XS.icmpYes X0.here hx rfl (pc0 := 12) (pc' := 19) rfl (hb hby own_d_method_3_12) rfl (feq hc12_3).2 (by decide) (by decide) tk) ?_
        show Goes _ _ _ _ _ (s₁.setTop (mkF m 19 #[.val (.int k)] []))
        refine Goes.step (fun _ tk => XS.iconst X0.here hx rfl (hb hby own_d_method_3_19) tk) ?_
        show Goes _ _ _ _ _ (s₁.setTop (mkF m 20 #[.val (.int k)] [(.int (0 : Int32))]))
        refine Goes.ret X0 (some (.int (0 : Int32))) (fun h => by rw [Bd.returns] at h; cases h) hlk (by decide) (by decide) ?_ (fun fs hr => ?_)
        · exact ⟨by simp [own_not, *], N0, e0⟩
        · exact own_retN X0 hx (t := .boolean) Bd.returns (by simp) rfl (hb hby own_d_method_3_20) hr
theorem own_d_prog_10_method_6_0 : decode prog_10_method_6_code 0 = .ok (.aload_n 0, 1) := by decide +kernel
theorem own_d_prog_10_method_6_1 : decode prog_10_method_6_code 1 = .ok (.getfield 45, 3) := by decide +kernel
theorem own_d_prog_10_method_6_4 : decode prog_10_method_6_code 4 = .ok (.ifCond .eq 15, 3) := by decide +kernel
theorem own_d_prog_10_method_6_19 : decode prog_10_method_6_code 19 = .ok (.iload_n 1, 1) := by decide +kernel
theorem own_d_prog_10_method_6_20 : decode prog_10_method_6_code 20 = .ok (.ireturn, 1) := by decide +kernel
theorem own_d_prog_10_method_6_7 : decode prog_10_method_6_code 7 = .ok (.iload_n 1, 1) := by decide +kernel
theorem own_d_prog_10_method_6_8 : decode prog_10_method_6_code 8 = .ok (.ifCond .ne 7, 3) := by decide +kernel
theorem own_d_prog_10_method_6_11 : decode prog_10_method_6_code 11 = .ok (.iconst 1, 1) := by decide +kernel
theorem own_d_prog_10_method_6_12 : decode prog_10_method_6_code 12 = .ok (.goto 8, 3) := by decide +kernel
theorem own_d_prog_10_method_6_15 : decode prog_10_method_6_code 15 = .ok (.iconst 0, 1) := by decide +kernel
theorem own_d_prog_10_method_6_16 : decode prog_10_method_6_code 16 = .ok (.goto 4, 3) := by decide +kernel
theorem own_pn1 : plainName "com/example/token_into_keys/tokenintokeys/policy/Operator" = true := by first | (simp [plainName, overriddenIn]; done) | decide +kernel
theorem own_ef_rm_holds (m : MethodId) (x0 : Addr) (x1 : Int32) : entryFrame m #[(.ref x0), (.int x1)] 2 = mkF m 0 #[.val (.ref x0), .val (.int x1)] [] := by first | (simp [entryFrame, mkF, argsToLocals, Value.category]; done) | rfl
def Q_rm_holds (Z : State) (a : Addr) (b : Int32) (g : Int32) (h0 : Heap) (n0 : Nat) (v : Option Value) (h : Heap) (L : List Loc) : Prop := v = some (.int (own_holds g b)) ∧ Fr n0 L ∧ h = h0
set_option maxRecDepth 65536 in
set_option maxHeartbeats 40000000 in
theorem rm_holds (l : Launch) (Z : State) (a0 : Array Value) (hw : ∀ d ∈ tables_1, d.before a0 Z = true) (ws : List Jvm.Cond) (a : Addr) (b : Int32) (g : Int32) (h0 : Heap) (n0 : Nat) (Z0 : n0 ≤ h0.size) (F : Fld Z h0 a "com/example/token_into_keys/tokenintokeys/policy/Operator" "negated" "Z" (.int g)) (hb1 : nar .boolean b = b) :
    Met l Z (⟨"com/example/token_into_keys/tokenintokeys/policy/Operator", "holdsWhen", "(Z)Z"⟩ : MethodName) prog_10_method_6_code 2 (some .boolean) ({ frames := 0, cells := 0, slots := 0, locals := 0 } : Room) ws #[(.ref a), (.int b)] h0 (Q_rm_holds Z a b g h0 n0) := by
  refine MetFree.of_bodySF (plainFor_of_name own_pn1) hisR ?_
  intro p e s m args below meth c s₁ Bd hml0 hP hK
  obtain ⟨rfl, hZ, hh⟩ := hP
  have hx := Bd.exec
  have hby := Bd.bytes
  have hlk : meth.locks = false := BodyLoose.notSynchronized Bd
  have hml : c.maxLocals = 2 := hml0
  have hown : s.vm.findClass "com/example/token_into_keys/tokenintokeys/policy/Operator" = some m.cls := findClass_of_methodNamed Bd.named
  have hnm := (name_of_methodNamed Bd.named Bd.method).1
  have X0 : Stand p l e ({ frames := 0, cells := 0, slots := 0, locals := 0 } : Room) s m #[(.ref a), (.int b)] below meth c s₁ [] 0 0 := Stand.of_body Bd
  have e0 : s₁.heap = h0 := by rw [← hh, Bd.state]; rfl
  have N0 := Fr.nil n0
  show Goes p e below (fun o u L => FrameEnd s o u L ({ frames := 0, cells := 0, slots := 0, locals := 0 } : Room).cells ({ frames := 0, cells := 0, slots := 0, locals := 0 } : Room).slots) (Q_rm_holds Z a b g h0 n0) (s₁.setTop (entryFrame m #[(.ref a), (.int b)] 2))
  refine Goes.step (fun _ tk => castTop (own_ef_rm_holds m a b) tk) ?_
  show Goes _ _ _ _ _ (s₁.setTop (mkF m 0 #[.val (.ref a), .val (.int b)] []))
  refine Goes.step (fun _ tk => XS.aloadN X0.here hx rfl (hb hby own_d_prog_10_method_6_0) rfl rfl tk) ?_
  show Goes _ _ _ _ _ (s₁.setTop (mkF m 1 #[.val (.ref a), .val (.int b)] [(.ref a)]))
  obtain ⟨T1, X1, e1, st1⟩ := getF X0 hx hZ hown (host := "") (Or.inl (hw _ (List.mem_of_getElem? (i := 16) rfl))) Via.refl e0 F (g := (mkF m 1 #[.val (.ref a), .val (.int b)] [(.ref a)])) rfl rfl (hb hby own_d_prog_10_method_6_1)
  refine Goes.step st1 ?_
  show Goes _ _ _ _ _ (T1.setTop (mkF m 4 #[.val (.ref a), .val (.int b)] [(.int g)]))
  by_cases hc4_2 : g = (0 : Int32)
  · refine Goes.step (fun _ tk => XS.ifYes X1.here hx rfl (pc0 := 4) (pc' := 19) rfl (hb hby own_d_prog_10_method_6_4) rfl ((if0 _ _).trans (teq hc4_2).1) (by decide) (by decide) tk) ?_
    show Goes _ _ _ _ _ (T1.setTop (mkF m 19 #[.val (.ref a), .val (.int b)] []))
    refine Goes.step (fun _ tk => XS.iloadN X1.here hx rfl (hb hby own_d_prog_10_method_6_19) rfl tk) ?_
    show Goes _ _ _ _ _ (T1.setTop (mkF m 20 #[.val (.ref a), .val (.int b)] [(.int b)]))
    refine Goes.ret X1 (some (.int b)) (fun h => by rw [Bd.returns] at h; cases h) hlk (by decide) (by decide) ?_ (fun fs hr => ?_)
    · exact ⟨by simp [own_holds, *], N0, e1⟩
    · exact own_retN X1 hx (t := .boolean) Bd.returns (by simp) (by assumption) (hb hby own_d_prog_10_method_6_20) hr
  · refine Goes.step (fun _ tk => XS.ifNo X1.here hx rfl (hb hby own_d_prog_10_method_6_4) rfl ((if0 _ _).trans (feq hc4_2).1) tk) ?_
    show Goes _ _ _ _ _ (T1.setTop (mkF m 7 #[.val (.ref a), .val (.int b)] []))
    refine Goes.step (fun _ tk => XS.iloadN X1.here hx rfl (hb hby own_d_prog_10_method_6_7) rfl tk) ?_
    show Goes _ _ _ _ _ (T1.setTop (mkF m 8 #[.val (.ref a), .val (.int b)] [(.int b)]))
    by_cases hc8_3 : b = (0 : Int32)
    · refine Goes.step (fun _ tk => XS.ifNo X1.here hx rfl (hb hby own_d_prog_10_method_6_8) rfl ((if0 _ _).trans (teq hc8_3).2) tk) ?_
      show Goes _ _ _ _ _ (T1.setTop (mkF m 11 #[.val (.ref a), .val (.int b)] []))
      refine Goes.step (fun _ tk => XS.iconst X1.here hx rfl (hb hby own_d_prog_10_method_6_11) tk) ?_
      show Goes _ _ _ _ _ (T1.setTop (mkF m 12 #[.val (.ref a), .val (.int b)] [(.int (1 : Int32))]))
      refine Goes.step (fun _ tk => XS.goto X1.here hx rfl (pc0 := 12) (pc' := 20) rfl (hb hby own_d_prog_10_method_6_12) (by decide) (by decide) tk) ?_
      show Goes _ _ _ _ _ (T1.setTop (mkF m 20 #[.val (.ref a), .val (.int b)] [(.int (1 : Int32))]))
      refine Goes.ret X1 (some (.int (1 : Int32))) (fun h => by rw [Bd.returns] at h; cases h) hlk (by decide) (by decide) ?_ (fun fs hr => ?_)
      · exact ⟨by simp [own_holds, *], N0, e1⟩
      · exact own_retN X1 hx (t := .boolean) Bd.returns (by simp) rfl (hb hby own_d_prog_10_method_6_20) hr
    · refine Goes.step (fun _ tk => XS.ifYes X1.here hx rfl (pc0 := 8) (pc' := 15) rfl (hb hby own_d_prog_10_method_6_8) rfl ((if0 _ _).trans (feq hc8_3).2) (by decide) (by decide) tk) ?_
      show Goes _ _ _ _ _ (T1.setTop (mkF m 15 #[.val (.ref a), .val (.int b)] []))
      refine Goes.step (fun _ tk => XS.iconst X1.here hx rfl (hb hby own_d_prog_10_method_6_15) tk) ?_
      show Goes _ _ _ _ _ (T1.setTop (mkF m 16 #[.val (.ref a), .val (.int b)] [(.int (0 : Int32))]))
      refine Goes.step (fun _ tk => XS.goto X1.here hx rfl (pc0 := 16) (pc' := 20) rfl (hb hby own_d_prog_10_method_6_16) (by decide) (by decide) tk) ?_
      show Goes _ _ _ _ _ (T1.setTop (mkF m 20 #[.val (.ref a), .val (.int b)] [(.int (0 : Int32))]))
      refine Goes.ret X1 (some (.int (0 : Int32))) (fun h => by rw [Bd.returns] at h; cases h) hlk (by decide) (by decide) ?_ (fun fs hr => ?_)
      · exact ⟨by simp [own_holds, *], N0, e1⟩
      · exact own_retN X1 hx (t := .boolean) Bd.returns (by simp) rfl (hb hby own_d_prog_10_method_6_20) hr
theorem own_pd0 : parseMethodDescriptor "(I)Lcom/example/token_into_keys/tokenintokeys/policy/Operator;" = some ⟨[.int], some (.object "com/example/token_into_keys/tokenintokeys/policy/Operator")⟩ := by decide +kernel
theorem own_pd1 : parseMethodDescriptor "(I)Z" = some ⟨[.int], some .boolean⟩ := by decide +kernel
theorem own_pd2 : parseMethodDescriptor "(Z)Z" = some ⟨[.boolean], some .boolean⟩ := by decide +kernel
theorem own_ef_rm_law (m : MethodId) (x0 : Int32) (x1 : Int32) : entryFrame m #[(.int x0), (.int x1)] maxLocals = mkF m 0 #[.val (.int x0), .val (.int x1), .unset, .unset, .unset, .unset, .unset, .unset, .unset] [] := by first | (simp [entryFrame, mkF, argsToLocals, Value.category, maxLocals]; done) | rfl
def Q_rm_law (Z : State) (x0 : Int32) (x1 : Int32) (w0 : Addr) (w1 : Addr) (w2 : Addr) (w3 : Addr) (w4 : Addr) (w5 : Addr) (h0 : Heap) (n0 : Nat) (v : Option Value) (h : Heap) (L : List Loc) : Prop := v = some (.int 1) ∧ Fr n0 L
set_option maxRecDepth 65536 in
set_option maxHeartbeats 40000000 in
theorem rm_law (l : Launch) (Z : State) (a0 : Array Value) (hw : ∀ d ∈ tables_1, d.before a0 Z = true) (ws : List Jvm.Cond) (x0 : Int32) (x1 : Int32) (w0 : Addr) (w1 : Addr) (w2 : Addr) (w3 : Addr) (w4 : Addr) (w5 : Addr) (h0 : Heap) (n0 : Nat) (Z0 : n0 ≤ h0.size) (S0 : Sta Z h0 "com/example/token_into_keys/tokenintokeys/policy/Operator" "STRING_EQUALS" "Lcom/example/token_into_keys/tokenintokeys/policy/Operator;" (.ref w0)) (S1 : Sta Z h0 "com/example/token_into_keys/tokenintokeys/policy/Operator" "STRING_NOT_EQUALS" "Lcom/example/token_into_keys/tokenintokeys/policy/Operator;" (.ref w1)) (S2 : Sta Z h0 "com/example/token_into_keys/tokenintokeys/policy/Operator" "STRING_EQUALS_IGNORE_CASE" "Lcom/example/token_into_keys/tokenintokeys/policy/Operator;" (.ref w2)) (S3 : Sta Z h0 "com/example/token_into_keys/tokenintokeys/policy/Operator" "STRING_NOT_EQUALS_IGNORE_CASE" "Lcom/example/token_into_keys/tokenintokeys/policy/Operator;" (.ref w3)) (S4 : Sta Z h0 "com/example/token_into_keys/tokenintokeys/policy/Operator" "STRING_LIKE" "Lcom/example/token_into_keys/tokenintokeys/policy/Operator;" (.ref w4)) (S5 : Sta Z h0 "com/example/token_into_keys/tokenintokeys/policy/Operator" "STRING_NOT_LIKE" "Lcom/example/token_into_keys/tokenintokeys/policy/Operator;" (.ref w5)) (A0 : Exa Z h0 w0 "com/example/token_into_keys/tokenintokeys/policy/Operator") (A1 : Exa Z h0 w1 "com/example/token_into_keys/tokenintokeys/policy/Operator") (A2 : Exa Z h0 w2 "com/example/token_into_keys/tokenintokeys/policy/Operator") (A3 : Exa Z h0 w3 "com/example/token_into_keys/tokenintokeys/policy/Operator") (A4 : Exa Z h0 w4 "com/example/token_into_keys/tokenintokeys/policy/Operator") (A5 : Exa Z h0 w5 "com/example/token_into_keys/tokenintokeys/policy/Operator") (F0 : Fld Z h0 w0 "com/example/token_into_keys/tokenintokeys/policy/Operator" "negated" "Z" (.int 0)) (F1 : Fld Z h0 w1 "com/example/token_into_keys/tokenintokeys/policy/Operator" "negated" "Z" (.int 1)) (F2 : Fld Z h0 w2 "com/example/token_into_keys/tokenintokeys/policy/Operator" "negated" "Z" (.int 0)) (F3 : Fld Z h0 w3 "com/example/token_into_keys/tokenintokeys/policy/Operator" "negated" "Z" (.int 1)) (F4 : Fld Z h0 w4 "com/example/token_into_keys/tokenintokeys/policy/Operator" "negated" "Z" (.int 0)) (F5 : Fld Z h0 w5 "com/example/token_into_keys/tokenintokeys/policy/Operator" "negated" "Z" (.int 1)) :
    Met l Z x code maxLocals ret room_1 ws #[(.int x0), (.int x1)] h0 (Q_rm_law Z x0 x1 w0 w1 w2 w3 w4 w5 h0 n0) := by
  refine MetFree.of_bodySF (plainFor_of_name own_pn0) hisR ?_
  intro p e s m args below meth c s₁ Bd hml0 hP hK
  obtain ⟨rfl, hZ, hh⟩ := hP
  have hx := Bd.exec
  have hby := Bd.bytes
  have hlk : meth.locks = false := BodyLoose.notSynchronized Bd
  have hml : c.maxLocals = 9 := hml0
  have hown : s.vm.findClass "com/example/token_into_keys/tokenintokeys/policy/OperatorHoldsWhenPinLaw" = some m.cls := findClass_of_methodNamed Bd.named
  have hnm := (name_of_methodNamed Bd.named Bd.method).1
  have X0 : Stand p l e room_1 s m #[(.int x0), (.int x1)] below meth c s₁ [] 0 0 := Stand.of_body Bd
  have e0 : s₁.heap = h0 := by rw [← hh, Bd.state]; rfl
  have N0 := Fr.nil n0
  show Goes p e below (fun o u L => FrameEnd s o u L room_1.cells room_1.slots) (Q_rm_law Z x0 x1 w0 w1 w2 w3 w4 w5 h0 n0) (s₁.setTop (entryFrame m #[(.int x0), (.int x1)] maxLocals))
  refine Goes.step (fun _ tk => castTop (own_ef_rm_law m x0 x1) tk) ?_
  show Goes _ _ _ _ _ (s₁.setTop (mkF m 0 #[.val (.int x0), .val (.int x1), .unset, .unset, .unset, .unset, .unset, .unset, .unset] []))
  refine Goes.step (fun _ tk => XS.iloadN X0.here hx rfl (hb hby at_0) rfl tk) ?_
  show Goes _ _ _ _ _ (s₁.setTop (mkF m 1 #[.val (.int x0), .val (.int x1), .unset, .unset, .unset, .unset, .unset, .unset, .unset] [(.int x0)]))
  refine Goes.step (fun _ tk => Jvm.Stand.ldcI X0 hx hown (mvT hZ (hw _ (List.mem_of_getElem? (i := 0) rfl))) rfl (hb hby at_1) tk) ?_
  show Goes _ _ _ _ _ (s₁.setTop (mkF m 3 #[.val (.int x0), .val (.int x1), .unset, .unset, .unset, .unset, .unset, .unset, .unset] [(.int (2147483647 : Int32)), (.int x0)]))
  refine Goes.step (fun _ tk => XS.iand X0.here hx rfl (hb hby at_3) rfl tk) ?_
  show Goes _ _ _ _ _ (s₁.setTop (mkF m 4 #[.val (.int x0), .val (.int x1), .unset, .unset, .unset, .unset, .unset, .unset, .unset] [(.int (x0 &&& (2147483647 : Int32)))]))
  refine Goes.step (fun _ tk => XS.bipush X0.here hx rfl (hb hby at_4) tk) ?_
  show Goes _ _ _ _ _ (s₁.setTop (mkF m 6 #[.val (.int x0), .val (.int x1), .unset, .unset, .unset, .unset, .unset, .unset, .unset] [(.int (6 : Int32)), (.int (x0 &&& (2147483647 : Int32)))]))
  refine Goes.step (fun _ tk => XS.irem X0.here hx rfl (hb hby at_6) rfl (by decide) tk) ?_
  rw [Jvm.irem_eq_mod]
  show Goes _ _ _ _ _ (s₁.setTop (mkF m 7 #[.val (.int x0), .val (.int x1), .unset, .unset, .unset, .unset, .unset, .unset, .unset] [(.int ((x0 &&& (2147483647 : Int32)) % (6 : Int32)))]))
  generalize hk : ((x0 &&& (2147483647 : Int32)) % (6 : Int32)) = k
  show Goes _ _ _ _ _ (s₁.setTop (mkF m 7 #[.val (.int x0), .val (.int x1), .unset, .unset, .unset, .unset, .unset, .unset, .unset] [(.int k)]))
  refine Goes.step (fun _ tk => XS.istoreN X0.here hx rfl (hb hby at_7) rfl (l' := #[.val (.int x0), .val (.int x1), .val (.int k), .unset, .unset, .unset, .unset, .unset, .unset]) rfl tk) ?_
  show Goes _ _ _ _ _ (s₁.setTop (mkF m 8 #[.val (.int x0), .val (.int x1), .val (.int k), .unset, .unset, .unset, .unset, .unset, .unset] []))
  refine Goes.step (fun _ tk => XS.iloadN X0.here hx rfl (hb hby at_8) rfl tk) ?_
  show Goes _ _ _ _ _ (s₁.setTop (mkF m 9 #[.val (.int x0), .val (.int x1), .val (.int k), .unset, .unset, .unset, .unset, .unset, .unset] [(.int x1)]))
  refine Goes.step (fun _ tk => XS.iconst X0.here hx rfl (hb hby at_9) tk) ?_
  show Goes _ _ _ _ _ (s₁.setTop (mkF m 10 #[.val (.int x0), .val (.int x1), .val (.int k), .unset, .unset, .unset, .unset, .unset, .unset] [(.int (1 : Int32)), (.int x1)]))
  refine Goes.step (fun _ tk => XS.iand X0.here hx rfl (hb hby at_10) rfl tk) ?_
  show Goes _ _ _ _ _ (s₁.setTop (mkF m 11 #[.val (.int x0), .val (.int x1), .val (.int k), .unset, .unset, .unset, .unset, .unset, .unset] [(.int (x1 &&& (1 : Int32)))]))
  by_cases hc11_1 : (x1 &&& (1 : Int32)) = (0 : Int32)
  · refine Goes.step (fun _ tk => XS.ifYes X0.here hx rfl (pc0 := 11) (pc' := 18) rfl (hb hby at_11) rfl ((if0 _ _).trans (teq hc11_1).1) (by decide) (by decide) tk) ?_
    show Goes _ _ _ _ _ (s₁.setTop (mkF m 18 #[.val (.int x0), .val (.int x1), .val (.int k), .unset, .unset, .unset, .unset, .unset, .unset] []))
    refine Goes.step (fun _ tk => XS.iconst X0.here hx rfl (hb hby at_18) tk) ?_
    show Goes _ _ _ _ _ (s₁.setTop (mkF m 19 #[.val (.int x0), .val (.int x1), .val (.int k), .unset, .unset, .unset, .unset, .unset, .unset] [(.int (0 : Int32))]))
    refine Goes.step (fun _ tk => XS.istoreN X0.here hx rfl (hb hby at_19) rfl (l' := #[.val (.int x0), .val (.int x1), .val (.int k), .val (.int (0 : Int32)), .unset, .unset, .unset, .unset, .unset]) rfl tk) ?_
    show Goes _ _ _ _ _ (s₁.setTop (mkF m 20 #[.val (.int x0), .val (.int x1), .val (.int k), .val (.int (0 : Int32)), .unset, .unset, .unset, .unset, .unset] []))
    refine Goes.step (fun _ tk => XS.iloadN X0.here hx rfl (hb hby at_20) rfl tk) ?_
    show Goes _ _ _ _ _ (s₁.setTop (mkF m 21 #[.val (.int x0), .val (.int x1), .val (.int k), .val (.int (0 : Int32)), .unset, .unset, .unset, .unset, .unset] [(.int k)]))
    obtain ⟨_, _, ⟨T2, L2, k2, n2⟩, -, X2, ⟨Lc2, hQ2, l2, y2, z2⟩, st2⟩ := Jvm.LawKit.callS X0 hx (y := (⟨"com/example/token_into_keys/tokenintokeys/policy/OperatorHoldsWhenPinLaw", "pick", "(I)Lcom/example/token_into_keys/tokenintokeys/policy/Operator;"⟩ : MethodName)) hown (mvT hZ (hw _ (List.mem_of_getElem? (i := 1) rfl))) (mvT hZ (hw _ (List.mem_of_getElem? (i := 2) rfl))) (mvT hZ (hw _ (List.mem_of_getElem? (i := 3) rfl))) (mvT hZ (hw _ (List.mem_of_getElem? (i := 4) rfl))) (by decide) (backOf (W := 0) (rm_pick l Z a0 hw [] k w0 w1 w2 w3 w4 w5 h0 n0 Z0 S0 S1 S2 S3 S4 S5) hZ (hw _ (List.mem_of_getElem? (i := 4) rfl)) (hw _ (List.mem_of_getElem? (i := 3) rfl)) (by decide) (by decide)) (g := (mkF m 21 #[.val (.int x0), .val (.int x1), .val (.int k), .val (.int (0 : Int32)), .unset, .unset, .unset, .unset, .unset] [(.int k)])) rfl (by rw [hml]; rfl) (argsL := [(.int k)]) (rest := []) (lenOf own_pd0 rfl) rfl (by show 2 * 0 + _ ≤ _; exact Nat.le_of_eq rfl) (hb hby at_21) (fun _ _ => ⟨rfl, e0, (by decide : 0 + 0 ≤ _), (by decide : 0 + 0 ≤ _)⟩)
    dsimp only [Pt.U, Pt.locs, Pt.cells, Pt.slots] at X2 l2 y2 z2 st2 hQ2
    subst l2 y2 z2
    obtain ⟨rfl, N2q, e2⟩ := hQ2
    have N2 := Fr.app N0 N2q
    refine Goes.step st2 ?_
    show Goes _ _ _ _ _ (T2.setTop (mkF m 24 #[.val (.int x0), .val (.int x1), .val (.int k), .val (.int (0 : Int32)), .unset, .unset, .unset, .unset, .unset] [(.ref (own_pick k w0 w1 w2 w3 w4 w5))]))
    have hE : Exa Z h0 (own_pick k w0 w1 w2 w3 w4 w5) "com/example/token_into_keys/tokenintokeys/policy/Operator" := by
      unfold own_pick
      repeat' split
      all_goals assumption
    have hF : Fld Z h0 (own_pick k w0 w1 w2 w3 w4 w5) "com/example/token_into_keys/tokenintokeys/policy/Operator" "negated" "Z" (.int (own_not k)) := by
      have q := own_six x0
      rw [hk] at q
      rcases q with rfl | rfl | rfl | rfl | rfl | rfl <;> first | exact F0 | exact F1 | exact F2 | exact F3 | exact F4 | exact F5
    refine Goes.step (fun _ tk => XS.astore X2.here hx rfl (hb hby at_24) rfl rfl (l' := #[.val (.int x0), .val (.int x1), .val (.int k), .val (.int (0 : Int32)), .val (.ref (own_pick k w0 w1 w2 w3 w4 w5)), .unset, .unset, .unset, .unset]) rfl tk) ?_
    show Goes _ _ _ _ _ (T2.setTop (mkF m 26 #[.val (.int x0), .val (.int x1), .val (.int k), .val (.int (0 : Int32)), .val (.ref (own_pick k w0 w1 w2 w3 w4 w5)), .unset, .unset, .unset, .unset] []))
    refine Goes.step (fun _ tk => XS.iloadN X2.here hx rfl (hb hby at_26) rfl tk) ?_
    show Goes _ _ _ _ _ (T2.setTop (mkF m 27 #[.val (.int x0), .val (.int x1), .val (.int k), .val (.int (0 : Int32)), .val (.ref (own_pick k w0 w1 w2 w3 w4 w5)), .unset, .unset, .unset, .unset] [(.int k)]))
    obtain ⟨_, _, ⟨T3, L3, k3, n3⟩, -, X3, ⟨Lc3, hQ3, l3, y3, z3⟩, st3⟩ := Jvm.LawKit.callS X2 hx (y := (⟨"com/example/token_into_keys/tokenintokeys/policy/OperatorHoldsWhenPinLaw", "isNot", "(I)Z"⟩ : MethodName)) hown (mvT hZ (hw _ (List.mem_of_getElem? (i := 8) rfl))) (mvT hZ (hw _ (List.mem_of_getElem? (i := 9) rfl))) (mvT hZ (hw _ (List.mem_of_getElem? (i := 3) rfl))) (mvT hZ (hw _ (List.mem_of_getElem? (i := 10) rfl))) (by decide) (backOf (W := 0) (rm_not l Z a0 hw [] k h0 n0 Z0) hZ (hw _ (List.mem_of_getElem? (i := 10) rfl)) (hw _ (List.mem_of_getElem? (i := 3) rfl)) (by decide) (by decide)) (g := (mkF m 27 #[.val (.int x0), .val (.int x1), .val (.int k), .val (.int (0 : Int32)), .val (.ref (own_pick k w0 w1 w2 w3 w4 w5)), .unset, .unset, .unset, .unset] [(.int k)])) rfl (by rw [hml]; rfl) (argsL := [(.int k)]) (rest := []) (lenOf own_pd1 rfl) rfl (by show 2 * 0 + _ ≤ _; exact Nat.le_of_eq rfl) (hb hby at_27) (fun _ _ => ⟨rfl, e2, (by decide : 0 + 0 ≤ _), (by decide : 0 + 0 ≤ _)⟩)
    dsimp only [Pt.U, Pt.locs, Pt.cells, Pt.slots] at X3 l3 y3 z3 st3 hQ3
    subst l3 y3 z3
    obtain ⟨rfl, N3q, e3⟩ := hQ3
    have N3 := Fr.app N2 N3q
    refine Goes.step st3 ?_
    show Goes _ _ _ _ _ (T3.setTop (mkF m 30 #[.val (.int x0), .val (.int x1), .val (.int k), .val (.int (0 : Int32)), .val (.ref (own_pick k w0 w1 w2 w3 w4 w5)), .unset, .unset, .unset, .unset] [(.int (own_not k))]))
    by_cases hc30_4 : (own_not k) = (0 : Int32)
    · refine Goes.step (fun _ tk => XS.ifYes X3.here hx rfl (pc0 := 30) (pc' := 50) rfl (hb hby at_30) rfl ((if0 _ _).trans (teq hc30_4).1) (by decide) (by decide) tk) ?_
      show Goes _ _ _ _ _ (T3.setTop (mkF m 50 #[.val (.int x0), .val (.int x1), .val (.int k), .val (.int (0 : Int32)), .val (.ref (own_pick k w0 w1 w2 w3 w4 w5)), .unset, .unset, .unset, .unset] []))
      refine Goes.step (fun _ tk => XS.iloadN X3.here hx rfl (hb hby at_50) rfl tk) ?_
      show Goes _ _ _ _ _ (T3.setTop (mkF m 51 #[.val (.int x0), .val (.int x1), .val (.int k), .val (.int (0 : Int32)), .val (.ref (own_pick k w0 w1 w2 w3 w4 w5)), .unset, .unset, .unset, .unset] [(.int (0 : Int32))]))
      refine Goes.step (fun _ tk => XS.istore X3.here hx rfl (hb hby at_51) rfl (l' := #[.val (.int x0), .val (.int x1), .val (.int k), .val (.int (0 : Int32)), .val (.ref (own_pick k w0 w1 w2 w3 w4 w5)), .val (.int (0 : Int32)), .unset, .unset, .unset]) rfl tk) ?_
      show Goes _ _ _ _ _ (T3.setTop (mkF m 53 #[.val (.int x0), .val (.int x1), .val (.int k), .val (.int (0 : Int32)), .val (.ref (own_pick k w0 w1 w2 w3 w4 w5)), .val (.int (0 : Int32)), .unset, .unset, .unset] []))
      refine Goes.step (fun _ tk => XS.iloadN X3.here hx rfl (hb hby at_53) rfl tk) ?_
      show Goes _ _ _ _ _ (T3.setTop (mkF m 54 #[.val (.int x0), .val (.int x1), .val (.int k), .val (.int (0 : Int32)), .val (.ref (own_pick k w0 w1 w2 w3 w4 w5)), .val (.int (0 : Int32)), .unset, .unset, .unset] [(.int (0 : Int32))]))
      refine Goes.step (fun _ tk => XS.ifNo X3.here hx rfl (hb hby at_54) rfl ((if0 _ _).trans (teq (by decide : ((0 : Int32) = (0 : Int32)))).2) tk) ?_
      show Goes _ _ _ _ _ (T3.setTop (mkF m 57 #[.val (.int x0), .val (.int x1), .val (.int k), .val (.int (0 : Int32)), .val (.ref (own_pick k w0 w1 w2 w3 w4 w5)), .val (.int (0 : Int32)), .unset, .unset, .unset] []))
      refine Goes.step (fun _ tk => XS.iconst X3.here hx rfl (hb hby at_57) tk) ?_
      show Goes _ _ _ _ _ (T3.setTop (mkF m 58 #[.val (.int x0), .val (.int x1), .val (.int k), .val (.int (0 : Int32)), .val (.ref (own_pick k w0 w1 w2 w3 w4 w5)), .val (.int (0 : Int32)), .unset, .unset, .unset] [(.int (1 : Int32))]))
      refine Goes.step (fun _ tk => XS.goto X3.here hx rfl (pc0 := 58) (pc' := 62) rfl (hb hby at_58) (by decide) (by decide) tk) ?_
      show Goes _ _ _ _ _ (T3.setTop (mkF m 62 #[.val (.int x0), .val (.int x1), .val (.int k), .val (.int (0 : Int32)), .val (.ref (own_pick k w0 w1 w2 w3 w4 w5)), .val (.int (0 : Int32)), .unset, .unset, .unset] [(.int (1 : Int32))]))
      refine Goes.step (fun _ tk => XS.istore X3.here hx rfl (hb hby at_62) rfl (l' := #[.val (.int x0), .val (.int x1), .val (.int k), .val (.int (0 : Int32)), .val (.ref (own_pick k w0 w1 w2 w3 w4 w5)), .val (.int (0 : Int32)), .val (.int (1 : Int32)), .unset, .unset]) rfl tk) ?_
      show Goes _ _ _ _ _ (T3.setTop (mkF m 64 #[.val (.int x0), .val (.int x1), .val (.int k), .val (.int (0 : Int32)), .val (.ref (own_pick k w0 w1 w2 w3 w4 w5)), .val (.int (0 : Int32)), .val (.int (1 : Int32)), .unset, .unset] []))
      refine Goes.step (fun _ tk => XS.aload X3.here hx rfl (hb hby at_64) rfl rfl tk) ?_
      show Goes _ _ _ _ _ (T3.setTop (mkF m 66 #[.val (.int x0), .val (.int x1), .val (.int k), .val (.int (0 : Int32)), .val (.ref (own_pick k w0 w1 w2 w3 w4 w5)), .val (.int (0 : Int32)), .val (.int (1 : Int32)), .unset, .unset] [(.ref (own_pick k w0 w1 w2 w3 w4 w5))]))
      refine Goes.step (fun _ tk => XS.iloadN X3.here hx rfl (hb hby at_66) rfl tk) ?_
      show Goes _ _ _ _ _ (T3.setTop (mkF m 67 #[.val (.int x0), .val (.int x1), .val (.int k), .val (.int (0 : Int32)), .val (.ref (own_pick k w0 w1 w2 w3 w4 w5)), .val (.int (0 : Int32)), .val (.int (1 : Int32)), .unset, .unset] [(.int (0 : Int32)), (.ref (own_pick k w0 w1 w2 w3 w4 w5))]))
      obtain ⟨cq5, kq5, q5a, q5b, q5c⟩ := isOf hZ e3 hE
      obtain ⟨_, _, ⟨T5, L5, k5, n5⟩, -, X5, ⟨Lc5, hQ5, l5, y5, z5⟩, st5⟩ := X3.virtualBack hx (y := (⟨"com/example/token_into_keys/tokenintokeys/policy/Operator", "holdsWhen", "(Z)Z"⟩ : MethodName)) (z := (⟨"com/example/token_into_keys/tokenintokeys/policy/Operator", "holdsWhen", "(Z)Z"⟩ : MethodName)) hown (mvT hZ (hw _ (List.mem_of_getElem? (i := 11) rfl))) (mvT hZ (hw _ (List.mem_of_getElem? (i := 12) rfl))) (notFace_of_selects (args := #[]) (mvT hZ (hw _ (List.mem_of_getElem? (i := 14) rfl)))) (mvT hZ (hw _ (List.mem_of_getElem? (i := 14) rfl))) (mvT hZ (hw _ (List.mem_of_getElem? (i := 13) rfl))) (by decide) (backOf (W := 0) (rm_holds l Z a0 hw [] (own_pick k w0 w1 w2 w3 w4 w5) (0 : Int32) (own_not k) h0 n0 Z0 hF (by rfl)) hZ (hw _ (List.mem_of_getElem? (i := 15) rfl)) (hw _ (List.mem_of_getElem? (i := 6) rfl)) (by decide) (by decide)) q5a q5c (g := (mkF m 67 #[.val (.int x0), .val (.int x1), .val (.int k), .val (.int (0 : Int32)), .val (.ref (own_pick k w0 w1 w2 w3 w4 w5)), .val (.int (0 : Int32)), .val (.int (1 : Int32)), .unset, .unset] [(.int (0 : Int32)), (.ref (own_pick k w0 w1 w2 w3 w4 w5))])) rfl (by rw [hml]; rfl) (Steps.refl _) (argsL := [(.int (0 : Int32))]) (rest := []) (lenOf own_pd2 rfl) rfl (by show 2 * 0 + _ ≤ _; exact Nat.le_of_eq rfl) (hb hby at_67) (fun _ _ => ⟨rfl, e3, (by decide : 0 + 0 ≤ _), (by decide : 0 + 0 ≤ _)⟩)
      dsimp only [Pt.U, Pt.locs, Pt.cells, Pt.slots] at X5 l5 y5 z5 st5 hQ5
      subst l5 y5 z5
      obtain ⟨rfl, N5q, e5⟩ := hQ5
      have N5 := Fr.app N3 N5q
      refine Goes.step (fun _ tk => st5.trans tk) ?_
      show Goes _ _ _ _ _ (T5.setTop (mkF m 70 #[.val (.int x0), .val (.int x1), .val (.int k), .val (.int (0 : Int32)), .val (.ref (own_pick k w0 w1 w2 w3 w4 w5)), .val (.int (0 : Int32)), .val (.int (1 : Int32)), .unset, .unset] [(.int (own_holds (own_not k) (0 : Int32)))]))
      refine Goes.step (fun _ tk => XS.istore X5.here hx rfl (hb hby at_70) rfl (l' := #[.val (.int x0), .val (.int x1), .val (.int k), .val (.int (0 : Int32)), .val (.ref (own_pick k w0 w1 w2 w3 w4 w5)), .val (.int (0 : Int32)), .val (.int (1 : Int32)), .val (.int (own_holds (own_not k) (0 : Int32))), .unset]) rfl tk) ?_
      show Goes _ _ _ _ _ (T5.setTop (mkF m 72 #[.val (.int x0), .val (.int x1), .val (.int k), .val (.int (0 : Int32)), .val (.ref (own_pick k w0 w1 w2 w3 w4 w5)), .val (.int (0 : Int32)), .val (.int (1 : Int32)), .val (.int (own_holds (own_not k) (0 : Int32))), .unset] []))
      refine Goes.step (fun _ tk => XS.aload X5.here hx rfl (hb hby at_72) rfl rfl tk) ?_
      show Goes _ _ _ _ _ (T5.setTop (mkF m 74 #[.val (.int x0), .val (.int x1), .val (.int k), .val (.int (0 : Int32)), .val (.ref (own_pick k w0 w1 w2 w3 w4 w5)), .val (.int (0 : Int32)), .val (.int (1 : Int32)), .val (.int (own_holds (own_not k) (0 : Int32))), .unset] [(.ref (own_pick k w0 w1 w2 w3 w4 w5))]))
      refine Goes.step (fun _ tk => XS.iloadN X5.here hx rfl (hb hby at_74) rfl tk) ?_
      show Goes _ _ _ _ _ (T5.setTop (mkF m 75 #[.val (.int x0), .val (.int x1), .val (.int k), .val (.int (0 : Int32)), .val (.ref (own_pick k w0 w1 w2 w3 w4 w5)), .val (.int (0 : Int32)), .val (.int (1 : Int32)), .val (.int (own_holds (own_not k) (0 : Int32))), .unset] [(.int (0 : Int32)), (.ref (own_pick k w0 w1 w2 w3 w4 w5))]))
      refine Goes.step (fun _ tk => XS.ifNo X5.here hx rfl (hb hby at_75) rfl ((if0 _ _).trans (teq (by decide : ((0 : Int32) = (0 : Int32)))).2) tk) ?_
      show Goes _ _ _ _ _ (T5.setTop (mkF m 78 #[.val (.int x0), .val (.int x1), .val (.int k), .val (.int (0 : Int32)), .val (.ref (own_pick k w0 w1 w2 w3 w4 w5)), .val (.int (0 : Int32)), .val (.int (1 : Int32)), .val (.int (own_holds (own_not k) (0 : Int32))), .unset] [(.ref (own_pick k w0 w1 w2 w3 w4 w5))]))
      refine Goes.step (fun _ tk => XS.iconst X5.here hx rfl (hb hby at_78) tk) ?_
      show Goes _ _ _ _ _ (T5.setTop (mkF m 79 #[.val (.int x0), .val (.int x1), .val (.int k), .val (.int (0 : Int32)), .val (.ref (own_pick k w0 w1 w2 w3 w4 w5)), .val (.int (0 : Int32)), .val (.int (1 : Int32)), .val (.int (own_holds (own_not k) (0 : Int32))), .unset] [(.int (1 : Int32)), (.ref (own_pick k w0 w1 w2 w3 w4 w5))]))
      refine Goes.step (fun _ tk => XS.goto X5.here hx rfl (pc0 := 79) (pc' := 83) rfl (hb hby at_79) (by decide) (by decide) tk) ?_
      show Goes _ _ _ _ _ (T5.setTop (mkF m 83 #[.val (.int x0), .val (.int x1), .val (.int k), .val (.int (0 : Int32)), .val (.ref (own_pick k w0 w1 w2 w3 w4 w5)), .val (.int (0 : Int32)), .val (.int (1 : Int32)), .val (.int (own_holds (own_not k) (0 : Int32))), .unset] [(.int (1 : Int32)), (.ref (own_pick k w0 w1 w2 w3 w4 w5))]))
      obtain ⟨cq6, kq6, q6a, q6b, q6c⟩ := isOf hZ e5 hE
      obtain ⟨_, _, ⟨T6, L6, k6, n6⟩, -, X6, ⟨Lc6, hQ6, l6, y6, z6⟩, st6⟩ := X5.virtualBack hx (y := (⟨"com/example/token_into_keys/tokenintokeys/policy/Operator", "holdsWhen", "(Z)Z"⟩ : MethodName)) (z := (⟨"com/example/token_into_keys/tokenintokeys/policy/Operator", "holdsWhen", "(Z)Z"⟩ : MethodName)) hown (mvT hZ (hw _ (List.mem_of_getElem? (i := 11) rfl))) (mvT hZ (hw _ (List.mem_of_getElem? (i := 12) rfl))) (notFace_of_selects (args := #[]) (mvT hZ (hw _ (List.mem_of_getElem? (i := 14) rfl)))) (mvT hZ (hw _ (List.mem_of_getElem? (i := 14) rfl))) (mvT hZ (hw _ (List.mem_of_getElem? (i := 13) rfl))) (by decide) (backOf (W := 0) (rm_holds l Z a0 hw [] (own_pick k w0 w1 w2 w3 w4 w5) (1 : Int32) (own_not k) h0 n0 Z0 hF (by rfl)) hZ (hw _ (List.mem_of_getElem? (i := 15) rfl)) (hw _ (List.mem_of_getElem? (i := 6) rfl)) (by decide) (by decide)) q6a q6c (g := (mkF m 83 #[.val (.int x0), .val (.int x1), .val (.int k), .val (.int (0 : Int32)), .val (.ref (own_pick k w0 w1 w2 w3 w4 w5)), .val (.int (0 : Int32)), .val (.int (1 : Int32)), .val (.int (own_holds (own_not k) (0 : Int32))), .unset] [(.int (1 : Int32)), (.ref (own_pick k w0 w1 w2 w3 w4 w5))])) rfl (by rw [hml]; rfl) (Steps.refl _) (argsL := [(.int (1 : Int32))]) (rest := []) (lenOf own_pd2 rfl) rfl (by show 2 * 0 + _ ≤ _; exact Nat.le_of_eq rfl) (hb hby at_83) (fun _ _ => ⟨rfl, e5, (by decide : 0 + 0 ≤ _), (by decide : 0 + 0 ≤ _)⟩)
      dsimp only [Pt.U, Pt.locs, Pt.cells, Pt.slots] at X6 l6 y6 z6 st6 hQ6
      subst l6 y6 z6
      obtain ⟨rfl, N6q, e6⟩ := hQ6
      have N6 := Fr.app N5 N6q
      refine Goes.step (fun _ tk => st6.trans tk) ?_
      show Goes _ _ _ _ _ (T6.setTop (mkF m 86 #[.val (.int x0), .val (.int x1), .val (.int k), .val (.int (0 : Int32)), .val (.ref (own_pick k w0 w1 w2 w3 w4 w5)), .val (.int (0 : Int32)), .val (.int (1 : Int32)), .val (.int (own_holds (own_not k) (0 : Int32))), .unset] [(.int (own_holds (own_not k) (1 : Int32)))]))
      refine Goes.step (fun _ tk => XS.istore X6.here hx rfl (hb hby at_86) rfl (l' := #[.val (.int x0), .val (.int x1), .val (.int k), .val (.int (0 : Int32)), .val (.ref (own_pick k w0 w1 w2 w3 w4 w5)), .val (.int (0 : Int32)), .val (.int (1 : Int32)), .val (.int (own_holds (own_not k) (0 : Int32))), .val (.int (own_holds (own_not k) (1 : Int32)))]) rfl tk) ?_
      show Goes _ _ _ _ _ (T6.setTop (mkF m 88 #[.val (.int x0), .val (.int x1), .val (.int k), .val (.int (0 : Int32)), .val (.ref (own_pick k w0 w1 w2 w3 w4 w5)), .val (.int (0 : Int32)), .val (.int (1 : Int32)), .val (.int (own_holds (own_not k) (0 : Int32))), .val (.int (own_holds (own_not k) (1 : Int32)))] []))
      refine Goes.step (fun _ tk => XS.iload X6.here hx rfl (hb hby at_88) rfl tk) ?_
      show Goes _ _ _ _ _ (T6.setTop (mkF m 90 #[.val (.int x0), .val (.int x1), .val (.int k), .val (.int (0 : Int32)), .val (.ref (own_pick k w0 w1 w2 w3 w4 w5)), .val (.int (0 : Int32)), .val (.int (1 : Int32)), .val (.int (own_holds (own_not k) (0 : Int32))), .val (.int (own_holds (own_not k) (1 : Int32)))] [(.int (own_holds (own_not k) (0 : Int32)))]))
      refine Goes.step (fun _ tk => XS.iload X6.here hx rfl (hb hby at_90) rfl tk) ?_
      show Goes _ _ _ _ _ (T6.setTop (mkF m 92 #[.val (.int x0), .val (.int x1), .val (.int k), .val (.int (0 : Int32)), .val (.ref (own_pick k w0 w1 w2 w3 w4 w5)), .val (.int (0 : Int32)), .val (.int (1 : Int32)), .val (.int (own_holds (own_not k) (0 : Int32))), .val (.int (own_holds (own_not k) (1 : Int32)))] [(.int (0 : Int32)), (.int (own_holds (own_not k) (0 : Int32)))]))
      have hc92_7 : (own_holds (own_not k) (0 : Int32)) = (0 : Int32) := by simp [own_holds, *]
      refine Goes.step (fun _ tk => XS.icmpNo X6.here hx rfl (hb hby at_92) rfl (teq hc92_7).2 tk) ?_
      show Goes _ _ _ _ _ (T6.setTop (mkF m 95 #[.val (.int x0), .val (.int x1), .val (.int k), .val (.int (0 : Int32)), .val (.ref (own_pick k w0 w1 w2 w3 w4 w5)), .val (.int (0 : Int32)), .val (.int (1 : Int32)), .val (.int (own_holds (own_not k) (0 : Int32))), .val (.int (own_holds (own_not k) (1 : Int32)))] []))
      refine Goes.step (fun _ tk => XS.iload X6.here hx rfl (hb hby at_95) rfl tk) ?_
      show Goes _ _ _ _ _ (T6.setTop (mkF m 97 #[.val (.int x0), .val (.int x1), .val (.int k), .val (.int (0 : Int32)), .val (.ref (own_pick k w0 w1 w2 w3 w4 w5)), .val (.int (0 : Int32)), .val (.int (1 : Int32)), .val (.int (own_holds (own_not k) (0 : Int32))), .val (.int (own_holds (own_not k) (1 : Int32)))] [(.int (own_holds (own_not k) (1 : Int32)))]))
      refine Goes.step (fun _ tk => XS.iload X6.here hx rfl (hb hby at_97) rfl tk) ?_
      show Goes _ _ _ _ _ (T6.setTop (mkF m 99 #[.val (.int x0), .val (.int x1), .val (.int k), .val (.int (0 : Int32)), .val (.ref (own_pick k w0 w1 w2 w3 w4 w5)), .val (.int (0 : Int32)), .val (.int (1 : Int32)), .val (.int (own_holds (own_not k) (0 : Int32))), .val (.int (own_holds (own_not k) (1 : Int32)))] [(.int (1 : Int32)), (.int (own_holds (own_not k) (1 : Int32)))]))
      have hc99_8 : (own_holds (own_not k) (1 : Int32)) = (1 : Int32) := by simp [own_holds, *]
      refine Goes.step (fun _ tk => XS.icmpNo X6.here hx rfl (hb hby at_99) rfl (teq hc99_8).2 tk) ?_
      show Goes _ _ _ _ _ (T6.setTop (mkF m 102 #[.val (.int x0), .val (.int x1), .val (.int k), .val (.int (0 : Int32)), .val (.ref (own_pick k w0 w1 w2 w3 w4 w5)), .val (.int (0 : Int32)), .val (.int (1 : Int32)), .val (.int (own_holds (own_not k) (0 : Int32))), .val (.int (own_holds (own_not k) (1 : Int32)))] []))
      refine Goes.step (fun _ tk => XS.iconst X6.here hx rfl (hb hby at_102) tk) ?_
      show Goes _ _ _ _ _ (T6.setTop (mkF m 103 #[.val (.int x0), .val (.int x1), .val (.int k), .val (.int (0 : Int32)), .val (.ref (own_pick k w0 w1 w2 w3 w4 w5)), .val (.int (0 : Int32)), .val (.int (1 : Int32)), .val (.int (own_holds (own_not k) (0 : Int32))), .val (.int (own_holds (own_not k) (1 : Int32)))] [(.int (1 : Int32))]))
      refine Goes.step (fun _ tk => XS.goto X6.here hx rfl (pc0 := 103) (pc' := 107) rfl (hb hby at_103) (by decide) (by decide) tk) ?_
      show Goes _ _ _ _ _ (T6.setTop (mkF m 107 #[.val (.int x0), .val (.int x1), .val (.int k), .val (.int (0 : Int32)), .val (.ref (own_pick k w0 w1 w2 w3 w4 w5)), .val (.int (0 : Int32)), .val (.int (1 : Int32)), .val (.int (own_holds (own_not k) (0 : Int32))), .val (.int (own_holds (own_not k) (1 : Int32)))] [(.int (1 : Int32))]))
      refine Goes.ret X6 (some (.int (1 : Int32))) (fun h => by rw [Bd.returns] at h; cases h) hlk (by decide) (by decide) ?_ (fun fs hr => ?_)
      · exact ⟨rfl, N6⟩
      · exact own_retN X6 hx (t := .boolean) Bd.returns (by simp) rfl (hb hby at_107) hr
    · refine Goes.step (fun _ tk => XS.ifNo X3.here hx rfl (hb hby at_30) rfl ((if0 _ _).trans (feq hc30_4).1) tk) ?_
      show Goes _ _ _ _ _ (T3.setTop (mkF m 33 #[.val (.int x0), .val (.int x1), .val (.int k), .val (.int (0 : Int32)), .val (.ref (own_pick k w0 w1 w2 w3 w4 w5)), .unset, .unset, .unset, .unset] []))
      refine Goes.step (fun _ tk => XS.iloadN X3.here hx rfl (hb hby at_33) rfl tk) ?_
      show Goes _ _ _ _ _ (T3.setTop (mkF m 34 #[.val (.int x0), .val (.int x1), .val (.int k), .val (.int (0 : Int32)), .val (.ref (own_pick k w0 w1 w2 w3 w4 w5)), .unset, .unset, .unset, .unset] [(.int (0 : Int32))]))
      refine Goes.step (fun _ tk => XS.ifNo X3.here hx rfl (hb hby at_34) rfl ((if0 _ _).trans (teq (by decide : ((0 : Int32) = (0 : Int32)))).2) tk) ?_
      show Goes _ _ _ _ _ (T3.setTop (mkF m 37 #[.val (.int x0), .val (.int x1), .val (.int k), .val (.int (0 : Int32)), .val (.ref (own_pick k w0 w1 w2 w3 w4 w5)), .unset, .unset, .unset, .unset] []))
      refine Goes.step (fun _ tk => XS.iconst X3.here hx rfl (hb hby at_37) tk) ?_
      show Goes _ _ _ _ _ (T3.setTop (mkF m 38 #[.val (.int x0), .val (.int x1), .val (.int k), .val (.int (0 : Int32)), .val (.ref (own_pick k w0 w1 w2 w3 w4 w5)), .unset, .unset, .unset, .unset] [(.int (1 : Int32))]))
      refine Goes.step (fun _ tk => XS.goto X3.here hx rfl (pc0 := 38) (pc' := 42) rfl (hb hby at_38) (by decide) (by decide) tk) ?_
      show Goes _ _ _ _ _ (T3.setTop (mkF m 42 #[.val (.int x0), .val (.int x1), .val (.int k), .val (.int (0 : Int32)), .val (.ref (own_pick k w0 w1 w2 w3 w4 w5)), .unset, .unset, .unset, .unset] [(.int (1 : Int32))]))
      refine Goes.step (fun _ tk => XS.istore X3.here hx rfl (hb hby at_42) rfl (l' := #[.val (.int x0), .val (.int x1), .val (.int k), .val (.int (0 : Int32)), .val (.ref (own_pick k w0 w1 w2 w3 w4 w5)), .val (.int (1 : Int32)), .unset, .unset, .unset]) rfl tk) ?_
      show Goes _ _ _ _ _ (T3.setTop (mkF m 44 #[.val (.int x0), .val (.int x1), .val (.int k), .val (.int (0 : Int32)), .val (.ref (own_pick k w0 w1 w2 w3 w4 w5)), .val (.int (1 : Int32)), .unset, .unset, .unset] []))
      refine Goes.step (fun _ tk => XS.iloadN X3.here hx rfl (hb hby at_44) rfl tk) ?_
      show Goes _ _ _ _ _ (T3.setTop (mkF m 45 #[.val (.int x0), .val (.int x1), .val (.int k), .val (.int (0 : Int32)), .val (.ref (own_pick k w0 w1 w2 w3 w4 w5)), .val (.int (1 : Int32)), .unset, .unset, .unset] [(.int (0 : Int32))]))
      refine Goes.step (fun _ tk => XS.istore X3.here hx rfl (hb hby at_45) rfl (l' := #[.val (.int x0), .val (.int x1), .val (.int k), .val (.int (0 : Int32)), .val (.ref (own_pick k w0 w1 w2 w3 w4 w5)), .val (.int (1 : Int32)), .val (.int (0 : Int32)), .unset, .unset]) rfl tk) ?_
      show Goes _ _ _ _ _ (T3.setTop (mkF m 47 #[.val (.int x0), .val (.int x1), .val (.int k), .val (.int (0 : Int32)), .val (.ref (own_pick k w0 w1 w2 w3 w4 w5)), .val (.int (1 : Int32)), .val (.int (0 : Int32)), .unset, .unset] []))
      refine Goes.step (fun _ tk => XS.goto X3.here hx rfl (pc0 := 47) (pc' := 64) rfl (hb hby at_47) (by decide) (by decide) tk) ?_
      show Goes _ _ _ _ _ (T3.setTop (mkF m 64 #[.val (.int x0), .val (.int x1), .val (.int k), .val (.int (0 : Int32)), .val (.ref (own_pick k w0 w1 w2 w3 w4 w5)), .val (.int (1 : Int32)), .val (.int (0 : Int32)), .unset, .unset] []))
      refine Goes.step (fun _ tk => XS.aload X3.here hx rfl (hb hby at_64) rfl rfl tk) ?_
      show Goes _ _ _ _ _ (T3.setTop (mkF m 66 #[.val (.int x0), .val (.int x1), .val (.int k), .val (.int (0 : Int32)), .val (.ref (own_pick k w0 w1 w2 w3 w4 w5)), .val (.int (1 : Int32)), .val (.int (0 : Int32)), .unset, .unset] [(.ref (own_pick k w0 w1 w2 w3 w4 w5))]))
      refine Goes.step (fun _ tk => XS.iloadN X3.here hx rfl (hb hby at_66) rfl tk) ?_
      show Goes _ _ _ _ _ (T3.setTop (mkF m 67 #[.val (.int x0), .val (.int x1), .val (.int k), .val (.int (0 : Int32)), .val (.ref (own_pick k w0 w1 w2 w3 w4 w5)), .val (.int (1 : Int32)), .val (.int (0 : Int32)), .unset, .unset] [(.int (0 : Int32)), (.ref (own_pick k w0 w1 w2 w3 w4 w5))]))
      obtain ⟨cq9, kq9, q9a, q9b, q9c⟩ := isOf hZ e3 hE
      obtain ⟨_, _, ⟨T9, L9, k9, n9⟩, -, X9, ⟨Lc9, hQ9, l9, y9, z9⟩, st9⟩ := X3.virtualBack hx (y := (⟨"com/example/token_into_keys/tokenintokeys/policy/Operator", "holdsWhen", "(Z)Z"⟩ : MethodName)) (z := (⟨"com/example/token_into_keys/tokenintokeys/policy/Operator", "holdsWhen", "(Z)Z"⟩ : MethodName)) hown (mvT hZ (hw _ (List.mem_of_getElem? (i := 11) rfl))) (mvT hZ (hw _ (List.mem_of_getElem? (i := 12) rfl))) (notFace_of_selects (args := #[]) (mvT hZ (hw _ (List.mem_of_getElem? (i := 14) rfl)))) (mvT hZ (hw _ (List.mem_of_getElem? (i := 14) rfl))) (mvT hZ (hw _ (List.mem_of_getElem? (i := 13) rfl))) (by decide) (backOf (W := 0) (rm_holds l Z a0 hw [] (own_pick k w0 w1 w2 w3 w4 w5) (0 : Int32) (own_not k) h0 n0 Z0 hF (by rfl)) hZ (hw _ (List.mem_of_getElem? (i := 15) rfl)) (hw _ (List.mem_of_getElem? (i := 6) rfl)) (by decide) (by decide)) q9a q9c (g := (mkF m 67 #[.val (.int x0), .val (.int x1), .val (.int k), .val (.int (0 : Int32)), .val (.ref (own_pick k w0 w1 w2 w3 w4 w5)), .val (.int (1 : Int32)), .val (.int (0 : Int32)), .unset, .unset] [(.int (0 : Int32)), (.ref (own_pick k w0 w1 w2 w3 w4 w5))])) rfl (by rw [hml]; rfl) (Steps.refl _) (argsL := [(.int (0 : Int32))]) (rest := []) (lenOf own_pd2 rfl) rfl (by show 2 * 0 + _ ≤ _; exact Nat.le_of_eq rfl) (hb hby at_67) (fun _ _ => ⟨rfl, e3, (by decide : 0 + 0 ≤ _), (by decide : 0 + 0 ≤ _)⟩)
      dsimp only [Pt.U, Pt.locs, Pt.cells, Pt.slots] at X9 l9 y9 z9 st9 hQ9
      subst l9 y9 z9
      obtain ⟨rfl, N9q, e9⟩ := hQ9
      have N9 := Fr.app N3 N9q
      refine Goes.step (fun _ tk => st9.trans tk) ?_
      show Goes _ _ _ _ _ (T9.setTop (mkF m 70 #[.val (.int x0), .val (.int x1), .val (.int k), .val (.int (0 : Int32)), .val (.ref (own_pick k w0 w1 w2 w3 w4 w5)), .val (.int (1 : Int32)), .val (.int (0 : Int32)), .unset, .unset] [(.int (own_holds (own_not k) (0 : Int32)))]))
      refine Goes.step (fun _ tk => XS.istore X9.here hx rfl (hb hby at_70) rfl (l' := #[.val (.int x0), .val (.int x1), .val (.int k), .val (.int (0 : Int32)), .val (.ref (own_pick k w0 w1 w2 w3 w4 w5)), .val (.int (1 : Int32)), .val (.int (0 : Int32)), .val (.int (own_holds (own_not k) (0 : Int32))), .unset]) rfl tk) ?_
      show Goes _ _ _ _ _ (T9.setTop (mkF m 72 #[.val (.int x0), .val (.int x1), .val (.int k), .val (.int (0 : Int32)), .val (.ref (own_pick k w0 w1 w2 w3 w4 w5)), .val (.int (1 : Int32)), .val (.int (0 : Int32)), .val (.int (own_holds (own_not k) (0 : Int32))), .unset] []))
      refine Goes.step (fun _ tk => XS.aload X9.here hx rfl (hb hby at_72) rfl rfl tk) ?_
      show Goes _ _ _ _ _ (T9.setTop (mkF m 74 #[.val (.int x0), .val (.int x1), .val (.int k), .val (.int (0 : Int32)), .val (.ref (own_pick k w0 w1 w2 w3 w4 w5)), .val (.int (1 : Int32)), .val (.int (0 : Int32)), .val (.int (own_holds (own_not k) (0 : Int32))), .unset] [(.ref (own_pick k w0 w1 w2 w3 w4 w5))]))
      refine Goes.step (fun _ tk => XS.iloadN X9.here hx rfl (hb hby at_74) rfl tk) ?_
      show Goes _ _ _ _ _ (T9.setTop (mkF m 75 #[.val (.int x0), .val (.int x1), .val (.int k), .val (.int (0 : Int32)), .val (.ref (own_pick k w0 w1 w2 w3 w4 w5)), .val (.int (1 : Int32)), .val (.int (0 : Int32)), .val (.int (own_holds (own_not k) (0 : Int32))), .unset] [(.int (0 : Int32)), (.ref (own_pick k w0 w1 w2 w3 w4 w5))]))
      refine Goes.step (fun _ tk => XS.ifNo X9.here hx rfl (hb hby at_75) rfl ((if0 _ _).trans (teq (by decide : ((0 : Int32) = (0 : Int32)))).2) tk) ?_
      show Goes _ _ _ _ _ (T9.setTop (mkF m 78 #[.val (.int x0), .val (.int x1), .val (.int k), .val (.int (0 : Int32)), .val (.ref (own_pick k w0 w1 w2 w3 w4 w5)), .val (.int (1 : Int32)), .val (.int (0 : Int32)), .val (.int (own_holds (own_not k) (0 : Int32))), .unset] [(.ref (own_pick k w0 w1 w2 w3 w4 w5))]))
      refine Goes.step (fun _ tk => XS.iconst X9.here hx rfl (hb hby at_78) tk) ?_
      show Goes _ _ _ _ _ (T9.setTop (mkF m 79 #[.val (.int x0), .val (.int x1), .val (.int k), .val (.int (0 : Int32)), .val (.ref (own_pick k w0 w1 w2 w3 w4 w5)), .val (.int (1 : Int32)), .val (.int (0 : Int32)), .val (.int (own_holds (own_not k) (0 : Int32))), .unset] [(.int (1 : Int32)), (.ref (own_pick k w0 w1 w2 w3 w4 w5))]))
      refine Goes.step (fun _ tk => XS.goto X9.here hx rfl (pc0 := 79) (pc' := 83) rfl (hb hby at_79) (by decide) (by decide) tk) ?_
      show Goes _ _ _ _ _ (T9.setTop (mkF m 83 #[.val (.int x0), .val (.int x1), .val (.int k), .val (.int (0 : Int32)), .val (.ref (own_pick k w0 w1 w2 w3 w4 w5)), .val (.int (1 : Int32)), .val (.int (0 : Int32)), .val (.int (own_holds (own_not k) (0 : Int32))), .unset] [(.int (1 : Int32)), (.ref (own_pick k w0 w1 w2 w3 w4 w5))]))
      obtain ⟨cq10, kq10, q10a, q10b, q10c⟩ := isOf hZ e9 hE
      obtain ⟨_, _, ⟨T10, L10, k10, n10⟩, -, X10, ⟨Lc10, hQ10, l10, y10, z10⟩, st10⟩ := X9.virtualBack hx (y := (⟨"com/example/token_into_keys/tokenintokeys/policy/Operator", "holdsWhen", "(Z)Z"⟩ : MethodName)) (z := (⟨"com/example/token_into_keys/tokenintokeys/policy/Operator", "holdsWhen", "(Z)Z"⟩ : MethodName)) hown (mvT hZ (hw _ (List.mem_of_getElem? (i := 11) rfl))) (mvT hZ (hw _ (List.mem_of_getElem? (i := 12) rfl))) (notFace_of_selects (args := #[]) (mvT hZ (hw _ (List.mem_of_getElem? (i := 14) rfl)))) (mvT hZ (hw _ (List.mem_of_getElem? (i := 14) rfl))) (mvT hZ (hw _ (List.mem_of_getElem? (i := 13) rfl))) (by decide) (backOf (W := 0) (rm_holds l Z a0 hw [] (own_pick k w0 w1 w2 w3 w4 w5) (1 : Int32) (own_not k) h0 n0 Z0 hF (by rfl)) hZ (hw _ (List.mem_of_getElem? (i := 15) rfl)) (hw _ (List.mem_of_getElem? (i := 6) rfl)) (by decide) (by decide)) q10a q10c (g := (mkF m 83 #[.val (.int x0), .val (.int x1), .val (.int k), .val (.int (0 : Int32)), .val (.ref (own_pick k w0 w1 w2 w3 w4 w5)), .val (.int (1 : Int32)), .val (.int (0 : Int32)), .val (.int (own_holds (own_not k) (0 : Int32))), .unset] [(.int (1 : Int32)), (.ref (own_pick k w0 w1 w2 w3 w4 w5))])) rfl (by rw [hml]; rfl) (Steps.refl _) (argsL := [(.int (1 : Int32))]) (rest := []) (lenOf own_pd2 rfl) rfl (by show 2 * 0 + _ ≤ _; exact Nat.le_of_eq rfl) (hb hby at_83) (fun _ _ => ⟨rfl, e9, (by decide : 0 + 0 ≤ _), (by decide : 0 + 0 ≤ _)⟩)
      dsimp only [Pt.U, Pt.locs, Pt.cells, Pt.slots] at X10 l10 y10 z10 st10 hQ10
      subst l10 y10 z10
      obtain ⟨rfl, N10q, e10⟩ := hQ10
      have N10 := Fr.app N9 N10q
      refine Goes.step (fun _ tk => st10.trans tk) ?_
      show Goes _ _ _ _ _ (T10.setTop (mkF m 86 #[.val (.int x0), .val (.int x1), .val (.int k), .val (.int (0 : Int32)), .val (.ref (own_pick k w0 w1 w2 w3 w4 w5)), .val (.int (1 : Int32)), .val (.int (0 : Int32)), .val (.int (own_holds (own_not k) (0 : Int32))), .unset] [(.int (own_holds (own_not k) (1 : Int32)))]))
      refine Goes.step (fun _ tk => XS.istore X10.here hx rfl (hb hby at_86) rfl (l' := #[.val (.int x0), .val (.int x1), .val (.int k), .val (.int (0 : Int32)), .val (.ref (own_pick k w0 w1 w2 w3 w4 w5)), .val (.int (1 : Int32)), .val (.int (0 : Int32)), .val (.int (own_holds (own_not k) (0 : Int32))), .val (.int (own_holds (own_not k) (1 : Int32)))]) rfl tk) ?_
      show Goes _ _ _ _ _ (T10.setTop (mkF m 88 #[.val (.int x0), .val (.int x1), .val (.int k), .val (.int (0 : Int32)), .val (.ref (own_pick k w0 w1 w2 w3 w4 w5)), .val (.int (1 : Int32)), .val (.int (0 : Int32)), .val (.int (own_holds (own_not k) (0 : Int32))), .val (.int (own_holds (own_not k) (1 : Int32)))] []))
      refine Goes.step (fun _ tk => XS.iload X10.here hx rfl (hb hby at_88) rfl tk) ?_
      show Goes _ _ _ _ _ (T10.setTop (mkF m 90 #[.val (.int x0), .val (.int x1), .val (.int k), .val (.int (0 : Int32)), .val (.ref (own_pick k w0 w1 w2 w3 w4 w5)), .val (.int (1 : Int32)), .val (.int (0 : Int32)), .val (.int (own_holds (own_not k) (0 : Int32))), .val (.int (own_holds (own_not k) (1 : Int32)))] [(.int (own_holds (own_not k) (0 : Int32)))]))
      refine Goes.step (fun _ tk => XS.iload X10.here hx rfl (hb hby at_90) rfl tk) ?_
      show Goes _ _ _ _ _ (T10.setTop (mkF m 92 #[.val (.int x0), .val (.int x1), .val (.int k), .val (.int (0 : Int32)), .val (.ref (own_pick k w0 w1 w2 w3 w4 w5)), .val (.int (1 : Int32)), .val (.int (0 : Int32)), .val (.int (own_holds (own_not k) (0 : Int32))), .val (.int (own_holds (own_not k) (1 : Int32)))] [(.int (1 : Int32)), (.int (own_holds (own_not k) (0 : Int32)))]))
      have hc92_11 : (own_holds (own_not k) (0 : Int32)) = (1 : Int32) := by simp [own_holds, *]
      refine Goes.step (fun _ tk => XS.icmpNo X10.here hx rfl (hb hby at_92) rfl (teq hc92_11).2 tk) ?_
      show Goes _ _ _ _ _ (T10.setTop (mkF m 95 #[.val (.int x0), .val (.int x1), .val (.int k), .val (.int (0 : Int32)), .val (.ref (own_pick k w0 w1 w2 w3 w4 w5)), .val (.int (1 : Int32)), .val (.int (0 : Int32)), .val (.int (own_holds (own_not k) (0 : Int32))), .val (.int (own_holds (own_not k) (1 : Int32)))] []))
      refine Goes.step (fun _ tk => XS.iload X10.here hx rfl (hb hby at_95) rfl tk) ?_
      show Goes _ _ _ _ _ (T10.setTop (mkF m 97 #[.val (.int x0), .val (.int x1), .val (.int k), .val (.int (0 : Int32)), .val (.ref (own_pick k w0 w1 w2 w3 w4 w5)), .val (.int (1 : Int32)), .val (.int (0 : Int32)), .val (.int (own_holds (own_not k) (0 : Int32))), .val (.int (own_holds (own_not k) (1 : Int32)))] [(.int (own_holds (own_not k) (1 : Int32)))]))
      refine Goes.step (fun _ tk => XS.iload X10.here hx rfl (hb hby at_97) rfl tk) ?_
      show Goes _ _ _ _ _ (T10.setTop (mkF m 99 #[.val (.int x0), .val (.int x1), .val (.int k), .val (.int (0 : Int32)), .val (.ref (own_pick k w0 w1 w2 w3 w4 w5)), .val (.int (1 : Int32)), .val (.int (0 : Int32)), .val (.int (own_holds (own_not k) (0 : Int32))), .val (.int (own_holds (own_not k) (1 : Int32)))] [(.int (0 : Int32)), (.int (own_holds (own_not k) (1 : Int32)))]))
      have hc99_12 : (own_holds (own_not k) (1 : Int32)) = (0 : Int32) := by simp [own_holds, *]
      refine Goes.step (fun _ tk => XS.icmpNo X10.here hx rfl (hb hby at_99) rfl (teq hc99_12).2 tk) ?_
      show Goes _ _ _ _ _ (T10.setTop (mkF m 102 #[.val (.int x0), .val (.int x1), .val (.int k), .val (.int (0 : Int32)), .val (.ref (own_pick k w0 w1 w2 w3 w4 w5)), .val (.int (1 : Int32)), .val (.int (0 : Int32)), .val (.int (own_holds (own_not k) (0 : Int32))), .val (.int (own_holds (own_not k) (1 : Int32)))] []))
      refine Goes.step (fun _ tk => XS.iconst X10.here hx rfl (hb hby at_102) tk) ?_
      show Goes _ _ _ _ _ (T10.setTop (mkF m 103 #[.val (.int x0), .val (.int x1), .val (.int k), .val (.int (0 : Int32)), .val (.ref (own_pick k w0 w1 w2 w3 w4 w5)), .val (.int (1 : Int32)), .val (.int (0 : Int32)), .val (.int (own_holds (own_not k) (0 : Int32))), .val (.int (own_holds (own_not k) (1 : Int32)))] [(.int (1 : Int32))]))
      refine Goes.step (fun _ tk => XS.goto X10.here hx rfl (pc0 := 103) (pc' := 107) rfl (hb hby at_103) (by decide) (by decide) tk) ?_
      show Goes _ _ _ _ _ (T10.setTop (mkF m 107 #[.val (.int x0), .val (.int x1), .val (.int k), .val (.int (0 : Int32)), .val (.ref (own_pick k w0 w1 w2 w3 w4 w5)), .val (.int (1 : Int32)), .val (.int (0 : Int32)), .val (.int (own_holds (own_not k) (0 : Int32))), .val (.int (own_holds (own_not k) (1 : Int32)))] [(.int (1 : Int32))]))
      refine Goes.ret X10 (some (.int (1 : Int32))) (fun h => by rw [Bd.returns] at h; cases h) hlk (by decide) (by decide) ?_ (fun fs hr => ?_)
      · exact ⟨rfl, N10⟩
      · exact own_retN X10 hx (t := .boolean) Bd.returns (by simp) rfl (hb hby at_107) hr
  · refine Goes.step (fun _ tk => XS.ifNo X0.here hx rfl (hb hby at_11) rfl ((if0 _ _).trans (feq hc11_1).1) tk) ?_
    show Goes _ _ _ _ _ (s₁.setTop (mkF m 14 #[.val (.int x0), .val (.int x1), .val (.int k), .unset, .unset, .unset, .unset, .unset, .unset] []))
    refine Goes.step (fun _ tk => XS.iconst X0.here hx rfl (hb hby at_14) tk) ?_
    show Goes _ _ _ _ _ (s₁.setTop (mkF m 15 #[.val (.int x0), .val (.int x1), .val (.int k), .unset, .unset, .unset, .unset, .unset, .unset] [(.int (1 : Int32))]))
    refine Goes.step (fun _ tk => XS.goto X0.here hx rfl (pc0 := 15) (pc' := 19) rfl (hb hby at_15) (by decide) (by decide) tk) ?_
    show Goes _ _ _ _ _ (s₁.setTop (mkF m 19 #[.val (.int x0), .val (.int x1), .val (.int k), .unset, .unset, .unset, .unset, .unset, .unset] [(.int (1 : Int32))]))
    refine Goes.step (fun _ tk => XS.istoreN X0.here hx rfl (hb hby at_19) rfl (l' := #[.val (.int x0), .val (.int x1), .val (.int k), .val (.int (1 : Int32)), .unset, .unset, .unset, .unset, .unset]) rfl tk) ?_
    show Goes _ _ _ _ _ (s₁.setTop (mkF m 20 #[.val (.int x0), .val (.int x1), .val (.int k), .val (.int (1 : Int32)), .unset, .unset, .unset, .unset, .unset] []))
    refine Goes.step (fun _ tk => XS.iloadN X0.here hx rfl (hb hby at_20) rfl tk) ?_
    show Goes _ _ _ _ _ (s₁.setTop (mkF m 21 #[.val (.int x0), .val (.int x1), .val (.int k), .val (.int (1 : Int32)), .unset, .unset, .unset, .unset, .unset] [(.int k)]))
    obtain ⟨_, _, ⟨T13, L13, k13, n13⟩, -, X13, ⟨Lc13, hQ13, l13, y13, z13⟩, st13⟩ := Jvm.LawKit.callS X0 hx (y := (⟨"com/example/token_into_keys/tokenintokeys/policy/OperatorHoldsWhenPinLaw", "pick", "(I)Lcom/example/token_into_keys/tokenintokeys/policy/Operator;"⟩ : MethodName)) hown (mvT hZ (hw _ (List.mem_of_getElem? (i := 1) rfl))) (mvT hZ (hw _ (List.mem_of_getElem? (i := 2) rfl))) (mvT hZ (hw _ (List.mem_of_getElem? (i := 3) rfl))) (mvT hZ (hw _ (List.mem_of_getElem? (i := 4) rfl))) (by decide) (backOf (W := 0) (rm_pick l Z a0 hw [] k w0 w1 w2 w3 w4 w5 h0 n0 Z0 S0 S1 S2 S3 S4 S5) hZ (hw _ (List.mem_of_getElem? (i := 4) rfl)) (hw _ (List.mem_of_getElem? (i := 3) rfl)) (by decide) (by decide)) (g := (mkF m 21 #[.val (.int x0), .val (.int x1), .val (.int k), .val (.int (1 : Int32)), .unset, .unset, .unset, .unset, .unset] [(.int k)])) rfl (by rw [hml]; rfl) (argsL := [(.int k)]) (rest := []) (lenOf own_pd0 rfl) rfl (by show 2 * 0 + _ ≤ _; exact Nat.le_of_eq rfl) (hb hby at_21) (fun _ _ => ⟨rfl, e0, (by decide : 0 + 0 ≤ _), (by decide : 0 + 0 ≤ _)⟩)
    dsimp only [Pt.U, Pt.locs, Pt.cells, Pt.slots] at X13 l13 y13 z13 st13 hQ13
    subst l13 y13 z13
    obtain ⟨rfl, N13q, e13⟩ := hQ13
    have N13 := Fr.app N0 N13q
    refine Goes.step st13 ?_
    show Goes _ _ _ _ _ (T13.setTop (mkF m 24 #[.val (.int x0), .val (.int x1), .val (.int k), .val (.int (1 : Int32)), .unset, .unset, .unset, .unset, .unset] [(.ref (own_pick k w0 w1 w2 w3 w4 w5))]))
    have hE : Exa Z h0 (own_pick k w0 w1 w2 w3 w4 w5) "com/example/token_into_keys/tokenintokeys/policy/Operator" := by
      unfold own_pick
      repeat' split
      all_goals assumption
    have hF : Fld Z h0 (own_pick k w0 w1 w2 w3 w4 w5) "com/example/token_into_keys/tokenintokeys/policy/Operator" "negated" "Z" (.int (own_not k)) := by
      have q := own_six x0
      rw [hk] at q
      rcases q with rfl | rfl | rfl | rfl | rfl | rfl <;> first | exact F0 | exact F1 | exact F2 | exact F3 | exact F4 | exact F5
    refine Goes.step (fun _ tk => XS.astore X13.here hx rfl (hb hby at_24) rfl rfl (l' := #[.val (.int x0), .val (.int x1), .val (.int k), .val (.int (1 : Int32)), .val (.ref (own_pick k w0 w1 w2 w3 w4 w5)), .unset, .unset, .unset, .unset]) rfl tk) ?_
    show Goes _ _ _ _ _ (T13.setTop (mkF m 26 #[.val (.int x0), .val (.int x1), .val (.int k), .val (.int (1 : Int32)), .val (.ref (own_pick k w0 w1 w2 w3 w4 w5)), .unset, .unset, .unset, .unset] []))
    refine Goes.step (fun _ tk => XS.iloadN X13.here hx rfl (hb hby at_26) rfl tk) ?_
    show Goes _ _ _ _ _ (T13.setTop (mkF m 27 #[.val (.int x0), .val (.int x1), .val (.int k), .val (.int (1 : Int32)), .val (.ref (own_pick k w0 w1 w2 w3 w4 w5)), .unset, .unset, .unset, .unset] [(.int k)]))
    obtain ⟨_, _, ⟨T14, L14, k14, n14⟩, -, X14, ⟨Lc14, hQ14, l14, y14, z14⟩, st14⟩ := Jvm.LawKit.callS X13 hx (y := (⟨"com/example/token_into_keys/tokenintokeys/policy/OperatorHoldsWhenPinLaw", "isNot", "(I)Z"⟩ : MethodName)) hown (mvT hZ (hw _ (List.mem_of_getElem? (i := 8) rfl))) (mvT hZ (hw _ (List.mem_of_getElem? (i := 9) rfl))) (mvT hZ (hw _ (List.mem_of_getElem? (i := 3) rfl))) (mvT hZ (hw _ (List.mem_of_getElem? (i := 10) rfl))) (by decide) (backOf (W := 0) (rm_not l Z a0 hw [] k h0 n0 Z0) hZ (hw _ (List.mem_of_getElem? (i := 10) rfl)) (hw _ (List.mem_of_getElem? (i := 3) rfl)) (by decide) (by decide)) (g := (mkF m 27 #[.val (.int x0), .val (.int x1), .val (.int k), .val (.int (1 : Int32)), .val (.ref (own_pick k w0 w1 w2 w3 w4 w5)), .unset, .unset, .unset, .unset] [(.int k)])) rfl (by rw [hml]; rfl) (argsL := [(.int k)]) (rest := []) (lenOf own_pd1 rfl) rfl (by show 2 * 0 + _ ≤ _; exact Nat.le_of_eq rfl) (hb hby at_27) (fun _ _ => ⟨rfl, e13, (by decide : 0 + 0 ≤ _), (by decide : 0 + 0 ≤ _)⟩)
    dsimp only [Pt.U, Pt.locs, Pt.cells, Pt.slots] at X14 l14 y14 z14 st14 hQ14
    subst l14 y14 z14
    obtain ⟨rfl, N14q, e14⟩ := hQ14
    have N14 := Fr.app N13 N14q
    refine Goes.step st14 ?_
    show Goes _ _ _ _ _ (T14.setTop (mkF m 30 #[.val (.int x0), .val (.int x1), .val (.int k), .val (.int (1 : Int32)), .val (.ref (own_pick k w0 w1 w2 w3 w4 w5)), .unset, .unset, .unset, .unset] [(.int (own_not k))]))
    by_cases hc30_15 : (own_not k) = (0 : Int32)
    · refine Goes.step (fun _ tk => XS.ifYes X14.here hx rfl (pc0 := 30) (pc' := 50) rfl (hb hby at_30) rfl ((if0 _ _).trans (teq hc30_15).1) (by decide) (by decide) tk) ?_
      show Goes _ _ _ _ _ (T14.setTop (mkF m 50 #[.val (.int x0), .val (.int x1), .val (.int k), .val (.int (1 : Int32)), .val (.ref (own_pick k w0 w1 w2 w3 w4 w5)), .unset, .unset, .unset, .unset] []))
      refine Goes.step (fun _ tk => XS.iloadN X14.here hx rfl (hb hby at_50) rfl tk) ?_
      show Goes _ _ _ _ _ (T14.setTop (mkF m 51 #[.val (.int x0), .val (.int x1), .val (.int k), .val (.int (1 : Int32)), .val (.ref (own_pick k w0 w1 w2 w3 w4 w5)), .unset, .unset, .unset, .unset] [(.int (1 : Int32))]))
      refine Goes.step (fun _ tk => XS.istore X14.here hx rfl (hb hby at_51) rfl (l' := #[.val (.int x0), .val (.int x1), .val (.int k), .val (.int (1 : Int32)), .val (.ref (own_pick k w0 w1 w2 w3 w4 w5)), .val (.int (1 : Int32)), .unset, .unset, .unset]) rfl tk) ?_
      show Goes _ _ _ _ _ (T14.setTop (mkF m 53 #[.val (.int x0), .val (.int x1), .val (.int k), .val (.int (1 : Int32)), .val (.ref (own_pick k w0 w1 w2 w3 w4 w5)), .val (.int (1 : Int32)), .unset, .unset, .unset] []))
      refine Goes.step (fun _ tk => XS.iloadN X14.here hx rfl (hb hby at_53) rfl tk) ?_
      show Goes _ _ _ _ _ (T14.setTop (mkF m 54 #[.val (.int x0), .val (.int x1), .val (.int k), .val (.int (1 : Int32)), .val (.ref (own_pick k w0 w1 w2 w3 w4 w5)), .val (.int (1 : Int32)), .unset, .unset, .unset] [(.int (1 : Int32))]))
      refine Goes.step (fun _ tk => XS.ifYes X14.here hx rfl (pc0 := 54) (pc' := 61) rfl (hb hby at_54) rfl ((if0 _ _).trans (feq (by decide : ¬ ((1 : Int32) = (0 : Int32)))).2) (by decide) (by decide) tk) ?_
      show Goes _ _ _ _ _ (T14.setTop (mkF m 61 #[.val (.int x0), .val (.int x1), .val (.int k), .val (.int (1 : Int32)), .val (.ref (own_pick k w0 w1 w2 w3 w4 w5)), .val (.int (1 : Int32)), .unset, .unset, .unset] []))
      refine Goes.step (fun _ tk => XS.iconst X14.here hx rfl (hb hby at_61) tk) ?_
      show Goes _ _ _ _ _ (T14.setTop (mkF m 62 #[.val (.int x0), .val (.int x1), .val (.int k), .val (.int (1 : Int32)), .val (.ref (own_pick k w0 w1 w2 w3 w4 w5)), .val (.int (1 : Int32)), .unset, .unset, .unset] [(.int (0 : Int32))]))
      refine Goes.step (fun _ tk => XS.istore X14.here hx rfl (hb hby at_62) rfl (l' := #[.val (.int x0), .val (.int x1), .val (.int k), .val (.int (1 : Int32)), .val (.ref (own_pick k w0 w1 w2 w3 w4 w5)), .val (.int (1 : Int32)), .val (.int (0 : Int32)), .unset, .unset]) rfl tk) ?_
      show Goes _ _ _ _ _ (T14.setTop (mkF m 64 #[.val (.int x0), .val (.int x1), .val (.int k), .val (.int (1 : Int32)), .val (.ref (own_pick k w0 w1 w2 w3 w4 w5)), .val (.int (1 : Int32)), .val (.int (0 : Int32)), .unset, .unset] []))
      refine Goes.step (fun _ tk => XS.aload X14.here hx rfl (hb hby at_64) rfl rfl tk) ?_
      show Goes _ _ _ _ _ (T14.setTop (mkF m 66 #[.val (.int x0), .val (.int x1), .val (.int k), .val (.int (1 : Int32)), .val (.ref (own_pick k w0 w1 w2 w3 w4 w5)), .val (.int (1 : Int32)), .val (.int (0 : Int32)), .unset, .unset] [(.ref (own_pick k w0 w1 w2 w3 w4 w5))]))
      refine Goes.step (fun _ tk => XS.iloadN X14.here hx rfl (hb hby at_66) rfl tk) ?_
      show Goes _ _ _ _ _ (T14.setTop (mkF m 67 #[.val (.int x0), .val (.int x1), .val (.int k), .val (.int (1 : Int32)), .val (.ref (own_pick k w0 w1 w2 w3 w4 w5)), .val (.int (1 : Int32)), .val (.int (0 : Int32)), .unset, .unset] [(.int (1 : Int32)), (.ref (own_pick k w0 w1 w2 w3 w4 w5))]))
      obtain ⟨cq16, kq16, q16a, q16b, q16c⟩ := isOf hZ e14 hE
      obtain ⟨_, _, ⟨T16, L16, k16, n16⟩, -, X16, ⟨Lc16, hQ16, l16, y16, z16⟩, st16⟩ := X14.virtualBack hx (y := (⟨"com/example/token_into_keys/tokenintokeys/policy/Operator", "holdsWhen", "(Z)Z"⟩ : MethodName)) (z := (⟨"com/example/token_into_keys/tokenintokeys/policy/Operator", "holdsWhen", "(Z)Z"⟩ : MethodName)) hown (mvT hZ (hw _ (List.mem_of_getElem? (i := 11) rfl))) (mvT hZ (hw _ (List.mem_of_getElem? (i := 12) rfl))) (notFace_of_selects (args := #[]) (mvT hZ (hw _ (List.mem_of_getElem? (i := 14) rfl)))) (mvT hZ (hw _ (List.mem_of_getElem? (i := 14) rfl))) (mvT hZ (hw _ (List.mem_of_getElem? (i := 13) rfl))) (by decide) (backOf (W := 0) (rm_holds l Z a0 hw [] (own_pick k w0 w1 w2 w3 w4 w5) (1 : Int32) (own_not k) h0 n0 Z0 hF (by rfl)) hZ (hw _ (List.mem_of_getElem? (i := 15) rfl)) (hw _ (List.mem_of_getElem? (i := 6) rfl)) (by decide) (by decide)) q16a q16c (g := (mkF m 67 #[.val (.int x0), .val (.int x1), .val (.int k), .val (.int (1 : Int32)), .val (.ref (own_pick k w0 w1 w2 w3 w4 w5)), .val (.int (1 : Int32)), .val (.int (0 : Int32)), .unset, .unset] [(.int (1 : Int32)), (.ref (own_pick k w0 w1 w2 w3 w4 w5))])) rfl (by rw [hml]; rfl) (Steps.refl _) (argsL := [(.int (1 : Int32))]) (rest := []) (lenOf own_pd2 rfl) rfl (by show 2 * 0 + _ ≤ _; exact Nat.le_of_eq rfl) (hb hby at_67) (fun _ _ => ⟨rfl, e14, (by decide : 0 + 0 ≤ _), (by decide : 0 + 0 ≤ _)⟩)
      dsimp only [Pt.U, Pt.locs, Pt.cells, Pt.slots] at X16 l16 y16 z16 st16 hQ16
      subst l16 y16 z16
      obtain ⟨rfl, N16q, e16⟩ := hQ16
      have N16 := Fr.app N14 N16q
      refine Goes.step (fun _ tk => st16.trans tk) ?_
      show Goes _ _ _ _ _ (T16.setTop (mkF m 70 #[.val (.int x0), .val (.int x1), .val (.int k), .val (.int (1 : Int32)), .val (.ref (own_pick k w0 w1 w2 w3 w4 w5)), .val (.int (1 : Int32)), .val (.int (0 : Int32)), .unset, .unset] [(.int (own_holds (own_not k) (1 : Int32)))]))
      refine Goes.step (fun _ tk => XS.istore X16.here hx rfl (hb hby at_70) rfl (l' := #[.val (.int x0), .val (.int x1), .val (.int k), .val (.int (1 : Int32)), .val (.ref (own_pick k w0 w1 w2 w3 w4 w5)), .val (.int (1 : Int32)), .val (.int (0 : Int32)), .val (.int (own_holds (own_not k) (1 : Int32))), .unset]) rfl tk) ?_
      show Goes _ _ _ _ _ (T16.setTop (mkF m 72 #[.val (.int x0), .val (.int x1), .val (.int k), .val (.int (1 : Int32)), .val (.ref (own_pick k w0 w1 w2 w3 w4 w5)), .val (.int (1 : Int32)), .val (.int (0 : Int32)), .val (.int (own_holds (own_not k) (1 : Int32))), .unset] []))
      refine Goes.step (fun _ tk => XS.aload X16.here hx rfl (hb hby at_72) rfl rfl tk) ?_
      show Goes _ _ _ _ _ (T16.setTop (mkF m 74 #[.val (.int x0), .val (.int x1), .val (.int k), .val (.int (1 : Int32)), .val (.ref (own_pick k w0 w1 w2 w3 w4 w5)), .val (.int (1 : Int32)), .val (.int (0 : Int32)), .val (.int (own_holds (own_not k) (1 : Int32))), .unset] [(.ref (own_pick k w0 w1 w2 w3 w4 w5))]))
      refine Goes.step (fun _ tk => XS.iloadN X16.here hx rfl (hb hby at_74) rfl tk) ?_
      show Goes _ _ _ _ _ (T16.setTop (mkF m 75 #[.val (.int x0), .val (.int x1), .val (.int k), .val (.int (1 : Int32)), .val (.ref (own_pick k w0 w1 w2 w3 w4 w5)), .val (.int (1 : Int32)), .val (.int (0 : Int32)), .val (.int (own_holds (own_not k) (1 : Int32))), .unset] [(.int (1 : Int32)), (.ref (own_pick k w0 w1 w2 w3 w4 w5))]))
      refine Goes.step (fun _ tk => XS.ifYes X16.here hx rfl (pc0 := 75) (pc' := 82) rfl (hb hby at_75) rfl ((if0 _ _).trans (feq (by decide : ¬ ((1 : Int32) = (0 : Int32)))).2) (by decide) (by decide) tk) ?_
      show Goes _ _ _ _ _ (T16.setTop (mkF m 82 #[.val (.int x0), .val (.int x1), .val (.int k), .val (.int (1 : Int32)), .val (.ref (own_pick k w0 w1 w2 w3 w4 w5)), .val (.int (1 : Int32)), .val (.int (0 : Int32)), .val (.int (own_holds (own_not k) (1 : Int32))), .unset] [(.ref (own_pick k w0 w1 w2 w3 w4 w5))]))
      refine Goes.step (fun _ tk => XS.iconst X16.here hx rfl (hb hby at_82) tk) ?_
      show Goes _ _ _ _ _ (T16.setTop (mkF m 83 #[.val (.int x0), .val (.int x1), .val (.int k), .val (.int (1 : Int32)), .val (.ref (own_pick k w0 w1 w2 w3 w4 w5)), .val (.int (1 : Int32)), .val (.int (0 : Int32)), .val (.int (own_holds (own_not k) (1 : Int32))), .unset] [(.int (0 : Int32)), (.ref (own_pick k w0 w1 w2 w3 w4 w5))]))
      obtain ⟨cq17, kq17, q17a, q17b, q17c⟩ := isOf hZ e16 hE
      obtain ⟨_, _, ⟨T17, L17, k17, n17⟩, -, X17, ⟨Lc17, hQ17, l17, y17, z17⟩, st17⟩ := X16.virtualBack hx (y := (⟨"com/example/token_into_keys/tokenintokeys/policy/Operator", "holdsWhen", "(Z)Z"⟩ : MethodName)) (z := (⟨"com/example/token_into_keys/tokenintokeys/policy/Operator", "holdsWhen", "(Z)Z"⟩ : MethodName)) hown (mvT hZ (hw _ (List.mem_of_getElem? (i := 11) rfl))) (mvT hZ (hw _ (List.mem_of_getElem? (i := 12) rfl))) (notFace_of_selects (args := #[]) (mvT hZ (hw _ (List.mem_of_getElem? (i := 14) rfl)))) (mvT hZ (hw _ (List.mem_of_getElem? (i := 14) rfl))) (mvT hZ (hw _ (List.mem_of_getElem? (i := 13) rfl))) (by decide) (backOf (W := 0) (rm_holds l Z a0 hw [] (own_pick k w0 w1 w2 w3 w4 w5) (0 : Int32) (own_not k) h0 n0 Z0 hF (by rfl)) hZ (hw _ (List.mem_of_getElem? (i := 15) rfl)) (hw _ (List.mem_of_getElem? (i := 6) rfl)) (by decide) (by decide)) q17a q17c (g := (mkF m 83 #[.val (.int x0), .val (.int x1), .val (.int k), .val (.int (1 : Int32)), .val (.ref (own_pick k w0 w1 w2 w3 w4 w5)), .val (.int (1 : Int32)), .val (.int (0 : Int32)), .val (.int (own_holds (own_not k) (1 : Int32))), .unset] [(.int (0 : Int32)), (.ref (own_pick k w0 w1 w2 w3 w4 w5))])) rfl (by rw [hml]; rfl) (Steps.refl _) (argsL := [(.int (0 : Int32))]) (rest := []) (lenOf own_pd2 rfl) rfl (by show 2 * 0 + _ ≤ _; exact Nat.le_of_eq rfl) (hb hby at_83) (fun _ _ => ⟨rfl, e16, (by decide : 0 + 0 ≤ _), (by decide : 0 + 0 ≤ _)⟩)
      dsimp only [Pt.U, Pt.locs, Pt.cells, Pt.slots] at X17 l17 y17 z17 st17 hQ17
      subst l17 y17 z17
      obtain ⟨rfl, N17q, e17⟩ := hQ17
      have N17 := Fr.app N16 N17q
      refine Goes.step (fun _ tk => st17.trans tk) ?_
      show Goes _ _ _ _ _ (T17.setTop (mkF m 86 #[.val (.int x0), .val (.int x1), .val (.int k), .val (.int (1 : Int32)), .val (.ref (own_pick k w0 w1 w2 w3 w4 w5)), .val (.int (1 : Int32)), .val (.int (0 : Int32)), .val (.int (own_holds (own_not k) (1 : Int32))), .unset] [(.int (own_holds (own_not k) (0 : Int32)))]))
      refine Goes.step (fun _ tk => XS.istore X17.here hx rfl (hb hby at_86) rfl (l' := #[.val (.int x0), .val (.int x1), .val (.int k), .val (.int (1 : Int32)), .val (.ref (own_pick k w0 w1 w2 w3 w4 w5)), .val (.int (1 : Int32)), .val (.int (0 : Int32)), .val (.int (own_holds (own_not k) (1 : Int32))), .val (.int (own_holds (own_not k) (0 : Int32)))]) rfl tk) ?_
      show Goes _ _ _ _ _ (T17.setTop (mkF m 88 #[.val (.int x0), .val (.int x1), .val (.int k), .val (.int (1 : Int32)), .val (.ref (own_pick k w0 w1 w2 w3 w4 w5)), .val (.int (1 : Int32)), .val (.int (0 : Int32)), .val (.int (own_holds (own_not k) (1 : Int32))), .val (.int (own_holds (own_not k) (0 : Int32)))] []))
      refine Goes.step (fun _ tk => XS.iload X17.here hx rfl (hb hby at_88) rfl tk) ?_
      show Goes _ _ _ _ _ (T17.setTop (mkF m 90 #[.val (.int x0), .val (.int x1), .val (.int k), .val (.int (1 : Int32)), .val (.ref (own_pick k w0 w1 w2 w3 w4 w5)), .val (.int (1 : Int32)), .val (.int (0 : Int32)), .val (.int (own_holds (own_not k) (1 : Int32))), .val (.int (own_holds (own_not k) (0 : Int32)))] [(.int (own_holds (own_not k) (1 : Int32)))]))
      refine Goes.step (fun _ tk => XS.iload X17.here hx rfl (hb hby at_90) rfl tk) ?_
      show Goes _ _ _ _ _ (T17.setTop (mkF m 92 #[.val (.int x0), .val (.int x1), .val (.int k), .val (.int (1 : Int32)), .val (.ref (own_pick k w0 w1 w2 w3 w4 w5)), .val (.int (1 : Int32)), .val (.int (0 : Int32)), .val (.int (own_holds (own_not k) (1 : Int32))), .val (.int (own_holds (own_not k) (0 : Int32)))] [(.int (1 : Int32)), (.int (own_holds (own_not k) (1 : Int32)))]))
      have hc92_18 : (own_holds (own_not k) (1 : Int32)) = (1 : Int32) := by simp [own_holds, *]
      refine Goes.step (fun _ tk => XS.icmpNo X17.here hx rfl (hb hby at_92) rfl (teq hc92_18).2 tk) ?_
      show Goes _ _ _ _ _ (T17.setTop (mkF m 95 #[.val (.int x0), .val (.int x1), .val (.int k), .val (.int (1 : Int32)), .val (.ref (own_pick k w0 w1 w2 w3 w4 w5)), .val (.int (1 : Int32)), .val (.int (0 : Int32)), .val (.int (own_holds (own_not k) (1 : Int32))), .val (.int (own_holds (own_not k) (0 : Int32)))] []))
      refine Goes.step (fun _ tk => XS.iload X17.here hx rfl (hb hby at_95) rfl tk) ?_
      show Goes _ _ _ _ _ (T17.setTop (mkF m 97 #[.val (.int x0), .val (.int x1), .val (.int k), .val (.int (1 : Int32)), .val (.ref (own_pick k w0 w1 w2 w3 w4 w5)), .val (.int (1 : Int32)), .val (.int (0 : Int32)), .val (.int (own_holds (own_not k) (1 : Int32))), .val (.int (own_holds (own_not k) (0 : Int32)))] [(.int (own_holds (own_not k) (0 : Int32)))]))
      refine Goes.step (fun _ tk => XS.iload X17.here hx rfl (hb hby at_97) rfl tk) ?_
      show Goes _ _ _ _ _ (T17.setTop (mkF m 99 #[.val (.int x0), .val (.int x1), .val (.int k), .val (.int (1 : Int32)), .val (.ref (own_pick k w0 w1 w2 w3 w4 w5)), .val (.int (1 : Int32)), .val (.int (0 : Int32)), .val (.int (own_holds (own_not k) (1 : Int32))), .val (.int (own_holds (own_not k) (0 : Int32)))] [(.int (0 : Int32)), (.int (own_holds (own_not k) (0 : Int32)))]))
      have hc99_19 : (own_holds (own_not k) (0 : Int32)) = (0 : Int32) := by simp [own_holds, *]
      refine Goes.step (fun _ tk => XS.icmpNo X17.here hx rfl (hb hby at_99) rfl (teq hc99_19).2 tk) ?_
      show Goes _ _ _ _ _ (T17.setTop (mkF m 102 #[.val (.int x0), .val (.int x1), .val (.int k), .val (.int (1 : Int32)), .val (.ref (own_pick k w0 w1 w2 w3 w4 w5)), .val (.int (1 : Int32)), .val (.int (0 : Int32)), .val (.int (own_holds (own_not k) (1 : Int32))), .val (.int (own_holds (own_not k) (0 : Int32)))] []))
      refine Goes.step (fun _ tk => XS.iconst X17.here hx rfl (hb hby at_102) tk) ?_
      show Goes _ _ _ _ _ (T17.setTop (mkF m 103 #[.val (.int x0), .val (.int x1), .val (.int k), .val (.int (1 : Int32)), .val (.ref (own_pick k w0 w1 w2 w3 w4 w5)), .val (.int (1 : Int32)), .val (.int (0 : Int32)), .val (.int (own_holds (own_not k) (1 : Int32))), .val (.int (own_holds (own_not k) (0 : Int32)))] [(.int (1 : Int32))]))
      refine Goes.step (fun _ tk => XS.goto X17.here hx rfl (pc0 := 103) (pc' := 107) rfl (hb hby at_103) (by decide) (by decide) tk) ?_
      show Goes _ _ _ _ _ (T17.setTop (mkF m 107 #[.val (.int x0), .val (.int x1), .val (.int k), .val (.int (1 : Int32)), .val (.ref (own_pick k w0 w1 w2 w3 w4 w5)), .val (.int (1 : Int32)), .val (.int (0 : Int32)), .val (.int (own_holds (own_not k) (1 : Int32))), .val (.int (own_holds (own_not k) (0 : Int32)))] [(.int (1 : Int32))]))
      refine Goes.ret X17 (some (.int (1 : Int32))) (fun h => by rw [Bd.returns] at h; cases h) hlk (by decide) (by decide) ?_ (fun fs hr => ?_)
      · exact ⟨rfl, N17⟩
      · exact own_retN X17 hx (t := .boolean) Bd.returns (by simp) rfl (hb hby at_107) hr
    · refine Goes.step (fun _ tk => XS.ifNo X14.here hx rfl (hb hby at_30) rfl ((if0 _ _).trans (feq hc30_15).1) tk) ?_
      show Goes _ _ _ _ _ (T14.setTop (mkF m 33 #[.val (.int x0), .val (.int x1), .val (.int k), .val (.int (1 : Int32)), .val (.ref (own_pick k w0 w1 w2 w3 w4 w5)), .unset, .unset, .unset, .unset] []))
      refine Goes.step (fun _ tk => XS.iloadN X14.here hx rfl (hb hby at_33) rfl tk) ?_
      show Goes _ _ _ _ _ (T14.setTop (mkF m 34 #[.val (.int x0), .val (.int x1), .val (.int k), .val (.int (1 : Int32)), .val (.ref (own_pick k w0 w1 w2 w3 w4 w5)), .unset, .unset, .unset, .unset] [(.int (1 : Int32))]))
      refine Goes.step (fun _ tk => XS.ifYes X14.here hx rfl (pc0 := 34) (pc' := 41) rfl (hb hby at_34) rfl ((if0 _ _).trans (feq (by decide : ¬ ((1 : Int32) = (0 : Int32)))).2) (by decide) (by decide) tk) ?_
      show Goes _ _ _ _ _ (T14.setTop (mkF m 41 #[.val (.int x0), .val (.int x1), .val (.int k), .val (.int (1 : Int32)), .val (.ref (own_pick k w0 w1 w2 w3 w4 w5)), .unset, .unset, .unset, .unset] []))
      refine Goes.step (fun _ tk => XS.iconst X14.here hx rfl (hb hby at_41) tk) ?_
      show Goes _ _ _ _ _ (T14.setTop (mkF m 42 #[.val (.int x0), .val (.int x1), .val (.int k), .val (.int (1 : Int32)), .val (.ref (own_pick k w0 w1 w2 w3 w4 w5)), .unset, .unset, .unset, .unset] [(.int (0 : Int32))]))
      refine Goes.step (fun _ tk => XS.istore X14.here hx rfl (hb hby at_42) rfl (l' := #[.val (.int x0), .val (.int x1), .val (.int k), .val (.int (1 : Int32)), .val (.ref (own_pick k w0 w1 w2 w3 w4 w5)), .val (.int (0 : Int32)), .unset, .unset, .unset]) rfl tk) ?_
      show Goes _ _ _ _ _ (T14.setTop (mkF m 44 #[.val (.int x0), .val (.int x1), .val (.int k), .val (.int (1 : Int32)), .val (.ref (own_pick k w0 w1 w2 w3 w4 w5)), .val (.int (0 : Int32)), .unset, .unset, .unset] []))
      refine Goes.step (fun _ tk => XS.iloadN X14.here hx rfl (hb hby at_44) rfl tk) ?_
      show Goes _ _ _ _ _ (T14.setTop (mkF m 45 #[.val (.int x0), .val (.int x1), .val (.int k), .val (.int (1 : Int32)), .val (.ref (own_pick k w0 w1 w2 w3 w4 w5)), .val (.int (0 : Int32)), .unset, .unset, .unset] [(.int (1 : Int32))]))
      refine Goes.step (fun _ tk => XS.istore X14.here hx rfl (hb hby at_45) rfl (l' := #[.val (.int x0), .val (.int x1), .val (.int k), .val (.int (1 : Int32)), .val (.ref (own_pick k w0 w1 w2 w3 w4 w5)), .val (.int (0 : Int32)), .val (.int (1 : Int32)), .unset, .unset]) rfl tk) ?_
      show Goes _ _ _ _ _ (T14.setTop (mkF m 47 #[.val (.int x0), .val (.int x1), .val (.int k), .val (.int (1 : Int32)), .val (.ref (own_pick k w0 w1 w2 w3 w4 w5)), .val (.int (0 : Int32)), .val (.int (1 : Int32)), .unset, .unset] []))
      refine Goes.step (fun _ tk => XS.goto X14.here hx rfl (pc0 := 47) (pc' := 64) rfl (hb hby at_47) (by decide) (by decide) tk) ?_
      show Goes _ _ _ _ _ (T14.setTop (mkF m 64 #[.val (.int x0), .val (.int x1), .val (.int k), .val (.int (1 : Int32)), .val (.ref (own_pick k w0 w1 w2 w3 w4 w5)), .val (.int (0 : Int32)), .val (.int (1 : Int32)), .unset, .unset] []))
      refine Goes.step (fun _ tk => XS.aload X14.here hx rfl (hb hby at_64) rfl rfl tk) ?_
      show Goes _ _ _ _ _ (T14.setTop (mkF m 66 #[.val (.int x0), .val (.int x1), .val (.int k), .val (.int (1 : Int32)), .val (.ref (own_pick k w0 w1 w2 w3 w4 w5)), .val (.int (0 : Int32)), .val (.int (1 : Int32)), .unset, .unset] [(.ref (own_pick k w0 w1 w2 w3 w4 w5))]))
      refine Goes.step (fun _ tk => XS.iloadN X14.here hx rfl (hb hby at_66) rfl tk) ?_
      show Goes _ _ _ _ _ (T14.setTop (mkF m 67 #[.val (.int x0), .val (.int x1), .val (.int k), .val (.int (1 : Int32)), .val (.ref (own_pick k w0 w1 w2 w3 w4 w5)), .val (.int (0 : Int32)), .val (.int (1 : Int32)), .unset, .unset] [(.int (1 : Int32)), (.ref (own_pick k w0 w1 w2 w3 w4 w5))]))
      obtain ⟨cq20, kq20, q20a, q20b, q20c⟩ := isOf hZ e14 hE
      obtain ⟨_, _, ⟨T20, L20, k20, n20⟩, -, X20, ⟨Lc20, hQ20, l20, y20, z20⟩, st20⟩ := X14.virtualBack hx (y := (⟨"com/example/token_into_keys/tokenintokeys/policy/Operator", "holdsWhen", "(Z)Z"⟩ : MethodName)) (z := (⟨"com/example/token_into_keys/tokenintokeys/policy/Operator", "holdsWhen", "(Z)Z"⟩ : MethodName)) hown (mvT hZ (hw _ (List.mem_of_getElem? (i := 11) rfl))) (mvT hZ (hw _ (List.mem_of_getElem? (i := 12) rfl))) (notFace_of_selects (args := #[]) (mvT hZ (hw _ (List.mem_of_getElem? (i := 14) rfl)))) (mvT hZ (hw _ (List.mem_of_getElem? (i := 14) rfl))) (mvT hZ (hw _ (List.mem_of_getElem? (i := 13) rfl))) (by decide) (backOf (W := 0) (rm_holds l Z a0 hw [] (own_pick k w0 w1 w2 w3 w4 w5) (1 : Int32) (own_not k) h0 n0 Z0 hF (by rfl)) hZ (hw _ (List.mem_of_getElem? (i := 15) rfl)) (hw _ (List.mem_of_getElem? (i := 6) rfl)) (by decide) (by decide)) q20a q20c (g := (mkF m 67 #[.val (.int x0), .val (.int x1), .val (.int k), .val (.int (1 : Int32)), .val (.ref (own_pick k w0 w1 w2 w3 w4 w5)), .val (.int (0 : Int32)), .val (.int (1 : Int32)), .unset, .unset] [(.int (1 : Int32)), (.ref (own_pick k w0 w1 w2 w3 w4 w5))])) rfl (by rw [hml]; rfl) (Steps.refl _) (argsL := [(.int (1 : Int32))]) (rest := []) (lenOf own_pd2 rfl) rfl (by show 2 * 0 + _ ≤ _; exact Nat.le_of_eq rfl) (hb hby at_67) (fun _ _ => ⟨rfl, e14, (by decide : 0 + 0 ≤ _), (by decide : 0 + 0 ≤ _)⟩)
      dsimp only [Pt.U, Pt.locs, Pt.cells, Pt.slots] at X20 l20 y20 z20 st20 hQ20
      subst l20 y20 z20
      obtain ⟨rfl, N20q, e20⟩ := hQ20
      have N20 := Fr.app N14 N20q
      refine Goes.step (fun _ tk => st20.trans tk) ?_
      show Goes _ _ _ _ _ (T20.setTop (mkF m 70 #[.val (.int x0), .val (.int x1), .val (.int k), .val (.int (1 : Int32)), .val (.ref (own_pick k w0 w1 w2 w3 w4 w5)), .val (.int (0 : Int32)), .val (.int (1 : Int32)), .unset, .unset] [(.int (own_holds (own_not k) (1 : Int32)))]))
      refine Goes.step (fun _ tk => XS.istore X20.here hx rfl (hb hby at_70) rfl (l' := #[.val (.int x0), .val (.int x1), .val (.int k), .val (.int (1 : Int32)), .val (.ref (own_pick k w0 w1 w2 w3 w4 w5)), .val (.int (0 : Int32)), .val (.int (1 : Int32)), .val (.int (own_holds (own_not k) (1 : Int32))), .unset]) rfl tk) ?_
      show Goes _ _ _ _ _ (T20.setTop (mkF m 72 #[.val (.int x0), .val (.int x1), .val (.int k), .val (.int (1 : Int32)), .val (.ref (own_pick k w0 w1 w2 w3 w4 w5)), .val (.int (0 : Int32)), .val (.int (1 : Int32)), .val (.int (own_holds (own_not k) (1 : Int32))), .unset] []))
      refine Goes.step (fun _ tk => XS.aload X20.here hx rfl (hb hby at_72) rfl rfl tk) ?_
      show Goes _ _ _ _ _ (T20.setTop (mkF m 74 #[.val (.int x0), .val (.int x1), .val (.int k), .val (.int (1 : Int32)), .val (.ref (own_pick k w0 w1 w2 w3 w4 w5)), .val (.int (0 : Int32)), .val (.int (1 : Int32)), .val (.int (own_holds (own_not k) (1 : Int32))), .unset] [(.ref (own_pick k w0 w1 w2 w3 w4 w5))]))
      refine Goes.step (fun _ tk => XS.iloadN X20.here hx rfl (hb hby at_74) rfl tk) ?_
      show Goes _ _ _ _ _ (T20.setTop (mkF m 75 #[.val (.int x0), .val (.int x1), .val (.int k), .val (.int (1 : Int32)), .val (.ref (own_pick k w0 w1 w2 w3 w4 w5)), .val (.int (0 : Int32)), .val (.int (1 : Int32)), .val (.int (own_holds (own_not k) (1 : Int32))), .unset] [(.int (1 : Int32)), (.ref (own_pick k w0 w1 w2 w3 w4 w5))]))
      refine Goes.step (fun _ tk => XS.ifYes X20.here hx rfl (pc0 := 75) (pc' := 82) rfl (hb hby at_75) rfl ((if0 _ _).trans (feq (by decide : ¬ ((1 : Int32) = (0 : Int32)))).2) (by decide) (by decide) tk) ?_
      show Goes _ _ _ _ _ (T20.setTop (mkF m 82 #[.val (.int x0), .val (.int x1), .val (.int k), .val (.int (1 : Int32)), .val (.ref (own_pick k w0 w1 w2 w3 w4 w5)), .val (.int (0 : Int32)), .val (.int (1 : Int32)), .val (.int (own_holds (own_not k) (1 : Int32))), .unset] [(.ref (own_pick k w0 w1 w2 w3 w4 w5))]))
      refine Goes.step (fun _ tk => XS.iconst X20.here hx rfl (hb hby at_82) tk) ?_
      show Goes _ _ _ _ _ (T20.setTop (mkF m 83 #[.val (.int x0), .val (.int x1), .val (.int k), .val (.int (1 : Int32)), .val (.ref (own_pick k w0 w1 w2 w3 w4 w5)), .val (.int (0 : Int32)), .val (.int (1 : Int32)), .val (.int (own_holds (own_not k) (1 : Int32))), .unset] [(.int (0 : Int32)), (.ref (own_pick k w0 w1 w2 w3 w4 w5))]))
      obtain ⟨cq21, kq21, q21a, q21b, q21c⟩ := isOf hZ e20 hE
      obtain ⟨_, _, ⟨T21, L21, k21, n21⟩, -, X21, ⟨Lc21, hQ21, l21, y21, z21⟩, st21⟩ := X20.virtualBack hx (y := (⟨"com/example/token_into_keys/tokenintokeys/policy/Operator", "holdsWhen", "(Z)Z"⟩ : MethodName)) (z := (⟨"com/example/token_into_keys/tokenintokeys/policy/Operator", "holdsWhen", "(Z)Z"⟩ : MethodName)) hown (mvT hZ (hw _ (List.mem_of_getElem? (i := 11) rfl))) (mvT hZ (hw _ (List.mem_of_getElem? (i := 12) rfl))) (notFace_of_selects (args := #[]) (mvT hZ (hw _ (List.mem_of_getElem? (i := 14) rfl)))) (mvT hZ (hw _ (List.mem_of_getElem? (i := 14) rfl))) (mvT hZ (hw _ (List.mem_of_getElem? (i := 13) rfl))) (by decide) (backOf (W := 0) (rm_holds l Z a0 hw [] (own_pick k w0 w1 w2 w3 w4 w5) (0 : Int32) (own_not k) h0 n0 Z0 hF (by rfl)) hZ (hw _ (List.mem_of_getElem? (i := 15) rfl)) (hw _ (List.mem_of_getElem? (i := 6) rfl)) (by decide) (by decide)) q21a q21c (g := (mkF m 83 #[.val (.int x0), .val (.int x1), .val (.int k), .val (.int (1 : Int32)), .val (.ref (own_pick k w0 w1 w2 w3 w4 w5)), .val (.int (0 : Int32)), .val (.int (1 : Int32)), .val (.int (own_holds (own_not k) (1 : Int32))), .unset] [(.int (0 : Int32)), (.ref (own_pick k w0 w1 w2 w3 w4 w5))])) rfl (by rw [hml]; rfl) (Steps.refl _) (argsL := [(.int (0 : Int32))]) (rest := []) (lenOf own_pd2 rfl) rfl (by show 2 * 0 + _ ≤ _; exact Nat.le_of_eq rfl) (hb hby at_83) (fun _ _ => ⟨rfl, e20, (by decide : 0 + 0 ≤ _), (by decide : 0 + 0 ≤ _)⟩)
      dsimp only [Pt.U, Pt.locs, Pt.cells, Pt.slots] at X21 l21 y21 z21 st21 hQ21
      subst l21 y21 z21
      obtain ⟨rfl, N21q, e21⟩ := hQ21
      have N21 := Fr.app N20 N21q
      refine Goes.step (fun _ tk => st21.trans tk) ?_
      show Goes _ _ _ _ _ (T21.setTop (mkF m 86 #[.val (.int x0), .val (.int x1), .val (.int k), .val (.int (1 : Int32)), .val (.ref (own_pick k w0 w1 w2 w3 w4 w5)), .val (.int (0 : Int32)), .val (.int (1 : Int32)), .val (.int (own_holds (own_not k) (1 : Int32))), .unset] [(.int (own_holds (own_not k) (0 : Int32)))]))
      refine Goes.step (fun _ tk => XS.istore X21.here hx rfl (hb hby at_86) rfl (l' := #[.val (.int x0), .val (.int x1), .val (.int k), .val (.int (1 : Int32)), .val (.ref (own_pick k w0 w1 w2 w3 w4 w5)), .val (.int (0 : Int32)), .val (.int (1 : Int32)), .val (.int (own_holds (own_not k) (1 : Int32))), .val (.int (own_holds (own_not k) (0 : Int32)))]) rfl tk) ?_
      show Goes _ _ _ _ _ (T21.setTop (mkF m 88 #[.val (.int x0), .val (.int x1), .val (.int k), .val (.int (1 : Int32)), .val (.ref (own_pick k w0 w1 w2 w3 w4 w5)), .val (.int (0 : Int32)), .val (.int (1 : Int32)), .val (.int (own_holds (own_not k) (1 : Int32))), .val (.int (own_holds (own_not k) (0 : Int32)))] []))
      refine Goes.step (fun _ tk => XS.iload X21.here hx rfl (hb hby at_88) rfl tk) ?_
      show Goes _ _ _ _ _ (T21.setTop (mkF m 90 #[.val (.int x0), .val (.int x1), .val (.int k), .val (.int (1 : Int32)), .val (.ref (own_pick k w0 w1 w2 w3 w4 w5)), .val (.int (0 : Int32)), .val (.int (1 : Int32)), .val (.int (own_holds (own_not k) (1 : Int32))), .val (.int (own_holds (own_not k) (0 : Int32)))] [(.int (own_holds (own_not k) (1 : Int32)))]))
      refine Goes.step (fun _ tk => XS.iload X21.here hx rfl (hb hby at_90) rfl tk) ?_
      show Goes _ _ _ _ _ (T21.setTop (mkF m 92 #[.val (.int x0), .val (.int x1), .val (.int k), .val (.int (1 : Int32)), .val (.ref (own_pick k w0 w1 w2 w3 w4 w5)), .val (.int (0 : Int32)), .val (.int (1 : Int32)), .val (.int (own_holds (own_not k) (1 : Int32))), .val (.int (own_holds (own_not k) (0 : Int32)))] [(.int (0 : Int32)), (.int (own_holds (own_not k) (1 : Int32)))]))
      have hc92_22 : (own_holds (own_not k) (1 : Int32)) = (0 : Int32) := by simp [own_holds, *]
      refine Goes.step (fun _ tk => XS.icmpNo X21.here hx rfl (hb hby at_92) rfl (teq hc92_22).2 tk) ?_
      show Goes _ _ _ _ _ (T21.setTop (mkF m 95 #[.val (.int x0), .val (.int x1), .val (.int k), .val (.int (1 : Int32)), .val (.ref (own_pick k w0 w1 w2 w3 w4 w5)), .val (.int (0 : Int32)), .val (.int (1 : Int32)), .val (.int (own_holds (own_not k) (1 : Int32))), .val (.int (own_holds (own_not k) (0 : Int32)))] []))
      refine Goes.step (fun _ tk => XS.iload X21.here hx rfl (hb hby at_95) rfl tk) ?_
      show Goes _ _ _ _ _ (T21.setTop (mkF m 97 #[.val (.int x0), .val (.int x1), .val (.int k), .val (.int (1 : Int32)), .val (.ref (own_pick k w0 w1 w2 w3 w4 w5)), .val (.int (0 : Int32)), .val (.int (1 : Int32)), .val (.int (own_holds (own_not k) (1 : Int32))), .val (.int (own_holds (own_not k) (0 : Int32)))] [(.int (own_holds (own_not k) (0 : Int32)))]))
      refine Goes.step (fun _ tk => XS.iload X21.here hx rfl (hb hby at_97) rfl tk) ?_
      show Goes _ _ _ _ _ (T21.setTop (mkF m 99 #[.val (.int x0), .val (.int x1), .val (.int k), .val (.int (1 : Int32)), .val (.ref (own_pick k w0 w1 w2 w3 w4 w5)), .val (.int (0 : Int32)), .val (.int (1 : Int32)), .val (.int (own_holds (own_not k) (1 : Int32))), .val (.int (own_holds (own_not k) (0 : Int32)))] [(.int (1 : Int32)), (.int (own_holds (own_not k) (0 : Int32)))]))
      have hc99_23 : (own_holds (own_not k) (0 : Int32)) = (1 : Int32) := by simp [own_holds, *]
      refine Goes.step (fun _ tk => XS.icmpNo X21.here hx rfl (hb hby at_99) rfl (teq hc99_23).2 tk) ?_
      show Goes _ _ _ _ _ (T21.setTop (mkF m 102 #[.val (.int x0), .val (.int x1), .val (.int k), .val (.int (1 : Int32)), .val (.ref (own_pick k w0 w1 w2 w3 w4 w5)), .val (.int (0 : Int32)), .val (.int (1 : Int32)), .val (.int (own_holds (own_not k) (1 : Int32))), .val (.int (own_holds (own_not k) (0 : Int32)))] []))
      refine Goes.step (fun _ tk => XS.iconst X21.here hx rfl (hb hby at_102) tk) ?_
      show Goes _ _ _ _ _ (T21.setTop (mkF m 103 #[.val (.int x0), .val (.int x1), .val (.int k), .val (.int (1 : Int32)), .val (.ref (own_pick k w0 w1 w2 w3 w4 w5)), .val (.int (0 : Int32)), .val (.int (1 : Int32)), .val (.int (own_holds (own_not k) (1 : Int32))), .val (.int (own_holds (own_not k) (0 : Int32)))] [(.int (1 : Int32))]))
      refine Goes.step (fun _ tk => XS.goto X21.here hx rfl (pc0 := 103) (pc' := 107) rfl (hb hby at_103) (by decide) (by decide) tk) ?_
      show Goes _ _ _ _ _ (T21.setTop (mkF m 107 #[.val (.int x0), .val (.int x1), .val (.int k), .val (.int (1 : Int32)), .val (.ref (own_pick k w0 w1 w2 w3 w4 w5)), .val (.int (0 : Int32)), .val (.int (1 : Int32)), .val (.int (own_holds (own_not k) (1 : Int32))), .val (.int (own_holds (own_not k) (0 : Int32)))] [(.int (1 : Int32))]))
      refine Goes.ret X21 (some (.int (1 : Int32))) (fun h => by rw [Bd.returns] at h; cases h) hlk (by decide) (by decide) ?_ (fun fs hr => ?_)
      · exact ⟨rfl, N21⟩
      · exact own_retN X21 hx (t := .boolean) Bd.returns (by simp) rfl (hb hby at_107) hr
set_option maxRecDepth 65536 in
set_option maxHeartbeats 40000000 in
theorem comes_1 {Post : Tables → Env → Array Value → State → Outcome → State → Prop} (hpost : ∀ tb e args s v u, (limb_1_1.after args s (.returned v) u = true ∧ limb_1_2.after args s (.returned v) u = true ∧ True) → FrameEnd s (.returned v) u (Jvm.fieldLocs frame_1_writes args s ++ Jvm.arrayLocs frame_1_arrays args s ++ Jvm.staticLocs frame_1_statics s) 0 0 → Post tb e args s (.returned v) u) :
    ArmFor flags0 classFile x code maxLocals ret World_1 tables_1 room_1 Calls_1 rest_1 Pre_1 Post := by
  intro l hfl _ _ p e ha hc hk s m args below hf hA hF happ hP
  obtain ⟨hcalls, hrest, hpre⟩ := hP
  obtain ⟨-, -, -, hnamed, -, -, -, hat⟩ := (Spec.applies_iff hf).mp happ
  obtain ⟨hg, hn⟩ := and_e (Cond.before_iff.mp (show (Jvm.Cond.and given_1 narrow_1).before args s = true from hpre))
  obtain ⟨g0, hg0⟩ := and_e hg
  obtain ⟨ga0, hg0'⟩ := and_e hg0
  obtain ⟨w0, w1, rfl⟩ : ∃ w0 w1 : Value, args = #[w0, w1] := by
    have hs : args.size = 2 := by simpa [Cond.value, given_1] using g0
    obtain ⟨L⟩ := args
    match L, hs with
    | [w0, w1], _ => exact ⟨w0, w1, rfl⟩
  have hw := fun d (hd : d ∈ tables_1) => atoms_spec (ws := Jvm.Cond.code x code maxLocals ret :: tables_1) hat d (List.mem_cons_of_mem _ hd)
  have hfit : Fit s := fun {y c} hc i hi => by
    obtain ⟨ha, rfl⟩ := Array.getElem?_eq_some_iff.mp hc
    have q := List.all_eq_true.mp ((Array.all_eq_true_iff_forall_mem.mp hF) _ (Array.getElem_mem ha)) i (List.mem_range.mpr hi)
    simpa [Array.getElem?_eq_getElem hi] using q
  obtain ⟨i0, ei0⟩ := is_v ga0
  obtain rfl : w0 = (.int i0) := Option.some.inj ei0
  obtain ⟨i1, ei1⟩ := is_v hg0'
  obtain rfl : w1 = (.int i1) := Option.some.inj ei1
  obtain ⟨cx0, hn'⟩ := and_e hn
  obtain ⟨co0, hn''⟩ := and_e hn'
  obtain ⟨cx2, hn'''⟩ := and_e hn''
  obtain ⟨co2, hn''''⟩ := and_e hn'''
  obtain ⟨cx4, hn'''''⟩ := and_e hn''''
  obtain ⟨co4, hn''''''⟩ := and_e hn'''''
  obtain ⟨cx1, hn'''''''⟩ := and_e hn''''''
  obtain ⟨co1, hn''''''''⟩ := and_e hn'''''''
  obtain ⟨cx5, hn'''''''''⟩ := and_e hn''''''''
  obtain ⟨co5, hn''''''''''⟩ := and_e hn'''''''''
  obtain ⟨cx3, hn'''''''''''⟩ := and_e hn''''''''''
  have co3 := hn'''''''''''
  obtain ⟨w0, ev0⟩ := exa_v cx0
  have S0 := Sta.start ev0 (Or.inr ⟨(hw _ (List.mem_of_getElem? (i := 6) rfl)), (hw _ (List.mem_of_getElem? (i := 7) rfl))⟩)
  have A0 := Exa.start ev0 cx0
  have F0 := own_fld ev0 co0
  obtain ⟨w1, ev1⟩ := exa_v cx1
  have S1 := Sta.start ev1 (Or.inr ⟨(hw _ (List.mem_of_getElem? (i := 6) rfl)), (hw _ (List.mem_of_getElem? (i := 23) rfl))⟩)
  have A1 := Exa.start ev1 cx1
  have F1 := own_fld ev1 co1
  obtain ⟨w2, ev2⟩ := exa_v cx2
  have S2 := Sta.start ev2 (Or.inr ⟨(hw _ (List.mem_of_getElem? (i := 6) rfl)), (hw _ (List.mem_of_getElem? (i := 19) rfl))⟩)
  have A2 := Exa.start ev2 cx2
  have F2 := own_fld ev2 co2
  obtain ⟨w3, ev3⟩ := exa_v cx3
  have S3 := Sta.start ev3 (Or.inr ⟨(hw _ (List.mem_of_getElem? (i := 6) rfl)), (hw _ (List.mem_of_getElem? (i := 27) rfl))⟩)
  have A3 := Exa.start ev3 cx3
  have F3 := own_fld ev3 co3
  obtain ⟨w4, ev4⟩ := exa_v cx4
  have S4 := Sta.start ev4 (Or.inr ⟨(hw _ (List.mem_of_getElem? (i := 6) rfl)), (hw _ (List.mem_of_getElem? (i := 21) rfl))⟩)
  have A4 := Exa.start ev4 cx4
  have F4 := own_fld ev4 co4
  obtain ⟨w5, ev5⟩ := exa_v cx5
  have S5 := Sta.start ev5 (Or.inr ⟨(hw _ (List.mem_of_getElem? (i := 6) rfl)), (hw _ (List.mem_of_getElem? (i := 25) rfl))⟩)
  have A5 := Exa.start ev5 cx5
  have F5 := own_fld ev5 co5
  obtain ⟨n, o, h1, h2, h3, _, L, rfl, ⟨rfl, N⟩, hq⟩ := rm_law l s _ hw tables_1 i0 i1 w0 w1 w2 w3 w4 w5 s.heap s.heap.size (Nat.le_refl _) S0 S1 S2 S3 S4 S5 A0 A1 A2 A3 A4 A5 F0 F1 F2 F3 F4 F5 p e ha hc hk s m _ below hf ((Spec.applies_iff_loose hf).mp happ).1 ⟨rfl, State.Warmed39.refl s, rfl⟩ trivial
  refine ⟨n, _, h1, h2, h3, hpost _ _ _ _ _ _ ⟨Cond.after_iff.mpr rfl, Cond.after_iff.mpr (eq_i res_at (Term.int_eval (1)) rfl), trivial⟩ ⟨hq.1, hq.2.1, (hq.2.2.sift fun y hy => Or.inr (N y hy)).mono (by decide) (by decide)⟩⟩
theorem main_1_1 : Claimed_1_1 := comes_1 fun _ _ _ _ _ _ h hF => ⟨h.1, hF⟩
theorem main_1_2 : Claimed_1_2 := comes_1 fun _ _ _ _ _ _ h hF => ⟨h.2.1, hF⟩
end Jvm.Pilot.@@N@@
namespace Jvm.Pilot.@@N@@
open Jvm Jvm.ClassFile Sem Op Lib Jvm.Free Jvm.Stand Jvm.Pilot.@@N@@.Jvm.D
/-! MADE BY PROGRAM (witnessworld.py) out of the Statement's table words and the real class files: 12 classes; the members and pool entries that the words name. The judged class is class 1, her method 3. -/
namespace start1
open Jvm.ClassFile
def u (s : String) : CpInfo := .utf8 (stringToUtf16 s)
/-- a pool by its gaps: so many unusable entries, then the entry; so many at the end -/
def gap : Nat → List CpInfo → List CpInfo
  | 0, r => r
  | n + 1, r => .unusable :: gap n r
def poolList (es : List (Nat × CpInfo)) (last : Nat) : List CpInfo := es.foldr (fun e r => gap e.1 (e.2 :: r)) (gap last [])
def pool (es : List (Nat × CpInfo)) (last : Nat) : Array CpInfo := ⟨poolList es last⟩
def fileOf (pool : Array CpInfo) (this : Nat) (attrs : Array Attribute := #[]) (ms : Array MethodInfo := #[]) (fl : Nat := 33) (sup : Nat := 0) (ifs : Array Nat := #[]) (fds : Array FieldInfo := #[]) : ClassFile where
  minorVersion := 0
  majorVersion := 65
  constantPool := pool
  accessFlags := fl
  thisClass := this
  superClass := sup
  interfaces := ifs
  fields := fds
  methods := ms
  attributes := attrs
def plain (name : String) (sup : Option ClassId) : Class where
  name := name
  kind := .ordinary
  loader := none
  accessFlags := 33
  super := sup
  interfaces := #[]
  cf := none
  fields := #[]
  methods := #[]
  instanceTypes := #[]
  staticTypes := #[]
  resolved := #[]
  callSites := []
  init := .initialized
  statics := none
  mirror := none

def pool0 : Array CpInfo := pool [(5, u "<init>"), (0, u "()V"), (1, .class_ 10), (1, u "java/lang/Object")] 113

def k0m0 : Method := { name := "<init>", desc := "()V", sig := { parameters := [], returnType := none }, accessFlags := 1, code := none }
/-- java/lang/Object -/
def k0 : Class := { plain "java/lang/Object" none with
  accessFlags := 33
  interfaces := #[]
  cf := some (fileOf pool0 8 #[] #[{ accessFlags := 1, nameIndex := 5, descriptorIndex := 6, attributes := #[] }] 33 0 #[] #[])
  fields := #[]
  methods := #[k0m0]
  instanceTypes := #[]
  staticTypes := #[]
  resolved := Array.replicate 124 none
  statics := none }

def pool1 : Array CpInfo := pool [(2, .class_ 4), (1, u "java/lang/Object"), (0, u "<init>"), (0, u "()V"), (0, .fieldref 8 9), (0, .class_ 10), (0, .nameAndType 11 12), (0, u "com/example/token_into_keys/tokenintokeys/policy/Operator"), (0, u "STRING_EQUALS"), (0, u "Lcom/example/token_into_keys/tokenintokeys/policy/Operator;"), (0, .fieldref 8 14), (0, .nameAndType 15 12), (0, u "STRING_NOT_EQUALS"), (0, .fieldref 8 17), (0, .nameAndType 18 12), (0, u "STRING_EQUALS_IGNORE_CASE"), (0, .fieldref 8 20), (0, .nameAndType 21 12), (0, u "STRING_NOT_EQUALS_IGNORE_CASE"), (0, .fieldref 8 23), (0, .nameAndType 24 12), (0, u "STRING_LIKE"), (0, .fieldref 8 26), (0, .nameAndType 27 12), (0, u "STRING_NOT_LIKE"), (0, .integer 2147483647), (0, .methodref 30 31), (0, .class_ 32), (0, .nameAndType 33 34), (0, u "com/example/token_into_keys/tokenintokeys/policy/OperatorHoldsWhenPinLaw"), (0, u "pick"), (0, u "(I)Lcom/example/token_into_keys/tokenintokeys/policy/Operator;"), (0, .methodref 30 36), (0, .nameAndType 37 38), (0, u "isNot"), (0, u "(I)Z"), (0, .methodref 8 40), (0, .nameAndType 41 42), (0, u "holdsWhen"), (0, u "(Z)Z"), (3, u "law"), (0, u "(II)Z")] 2

def k1m0 : Method := { name := "<init>", desc := "()V", sig := { parameters := [], returnType := none }, accessFlags := 2, code := none }
def k1c1 : Code := { maxStack := 2, maxLocals := 1, code := method_2_code, exceptionTable := #[], attributes := #[] }
def k1m1 : Method := { name := "pick", desc := "(I)Lcom/example/token_into_keys/tokenintokeys/policy/Operator;", sig := { parameters := [.int], returnType := some (.object "com/example/token_into_keys/tokenintokeys/policy/Operator") }, accessFlags := 10, code := some k1c1 }
def k1c2 : Code := { maxStack := 2, maxLocals := 1, code := method_3_code, exceptionTable := #[], attributes := #[] }
def k1m2 : Method := { name := "isNot", desc := "(I)Z", sig := { parameters := [.int], returnType := some .boolean }, accessFlags := 10, code := some k1c2 }
def k1c3 : Code := { maxStack := 2, maxLocals := 9, code := code, exceptionTable := #[], attributes := #[] }
def k1m3 : Method := { name := "law", desc := "(II)Z", sig := { parameters := [.int, .int], returnType := some .boolean }, accessFlags := 9, code := some k1c3 }
/-- com/example/token_into_keys/tokenintokeys/policy/OperatorHoldsWhenPinLaw -/
def k1 : Class := { plain "com/example/token_into_keys/tokenintokeys/policy/OperatorHoldsWhenPinLaw" (some 0) with
  accessFlags := 49
  interfaces := #[]
  cf := some (fileOf pool1 30 #[] #[{ accessFlags := 2, nameIndex := 5, descriptorIndex := 6, attributes := #[] }, { accessFlags := 10, nameIndex := 33, descriptorIndex := 34, attributes := #[] }, { accessFlags := 10, nameIndex := 37, descriptorIndex := 38, attributes := #[] }, { accessFlags := 9, nameIndex := 46, descriptorIndex := 47, attributes := #[] }] 49 2 #[] #[])
  fields := #[]
  methods := #[k1m0, k1m1, k1m2, k1m3]
  instanceTypes := #[]
  staticTypes := #[]
  resolved := Array.replicate 50 none
  statics := none }

def pool2 : Array CpInfo := pool [(1, .class_ 2), (0, u "java/lang/constant/Constable"), (0, .class_ 4), (0, u "java/lang/Object")] 6

/-- java/lang/constant/Constable -/
def k2 : Class := { plain "java/lang/constant/Constable" (some 0) with
  accessFlags := 1537
  interfaces := #[]
  cf := some (fileOf pool2 1 #[] #[] 1537 3 #[] #[])
  fields := #[]
  methods := #[]
  instanceTypes := #[]
  staticTypes := #[]
  resolved := Array.replicate 11 none
  statics := none }

def pool3 : Array CpInfo := pool [(1, .class_ 2), (0, u "java/lang/Comparable"), (0, .class_ 4), (0, u "java/lang/Object")] 7

/-- java/lang/Comparable -/
def k3 : Class := { plain "java/lang/Comparable" (some 0) with
  accessFlags := 1537
  interfaces := #[]
  cf := some (fileOf pool3 1 #[] #[] 1537 3 #[] #[])
  fields := #[]
  methods := #[]
  instanceTypes := #[]
  staticTypes := #[]
  resolved := Array.replicate 12 none
  statics := none }

def pool4 : Array CpInfo := pool [(1, .class_ 2), (0, u "java/io/Serializable"), (0, .class_ 4), (0, u "java/lang/Object")] 2

/-- java/io/Serializable -/
def k4 : Class := { plain "java/io/Serializable" (some 0) with
  accessFlags := 1537
  interfaces := #[]
  cf := some (fileOf pool4 1 #[] #[] 1537 3 #[] #[])
  fields := #[]
  methods := #[]
  instanceTypes := #[]
  staticTypes := #[]
  resolved := Array.replicate 7 none
  statics := none }

def pool5 : Array CpInfo := pool [(2, .class_ 4), (1, u "java/lang/Enum"), (0, u "name"), (0, u "Ljava/lang/String;"), (2, u "ordinal"), (0, u "I"), (1, .class_ 14), (1, u "java/lang/Object"), (4, u "hash"), (86, .class_ 108), (1, u "java/lang/Enum$EnumDesc"), (2, .class_ 112), (0, u "java/lang/constant/Constable"), (0, .class_ 114), (0, u "java/lang/Comparable"), (0, .class_ 116), (0, u "java/io/Serializable")] 87

/-- java/lang/Enum -/
def k5 : Class := { plain "java/lang/Enum" (some 0) with
  accessFlags := 1057
  interfaces := #[2, 3, 4]
  cf := some (fileOf pool5 2 #[.nestMembers #[106]] #[] 1057 12 #[111, 113, 115] #[{ accessFlags := 18, nameIndex := 5, descriptorIndex := 6, attributes := #[] }, { accessFlags := 18, nameIndex := 9, descriptorIndex := 10, attributes := #[] }, { accessFlags := 2, nameIndex := 19, descriptorIndex := 10, attributes := #[] }])
  fields := #[{ name := "name", type := (.object "java/lang/String"), accessFlags := 18, slot := 0, constantValue := 0 }, { name := "ordinal", type := .int, accessFlags := 18, slot := 1, constantValue := 0 }, { name := "hash", type := .int, accessFlags := 2, slot := 2, constantValue := 0 }]
  methods := #[]
  instanceTypes := #[(.object "java/lang/String"), .int, .int]
  staticTypes := #[]
  resolved := Array.replicate 204 none
  statics := none }

def pool6 : Array CpInfo := pool [(1, .class_ 2), (0, u "com/example/token_into_keys/tokenintokeys/policy/Operator"), (2, u "STRING_EQUALS"), (0, u "Lcom/example/token_into_keys/tokenintokeys/policy/Operator;"), (2, u "STRING_NOT_EQUALS"), (2, u "STRING_EQUALS_IGNORE_CASE"), (2, u "STRING_NOT_EQUALS_IGNORE_CASE"), (2, u "STRING_LIKE"), (2, u "STRING_NOT_LIKE"), (2, u "$VALUES"), (0, u "[Lcom/example/token_into_keys/tokenintokeys/policy/Operator;"), (6, .class_ 34), (1, u "java/lang/Enum"), (8, u "policyName"), (0, u "Ljava/lang/String;"), (0, .fieldref 1 46), (0, .nameAndType 47 48), (0, u "negated"), (0, u "Z"), (2, u "comparison"), (0, u "Lcom/example/token_into_keys/tokenintokeys/policy/Comparison;"), (76, u "holdsWhen"), (0, u "(Z)Z")] 7

def k6c0 : Code := { maxStack := 1, maxLocals := 2, code := prog_10_method_6_code, exceptionTable := #[], attributes := #[] }
def k6m0 : Method := { name := "holdsWhen", desc := "(Z)Z", sig := { parameters := [.boolean], returnType := some .boolean }, accessFlags := 0, code := some k6c0 }
/-- com/example/token_into_keys/tokenintokeys/policy/Operator -/
def k6 : Class := { plain "com/example/token_into_keys/tokenintokeys/policy/Operator" (some 5) with
  accessFlags := 16432
  interfaces := #[]
  cf := some (fileOf pool6 1 #[] #[{ accessFlags := 0, nameIndex := 129, descriptorIndex := 130, attributes := #[] }] 16432 32 #[] #[{ accessFlags := 16409, nameIndex := 5, descriptorIndex := 6, attributes := #[] }, { accessFlags := 16409, nameIndex := 9, descriptorIndex := 6, attributes := #[] }, { accessFlags := 16409, nameIndex := 12, descriptorIndex := 6, attributes := #[] }, { accessFlags := 16409, nameIndex := 15, descriptorIndex := 6, attributes := #[] }, { accessFlags := 16409, nameIndex := 18, descriptorIndex := 6, attributes := #[] }, { accessFlags := 16409, nameIndex := 21, descriptorIndex := 6, attributes := #[] }, { accessFlags := 18, nameIndex := 43, descriptorIndex := 44, attributes := #[] }, { accessFlags := 18, nameIndex := 47, descriptorIndex := 48, attributes := #[] }, { accessFlags := 18, nameIndex := 51, descriptorIndex := 52, attributes := #[] }, { accessFlags := 4122, nameIndex := 24, descriptorIndex := 25, attributes := #[] }])
  fields := #[{ name := "STRING_EQUALS", type := (.object "com/example/token_into_keys/tokenintokeys/policy/Operator"), accessFlags := 16409, slot := 0, constantValue := 0 }, { name := "STRING_NOT_EQUALS", type := (.object "com/example/token_into_keys/tokenintokeys/policy/Operator"), accessFlags := 16409, slot := 1, constantValue := 0 }, { name := "STRING_EQUALS_IGNORE_CASE", type := (.object "com/example/token_into_keys/tokenintokeys/policy/Operator"), accessFlags := 16409, slot := 2, constantValue := 0 }, { name := "STRING_NOT_EQUALS_IGNORE_CASE", type := (.object "com/example/token_into_keys/tokenintokeys/policy/Operator"), accessFlags := 16409, slot := 3, constantValue := 0 }, { name := "STRING_LIKE", type := (.object "com/example/token_into_keys/tokenintokeys/policy/Operator"), accessFlags := 16409, slot := 4, constantValue := 0 }, { name := "STRING_NOT_LIKE", type := (.object "com/example/token_into_keys/tokenintokeys/policy/Operator"), accessFlags := 16409, slot := 5, constantValue := 0 }, { name := "policyName", type := (.object "java/lang/String"), accessFlags := 18, slot := 3, constantValue := 0 }, { name := "negated", type := .boolean, accessFlags := 18, slot := 4, constantValue := 0 }, { name := "comparison", type := (.object "com/example/token_into_keys/tokenintokeys/policy/Comparison"), accessFlags := 18, slot := 5, constantValue := 0 }, { name := "$VALUES", type := (.array (.object "com/example/token_into_keys/tokenintokeys/policy/Operator")), accessFlags := 4122, slot := 6, constantValue := 0 }]
  methods := #[k6m0]
  instanceTypes := #[(.object "java/lang/String"), .int, .int, (.object "java/lang/String"), .boolean, (.object "com/example/token_into_keys/tokenintokeys/policy/Comparison")]
  staticTypes := #[(.object "com/example/token_into_keys/tokenintokeys/policy/Operator"), (.object "com/example/token_into_keys/tokenintokeys/policy/Operator"), (.object "com/example/token_into_keys/tokenintokeys/policy/Operator"), (.object "com/example/token_into_keys/tokenintokeys/policy/Operator"), (.object "com/example/token_into_keys/tokenintokeys/policy/Operator"), (.object "com/example/token_into_keys/tokenintokeys/policy/Operator"), (.array (.object "com/example/token_into_keys/tokenintokeys/policy/Operator"))]
  resolved := Array.replicate 138 none
  statics := some 0 }

def pool7 : Array CpInfo := pool [(1, u "java/lang/Cloneable"), (0, .class_ 1), (0, u "java/lang/Object"), (0, .class_ 3)] 3

/-- java/lang/Cloneable -/
def k7 : Class := { plain "java/lang/Cloneable" (some 0) with
  accessFlags := 1537
  interfaces := #[]
  cf := some (fileOf pool7 2 #[] #[] 1537 4 #[] #[])
  fields := #[]
  methods := #[]
  instanceTypes := #[]
  staticTypes := #[]
  resolved := Array.replicate 8 none
  statics := none }

/-- the primitive byte -/
def k8 : Class := { plain "byte" none with kind := .primitive 'B', accessFlags := 0x411 }
/-- [B -/
def k9 : Class := { plain "[B" (some 0) with kind := .array 8 .byte, interfaces := #[7, 4], accessFlags := 1041 }

/-- the primitive int -/
def k10 : Class := { plain "int" none with kind := .primitive 'I', accessFlags := 0x411 }
/-- [I -/
def k11 : Class := { plain "[I" (some 0) with kind := .array 10 .int, interfaces := #[7, 4], accessFlags := 1041 }

def heap : Heap := #[{ cls := 6, slots := #[.ref 1, .ref 2, .ref 3, .ref 4, .ref 5, .ref 6, .null], vm := .statics 6 },
  { cls := 6, slots := #[.null, .int 0, .int 0, .null, .int 0, .null], vm := .none },
  { cls := 6, slots := #[.null, .int 1, .int 0, .null, .int 1, .null], vm := .none },
  { cls := 6, slots := #[.null, .int 2, .int 0, .null, .int 0, .null], vm := .none },
  { cls := 6, slots := #[.null, .int 3, .int 0, .null, .int 1, .null], vm := .none },
  { cls := 6, slots := #[.null, .int 4, .int 0, .null, .int 0, .null], vm := .none },
  { cls := 6, slots := #[.null, .int 5, .int 0, .null, .int 1, .null], vm := .none }]
def classes : Array Class := #[k0, k1, k2, k3, k4, k5, k6, k7, k8, k9, k10, k11]
def interned : List (Array UInt16 × Addr) := []
def slotsUsed : Nat := 43
def theMethod : MethodId := ⟨1, 3⟩
def args0 : Array Value := #[.int 5, .int 7]
def aboutOver (below : List Frame) : State where
  vm := { classes := classes, interned := interned.toArray }
  heap := heap
  slotsUsed := slotsUsed
  threads := #[{ frames := .invoking theMethod args0 :: below }]
def below0 : List Frame := [.native { method := ⟨0, 0⟩, args := #[] }]
def about1 : State := aboutOver below0
def p0 : Program := .bare "" "" ""
def e0 : Env := launch0.env 0 0 0
theorem w_frames : about1.frames = Frame.invoking theMethod args0 :: below0 := rfl
set_option maxRecDepth 65536 in
theorem w_args : argsFit about1.vm theMethod args0 = true := by decide +kernel
set_option maxRecDepth 65536 in
theorem w_heap : heapFits about1 = true := by decide +kernel
set_option maxRecDepth 65536 in
theorem w_runnable : about1.curStatus? = some .runnable := by decide +kernel
set_option maxRecDepth 65536 in
theorem w_alone : about1.alone = true := by decide +kernel
set_option maxRecDepth 65536 in
theorem w_named : about1.methodNamed? x = some theMethod := by decide +kernel
set_option maxRecDepth 65536 in
theorem w_hears : about1.hears theMethod below0 = true := by decide +kernel
set_option maxRecDepth 65536 in
theorem w_ripe : about1.ripe theMethod args0 below0 = true := by decide +kernel
theorem w_running : about1.status = .running := rfl
set_option maxRecDepth 65536 in
theorem w_room : about1.hasRoom e0.platform room_1 = true :=
  launch0.hasRoom_least _ room_1 (by decide +kernel) (by decide +kernel) (by decide +kernel) (by decide +kernel) (by decide +kernel) (by decide +kernel)
theorem allAtoms_all (ts : List Jvm.Cond) (a : Array Jvm.Value) (st : Jvm.State) : (allAtoms ts).before a st = ts.all (fun c => c.before a st) := by
  induction ts with
  | nil => rfl
  | cons c t ih =>
    show (Jvm.Cond.and c (allAtoms t)).before a st = _
    rw [Jvm.Cond.before_and, ih, List.all_cons]
def words1 : List Jvm.Cond := Jvm.Cond.code x code maxLocals ret :: tables_1
/-- a 'code' word, met by the world's own term for the bytes: nothing is compared byte by byte -/
theorem code_word {y : MethodName} {bytes : ByteArray} {mx : Nat} {rt : Option FieldType} {a : Array Value} {s : State} {m : MethodId} {meth : Method} {c : Code} (h1 : s.methodNamed? y = some m) (h2 : s.vm.method? m = some meth) (h3 : meth.code = some c) (h4 : c.code = bytes)
    (h5 : (c.maxLocals == mx && c.exceptionTable.isEmpty && decide (c.maxStack ≤ mostOperands) && decide (meth.sig.returnType = rt) && !meth.locks && decide (parseMethodDescriptor y.desc = some meth.sig)) = true) : (Jvm.Cond.code y bytes mx rt).before a s = true := by
  simp only [Bool.and_eq_true, beq_iff_eq, Bool.not_eq_true', decide_eq_true_eq] at h5
  obtain ⟨⟨⟨⟨⟨g1, g2⟩, g3⟩, g4⟩, g5⟩, g6⟩ := h5
  simp [Cond.before, Cond.holds, Cond.value, h1, h2, h3, h4, g1, g2, g3, g4, g5, g6]
def isCode : Jvm.Cond → Bool
  | .code _ _ _ _ => true
  | _ => false
theorem all_split {L : List Jvm.Cond} {P : Jvm.Cond → Bool} (h1 : L.all (fun c => isCode c || P c) = true) (h2 : ∀ c ∈ L.filter isCode, P c = true) : L.all P = true := by
  refine List.all_eq_true.mpr fun c hc => ?_
  have h := List.all_eq_true.mp h1 c hc
  rcases Bool.eq_false_or_eq_true (isCode c) with hi | hi
  · exact h2 c (List.mem_filter.mpr ⟨hc, hi⟩)
  · simpa [hi] using h
set_option maxRecDepth 65536 in
theorem w_c0 : (Jvm.Cond.code x code maxLocals ret).before args0 about1 = true := code_word (m := ⟨1, 3⟩) (meth := k1m3) (c := k1c3) (by decide +kernel) rfl rfl rfl (by decide +kernel)
set_option maxRecDepth 65536 in
theorem w_c1 : (Jvm.Cond.code ({ cls := "com/example/token_into_keys/tokenintokeys/policy/OperatorHoldsWhenPinLaw", name := "pick", desc := "(I)Lcom/example/token_into_keys/tokenintokeys/policy/Operator;" } : Jvm.MethodName) method_2_code (1 : Nat) (Option.some (Jvm.ClassFile.FieldType.object "com/example/token_into_keys/tokenintokeys/policy/Operator"))).before args0 about1 = true := code_word (m := ⟨1, 1⟩) (meth := k1m1) (c := k1c1) (by decide +kernel) rfl rfl rfl (by decide +kernel)
set_option maxRecDepth 65536 in
theorem w_c2 : (Jvm.Cond.code ({ cls := "com/example/token_into_keys/tokenintokeys/policy/OperatorHoldsWhenPinLaw", name := "isNot", desc := "(I)Z" } : Jvm.MethodName) method_3_code (1 : Nat) (Option.some Jvm.ClassFile.FieldType.boolean)).before args0 about1 = true := code_word (m := ⟨1, 2⟩) (meth := k1m2) (c := k1c2) (by decide +kernel) rfl rfl rfl (by decide +kernel)
set_option maxRecDepth 65536 in
theorem w_c3 : (Jvm.Cond.code ({ cls := "com/example/token_into_keys/tokenintokeys/policy/Operator", name := "holdsWhen", desc := "(Z)Z" } : Jvm.MethodName) prog_10_method_6_code (2 : Nat) (Option.some Jvm.ClassFile.FieldType.boolean)).before args0 about1 = true := code_word (m := ⟨6, 0⟩) (meth := k6m0) (c := k6c0) (by decide +kernel) rfl rfl rfl (by decide +kernel)
def codes1 : List Jvm.Cond := [Jvm.Cond.code x code maxLocals ret, Jvm.Cond.code ({ cls := "com/example/token_into_keys/tokenintokeys/policy/OperatorHoldsWhenPinLaw", name := "pick", desc := "(I)Lcom/example/token_into_keys/tokenintokeys/policy/Operator;" } : Jvm.MethodName) method_2_code (1 : Nat) (Option.some (Jvm.ClassFile.FieldType.object "com/example/token_into_keys/tokenintokeys/policy/Operator")), Jvm.Cond.code ({ cls := "com/example/token_into_keys/tokenintokeys/policy/OperatorHoldsWhenPinLaw", name := "isNot", desc := "(I)Z" } : Jvm.MethodName) method_3_code (1 : Nat) (Option.some Jvm.ClassFile.FieldType.boolean), Jvm.Cond.code ({ cls := "com/example/token_into_keys/tokenintokeys/policy/Operator", name := "holdsWhen", desc := "(Z)Z" } : Jvm.MethodName) prog_10_method_6_code (2 : Nat) (Option.some Jvm.ClassFile.FieldType.boolean)]
set_option maxRecDepth 65536 in
theorem codes_eq : words1.filter isCode = codes1 := rfl
theorem w_codes : ∀ c ∈ words1.filter isCode, c.before args0 about1 = true := by
  rw [codes_eq]
  intro c hc
  simp only [codes1, List.mem_cons, List.not_mem_nil, or_false] at hc
  rcases hc with rfl | rfl | rfl | rfl
  · exact w_c0
  · exact w_c1
  · exact w_c2
  · exact w_c3
set_option maxRecDepth 65536 in
theorem w_t1 : (words1.take 24).all (fun c => isCode c || c.before args0 about1) = true := by decide +kernel
set_option maxRecDepth 65536 in
theorem w_t2 : (words1.drop 24).all (fun c => isCode c || c.before args0 about1) = true := by decide +kernel
theorem w_tables : (allAtoms (Jvm.Cond.code x code maxLocals ret :: tables_1)).before args0 about1 = true := by
  rw [allAtoms_all]
  show words1.all (fun c => c.before args0 about1) = true
  refine all_split ?_ w_codes
  rw [← List.take_append_drop 24 words1, List.all_append, w_t1, w_t2]
  rfl
set_option maxRecDepth 65536 in
theorem w_case : (Jvm.Cond.and given_1 narrow_1).before args0 about1 = true := by decide +kernel
theorem w_applies : (headSpec (Jvm.Cond.code x code maxLocals ret :: tables_1) room_1).applies x e0.platform about1 = true :=
  (Spec.applies_iff w_frames).mpr ⟨w_running, w_runnable, w_alone, w_named, w_hears, w_ripe, w_room, w_tables⟩
theorem atStart : AtStart classFile x code maxLocals ret World_1 tables_1 room_1 Calls_1 rest_1 Pre_1 launch0 p0 e0 about1 theMethod args0 below0 :=
  ⟨lists_1, trivial, launch0.admits_env _ _ _, launch0.least_env, fairChoices_fair.cas, fairChoices_fair.clock, w_frames, w_args, w_heap, w_applies, trivial, trivial, w_case⟩
end start1
theorem witness_1 : WitnessClaimed_1 := ⟨start1.p0, start1.e0, start1.about1, start1.theMethod, start1.args0, start1.below0, start1.atStart⟩
end Jvm.Pilot.@@N@@
