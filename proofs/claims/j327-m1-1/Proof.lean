import JvmDerived
import JvmDerived.Pilot.@@N@@Statement
import JvmDerived.Pilot.@@N@@Code
set_option linter.unusedVariables false
set_option linter.unusedSimpArgs false
namespace Jvm.Pilot.@@N@@
open Jvm Jvm.ClassFile Sem Op Lib Jvm.Free Jvm.Stand Jvm.LawKit Jvm.RoadKit Bundle Jvm.Pilot.@@N@@.Jvm.D
/-- from A the run comes to its end, as the contract wants it -/
def Goes (p : Program) (e : Env) (below : List Frame) (En : Outcome → State → List Loc → Prop) (Q : Option Value → Heap → List Loc → Prop) (A : State) : Prop :=
  ∃ s₂ o, Steps p.tables e below A s₂ ∧ s₂.status = .running ∧ Ended s₂ below o ∧ ∃ v L, o = .returned v ∧ Q v s₂.heap L ∧ En o s₂ L
abbrev Met (l : Launch) (Z : State) (y : MethodName) (bytes : ByteArray) (maxL : Nat) (ret : Option FieldType) (rm : Room) (ws : List Jvm.Cond) (as : Array Value) (h0 : Heap) (Q : Option Value → Heap → List Loc → Prop) : Prop :=
  MetFree l y (head1 (Jvm.Cond.code y bytes maxL ret :: ws) rm) (fun aa U => aa = as ∧ Z.Warmed39 U.vm ∧ U.heap = h0) (fun _ _ _ _ _ => True) (fun _ U o U' => ∃ v L, o = .returned v ∧ Q v U'.heap L ∧ FrameEnd U o U' L rm.cells rm.slots)
abbrev MetW (l : Launch) (Z : State) (y : MethodName) (bytes : ByteArray) (maxL : Nat) (ret : Option FieldType) (rm : Room) (ws : List Jvm.Cond) (as : Array Value) (h0 : Heap) (Q : Option Value → Heap → List Loc → Prop) : Prop :=
  MetFree l y (head1 (Jvm.Cond.code y bytes maxL ret :: ws) rm) (fun aa U => aa = as ∧ Z.Warmed39 U.vm ∧ U.heap = h0) (fun _ _ _ _ _ => True) (fun _ U o U' => ∃ v L, o = .returned v ∧ Q v U'.heap L ∧ ReturnedEndW U o U' L rm.cells rm.slots)
section OwnSteps
variable {p : Program} {l : Launch} {e : Env} {R : Room} {s : State} {m : MethodId} {args : Array Value} {below : List Frame} {meth : Method} {c : Code} {T : State} {locs : List Loc} {cells slots : Nat}
theorem Goes.step {En : Outcome → State → List Loc → Prop} {Q : Option Value → Heap → List Loc → Prop} {A B : State} (st : ∀ t, Steps p.tables e below A t → Steps p.tables e below B t) (h : Goes p e below En Q A) : Goes p e below En Q B :=
  let ⟨s₂, o, h1, r⟩ := h; ⟨s₂, o, st _ h1, r⟩
theorem Goes.ret (X : Stand p l e R s m args below meth c T locs cells slots) {rc rs : Nat} {Q : Option Value → Heap → List Loc → Prop} {B : State} (v : Option Value) (hv : meth.sig.returnType = none → v = none) (hlk : meth.locks = false) (hc : cells ≤ rc) (hs : slots ≤ rs) (q : Q v T.heap locs)
    (k : ∀ fs, (∀ (f : JFrame) (acts : List Action), f.method = m → f.locked = none → f.entered = [] → (doReturn e (T.setTop f) acts v).1 = T.setFrames fs) → Steps p.tables e below B (T.setFrames fs)) : Goes p e below (fun o u L => FrameEnd s o u L rc rs) Q B := by
  obtain ⟨fs, hr, hrun, hended, hW, hsame⟩ := X.leave (v := v) hv hlk
  exact ⟨_, _, k fs hr, hrun, hended, _, _, rfl, q, ⟨_, rfl⟩, hW, hsame.mono hc hs⟩
theorem Goes.retW {vm₁ : Vm} (X : Stand p l e R (s.setVm vm₁) m args below meth c T locs cells slots) {n : Nat} (hS : s.Since vm₁ n) (hn : n ≤ T.heap.size) {rc rs : Nat} {Q : Option Value → Heap → List Loc → Prop} {B : State} (v : Option Value) (hv : meth.sig.returnType = none → v = none) (hlk : meth.locks = false) (hc : cells ≤ rc) (hs : slots ≤ rs) (q : Q v T.heap locs)
    (k : ∀ fs, (∀ (f : JFrame) (acts : List Action), f.method = m → f.locked = none → f.entered = [] → (doReturn e (T.setTop f) acts v).1 = T.setFrames fs) → Steps p.tables e below B (T.setFrames fs)) : Goes p e below (fun o u L => ReturnedEndW s o u L rc rs) Q B := by
  obtain ⟨fs, hr, hrun, hended, h1, h2, h3, h4⟩ := X.leaveW hS hn (v := v) hv hlk
  exact ⟨_, _, k fs hr, hrun, hended, _, _, rfl, q, h1, h2, h3, h4.mono hc hs⟩
theorem own_retN (X : Stand p l e R s m args below meth c T locs cells slots) (hx : p.tables.exec = Jvm.exec) {pc : Nat} {Ls : Array Slot} {z : Int32} {t : FieldType} {rest : List Value} (hret : meth.sig.returnType = some t) (ht : t = .boolean ∨ t = .byte ∨ t = .char ∨ t = .short) (hn : nar t z = z) (hd : decode c.code pc = .ok (.ireturn, 1)) {fs : List Frame}
    (hl : ∀ (f : JFrame) (acts : List Action), f.method = m → f.locked = none → f.entered = [] → (doReturn e (T.setTop f) acts (some (.int z))).1 = T.setFrames fs) : Steps p.tables e below (T.setTop (mkF m pc Ls (.int z :: rest))) (T.setFrames fs) :=
  retN X hx hret ht hd (by rw [hn]; exact hl)
theorem own_retA (X : Stand p l e R s m args below meth c T locs cells slots) (hx : p.tables.exec = Jvm.exec) {pc : Nat} {Ls : Array Slot} {z : Value} {t : FieldType} {rest : List Value} (hret : meth.sig.returnType = some t) (ht : t.isReference = true) (hz : z.isRef = true) (hd : decode c.code pc = .ok (.areturn, 1)) {fs : List Frame}
    (hl : ∀ (f : JFrame) (acts : List Action), f.method = m → f.locked = none → f.entered = [] → (doReturn e (T.setTop f) acts (some z)).1 = T.setFrames fs) : Steps p.tables e below (T.setTop (mkF m pc Ls (z :: rest))) (T.setFrames fs) := by
  have hm' : T.vm.method? m = some meth := X.method'
  show Steps p.tables e below (T.setTop { method := m, pc := pc, locals := Ls, stack := _ :: rest, locked := none }) _
  jvm_step X.here [X.here.top, hx, hd, hm', hret, hz, ht]
  first | (intro acts; rw [hl _ acts rfl rfl rfl]) | rw [hl _ _ rfl rfl rfl]
  exact Steps.refl _
end OwnSteps
def own_pick (k : Int32) (w0 w1 w2 w3 w4 : Addr) : Addr := if k = 0 then w0 else if k = 1 then w1 else if k = 2 then w2 else if k = 3 then w3 else w4
def own_exp (k : Int32) : Int32 := if k = 0 then 1 else if k = 1 then 1 else 0
def own_adj (a w0 w1 : Addr) : Int32 := if a = w0 then 1 else if a = w1 then 1 else 0
theorem own_five (x : Int32) : ((x &&& (2147483647 : Int32)) % (5 : Int32)) = 0 ∨ ((x &&& (2147483647 : Int32)) % (5 : Int32)) = 1 ∨ ((x &&& (2147483647 : Int32)) % (5 : Int32)) = 2 ∨ ((x &&& (2147483647 : Int32)) % (5 : Int32)) = 3 ∨ ((x &&& (2147483647 : Int32)) % (5 : Int32)) = 4 := by
  have h := c_and x 2147483647 (by decide)
  have h2 := (c_irem (x &&& (2147483647 : Int32)) 5 5 (by decide)).1 h.1
  generalize ((x &&& (2147483647 : Int32)) % (5 : Int32)) = r at *
  generalize (x &&& (2147483647 : Int32)) = y at *
  have e0 : (0 : Int32).toInt = 0 := by decide
  have e1 : (1 : Int32).toInt = 1 := by decide
  have e2 : (2 : Int32).toInt = 2 := by decide
  have e3 : (3 : Int32).toInt = 3 := by decide
  have e4 : (4 : Int32).toInt = 4 := by decide
  simp only [← Int32.toInt_inj, e0, e1, e2, e3, e4]
  omega
theorem own_ord {s : State} {args : Array Value} {t : Term} {a : Addr} {C n d : String} {k : Int32} (ev : t.eval args s none [] s = some (.ref a)) (h : (Jvm.Cond.eq (Jvm.Term.field t C n d) (Jvm.Term.int k)).value args s none s [] = some true) : Fld s s.heap a C n d (.int k) := by
  refine Fld.start ?_
  rw [← fld_at ev (args := args) (first := s) (o := none) (idx := [])]
  simp only [Cond.value, Term.eval, ev] at h ⊢
  cases hf : s.fieldOf? a C n d with
  | none => simp [hf] at h
  | some v => cases v <;> simp_all
theorem own_d_method_2_0 : decode method_2_code 0 = .ok (.iload_n 0, 1) := by decide +kernel
theorem own_d_method_2_1 : decode method_2_code 1 = .ok (.ifCond .ne 7, 3) := by decide +kernel
theorem own_d_method_2_4 : decode method_2_code 4 = .ok (.getstatic 7, 3) := by decide +kernel
theorem own_d_method_2_7 : decode method_2_code 7 = .ok (.areturn, 1) := by decide +kernel
theorem own_d_method_2_8 : decode method_2_code 8 = .ok (.iload_n 0, 1) := by decide +kernel
theorem own_d_method_2_9 : decode method_2_code 9 = .ok (.iconst 1, 1) := by decide +kernel
theorem own_d_method_2_10 : decode method_2_code 10 = .ok (.if_icmp .ne 7, 3) := by decide +kernel
theorem own_d_method_2_13 : decode method_2_code 13 = .ok (.getstatic 13, 3) := by decide +kernel
theorem own_d_method_2_16 : decode method_2_code 16 = .ok (.areturn, 1) := by decide +kernel
theorem own_d_method_2_17 : decode method_2_code 17 = .ok (.iload_n 0, 1) := by decide +kernel
theorem own_d_method_2_18 : decode method_2_code 18 = .ok (.iconst 2, 1) := by decide +kernel
theorem own_d_method_2_19 : decode method_2_code 19 = .ok (.if_icmp .ne 7, 3) := by decide +kernel
theorem own_d_method_2_22 : decode method_2_code 22 = .ok (.getstatic 16, 3) := by decide +kernel
theorem own_d_method_2_25 : decode method_2_code 25 = .ok (.areturn, 1) := by decide +kernel
theorem own_d_method_2_26 : decode method_2_code 26 = .ok (.iload_n 0, 1) := by decide +kernel
theorem own_d_method_2_27 : decode method_2_code 27 = .ok (.iconst 3, 1) := by decide +kernel
theorem own_d_method_2_28 : decode method_2_code 28 = .ok (.if_icmp .ne 7, 3) := by decide +kernel
theorem own_d_method_2_31 : decode method_2_code 31 = .ok (.getstatic 19, 3) := by decide +kernel
theorem own_d_method_2_34 : decode method_2_code 34 = .ok (.areturn, 1) := by decide +kernel
theorem own_d_method_2_35 : decode method_2_code 35 = .ok (.getstatic 22, 3) := by decide +kernel
theorem own_d_method_2_38 : decode method_2_code 38 = .ok (.areturn, 1) := by decide +kernel
theorem own_pn0 : plainName "com/example/modest_billing/modestbilling/ItemKindIsAdjustablePinLaw" = true := by first | (simp [plainName, overriddenIn]; done) | decide +kernel
theorem own_ef_rm_pick (m : MethodId) (x0 : Int32) : entryFrame m #[(.int x0)] 1 = mkF m 0 #[.val (.int x0)] [] := by first | (simp [entryFrame, mkF, argsToLocals, Value.category]; done) | rfl
def Q_rm_pick (Z : State) (k : Int32) (w0 : Addr) (w1 : Addr) (w2 : Addr) (w3 : Addr) (w4 : Addr) (h0 : Heap) (n0 : Nat) (v : Option Value) (h : Heap) (L : List Loc) : Prop := v = some (.ref (own_pick k w0 w1 w2 w3 w4)) ∧ Fr n0 L ∧ h = h0
set_option maxRecDepth 65536 in
set_option maxHeartbeats 40000000 in
theorem rm_pick (l : Launch) (Z : State) (a0 : Array Value) (hw : ∀ d ∈ tables_1, d.before a0 Z = true) (ws : List Jvm.Cond) (k : Int32) (w0 : Addr) (w1 : Addr) (w2 : Addr) (w3 : Addr) (w4 : Addr) (h0 : Heap) (n0 : Nat) (Z0 : n0 ≤ h0.size) (S0 : Sta Z h0 "com/example/modest_billing/modestbilling/ItemKind" "CHARGE" "Lcom/example/modest_billing/modestbilling/ItemKind;" (.ref w0)) (S1 : Sta Z h0 "com/example/modest_billing/modestbilling/ItemKind" "RECURRING" "Lcom/example/modest_billing/modestbilling/ItemKind;" (.ref w1)) (S2 : Sta Z h0 "com/example/modest_billing/modestbilling/ItemKind" "CREDIT" "Lcom/example/modest_billing/modestbilling/ItemKind;" (.ref w2)) (S3 : Sta Z h0 "com/example/modest_billing/modestbilling/ItemKind" "CREDIT_BALANCE" "Lcom/example/modest_billing/modestbilling/ItemKind;" (.ref w3)) (S4 : Sta Z h0 "com/example/modest_billing/modestbilling/ItemKind" "ITEM_ADJUSTMENT" "Lcom/example/modest_billing/modestbilling/ItemKind;" (.ref w4)) :
    Met l Z (⟨"com/example/modest_billing/modestbilling/ItemKindIsAdjustablePinLaw", "pick", "(I)Lcom/example/modest_billing/modestbilling/ItemKind;"⟩ : MethodName) method_2_code 1 (some (.object "com/example/modest_billing/modestbilling/ItemKind")) ({ frames := 0, cells := 0, slots := 0, locals := 0 } : Room) ws #[(.int k)] h0 (Q_rm_pick Z k w0 w1 w2 w3 w4 h0 n0) := by
  refine MetFree.of_bodySF (plainFor_of_name own_pn0) hisR ?_
  intro p e s m args below meth c s₁ Bd hml0 hP hK
  obtain ⟨rfl, hZ, hh⟩ := hP
  have hx := Bd.exec
  have hby := Bd.bytes
  have hlk : meth.locks = false := BodyLoose.notSynchronized Bd
  have hml : c.maxLocals = 1 := hml0
  have hown : s.vm.findClass "com/example/modest_billing/modestbilling/ItemKindIsAdjustablePinLaw" = some m.cls := findClass_of_methodNamed Bd.named
  have hnm := (name_of_methodNamed Bd.named Bd.method).1
  have X0 : Stand p l e ({ frames := 0, cells := 0, slots := 0, locals := 0 } : Room) s m #[(.int k)] below meth c s₁ [] 0 0 := Stand.of_body Bd
  have e0 : s₁.heap = h0 := by rw [← hh, Bd.state]; rfl
  have N0 := Fr.nil n0
  show Goes p e below (fun o u L => FrameEnd s o u L ({ frames := 0, cells := 0, slots := 0, locals := 0 } : Room).cells ({ frames := 0, cells := 0, slots := 0, locals := 0 } : Room).slots) (Q_rm_pick Z k w0 w1 w2 w3 w4 h0 n0) (s₁.setTop (entryFrame m #[(.int k)] 1))
  refine Goes.step (fun _ tk => castTop (own_ef_rm_pick m k) tk) ?_
  show Goes _ _ _ _ _ (s₁.setTop (mkF m 0 #[.val (.int k)] []))
  refine Goes.step (fun _ tk => XS.iloadN X0.here hx rfl (hb hby own_d_method_2_0) rfl tk) ?_
  show Goes _ _ _ _ _ (s₁.setTop (mkF m 1 #[.val (.int k)] [(.int k)]))
  by_cases hc1_1 : k = (0 : Int32)
  · refine Goes.step (fun _ tk => XS.ifNo X0.here hx rfl (hb hby own_d_method_2_1) rfl ((if0 _ _).trans (teq hc1_1).2) tk) ?_
    show Goes _ _ _ _ _ (s₁.setTop (mkF m 4 #[.val (.int k)] []))
    obtain ⟨T2, X2, e2, st2⟩ := getS2 X0 hx hZ hown (host := "") (Or.inl (hw _ (List.mem_of_getElem? (i := 5) rfl))) Via.refl e0 S0 (g := (mkF m 4 #[.val (.int k)] [])) rfl (hb hby own_d_method_2_4)
    refine Goes.step st2 ?_
    show Goes _ _ _ _ _ (T2.setTop (mkF m 7 #[.val (.int k)] [(.ref w0)]))
    refine Goes.ret X2 (some (.ref w0)) (fun h => by rw [Bd.returns] at h; cases h) hlk (by decide) (by decide) ?_ (fun fs hr => ?_)
    · exact ⟨by simp [own_pick, *], N0, e2⟩
    · exact own_retA X2 hx Bd.returns rfl rfl (hb hby own_d_method_2_7) hr
  · refine Goes.step (fun _ tk => XS.ifYes X0.here hx rfl (pc0 := 1) (pc' := 8) rfl (hb hby own_d_method_2_1) rfl ((if0 _ _).trans (feq hc1_1).2) (by decide) (by decide) tk) ?_
    show Goes _ _ _ _ _ (s₁.setTop (mkF m 8 #[.val (.int k)] []))
    refine Goes.step (fun _ tk => XS.iloadN X0.here hx rfl (hb hby own_d_method_2_8) rfl tk) ?_
    show Goes _ _ _ _ _ (s₁.setTop (mkF m 9 #[.val (.int k)] [(.int k)]))
    refine Goes.step (fun _ tk => XS.iconst X0.here hx rfl (hb hby own_d_method_2_9) tk) ?_
    show Goes _ _ _ _ _ (s₁.setTop (mkF m 10 #[.val (.int k)] [(.int (1 : Int32)), (.int k)]))
    by_cases hc10_3 : k = (1 : Int32)
    · refine Goes.step (fun _ tk => XS.icmpNo X0.here hx rfl (hb hby own_d_method_2_10) rfl (teq hc10_3).2 tk) ?_
      show Goes _ _ _ _ _ (s₁.setTop (mkF m 13 #[.val (.int k)] []))
      obtain ⟨T4, X4, e4, st4⟩ := getS2 X0 hx hZ hown (host := "") (Or.inl (hw _ (List.mem_of_getElem? (i := 21) rfl))) Via.refl e0 S1 (g := (mkF m 13 #[.val (.int k)] [])) rfl (hb hby own_d_method_2_13)
      refine Goes.step st4 ?_
      show Goes _ _ _ _ _ (T4.setTop (mkF m 16 #[.val (.int k)] [(.ref w1)]))
      refine Goes.ret X4 (some (.ref w1)) (fun h => by rw [Bd.returns] at h; cases h) hlk (by decide) (by decide) ?_ (fun fs hr => ?_)
      · exact ⟨by simp [own_pick, *], N0, e4⟩
      · exact own_retA X4 hx Bd.returns rfl rfl (hb hby own_d_method_2_16) hr
    · refine Goes.step (fun _ tk => XS.icmpYes X0.here hx rfl (pc0 := 10) (pc' := 17) rfl (hb hby own_d_method_2_10) rfl (feq hc10_3).2 (by decide) (by decide) tk) ?_
      show Goes _ _ _ _ _ (s₁.setTop (mkF m 17 #[.val (.int k)] []))
      refine Goes.step (fun _ tk => XS.iloadN X0.here hx rfl (hb hby own_d_method_2_17) rfl tk) ?_
      show Goes _ _ _ _ _ (s₁.setTop (mkF m 18 #[.val (.int k)] [(.int k)]))
      refine Goes.step (fun _ tk => XS.iconst X0.here hx rfl (hb hby own_d_method_2_18) tk) ?_
      show Goes _ _ _ _ _ (s₁.setTop (mkF m 19 #[.val (.int k)] [(.int (2 : Int32)), (.int k)]))
      by_cases hc19_5 : k = (2 : Int32)
      · refine Goes.step (fun _ tk => XS.icmpNo X0.here hx rfl (hb hby own_d_method_2_19) rfl (teq hc19_5).2 tk) ?_
        show Goes _ _ _ _ _ (s₁.setTop (mkF m 22 #[.val (.int k)] []))
        obtain ⟨T6, X6, e6, st6⟩ := getS2 X0 hx hZ hown (host := "") (Or.inl (hw _ (List.mem_of_getElem? (i := 24) rfl))) Via.refl e0 S2 (g := (mkF m 22 #[.val (.int k)] [])) rfl (hb hby own_d_method_2_22)
        refine Goes.step st6 ?_
        show Goes _ _ _ _ _ (T6.setTop (mkF m 25 #[.val (.int k)] [(.ref w2)]))
        refine Goes.ret X6 (some (.ref w2)) (fun h => by rw [Bd.returns] at h; cases h) hlk (by decide) (by decide) ?_ (fun fs hr => ?_)
        · exact ⟨by simp [own_pick, *], N0, e6⟩
        · exact own_retA X6 hx Bd.returns rfl rfl (hb hby own_d_method_2_25) hr
      · refine Goes.step (fun _ tk => XS.icmpYes X0.here hx rfl (pc0 := 19) (pc' := 26) rfl (hb hby own_d_method_2_19) rfl (feq hc19_5).2 (by decide) (by decide) tk) ?_
        show Goes _ _ _ _ _ (s₁.setTop (mkF m 26 #[.val (.int k)] []))
        refine Goes.step (fun _ tk => XS.iloadN X0.here hx rfl (hb hby own_d_method_2_26) rfl tk) ?_
        show Goes _ _ _ _ _ (s₁.setTop (mkF m 27 #[.val (.int k)] [(.int k)]))
        refine Goes.step (fun _ tk => XS.iconst X0.here hx rfl (hb hby own_d_method_2_27) tk) ?_
        show Goes _ _ _ _ _ (s₁.setTop (mkF m 28 #[.val (.int k)] [(.int (3 : Int32)), (.int k)]))
        by_cases hc28_7 : k = (3 : Int32)
        · refine Goes.step (fun _ tk => XS.icmpNo X0.here hx rfl (hb hby own_d_method_2_28) rfl (teq hc28_7).2 tk) ?_
          show Goes _ _ _ _ _ (s₁.setTop (mkF m 31 #[.val (.int k)] []))
          obtain ⟨T8, X8, e8, st8⟩ := getS2 X0 hx hZ hown (host := "") (Or.inl (hw _ (List.mem_of_getElem? (i := 17) rfl))) Via.refl e0 S3 (g := (mkF m 31 #[.val (.int k)] [])) rfl (hb hby own_d_method_2_31)
          refine Goes.step st8 ?_
          show Goes _ _ _ _ _ (T8.setTop (mkF m 34 #[.val (.int k)] [(.ref w3)]))
          refine Goes.ret X8 (some (.ref w3)) (fun h => by rw [Bd.returns] at h; cases h) hlk (by decide) (by decide) ?_ (fun fs hr => ?_)
          · exact ⟨by simp [own_pick, *], N0, e8⟩
          · exact own_retA X8 hx Bd.returns rfl rfl (hb hby own_d_method_2_34) hr
        · refine Goes.step (fun _ tk => XS.icmpYes X0.here hx rfl (pc0 := 28) (pc' := 35) rfl (hb hby own_d_method_2_28) rfl (feq hc28_7).2 (by decide) (by decide) tk) ?_
          show Goes _ _ _ _ _ (s₁.setTop (mkF m 35 #[.val (.int k)] []))
          obtain ⟨T9, X9, e9, st9⟩ := getS2 X0 hx hZ hown (host := "") (Or.inl (hw _ (List.mem_of_getElem? (i := 22) rfl))) Via.refl e0 S4 (g := (mkF m 35 #[.val (.int k)] [])) rfl (hb hby own_d_method_2_35)
          refine Goes.step st9 ?_
          show Goes _ _ _ _ _ (T9.setTop (mkF m 38 #[.val (.int k)] [(.ref w4)]))
          refine Goes.ret X9 (some (.ref w4)) (fun h => by rw [Bd.returns] at h; cases h) hlk (by decide) (by decide) ?_ (fun fs hr => ?_)
          · exact ⟨by simp [own_pick, *], N0, e9⟩
          · exact own_retA X9 hx Bd.returns rfl rfl (hb hby own_d_method_2_38) hr
theorem own_d_method_3_0 : decode method_3_code 0 = .ok (.iload_n 0, 1) := by decide +kernel
theorem own_d_method_3_1 : decode method_3_code 1 = .ok (.ifCond .ne 5, 3) := by decide +kernel
theorem own_d_method_3_4 : decode method_3_code 4 = .ok (.iconst 1, 1) := by decide +kernel
theorem own_d_method_3_5 : decode method_3_code 5 = .ok (.ireturn, 1) := by decide +kernel
theorem own_d_method_3_6 : decode method_3_code 6 = .ok (.iload_n 0, 1) := by decide +kernel
theorem own_d_method_3_7 : decode method_3_code 7 = .ok (.iconst 1, 1) := by decide +kernel
theorem own_d_method_3_8 : decode method_3_code 8 = .ok (.if_icmp .ne 5, 3) := by decide +kernel
theorem own_d_method_3_11 : decode method_3_code 11 = .ok (.iconst 1, 1) := by decide +kernel
theorem own_d_method_3_12 : decode method_3_code 12 = .ok (.ireturn, 1) := by decide +kernel
theorem own_d_method_3_13 : decode method_3_code 13 = .ok (.iconst 0, 1) := by decide +kernel
theorem own_d_method_3_14 : decode method_3_code 14 = .ok (.ireturn, 1) := by decide +kernel
theorem own_ef_rm_exp (m : MethodId) (x0 : Int32) : entryFrame m #[(.int x0)] 1 = mkF m 0 #[.val (.int x0)] [] := by first | (simp [entryFrame, mkF, argsToLocals, Value.category]; done) | rfl
def Q_rm_exp (Z : State) (k : Int32) (h0 : Heap) (n0 : Nat) (v : Option Value) (h : Heap) (L : List Loc) : Prop := v = some (.int (own_exp k)) ∧ Fr n0 L ∧ h = h0
set_option maxRecDepth 65536 in
set_option maxHeartbeats 40000000 in
theorem rm_exp (l : Launch) (Z : State) (a0 : Array Value) (hw : ∀ d ∈ tables_1, d.before a0 Z = true) (ws : List Jvm.Cond) (k : Int32) (h0 : Heap) (n0 : Nat) (Z0 : n0 ≤ h0.size) :
    Met l Z (⟨"com/example/modest_billing/modestbilling/ItemKindIsAdjustablePinLaw", "expected", "(I)Z"⟩ : MethodName) method_3_code 1 (some .boolean) ({ frames := 0, cells := 0, slots := 0, locals := 0 } : Room) ws #[(.int k)] h0 (Q_rm_exp Z k h0 n0) := by
  refine MetFree.of_bodySF (plainFor_of_name own_pn0) hisR ?_
  intro p e s m args below meth c s₁ Bd hml0 hP hK
  obtain ⟨rfl, hZ, hh⟩ := hP
  have hx := Bd.exec
  have hby := Bd.bytes
  have hlk : meth.locks = false := BodyLoose.notSynchronized Bd
  have hml : c.maxLocals = 1 := hml0
  have hown : s.vm.findClass "com/example/modest_billing/modestbilling/ItemKindIsAdjustablePinLaw" = some m.cls := findClass_of_methodNamed Bd.named
  have hnm := (name_of_methodNamed Bd.named Bd.method).1
  have X0 : Stand p l e ({ frames := 0, cells := 0, slots := 0, locals := 0 } : Room) s m #[(.int k)] below meth c s₁ [] 0 0 := Stand.of_body Bd
  have e0 : s₁.heap = h0 := by rw [← hh, Bd.state]; rfl
  have N0 := Fr.nil n0
  show Goes p e below (fun o u L => FrameEnd s o u L ({ frames := 0, cells := 0, slots := 0, locals := 0 } : Room).cells ({ frames := 0, cells := 0, slots := 0, locals := 0 } : Room).slots) (Q_rm_exp Z k h0 n0) (s₁.setTop (entryFrame m #[(.int k)] 1))
  refine Goes.step (fun _ tk => castTop (own_ef_rm_exp m k) tk) ?_
  show Goes _ _ _ _ _ (s₁.setTop (mkF m 0 #[.val (.int k)] []))
  refine Goes.step (fun _ tk => XS.iloadN X0.here hx rfl (hb hby own_d_method_3_0) rfl tk) ?_
  show Goes _ _ _ _ _ (s₁.setTop (mkF m 1 #[.val (.int k)] [(.int k)]))
  by_cases hc1_1 : k = (0 : Int32)
  · refine Goes.step (fun _ tk => XS.ifNo X0.here hx rfl (hb hby own_d_method_3_1) rfl ((if0 _ _).trans (teq hc1_1).2) tk) ?_
    show Goes _ _ _ _ _ (s₁.setTop (mkF m 4 #[.val (.int k)] []))
    refine Goes.step (fun _ tk => XS.iconst X0.here hx rfl (hb hby own_d_method_3_4) tk) ?_
    show Goes _ _ _ _ _ (s₁.setTop (mkF m 5 #[.val (.int k)] [(.int (1 : Int32))]))
    refine Goes.ret X0 (some (.int (1 : Int32))) (fun h => by rw [Bd.returns] at h; cases h) hlk (by decide) (by decide) ?_ (fun fs hr => ?_)
    · exact ⟨by simp [own_exp, *], N0, e0⟩
    · exact own_retN X0 hx (t := .boolean) Bd.returns (by simp) rfl (hb hby own_d_method_3_5) hr
  · refine Goes.step (fun _ tk => XS.ifYes X0.here hx rfl (pc0 := 1) (pc' := 6) rfl (hb hby own_d_method_3_1) rfl ((if0 _ _).trans (feq hc1_1).2) (by decide) (by decide) tk) ?_
    show Goes _ _ _ _ _ (s₁.setTop (mkF m 6 #[.val (.int k)] []))
    refine Goes.step (fun _ tk => XS.iloadN X0.here hx rfl (hb hby own_d_method_3_6) rfl tk) ?_
    show Goes _ _ _ _ _ (s₁.setTop (mkF m 7 #[.val (.int k)] [(.int k)]))
    refine Goes.step (fun _ tk => XS.iconst X0.here hx rfl (hb hby own_d_method_3_7) tk) ?_
    show Goes _ _ _ _ _ (s₁.setTop (mkF m 8 #[.val (.int k)] [(.int (1 : Int32)), (.int k)]))
    by_cases hc8_2 : k = (1 : Int32)
    · refine Goes.step (fun _ tk => XS.icmpNo X0.here hx rfl (hb hby own_d_method_3_8) rfl (teq hc8_2).2 tk) ?_
      show Goes _ _ _ _ _ (s₁.setTop (mkF m 11 #[.val (.int k)] []))
      refine Goes.step (fun _ tk => XS.iconst X0.here hx rfl (hb hby own_d_method_3_11) tk) ?_
      show Goes _ _ _ _ _ (s₁.setTop (mkF m 12 #[.val (.int k)] [(.int (1 : Int32))]))
      refine Goes.ret X0 (some (.int (1 : Int32))) (fun h => by rw [Bd.returns] at h; cases h) hlk (by decide) (by decide) ?_ (fun fs hr => ?_)
      · exact ⟨by simp [own_exp, *], N0, e0⟩
      · exact own_retN X0 hx (t := .boolean) Bd.returns (by simp) rfl (hb hby own_d_method_3_12) hr
    · refine Goes.step (fun _ tk => XS.icmpYes X0.here hx rfl (pc0 := 8) (pc' := 13) rfl (hb hby own_d_method_3_8) rfl (feq hc8_2).2 (by decide) (by decide) tk) ?_
      show Goes _ _ _ _ _ (s₁.setTop (mkF m 13 #[.val (.int k)] []))
      refine Goes.step (fun _ tk => XS.iconst X0.here hx rfl (hb hby own_d_method_3_13) tk) ?_
      show Goes _ _ _ _ _ (s₁.setTop (mkF m 14 #[.val (.int k)] [(.int (0 : Int32))]))
      refine Goes.ret X0 (some (.int (0 : Int32))) (fun h => by rw [Bd.returns] at h; cases h) hlk (by decide) (by decide) ?_ (fun fs hr => ?_)
      · exact ⟨by simp [own_exp, *], N0, e0⟩
      · exact own_retN X0 hx (t := .boolean) Bd.returns (by simp) rfl (hb hby own_d_method_3_14) hr
theorem own_d_prog_25_method_4_0 : decode prog_25_method_4_code 0 = .ok (.aload_n 0, 1) := by decide +kernel
theorem own_d_prog_25_method_4_1 : decode prog_25_method_4_code 1 = .ok (.getstatic 3, 3) := by decide +kernel
theorem own_d_prog_25_method_4_4 : decode prog_25_method_4_code 4 = .ok (.if_acmp .eq 10, 3) := by decide +kernel
theorem own_d_prog_25_method_4_14 : decode prog_25_method_4_code 14 = .ok (.iconst 1, 1) := by decide +kernel
theorem own_d_prog_25_method_4_15 : decode prog_25_method_4_code 15 = .ok (.goto 4, 3) := by decide +kernel
theorem own_d_prog_25_method_4_19 : decode prog_25_method_4_code 19 = .ok (.ireturn, 1) := by decide +kernel
theorem own_d_prog_25_method_4_7 : decode prog_25_method_4_code 7 = .ok (.aload_n 0, 1) := by decide +kernel
theorem own_d_prog_25_method_4_8 : decode prog_25_method_4_code 8 = .ok (.getstatic 7, 3) := by decide +kernel
theorem own_d_prog_25_method_4_11 : decode prog_25_method_4_code 11 = .ok (.if_acmp .ne 7, 3) := by decide +kernel
theorem own_d_prog_25_method_4_18 : decode prog_25_method_4_code 18 = .ok (.iconst 0, 1) := by decide +kernel
theorem own_pn1 : plainName "com/example/modest_billing/modestbilling/ItemKind" = true := by first | (simp [plainName, overriddenIn]; done) | decide +kernel
theorem own_ef_rm_adj (m : MethodId) (x0 : Addr) : entryFrame m #[(.ref x0)] 1 = mkF m 0 #[.val (.ref x0)] [] := by first | (simp [entryFrame, mkF, argsToLocals, Value.category]; done) | rfl
def Q_rm_adj (Z : State) (a : Addr) (w0 : Addr) (w1 : Addr) (h0 : Heap) (n0 : Nat) (v : Option Value) (h : Heap) (L : List Loc) : Prop := v = some (.int (own_adj a w0 w1)) ∧ Fr n0 L ∧ h = h0
set_option maxRecDepth 65536 in
set_option maxHeartbeats 40000000 in
theorem rm_adj (l : Launch) (Z : State) (a0 : Array Value) (hw : ∀ d ∈ tables_1, d.before a0 Z = true) (ws : List Jvm.Cond) (a : Addr) (w0 : Addr) (w1 : Addr) (h0 : Heap) (n0 : Nat) (Z0 : n0 ≤ h0.size) (S0 : Sta Z h0 "com/example/modest_billing/modestbilling/ItemKind" "CHARGE" "Lcom/example/modest_billing/modestbilling/ItemKind;" (.ref w0)) (S1 : Sta Z h0 "com/example/modest_billing/modestbilling/ItemKind" "RECURRING" "Lcom/example/modest_billing/modestbilling/ItemKind;" (.ref w1)) :
    Met l Z (⟨"com/example/modest_billing/modestbilling/ItemKind", "isAdjustable", "()Z"⟩ : MethodName) prog_25_method_4_code 1 (some .boolean) ({ frames := 0, cells := 0, slots := 0, locals := 0 } : Room) ws #[(.ref a)] h0 (Q_rm_adj Z a w0 w1 h0 n0) := by
  refine MetFree.of_bodySF (plainFor_of_name own_pn1) hisR ?_
  intro p e s m args below meth c s₁ Bd hml0 hP hK
  obtain ⟨rfl, hZ, hh⟩ := hP
  have hx := Bd.exec
  have hby := Bd.bytes
  have hlk : meth.locks = false := BodyLoose.notSynchronized Bd
  have hml : c.maxLocals = 1 := hml0
  have hown : s.vm.findClass "com/example/modest_billing/modestbilling/ItemKind" = some m.cls := findClass_of_methodNamed Bd.named
  have hnm := (name_of_methodNamed Bd.named Bd.method).1
  have X0 : Stand p l e ({ frames := 0, cells := 0, slots := 0, locals := 0 } : Room) s m #[(.ref a)] below meth c s₁ [] 0 0 := Stand.of_body Bd
  have e0 : s₁.heap = h0 := by rw [← hh, Bd.state]; rfl
  have N0 := Fr.nil n0
  show Goes p e below (fun o u L => FrameEnd s o u L ({ frames := 0, cells := 0, slots := 0, locals := 0 } : Room).cells ({ frames := 0, cells := 0, slots := 0, locals := 0 } : Room).slots) (Q_rm_adj Z a w0 w1 h0 n0) (s₁.setTop (entryFrame m #[(.ref a)] 1))
  refine Goes.step (fun _ tk => castTop (own_ef_rm_adj m a) tk) ?_
  show Goes _ _ _ _ _ (s₁.setTop (mkF m 0 #[.val (.ref a)] []))
  refine Goes.step (fun _ tk => XS.aloadN X0.here hx rfl (hb hby own_d_prog_25_method_4_0) rfl rfl tk) ?_
  show Goes _ _ _ _ _ (s₁.setTop (mkF m 1 #[.val (.ref a)] [(.ref a)]))
  obtain ⟨T1, X1, e1, st1⟩ := getS2 X0 hx hZ hown (host := "") (Or.inl (hw _ (List.mem_of_getElem? (i := 13) rfl))) Via.refl e0 S0 (g := (mkF m 1 #[.val (.ref a)] [(.ref a)])) rfl (hb hby own_d_prog_25_method_4_1)
  refine Goes.step st1 ?_
  show Goes _ _ _ _ _ (T1.setTop (mkF m 4 #[.val (.ref a)] [(.ref w0), (.ref a)]))
  by_cases hc4_2 : a = w0
  · refine Goes.step (fun _ tk => Jvm.RoadKit.acmp (g := (mkF m 4 #[.val (.ref a)] [(.ref w0), (.ref a)])) X1 hx rfl rfl rfl (pc0 := 4) (pc' := 14) (same := true) rfl (hb hby own_d_prog_25_method_4_4) rfl (decide_eq_true (congrArg Value.ref hc4_2)) (by decide) (by decide) tk) ?_
    show Goes _ _ _ _ _ (T1.setTop (mkF m 14 #[.val (.ref a)] []))
    refine Goes.step (fun _ tk => XS.iconst X1.here hx rfl (hb hby own_d_prog_25_method_4_14) tk) ?_
    show Goes _ _ _ _ _ (T1.setTop (mkF m 15 #[.val (.ref a)] [(.int (1 : Int32))]))
    refine Goes.step (fun _ tk => XS.goto X1.here hx rfl (pc0 := 15) (pc' := 19) rfl (hb hby own_d_prog_25_method_4_15) (by decide) (by decide) tk) ?_
    show Goes _ _ _ _ _ (T1.setTop (mkF m 19 #[.val (.ref a)] [(.int (1 : Int32))]))
    refine Goes.ret X1 (some (.int (1 : Int32))) (fun h => by rw [Bd.returns] at h; cases h) hlk (by decide) (by decide) ?_ (fun fs hr => ?_)
    · exact ⟨by simp [own_adj, *], N0, e1⟩
    · exact own_retN X1 hx (t := .boolean) Bd.returns (by simp) rfl (hb hby own_d_prog_25_method_4_19) hr
  · refine Goes.step (fun _ tk => Jvm.RoadKit.acmp (g := (mkF m 4 #[.val (.ref a)] [(.ref w0), (.ref a)])) X1 hx rfl rfl rfl (pc0 := 4) (pc' := 7) (same := false) rfl (hb hby own_d_prog_25_method_4_4) rfl (decide_eq_false fun q => hc4_2 (Value.ref.inj q)) (by decide) (by decide) tk) ?_
    show Goes _ _ _ _ _ (T1.setTop (mkF m 7 #[.val (.ref a)] []))
    refine Goes.step (fun _ tk => XS.aloadN X1.here hx rfl (hb hby own_d_prog_25_method_4_7) rfl rfl tk) ?_
    show Goes _ _ _ _ _ (T1.setTop (mkF m 8 #[.val (.ref a)] [(.ref a)]))
    obtain ⟨T3, X3, e3, st3⟩ := getS2 X1 hx hZ hown (host := "") (Or.inl (hw _ (List.mem_of_getElem? (i := 19) rfl))) Via.refl e1 S1 (g := (mkF m 8 #[.val (.ref a)] [(.ref a)])) rfl (hb hby own_d_prog_25_method_4_8)
    refine Goes.step st3 ?_
    show Goes _ _ _ _ _ (T3.setTop (mkF m 11 #[.val (.ref a)] [(.ref w1), (.ref a)]))
    by_cases hc11_4 : a = w1
    · refine Goes.step (fun _ tk => Jvm.RoadKit.acmp (g := (mkF m 11 #[.val (.ref a)] [(.ref w1), (.ref a)])) X3 hx rfl rfl rfl (pc0 := 11) (pc' := 14) (same := true) rfl (hb hby own_d_prog_25_method_4_11) rfl (decide_eq_true (congrArg Value.ref hc11_4)) (by decide) (by decide) tk) ?_
      show Goes _ _ _ _ _ (T3.setTop (mkF m 14 #[.val (.ref a)] []))
      refine Goes.step (fun _ tk => XS.iconst X3.here hx rfl (hb hby own_d_prog_25_method_4_14) tk) ?_
      show Goes _ _ _ _ _ (T3.setTop (mkF m 15 #[.val (.ref a)] [(.int (1 : Int32))]))
      refine Goes.step (fun _ tk => XS.goto X3.here hx rfl (pc0 := 15) (pc' := 19) rfl (hb hby own_d_prog_25_method_4_15) (by decide) (by decide) tk) ?_
      show Goes _ _ _ _ _ (T3.setTop (mkF m 19 #[.val (.ref a)] [(.int (1 : Int32))]))
      refine Goes.ret X3 (some (.int (1 : Int32))) (fun h => by rw [Bd.returns] at h; cases h) hlk (by decide) (by decide) ?_ (fun fs hr => ?_)
      · exact ⟨by simp [own_adj, *], N0, e3⟩
      · exact own_retN X3 hx (t := .boolean) Bd.returns (by simp) rfl (hb hby own_d_prog_25_method_4_19) hr
    · refine Goes.step (fun _ tk => Jvm.RoadKit.acmp (g := (mkF m 11 #[.val (.ref a)] [(.ref w1), (.ref a)])) X3 hx rfl rfl rfl (pc0 := 11) (pc' := 18) (same := false) rfl (hb hby own_d_prog_25_method_4_11) rfl (decide_eq_false fun q => hc11_4 (Value.ref.inj q)) (by decide) (by decide) tk) ?_
      show Goes _ _ _ _ _ (T3.setTop (mkF m 18 #[.val (.ref a)] []))
      refine Goes.step (fun _ tk => XS.iconst X3.here hx rfl (hb hby own_d_prog_25_method_4_18) tk) ?_
      show Goes _ _ _ _ _ (T3.setTop (mkF m 19 #[.val (.ref a)] [(.int (0 : Int32))]))
      refine Goes.ret X3 (some (.int (0 : Int32))) (fun h => by rw [Bd.returns] at h; cases h) hlk (by decide) (by decide) ?_ (fun fs hr => ?_)
      · exact ⟨by simp [own_adj, *], N0, e3⟩
      · exact own_retN X3 hx (t := .boolean) Bd.returns (by simp) rfl (hb hby own_d_prog_25_method_4_19) hr
theorem own_pd0 : parseMethodDescriptor "(I)Lcom/example/modest_billing/modestbilling/ItemKind;" = some ⟨[.int], some (.object "com/example/modest_billing/modestbilling/ItemKind")⟩ := by decide +kernel
theorem own_pd1 : parseMethodDescriptor "()Z" = some ⟨[], some .boolean⟩ := by decide +kernel
theorem own_pd2 : parseMethodDescriptor "(I)Z" = some ⟨[.int], some .boolean⟩ := by decide +kernel
theorem own_ef_rm_law (m : MethodId) (x0 : Int32) : entryFrame m #[(.int x0)] maxLocals = mkF m 0 #[.val (.int x0), .unset, .unset] [] := by first | (simp [entryFrame, mkF, argsToLocals, Value.category, maxLocals]; done) | rfl
def Q_rm_law (Z : State) (x0 : Int32) (w0 : Addr) (w1 : Addr) (w2 : Addr) (w3 : Addr) (w4 : Addr) (h0 : Heap) (n0 : Nat) (v : Option Value) (h : Heap) (L : List Loc) : Prop := v = some (.int 1) ∧ Fr n0 L
set_option maxRecDepth 65536 in
set_option maxHeartbeats 40000000 in
theorem rm_law (l : Launch) (Z : State) (a0 : Array Value) (hw : ∀ d ∈ tables_1, d.before a0 Z = true) (ws : List Jvm.Cond) (x0 : Int32) (w0 : Addr) (w1 : Addr) (w2 : Addr) (w3 : Addr) (w4 : Addr) (h0 : Heap) (n0 : Nat) (Z0 : n0 ≤ h0.size) (S0 : Sta Z h0 "com/example/modest_billing/modestbilling/ItemKind" "CHARGE" "Lcom/example/modest_billing/modestbilling/ItemKind;" (.ref w0)) (S1 : Sta Z h0 "com/example/modest_billing/modestbilling/ItemKind" "RECURRING" "Lcom/example/modest_billing/modestbilling/ItemKind;" (.ref w1)) (S2 : Sta Z h0 "com/example/modest_billing/modestbilling/ItemKind" "CREDIT" "Lcom/example/modest_billing/modestbilling/ItemKind;" (.ref w2)) (S3 : Sta Z h0 "com/example/modest_billing/modestbilling/ItemKind" "CREDIT_BALANCE" "Lcom/example/modest_billing/modestbilling/ItemKind;" (.ref w3)) (S4 : Sta Z h0 "com/example/modest_billing/modestbilling/ItemKind" "ITEM_ADJUSTMENT" "Lcom/example/modest_billing/modestbilling/ItemKind;" (.ref w4)) (A0 : Exa Z h0 w0 "com/example/modest_billing/modestbilling/ItemKind") (A1 : Exa Z h0 w1 "com/example/modest_billing/modestbilling/ItemKind") (A2 : Exa Z h0 w2 "com/example/modest_billing/modestbilling/ItemKind") (A3 : Exa Z h0 w3 "com/example/modest_billing/modestbilling/ItemKind") (A4 : Exa Z h0 w4 "com/example/modest_billing/modestbilling/ItemKind") (n20 : ¬ w2 = w0) (n21 : ¬ w2 = w1) (n30 : ¬ w3 = w0) (n31 : ¬ w3 = w1) (n40 : ¬ w4 = w0) (n41 : ¬ w4 = w1) :
    Met l Z x code maxLocals ret room_1 ws #[(.int x0)] h0 (Q_rm_law Z x0 w0 w1 w2 w3 w4 h0 n0) := by
  refine MetFree.of_bodySF (plainFor_of_name own_pn0) hisR ?_
  intro p e s m args below meth c s₁ Bd hml0 hP hK
  obtain ⟨rfl, hZ, hh⟩ := hP
  have hx := Bd.exec
  have hby := Bd.bytes
  have hlk : meth.locks = false := BodyLoose.notSynchronized Bd
  have hml : c.maxLocals = 3 := hml0
  have hown : s.vm.findClass "com/example/modest_billing/modestbilling/ItemKindIsAdjustablePinLaw" = some m.cls := findClass_of_methodNamed Bd.named
  have hnm := (name_of_methodNamed Bd.named Bd.method).1
  have X0 : Stand p l e room_1 s m #[(.int x0)] below meth c s₁ [] 0 0 := Stand.of_body Bd
  have e0 : s₁.heap = h0 := by rw [← hh, Bd.state]; rfl
  have N0 := Fr.nil n0
  show Goes p e below (fun o u L => FrameEnd s o u L room_1.cells room_1.slots) (Q_rm_law Z x0 w0 w1 w2 w3 w4 h0 n0) (s₁.setTop (entryFrame m #[(.int x0)] maxLocals))
  refine Goes.step (fun _ tk => castTop (own_ef_rm_law m x0) tk) ?_
  show Goes _ _ _ _ _ (s₁.setTop (mkF m 0 #[.val (.int x0), .unset, .unset] []))
  refine Goes.step (fun _ tk => XS.iloadN X0.here hx rfl (hb hby at_0) rfl tk) ?_
  show Goes _ _ _ _ _ (s₁.setTop (mkF m 1 #[.val (.int x0), .unset, .unset] [(.int x0)]))
  refine Goes.step (fun _ tk => Jvm.Stand.ldcI X0 hx hown (mvT hZ (hw _ (List.mem_of_getElem? (i := 0) rfl))) rfl (hb hby at_1) tk) ?_
  show Goes _ _ _ _ _ (s₁.setTop (mkF m 3 #[.val (.int x0), .unset, .unset] [(.int (2147483647 : Int32)), (.int x0)]))
  refine Goes.step (fun _ tk => XS.iand X0.here hx rfl (hb hby at_3) rfl tk) ?_
  show Goes _ _ _ _ _ (s₁.setTop (mkF m 4 #[.val (.int x0), .unset, .unset] [(.int (x0 &&& (2147483647 : Int32)))]))
  refine Goes.step (fun _ tk => XS.iconst X0.here hx rfl (hb hby at_4) tk) ?_
  show Goes _ _ _ _ _ (s₁.setTop (mkF m 5 #[.val (.int x0), .unset, .unset] [(.int (5 : Int32)), (.int (x0 &&& (2147483647 : Int32)))]))
  refine Goes.step (fun _ tk => XS.irem X0.here hx rfl (hb hby at_5) rfl (by decide) tk) ?_
  rw [Jvm.irem_eq_mod]
  show Goes _ _ _ _ _ (s₁.setTop (mkF m 6 #[.val (.int x0), .unset, .unset] [(.int ((x0 &&& (2147483647 : Int32)) % (5 : Int32)))]))
  generalize hk : ((x0 &&& (2147483647 : Int32)) % (5 : Int32)) = k
  show Goes _ _ _ _ _ (s₁.setTop (mkF m 6 #[.val (.int x0), .unset, .unset] [(.int k)]))
  refine Goes.step (fun _ tk => XS.istoreN X0.here hx rfl (hb hby at_6) rfl (l' := #[.val (.int x0), .val (.int k), .unset]) rfl tk) ?_
  show Goes _ _ _ _ _ (s₁.setTop (mkF m 7 #[.val (.int x0), .val (.int k), .unset] []))
  refine Goes.step (fun _ tk => XS.iloadN X0.here hx rfl (hb hby at_7) rfl tk) ?_
  show Goes _ _ _ _ _ (s₁.setTop (mkF m 8 #[.val (.int x0), .val (.int k), .unset] [(.int k)]))
  obtain ⟨_, _, ⟨T1, L1, k1, n1⟩, -, X1, ⟨Lc1, hQ1, l1, y1, z1⟩, st1⟩ := Jvm.LawKit.callS X0 hx (y := (⟨"com/example/modest_billing/modestbilling/ItemKindIsAdjustablePinLaw", "pick", "(I)Lcom/example/modest_billing/modestbilling/ItemKind;"⟩ : MethodName)) hown (mvT hZ (hw _ (List.mem_of_getElem? (i := 1) rfl))) (mvT hZ (hw _ (List.mem_of_getElem? (i := 2) rfl))) (mvT hZ (hw _ (List.mem_of_getElem? (i := 3) rfl))) (mvT hZ (hw _ (List.mem_of_getElem? (i := 4) rfl))) (by decide) (backOf (W := 0) (rm_pick l Z a0 hw [] k w0 w1 w2 w3 w4 h0 n0 Z0 S0 S1 S2 S3 S4) hZ (hw _ (List.mem_of_getElem? (i := 4) rfl)) (hw _ (List.mem_of_getElem? (i := 3) rfl)) (by decide) (by decide)) (g := (mkF m 8 #[.val (.int x0), .val (.int k), .unset] [(.int k)])) rfl (by rw [hml]; rfl) (argsL := [(.int k)]) (rest := []) (lenOf own_pd0 rfl) rfl (by show 2 * 0 + _ ≤ _; exact Nat.le_of_eq rfl) (hb hby at_8) (fun _ _ => ⟨rfl, e0, (by decide : 0 + 0 ≤ _), (by decide : 0 + 0 ≤ _)⟩)
  dsimp only [Pt.U, Pt.locs, Pt.cells, Pt.slots] at X1 l1 y1 z1 st1 hQ1
  subst l1 y1 z1
  obtain ⟨rfl, N1q, e1⟩ := hQ1
  have N1 := Fr.app N0 N1q
  refine Goes.step st1 ?_
  show Goes _ _ _ _ _ (T1.setTop (mkF m 11 #[.val (.int x0), .val (.int k), .unset] [(.ref (own_pick k w0 w1 w2 w3 w4))]))
  have hE : Exa Z h0 (own_pick k w0 w1 w2 w3 w4) "com/example/modest_billing/modestbilling/ItemKind" := by
    unfold own_pick
    repeat' split
    all_goals assumption
  refine Goes.step (fun _ tk => XS.astoreN X1.here hx rfl (hb hby at_11) rfl rfl (l' := #[.val (.int x0), .val (.int k), .val (.ref (own_pick k w0 w1 w2 w3 w4))]) rfl tk) ?_
  show Goes _ _ _ _ _ (T1.setTop (mkF m 12 #[.val (.int x0), .val (.int k), .val (.ref (own_pick k w0 w1 w2 w3 w4))] []))
  refine Goes.step (fun _ tk => XS.aloadN X1.here hx rfl (hb hby at_12) rfl rfl tk) ?_
  show Goes _ _ _ _ _ (T1.setTop (mkF m 13 #[.val (.int x0), .val (.int k), .val (.ref (own_pick k w0 w1 w2 w3 w4))] [(.ref (own_pick k w0 w1 w2 w3 w4))]))
  obtain ⟨cq2, kq2, q2a, q2b, q2c⟩ := isOf hZ e1 hE
  obtain ⟨_, _, ⟨T2, L2, k2, n2⟩, -, X2, ⟨Lc2, hQ2, l2, y2, z2⟩, st2⟩ := X1.virtualBack hx (y := (⟨"com/example/modest_billing/modestbilling/ItemKind", "isAdjustable", "()Z"⟩ : MethodName)) (z := (⟨"com/example/modest_billing/modestbilling/ItemKind", "isAdjustable", "()Z"⟩ : MethodName)) hown (mvT hZ (hw _ (List.mem_of_getElem? (i := 8) rfl))) (mvT hZ (hw _ (List.mem_of_getElem? (i := 9) rfl))) (notFace_of_selects (args := #[]) (mvT hZ (hw _ (List.mem_of_getElem? (i := 11) rfl)))) (mvT hZ (hw _ (List.mem_of_getElem? (i := 11) rfl))) (mvT hZ (hw _ (List.mem_of_getElem? (i := 10) rfl))) (by decide) (backOf (W := 0) (rm_adj l Z a0 hw [] (own_pick k w0 w1 w2 w3 w4) w0 w1 h0 n0 Z0 S0 S1) hZ (hw _ (List.mem_of_getElem? (i := 12) rfl)) (hw _ (List.mem_of_getElem? (i := 6) rfl)) (by decide) (by decide)) q2a q2c (g := (mkF m 13 #[.val (.int x0), .val (.int k), .val (.ref (own_pick k w0 w1 w2 w3 w4))] [(.ref (own_pick k w0 w1 w2 w3 w4))])) rfl (by rw [hml]; rfl) (Steps.refl _) (argsL := []) (rest := []) (lenOf own_pd1 rfl) rfl (by show 2 * 0 + _ ≤ _; exact Nat.le_of_eq rfl) (hb hby at_13) (fun _ _ => ⟨rfl, e1, (by decide : 0 + 0 ≤ _), (by decide : 0 + 0 ≤ _)⟩)
  dsimp only [Pt.U, Pt.locs, Pt.cells, Pt.slots] at X2 l2 y2 z2 st2 hQ2
  subst l2 y2 z2
  obtain ⟨rfl, N2q, e2⟩ := hQ2
  have N2 := Fr.app N1 N2q
  refine Goes.step (fun _ tk => st2.trans tk) ?_
  show Goes _ _ _ _ _ (T2.setTop (mkF m 16 #[.val (.int x0), .val (.int k), .val (.ref (own_pick k w0 w1 w2 w3 w4))] [(.int (own_adj (own_pick k w0 w1 w2 w3 w4) w0 w1))]))
  refine Goes.step (fun _ tk => XS.iloadN X2.here hx rfl (hb hby at_16) rfl tk) ?_
  show Goes _ _ _ _ _ (T2.setTop (mkF m 17 #[.val (.int x0), .val (.int k), .val (.ref (own_pick k w0 w1 w2 w3 w4))] [(.int k), (.int (own_adj (own_pick k w0 w1 w2 w3 w4) w0 w1))]))
  obtain ⟨_, _, ⟨T3, L3, k3, n3⟩, -, X3, ⟨Lc3, hQ3, l3, y3, z3⟩, st3⟩ := Jvm.LawKit.callS X2 hx (y := (⟨"com/example/modest_billing/modestbilling/ItemKindIsAdjustablePinLaw", "expected", "(I)Z"⟩ : MethodName)) hown (mvT hZ (hw _ (List.mem_of_getElem? (i := 14) rfl))) (mvT hZ (hw _ (List.mem_of_getElem? (i := 15) rfl))) (mvT hZ (hw _ (List.mem_of_getElem? (i := 3) rfl))) (mvT hZ (hw _ (List.mem_of_getElem? (i := 16) rfl))) (by decide) (backOf (W := 1) (rm_exp l Z a0 hw [] k h0 n0 Z0) hZ (hw _ (List.mem_of_getElem? (i := 16) rfl)) (hw _ (List.mem_of_getElem? (i := 3) rfl)) (by decide) (by decide)) (g := (mkF m 17 #[.val (.int x0), .val (.int k), .val (.ref (own_pick k w0 w1 w2 w3 w4))] [(.int k), (.int (own_adj (own_pick k w0 w1 w2 w3 w4) w0 w1))])) rfl (by rw [hml]; rfl) (argsL := [(.int k)]) (rest := [(.int (own_adj (own_pick k w0 w1 w2 w3 w4) w0 w1))]) (lenOf own_pd2 rfl) rfl (by show 2 * 0 + _ ≤ _; exact Nat.le_of_eq rfl) (hb hby at_17) (fun _ _ => ⟨rfl, e2, (by decide : 0 + 0 ≤ _), (by decide : 0 + 0 ≤ _)⟩)
  dsimp only [Pt.U, Pt.locs, Pt.cells, Pt.slots] at X3 l3 y3 z3 st3 hQ3
  subst l3 y3 z3
  obtain ⟨rfl, N3q, e3⟩ := hQ3
  have N3 := Fr.app N2 N3q
  refine Goes.step st3 ?_
  show Goes _ _ _ _ _ (T3.setTop (mkF m 20 #[.val (.int x0), .val (.int k), .val (.ref (own_pick k w0 w1 w2 w3 w4))] [(.int (own_exp k)), (.int (own_adj (own_pick k w0 w1 w2 w3 w4) w0 w1))]))
  have hc20_4 : (own_adj (own_pick k w0 w1 w2 w3 w4) w0 w1) = (own_exp k) := by
    have q := own_five x0
    rw [hk] at q
    rcases q with rfl | rfl | rfl | rfl | rfl <;> simp [own_adj, own_pick, own_exp, n20, n21, n30, n31, n40, n41]
  refine Goes.step (fun _ tk => XS.icmpNo X3.here hx rfl (hb hby at_20) rfl (teq hc20_4).2 tk) ?_
  show Goes _ _ _ _ _ (T3.setTop (mkF m 23 #[.val (.int x0), .val (.int k), .val (.ref (own_pick k w0 w1 w2 w3 w4))] []))
  refine Goes.step (fun _ tk => XS.iconst X3.here hx rfl (hb hby at_23) tk) ?_
  show Goes _ _ _ _ _ (T3.setTop (mkF m 24 #[.val (.int x0), .val (.int k), .val (.ref (own_pick k w0 w1 w2 w3 w4))] [(.int (1 : Int32))]))
  refine Goes.step (fun _ tk => XS.goto X3.here hx rfl (pc0 := 24) (pc' := 28) rfl (hb hby at_24) (by decide) (by decide) tk) ?_
  show Goes _ _ _ _ _ (T3.setTop (mkF m 28 #[.val (.int x0), .val (.int k), .val (.ref (own_pick k w0 w1 w2 w3 w4))] [(.int (1 : Int32))]))
  refine Goes.ret X3 (some (.int (1 : Int32))) (fun h => by rw [Bd.returns] at h; cases h) hlk (by decide) (by decide) ?_ (fun fs hr => ?_)
  · exact ⟨rfl, N3⟩
  · exact own_retN X3 hx (t := .boolean) Bd.returns (by simp) rfl (hb hby at_28) hr
set_option maxRecDepth 65536 in
set_option maxHeartbeats 40000000 in
theorem comes_1 {Post : Tables → Env → Array Value → State → Outcome → State → Prop} (hpost : ∀ tb e args s v u, (limb_1_1.after args s (.returned v) u = true ∧ limb_1_2.after args s (.returned v) u = true ∧ True) → FrameEnd s (.returned v) u (Jvm.fieldLocs frame_1_writes args s ++ Jvm.arrayLocs frame_1_arrays args s ++ Jvm.staticLocs frame_1_statics s) 0 0 → Post tb e args s (.returned v) u) :
    ArmFor flags0 classFile x code maxLocals ret World_1 tables_1 room_1 Calls_1 rest_1 Pre_1 Post := by
  intro l hfl _ _ p e ha hc hk s m args below hf hA hF happ hP
  obtain ⟨hcalls, hrest, hpre⟩ := hP
  obtain ⟨-, -, -, hnamed, -, -, -, hat⟩ := (Spec.applies_iff hf).mp happ
  obtain ⟨hg, hn⟩ := and_e (Cond.before_iff.mp (show (Jvm.Cond.and given_1 narrow_1).before args s = true from hpre))
  obtain ⟨g0, hg0⟩ := and_e hg
  obtain ⟨w0, rfl⟩ : ∃ w0 : Value, args = #[w0] := by
    have hs : args.size = 1 := by simpa [Cond.value, given_1] using g0
    obtain ⟨L⟩ := args
    match L, hs with
    | [w0], _ => exact ⟨w0, rfl⟩
  have hw := fun d (hd : d ∈ tables_1) => atoms_spec (ws := Jvm.Cond.code x code maxLocals ret :: tables_1) hat d (List.mem_cons_of_mem _ hd)
  have hfit : Fit s := fun {y c} hc i hi => by
    obtain ⟨ha, rfl⟩ := Array.getElem?_eq_some_iff.mp hc
    have q := List.all_eq_true.mp ((Array.all_eq_true_iff_forall_mem.mp hF) _ (Array.getElem_mem ha)) i (List.mem_range.mpr hi)
    simpa [Array.getElem?_eq_getElem hi] using q
  obtain ⟨i0, ei0⟩ := is_v hg0
  obtain rfl : w0 = (.int i0) := Option.some.inj ei0
  obtain ⟨cx0, hn'⟩ := and_e hn
  obtain ⟨cx3, hn''⟩ := and_e hn'
  obtain ⟨co3, hn'''⟩ := and_e hn''
  obtain ⟨co0, hn''''⟩ := and_e hn'''
  obtain ⟨cx1, hn'''''⟩ := and_e hn''''
  obtain ⟨co1, hn''''''⟩ := and_e hn'''''
  obtain ⟨cx4, hn'''''''⟩ := and_e hn''''''
  obtain ⟨co4, hn''''''''⟩ := and_e hn'''''''
  obtain ⟨cx2, hn'''''''''⟩ := and_e hn''''''''
  have co2 := hn'''''''''
  obtain ⟨w0, ev0⟩ := exa_v cx0
  have S0 := Sta.start ev0 (Or.inr ⟨(hw _ (List.mem_of_getElem? (i := 6) rfl)), (hw _ (List.mem_of_getElem? (i := 7) rfl))⟩)
  have A0 := Exa.start ev0 cx0
  have F0 := own_ord ev0 co0
  obtain ⟨w1, ev1⟩ := exa_v cx1
  have S1 := Sta.start ev1 (Or.inr ⟨(hw _ (List.mem_of_getElem? (i := 6) rfl)), (hw _ (List.mem_of_getElem? (i := 20) rfl))⟩)
  have A1 := Exa.start ev1 cx1
  have F1 := own_ord ev1 co1
  obtain ⟨w2, ev2⟩ := exa_v cx2
  have S2 := Sta.start ev2 (Or.inr ⟨(hw _ (List.mem_of_getElem? (i := 6) rfl)), (hw _ (List.mem_of_getElem? (i := 25) rfl))⟩)
  have A2 := Exa.start ev2 cx2
  have F2 := own_ord ev2 co2
  obtain ⟨w3, ev3⟩ := exa_v cx3
  have S3 := Sta.start ev3 (Or.inr ⟨(hw _ (List.mem_of_getElem? (i := 6) rfl)), (hw _ (List.mem_of_getElem? (i := 18) rfl))⟩)
  have A3 := Exa.start ev3 cx3
  have F3 := own_ord ev3 co3
  obtain ⟨w4, ev4⟩ := exa_v cx4
  have S4 := Sta.start ev4 (Or.inr ⟨(hw _ (List.mem_of_getElem? (i := 6) rfl)), (hw _ (List.mem_of_getElem? (i := 23) rfl))⟩)
  have A4 := Exa.start ev4 cx4
  have F4 := own_ord ev4 co4
  obtain ⟨n, o, h1, h2, h3, _, L, rfl, ⟨rfl, N⟩, hq⟩ := rm_law l s _ hw tables_1 i0 w0 w1 w2 w3 w4 s.heap s.heap.size (Nat.le_refl _) S0 S1 S2 S3 S4 A0 A1 A2 A3 A4 (F2.ne F0 (by simp)) (F2.ne F1 (by simp)) (F3.ne F0 (by simp)) (F3.ne F1 (by simp)) (F4.ne F0 (by simp)) (F4.ne F1 (by simp)) p e ha hc hk s m _ below hf ((Spec.applies_iff_loose hf).mp happ).1 ⟨rfl, State.Warmed39.refl s, rfl⟩ trivial
  refine ⟨n, _, h1, h2, h3, hpost _ _ _ _ _ _ ⟨Cond.after_iff.mpr rfl, Cond.after_iff.mpr (eq_i res_at (Term.int_eval (1)) rfl), trivial⟩ ⟨hq.1, hq.2.1, (hq.2.2.sift fun y hy => Or.inr (N y hy)).mono (by decide) (by decide)⟩⟩
theorem main_1_1 : Claimed_1_1 := comes_1 fun _ _ _ _ _ _ h hF => ⟨h.1, hF⟩
theorem main_1_2 : Claimed_1_2 := comes_1 fun _ _ _ _ _ _ h hF => ⟨h.2.1, hF⟩
end Jvm.Pilot.@@N@@
namespace Jvm.Pilot.@@N@@
open Jvm Jvm.ClassFile Sem Op Lib Jvm.Free Jvm.Stand Jvm.Pilot.@@N@@.Jvm.D
/-! MADE BY PROGRAM (witnessworld.py) out of the Statement's table words and the real class files: 10 classes; the members and pool entries that the words name. The judged class is class 1, her method 3. -/
namespace start1
open Jvm.ClassFile
def u (s : String) : CpInfo := .utf8 (stringToUtf16 s)
/-- a pool by its gaps: so many unusable entries, then the entry; so many at the end -/
def gap : Nat → List CpInfo → List CpInfo
  | 0, r => r
  | n + 1, r => .unusable :: gap n r
def poolList (es : List (Nat × CpInfo)) (last : Nat) : List CpInfo := es.foldr (fun e r => gap e.1 (e.2 :: r)) (gap last [])
def pool (es : List (Nat × CpInfo)) (last : Nat) : Array CpInfo := ⟨poolList es last⟩
def fileOf (pool : Array CpInfo) (this : Nat) (attrs : Array Attribute := #[]) (ms : Array MethodInfo := #[]) (fl : Nat := 33) (sup : Nat := 0) (ifs : Array Nat := #[]) (fds : Array FieldInfo := #[]) : ClassFile where
  minorVersion := 0
  majorVersion := 65
  constantPool := pool
  accessFlags := fl
  thisClass := this
  superClass := sup
  interfaces := ifs
  fields := fds
  methods := ms
  attributes := attrs
def plain (name : String) (sup : Option ClassId) : Class where
  name := name
  kind := .ordinary
  loader := none
  accessFlags := 33
  super := sup
  interfaces := #[]
  cf := none
  fields := #[]
  methods := #[]
  instanceTypes := #[]
  staticTypes := #[]
  resolved := #[]
  callSites := []
  init := .initialized
  statics := none
  mirror := none

def pool0 : Array CpInfo := pool [(5, u "<init>"), (0, u "()V"), (1, .class_ 10), (1, u "java/lang/Object")] 113

def k0m0 : Method := { name := "<init>", desc := "()V", sig := { parameters := [], returnType := none }, accessFlags := 1, code := none }
/-- java/lang/Object -/
def k0 : Class := { plain "java/lang/Object" none with
  accessFlags := 33
  interfaces := #[]
  cf := some (fileOf pool0 8 #[] #[{ accessFlags := 1, nameIndex := 5, descriptorIndex := 6, attributes := #[] }] 33 0 #[] #[])
  fields := #[]
  methods := #[k0m0]
  instanceTypes := #[]
  staticTypes := #[]
  resolved := Array.replicate 124 none
  statics := none }

def pool1 : Array CpInfo := pool [(2, .class_ 4), (1, u "java/lang/Object"), (0, u "<init>"), (0, u "()V"), (0, .fieldref 8 9), (0, .class_ 10), (0, .nameAndType 11 12), (0, u "com/example/modest_billing/modestbilling/ItemKind"), (0, u "CHARGE"), (0, u "Lcom/example/modest_billing/modestbilling/ItemKind;"), (0, .fieldref 8 14), (0, .nameAndType 15 12), (0, u "RECURRING"), (0, .fieldref 8 17), (0, .nameAndType 18 12), (0, u "CREDIT"), (0, .fieldref 8 20), (0, .nameAndType 21 12), (0, u "CREDIT_BALANCE"), (0, .fieldref 8 23), (0, .nameAndType 24 12), (0, u "ITEM_ADJUSTMENT"), (0, .integer 2147483647), (0, .methodref 27 28), (0, .class_ 29), (0, .nameAndType 30 31), (0, u "com/example/modest_billing/modestbilling/ItemKindIsAdjustablePinLaw"), (0, u "pick"), (0, u "(I)Lcom/example/modest_billing/modestbilling/ItemKind;"), (0, .methodref 8 33), (0, .nameAndType 34 35), (0, u "isAdjustable"), (0, u "()Z"), (0, .methodref 27 37), (0, .nameAndType 38 39), (0, u "expected"), (0, u "(I)Z"), (3, u "law")] 2

def k1m0 : Method := { name := "<init>", desc := "()V", sig := { parameters := [], returnType := none }, accessFlags := 2, code := none }
def k1c1 : Code := { maxStack := 2, maxLocals := 1, code := method_2_code, exceptionTable := #[], attributes := #[] }
def k1m1 : Method := { name := "pick", desc := "(I)Lcom/example/modest_billing/modestbilling/ItemKind;", sig := { parameters := [.int], returnType := some (.object "com/example/modest_billing/modestbilling/ItemKind") }, accessFlags := 10, code := some k1c1 }
def k1c2 : Code := { maxStack := 2, maxLocals := 1, code := method_3_code, exceptionTable := #[], attributes := #[] }
def k1m2 : Method := { name := "expected", desc := "(I)Z", sig := { parameters := [.int], returnType := some .boolean }, accessFlags := 10, code := some k1c2 }
def k1c3 : Code := { maxStack := 2, maxLocals := 3, code := code, exceptionTable := #[], attributes := #[] }
def k1m3 : Method := { name := "law", desc := "(I)Z", sig := { parameters := [.int], returnType := some .boolean }, accessFlags := 9, code := some k1c3 }
/-- com/example/modest_billing/modestbilling/ItemKindIsAdjustablePinLaw -/
def k1 : Class := { plain "com/example/modest_billing/modestbilling/ItemKindIsAdjustablePinLaw" (some 0) with
  accessFlags := 49
  interfaces := #[]
  cf := some (fileOf pool1 27 #[] #[{ accessFlags := 2, nameIndex := 5, descriptorIndex := 6, attributes := #[] }, { accessFlags := 10, nameIndex := 30, descriptorIndex := 31, attributes := #[] }, { accessFlags := 10, nameIndex := 38, descriptorIndex := 39, attributes := #[] }, { accessFlags := 9, nameIndex := 43, descriptorIndex := 39, attributes := #[] }] 49 2 #[] #[])
  fields := #[]
  methods := #[k1m0, k1m1, k1m2, k1m3]
  instanceTypes := #[]
  staticTypes := #[]
  resolved := Array.replicate 46 none
  statics := none }

def pool2 : Array CpInfo := pool [(1, .class_ 2), (0, u "java/lang/constant/Constable"), (0, .class_ 4), (0, u "java/lang/Object")] 6

/-- java/lang/constant/Constable -/
def k2 : Class := { plain "java/lang/constant/Constable" (some 0) with
  accessFlags := 1537
  interfaces := #[]
  cf := some (fileOf pool2 1 #[] #[] 1537 3 #[] #[])
  fields := #[]
  methods := #[]
  instanceTypes := #[]
  staticTypes := #[]
  resolved := Array.replicate 11 none
  statics := none }

def pool3 : Array CpInfo := pool [(1, .class_ 2), (0, u "java/lang/Comparable"), (0, .class_ 4), (0, u "java/lang/Object")] 7

/-- java/lang/Comparable -/
def k3 : Class := { plain "java/lang/Comparable" (some 0) with
  accessFlags := 1537
  interfaces := #[]
  cf := some (fileOf pool3 1 #[] #[] 1537 3 #[] #[])
  fields := #[]
  methods := #[]
  instanceTypes := #[]
  staticTypes := #[]
  resolved := Array.replicate 12 none
  statics := none }

def pool4 : Array CpInfo := pool [(1, .class_ 2), (0, u "java/io/Serializable"), (0, .class_ 4), (0, u "java/lang/Object")] 2

/-- java/io/Serializable -/
def k4 : Class := { plain "java/io/Serializable" (some 0) with
  accessFlags := 1537
  interfaces := #[]
  cf := some (fileOf pool4 1 #[] #[] 1537 3 #[] #[])
  fields := #[]
  methods := #[]
  instanceTypes := #[]
  staticTypes := #[]
  resolved := Array.replicate 7 none
  statics := none }

def pool5 : Array CpInfo := pool [(2, .class_ 4), (1, u "java/lang/Enum"), (0, u "name"), (0, u "Ljava/lang/String;"), (2, u "ordinal"), (0, u "I"), (1, .class_ 14), (1, u "java/lang/Object"), (4, u "hash"), (86, .class_ 108), (1, u "java/lang/Enum$EnumDesc"), (2, .class_ 112), (0, u "java/lang/constant/Constable"), (0, .class_ 114), (0, u "java/lang/Comparable"), (0, .class_ 116), (0, u "java/io/Serializable")] 87

/-- java/lang/Enum -/
def k5 : Class := { plain "java/lang/Enum" (some 0) with
  accessFlags := 1057
  interfaces := #[2, 3, 4]
  cf := some (fileOf pool5 2 #[.nestMembers #[106]] #[] 1057 12 #[111, 113, 115] #[{ accessFlags := 18, nameIndex := 5, descriptorIndex := 6, attributes := #[] }, { accessFlags := 18, nameIndex := 9, descriptorIndex := 10, attributes := #[] }, { accessFlags := 2, nameIndex := 19, descriptorIndex := 10, attributes := #[] }])
  fields := #[{ name := "name", type := (.object "java/lang/String"), accessFlags := 18, slot := 0, constantValue := 0 }, { name := "ordinal", type := .int, accessFlags := 18, slot := 1, constantValue := 0 }, { name := "hash", type := .int, accessFlags := 2, slot := 2, constantValue := 0 }]
  methods := #[]
  instanceTypes := #[(.object "java/lang/String"), .int, .int]
  staticTypes := #[]
  resolved := Array.replicate 204 none
  statics := none }

def pool6 : Array CpInfo := pool [(1, .class_ 2), (0, u "com/example/modest_billing/modestbilling/ItemKind"), (0, .fieldref 1 4), (0, .nameAndType 5 6), (0, u "CHARGE"), (0, u "Lcom/example/modest_billing/modestbilling/ItemKind;"), (0, .fieldref 1 8), (0, .nameAndType 9 6), (0, u "RECURRING"), (2, u "CREDIT"), (2, u "CREDIT_BALANCE"), (2, u "ITEM_ADJUSTMENT"), (2, u "$VALUES"), (0, u "[Lcom/example/modest_billing/modestbilling/ItemKind;"), (6, .class_ 31), (1, u "java/lang/Enum"), (23, u "isAdjustable"), (0, u "()Z")] 5

def k6c0 : Code := { maxStack := 2, maxLocals := 1, code := prog_25_method_4_code, exceptionTable := #[], attributes := #[] }
def k6m0 : Method := { name := "isAdjustable", desc := "()Z", sig := { parameters := [], returnType := some .boolean }, accessFlags := 1, code := some k6c0 }
/-- com/example/modest_billing/modestbilling/ItemKind -/
def k6 : Class := { plain "com/example/modest_billing/modestbilling/ItemKind" (some 5) with
  accessFlags := 16433
  interfaces := #[]
  cf := some (fileOf pool6 1 #[] #[{ accessFlags := 1, nameIndex := 55, descriptorIndex := 56, attributes := #[] }] 16433 29 #[] #[{ accessFlags := 16409, nameIndex := 5, descriptorIndex := 6, attributes := #[] }, { accessFlags := 16409, nameIndex := 9, descriptorIndex := 6, attributes := #[] }, { accessFlags := 16409, nameIndex := 12, descriptorIndex := 6, attributes := #[] }, { accessFlags := 16409, nameIndex := 15, descriptorIndex := 6, attributes := #[] }, { accessFlags := 16409, nameIndex := 18, descriptorIndex := 6, attributes := #[] }, { accessFlags := 4122, nameIndex := 21, descriptorIndex := 22, attributes := #[] }])
  fields := #[{ name := "CHARGE", type := (.object "com/example/modest_billing/modestbilling/ItemKind"), accessFlags := 16409, slot := 0, constantValue := 0 }, { name := "RECURRING", type := (.object "com/example/modest_billing/modestbilling/ItemKind"), accessFlags := 16409, slot := 1, constantValue := 0 }, { name := "CREDIT", type := (.object "com/example/modest_billing/modestbilling/ItemKind"), accessFlags := 16409, slot := 2, constantValue := 0 }, { name := "CREDIT_BALANCE", type := (.object "com/example/modest_billing/modestbilling/ItemKind"), accessFlags := 16409, slot := 3, constantValue := 0 }, { name := "ITEM_ADJUSTMENT", type := (.object "com/example/modest_billing/modestbilling/ItemKind"), accessFlags := 16409, slot := 4, constantValue := 0 }, { name := "$VALUES", type := (.array (.object "com/example/modest_billing/modestbilling/ItemKind")), accessFlags := 4122, slot := 5, constantValue := 0 }]
  methods := #[k6m0]
  instanceTypes := #[(.object "java/lang/String"), .int, .int]
  staticTypes := #[(.object "com/example/modest_billing/modestbilling/ItemKind"), (.object "com/example/modest_billing/modestbilling/ItemKind"), (.object "com/example/modest_billing/modestbilling/ItemKind"), (.object "com/example/modest_billing/modestbilling/ItemKind"), (.object "com/example/modest_billing/modestbilling/ItemKind"), (.array (.object "com/example/modest_billing/modestbilling/ItemKind"))]
  resolved := Array.replicate 62 none
  statics := some 0 }

def pool7 : Array CpInfo := pool [(1, u "java/lang/Cloneable"), (0, .class_ 1), (0, u "java/lang/Object"), (0, .class_ 3)] 3

/-- java/lang/Cloneable -/
def k7 : Class := { plain "java/lang/Cloneable" (some 0) with
  accessFlags := 1537
  interfaces := #[]
  cf := some (fileOf pool7 2 #[] #[] 1537 4 #[] #[])
  fields := #[]
  methods := #[]
  instanceTypes := #[]
  staticTypes := #[]
  resolved := Array.replicate 8 none
  statics := none }

/-- the primitive byte -/
def k8 : Class := { plain "byte" none with kind := .primitive 'B', accessFlags := 0x411 }
/-- [B -/
def k9 : Class := { plain "[B" (some 0) with kind := .array 8 .byte, interfaces := #[7, 4], accessFlags := 1041 }

def heap : Heap := #[{ cls := 6, slots := #[.ref 1, .ref 2, .ref 3, .ref 4, .ref 5, .null], vm := .statics 6 },
  { cls := 6, slots := #[.null, .int 0, .int 0], vm := .none },
  { cls := 6, slots := #[.null, .int 1, .int 0], vm := .none },
  { cls := 6, slots := #[.null, .int 2, .int 0], vm := .none },
  { cls := 6, slots := #[.null, .int 3, .int 0], vm := .none },
  { cls := 6, slots := #[.null, .int 4, .int 0], vm := .none }]
def classes : Array Class := #[k0, k1, k2, k3, k4, k5, k6, k7, k8, k9]
def interned : List (Array UInt16 × Addr) := []
def slotsUsed : Nat := 21
def theMethod : MethodId := ⟨1, 3⟩
def args0 : Array Value := #[.int 5]
def aboutOver (below : List Frame) : State where
  vm := { classes := classes, interned := interned.toArray }
  heap := heap
  slotsUsed := slotsUsed
  threads := #[{ frames := .invoking theMethod args0 :: below }]
def below0 : List Frame := [.native { method := ⟨0, 0⟩, args := #[] }]
def about1 : State := aboutOver below0
def p0 : Program := .bare "" "" ""
def e0 : Env := launch0.env 0 0 0
theorem w_frames : about1.frames = Frame.invoking theMethod args0 :: below0 := rfl
set_option maxRecDepth 65536 in
theorem w_args : argsFit about1.vm theMethod args0 = true := by decide +kernel
set_option maxRecDepth 65536 in
theorem w_heap : heapFits about1 = true := by decide +kernel
set_option maxRecDepth 65536 in
theorem w_runnable : about1.curStatus? = some .runnable := by decide +kernel
set_option maxRecDepth 65536 in
theorem w_alone : about1.alone = true := by decide +kernel
set_option maxRecDepth 65536 in
theorem w_named : about1.methodNamed? x = some theMethod := by decide +kernel
set_option maxRecDepth 65536 in
theorem w_hears : about1.hears theMethod below0 = true := by decide +kernel
set_option maxRecDepth 65536 in
theorem w_ripe : about1.ripe theMethod args0 below0 = true := by decide +kernel
theorem w_running : about1.status = .running := rfl
set_option maxRecDepth 65536 in
theorem w_room : about1.hasRoom e0.platform room_1 = true :=
  launch0.hasRoom_least _ room_1 (by decide +kernel) (by decide +kernel) (by decide +kernel) (by decide +kernel) (by decide +kernel) (by decide +kernel)
theorem allAtoms_all (ts : List Jvm.Cond) (a : Array Jvm.Value) (st : Jvm.State) : (allAtoms ts).before a st = ts.all (fun c => c.before a st) := by
  induction ts with
  | nil => rfl
  | cons c t ih =>
    show (Jvm.Cond.and c (allAtoms t)).before a st = _
    rw [Jvm.Cond.before_and, ih, List.all_cons]
def words1 : List Jvm.Cond := Jvm.Cond.code x code maxLocals ret :: tables_1
/-- a 'code' word, met by the world's own term for the bytes: nothing is compared byte by byte -/
theorem code_word {y : MethodName} {bytes : ByteArray} {mx : Nat} {rt : Option FieldType} {a : Array Value} {s : State} {m : MethodId} {meth : Method} {c : Code} (h1 : s.methodNamed? y = some m) (h2 : s.vm.method? m = some meth) (h3 : meth.code = some c) (h4 : c.code = bytes)
    (h5 : (c.maxLocals == mx && c.exceptionTable.isEmpty && decide (c.maxStack ≤ mostOperands) && decide (meth.sig.returnType = rt) && !meth.locks && decide (parseMethodDescriptor y.desc = some meth.sig)) = true) : (Jvm.Cond.code y bytes mx rt).before a s = true := by
  simp only [Bool.and_eq_true, beq_iff_eq, Bool.not_eq_true', decide_eq_true_eq] at h5
  obtain ⟨⟨⟨⟨⟨g1, g2⟩, g3⟩, g4⟩, g5⟩, g6⟩ := h5
  simp [Cond.before, Cond.holds, Cond.value, h1, h2, h3, h4, g1, g2, g3, g4, g5, g6]
def isCode : Jvm.Cond → Bool
  | .code _ _ _ _ => true
  | _ => false
theorem all_split {L : List Jvm.Cond} {P : Jvm.Cond → Bool} (h1 : L.all (fun c => isCode c || P c) = true) (h2 : ∀ c ∈ L.filter isCode, P c = true) : L.all P = true := by
  refine List.all_eq_true.mpr fun c hc => ?_
  have h := List.all_eq_true.mp h1 c hc
  rcases Bool.eq_false_or_eq_true (isCode c) with hi | hi
  · exact h2 c (List.mem_filter.mpr ⟨hc, hi⟩)
  · simpa [hi] using h
set_option maxRecDepth 65536 in
theorem w_c0 : (Jvm.Cond.code x code maxLocals ret).before args0 about1 = true := code_word (m := ⟨1, 3⟩) (meth := k1m3) (c := k1c3) (by decide +kernel) rfl rfl rfl (by decide +kernel)
set_option maxRecDepth 65536 in
theorem w_c1 : (Jvm.Cond.code ({ cls := "com/example/modest_billing/modestbilling/ItemKindIsAdjustablePinLaw", name := "pick", desc := "(I)Lcom/example/modest_billing/modestbilling/ItemKind;" } : Jvm.MethodName) method_2_code (1 : Nat) (Option.some (Jvm.ClassFile.FieldType.object "com/example/modest_billing/modestbilling/ItemKind"))).before args0 about1 = true := code_word (m := ⟨1, 1⟩) (meth := k1m1) (c := k1c1) (by decide +kernel) rfl rfl rfl (by decide +kernel)
set_option maxRecDepth 65536 in
theorem w_c2 : (Jvm.Cond.code ({ cls := "com/example/modest_billing/modestbilling/ItemKind", name := "isAdjustable", desc := "()Z" } : Jvm.MethodName) prog_25_method_4_code (1 : Nat) (Option.some Jvm.ClassFile.FieldType.boolean)).before args0 about1 = true := code_word (m := ⟨6, 0⟩) (meth := k6m0) (c := k6c0) (by decide +kernel) rfl rfl rfl (by decide +kernel)
set_option maxRecDepth 65536 in
theorem w_c3 : (Jvm.Cond.code ({ cls := "com/example/modest_billing/modestbilling/ItemKindIsAdjustablePinLaw", name := "expected", desc := "(I)Z" } : Jvm.MethodName) method_3_code (1 : Nat) (Option.some Jvm.ClassFile.FieldType.boolean)).before args0 about1 = true := code_word (m := ⟨1, 2⟩) (meth := k1m2) (c := k1c2) (by decide +kernel) rfl rfl rfl (by decide +kernel)
def codes1 : List Jvm.Cond := [Jvm.Cond.code x code maxLocals ret, Jvm.Cond.code ({ cls := "com/example/modest_billing/modestbilling/ItemKindIsAdjustablePinLaw", name := "pick", desc := "(I)Lcom/example/modest_billing/modestbilling/ItemKind;" } : Jvm.MethodName) method_2_code (1 : Nat) (Option.some (Jvm.ClassFile.FieldType.object "com/example/modest_billing/modestbilling/ItemKind")), Jvm.Cond.code ({ cls := "com/example/modest_billing/modestbilling/ItemKind", name := "isAdjustable", desc := "()Z" } : Jvm.MethodName) prog_25_method_4_code (1 : Nat) (Option.some Jvm.ClassFile.FieldType.boolean), Jvm.Cond.code ({ cls := "com/example/modest_billing/modestbilling/ItemKindIsAdjustablePinLaw", name := "expected", desc := "(I)Z" } : Jvm.MethodName) method_3_code (1 : Nat) (Option.some Jvm.ClassFile.FieldType.boolean)]
set_option maxRecDepth 65536 in
theorem codes_eq : words1.filter isCode = codes1 := rfl
theorem w_codes : ∀ c ∈ words1.filter isCode, c.before args0 about1 = true := by
  rw [codes_eq]
  intro c hc
  simp only [codes1, List.mem_cons, List.not_mem_nil, or_false] at hc
  rcases hc with rfl | rfl | rfl | rfl
  · exact w_c0
  · exact w_c1
  · exact w_c2
  · exact w_c3
set_option maxRecDepth 65536 in
theorem w_t1 : (words1.take 24).all (fun c => isCode c || c.before args0 about1) = true := by decide +kernel
set_option maxRecDepth 65536 in
theorem w_t2 : (words1.drop 24).all (fun c => isCode c || c.before args0 about1) = true := by decide +kernel
theorem w_tables : (allAtoms (Jvm.Cond.code x code maxLocals ret :: tables_1)).before args0 about1 = true := by
  rw [allAtoms_all]
  show words1.all (fun c => c.before args0 about1) = true
  refine all_split ?_ w_codes
  rw [← List.take_append_drop 24 words1, List.all_append, w_t1, w_t2]
  rfl
set_option maxRecDepth 65536 in
theorem w_case : (Jvm.Cond.and given_1 narrow_1).before args0 about1 = true := by decide +kernel
theorem w_applies : (headSpec (Jvm.Cond.code x code maxLocals ret :: tables_1) room_1).applies x e0.platform about1 = true :=
  (Spec.applies_iff w_frames).mpr ⟨w_running, w_runnable, w_alone, w_named, w_hears, w_ripe, w_room, w_tables⟩
theorem atStart : AtStart classFile x code maxLocals ret World_1 tables_1 room_1 Calls_1 rest_1 Pre_1 launch0 p0 e0 about1 theMethod args0 below0 :=
  ⟨lists_1, trivial, launch0.admits_env _ _ _, launch0.least_env, fairChoices_fair.cas, fairChoices_fair.clock, w_frames, w_args, w_heap, w_applies, trivial, trivial, w_case⟩
end start1
theorem witness_1 : WitnessClaimed_1 := ⟨start1.p0, start1.e0, start1.about1, start1.theMethod, start1.args0, start1.below0, start1.atStart⟩
end Jvm.Pilot.@@N@@
