import JvmDerived
import JvmDerived.Pilot.@@N@@Statement
import JvmDerived.Pilot.@@N@@Code
set_option linter.unusedVariables false
set_option linter.unusedSimpArgs false
namespace Jvm.Pilot.@@N@@
open Jvm Jvm.ClassFile Sem Op Lib Jvm.Free Jvm.Stand Jvm.LawKit Jvm.RoadKit Bundle Jvm.Pilot.@@N@@.Jvm.D
section Own
variable {p : Program} {l : Launch} {e : Env} {R : Room} {s : State} {m : MethodId} {args : Array Value} {below : List Frame} {meth : Method} {c : Code} {T : State} {locs : List Loc} {cells slots : Nat}
/-- the run from A ends, returns what Q says, and has made and written no more than told -/
def Dn (p : Program) (e : Env) (below : List Frame) (s : State) (Q : Option Value → Heap → List Loc → Prop) (rc rs : Nat) (A : State) : Prop :=
  ∃ s₂ o, Steps p.tables e below A s₂ ∧ s₂.status = .running ∧ Ended s₂ below o ∧ ∃ v L, o = .returned v ∧ Q v s₂.heap L ∧ FrameEnd s o s₂ L rc rs
theorem Dn.st {Q : Option Value → Heap → List Loc → Prop} {rc rs : Nat} {A B : State} (h : ∀ t, Steps p.tables e below B t → Steps p.tables e below A t) (k : Dn p e below s Q rc rs B) : Dn p e below s Q rc rs A := by
  obtain ⟨s2, o, h1, h2⟩ := k; exact ⟨s2, o, h _ h1, h2⟩
theorem Dn.tr {Q : Option Value → Heap → List Loc → Prop} {rc rs : Nat} {A B : State} (h : Steps p.tables e below A B) (k : Dn p e below s Q rc rs B) : Dn p e below s Q rc rs A := by
  obtain ⟨s2, o, h1, h2⟩ := k; exact ⟨s2, o, h.trans h1, h2⟩
theorem Dn.ret (X : Stand p l e R s m args below meth c T locs cells slots) (hlk : meth.locks = false) (hx : p.tables.exec = Jvm.exec) {pc : Nat} {Ls : Array Slot} {w : Value} {t : FieldType} {i : Instr} {rest : List Value} (hret : meth.sig.returnType = some t) (hn : narrow t w = w)
    (hi : (i = .ireturn ∧ (t = .int ∨ t = .boolean ∨ t = .byte ∨ t = .char ∨ t = .short) ∧ ∃ z, w = .int z) ∨ (i = .lreturn ∧ t = .long ∧ ∃ z, w = .long z) ∨ (i = .dreturn ∧ t = .double ∧ ∃ z, w = .double z) ∨ (i = .freturn ∧ t = .float ∧ ∃ z, w = .float z) ∨ (i = .areturn ∧ t.isReference = true ∧ w.isRef = true))
    (hd : decode c.code pc = .ok (i, 1)) {Q : Option Value → Heap → List Loc → Prop} {rc rs : Nat} (hq : Q (some w) T.heap locs) (hc : cells ≤ rc) (hs : slots ≤ rs) : Dn p e below s Q rc rs (T.setTop (mkF m pc Ls (w :: rest))) := by
  obtain ⟨fs, hr, hrun, hended, hW, hsame⟩ := X.leave (v := some w) (fun h => by rw [hret] at h; cases h) hlk
  exact ⟨_, _, retOut X hx hret hn hi hd hr, hrun, hended, _, _, rfl, hq, ⟨_, rfl⟩, hW, hsame.mono hc hs⟩
theorem Dn.ret0 (X : Stand p l e R s m args below meth c T locs cells slots) (hlk : meth.locks = false) (hx : p.tables.exec = Jvm.exec) {pc : Nat} {Ls : Array Slot} (hret : meth.sig.returnType = none)
    (hd : decode c.code pc = .ok (.return_, 1)) {Q : Option Value → Heap → List Loc → Prop} {rc rs : Nat} (hq : Q none T.heap locs) (hc : cells ≤ rc) (hs : slots ≤ rs) : Dn p e below s Q rc rs (T.setTop (mkF m pc Ls [])) := by
  obtain ⟨fs, hr, hrun, hended, hW, hsame⟩ := X.leave (v := none) (fun _ => rfl) hlk
  exact ⟨_, _, X.returnOut hx hret hd hr, hrun, hended, _, _, rfl, hq, ⟨_, rfl⟩, hW, hsame.mono hc hs⟩
theorem own_iincW {tb : Tables} [Ours tb] {target : State} {g : JFrame} (h : At T m c below) (hx : tb.exec = Jvm.exec) (hg : g.method = m) {k : Nat} {cst : Int} {x : Int32} {l' : Array Slot} (hd : decode c.code g.pc = .ok (.iinc k cst, 6)) (hl : g.locals[k]? = some (.val (.int x))) (hl' : storeLocals g.locals k (.int (x + Int32.ofInt cst)) = some l')
    (hr : Steps tb e below (T.setTop { g with pc := g.pc + 6, locals := l' }) target) : Steps tb e below (T.setTop g) target := by
  subst hg
  jvm_step h [h.top, hx, hd, hl, hl']
  exact hr
theorem own_dremS {tb : Tables} [Ours tb] {target : State} {g : JFrame} (h : At T m c below) (hx : tb.exec = Jvm.exec) (hg : g.method = m) {x y v : UInt64} {rest : List Value} (hd : decode c.code g.pc = .ok (.drem, 1)) (hs : g.stack = .double y :: .double x :: rest) (hn : Jvm.Free.Fl.NoNaN64 (FP.drem x y)) (hv : FP.drem x y = v)
    (hr : Steps tb e below (T.setTop { g with pc := g.pc + 1, stack := .double v :: rest }) target) : Steps tb e below (T.setTop g) target := by
  subst hg; subst hv
  obtain ⟨gm, gp, gl, gs, gk, ge, gr⟩ := g
  simp only at hs hd
  subst hs
  jvm_step h [h.top, hx, hd, Op.drem.at_number h.top hn]
  exact hr
end Own
theorem d1_0 : decode prog_40_method_6_code 0 = .ok (.aload_n 0, 1) := by decide +kernel
theorem d1_1 : decode prog_40_method_6_code 1 = .ok (.getstatic 7, 3) := by decide +kernel
theorem d1_4 : decode prog_40_method_6_code 4 = .ok (.if_acmp .ne 8, 3) := by decide +kernel
theorem d1_12 : decode prog_40_method_6_code 12 = .ok (.aload_n 0, 1) := by decide +kernel
theorem d1_13 : decode prog_40_method_6_code 13 = .ok (.getfield 40, 3) := by decide +kernel
theorem d1_16 : decode prog_40_method_6_code 16 = .ok (.iconst 2, 1) := by decide +kernel
theorem d1_17 : decode prog_40_method_6_code 17 = .ok (.iadd, 1) := by decide +kernel
theorem d1_18 : decode prog_40_method_6_code 18 = .ok (.i2d, 1) := by decide +kernel
theorem d1_19 : decode prog_40_method_6_code 19 = .ok (.dstore_n 1, 1) := by decide +kernel
theorem d1_20 : decode prog_40_method_6_code 20 = .ok (.dload_n 1, 1) := by decide +kernel
theorem d1_21 : decode prog_40_method_6_code 21 = .ok (.dreturn, 1) := by decide +kernel
theorem pn0 : plainName "com/example/honest_ruler/honestruler/metric/GradientOperator" = true := by first | (simp [plainName, overriddenIn]; done) | decide +kernel
theorem ef1_rm1 (m : MethodId) (x0 : Addr) : entryFrame m #[(.ref x0)] 3 = mkF m 0 #[.val (.ref x0), .unset, .unset] [] := by first | (simp [entryFrame, mkF, argsToLocals, Value.category]; done) | rfl
def Q1 (Z : State) (a : Addr) (aR : Addr) (cc : Int32) (h0 : Heap) (n0 : Nat) (v : Option Value) (h : Heap) (L : List Loc) : Prop := v = some (.double (FP.i2d (cc + (2 : Int32)))) ∧ Fr n0 L ∧ h = h0
set_option maxRecDepth 65536 in
set_option maxHeartbeats 40000000 in
theorem rm1 (l : Launch) (Z : State) (a0 : Array Value) (hw : ∀ d ∈ tables_1, d.before a0 Z = true) (ws : List Jvm.Cond) (a : Addr) (aR : Addr) (cc : Int32) (h0 : Heap) (n0 : Nat) (Z0 : n0 ≤ h0.size) (S_ROBERTS : Sta Z h0 "com/example/honest_ruler/honestruler/metric/GradientOperator" "ROBERTS" "Lcom/example/honest_ruler/honestruler/metric/GradientOperator;" (.ref aR)) (hne : a ≠ aR) (F_c : Fld Z h0 a "com/example/honest_ruler/honestruler/metric/GradientOperator" "centre" "I" (.int cc)) :
    MetFree l (⟨"com/example/honest_ruler/honestruler/metric/GradientOperator", "divisor", "()D"⟩ : MethodName) (head1 (Jvm.Cond.code (⟨"com/example/honest_ruler/honestruler/metric/GradientOperator", "divisor", "()D"⟩ : MethodName) prog_40_method_6_code 3 (some .double) :: ws) ({ frames := 0, cells := 0, slots := 0, locals := 0 } : Room)) (fun aa UU => aa = #[(.ref a)] ∧ Z.Warmed39 UU.vm ∧ UU.heap = h0) (fun _ _ _ _ _ => True) (fun _ UU oo UU' => ∃ vv LL, oo = .returned vv ∧ Q1 Z a aR cc h0 n0 vv UU'.heap LL ∧ FrameEnd UU oo UU' LL ({ frames := 0, cells := 0, slots := 0, locals := 0 } : Room).cells ({ frames := 0, cells := 0, slots := 0, locals := 0 } : Room).slots) := by
  refine MetFree.of_bodySF (plainFor_of_name pn0) hisR ?_
  intro p e s m args below meth c s₁ Bd hml0 hP hK
  obtain ⟨rfl, hZ, hh⟩ := hP
  have hx := Bd.exec
  have hby := Bd.bytes
  have hlk : meth.locks = false := BodyLoose.notSynchronized Bd
  have hret := Bd.returns
  have hml : c.maxLocals = 3 := hml0
  have hown : s.vm.findClass "com/example/honest_ruler/honestruler/metric/GradientOperator" = some m.cls := findClass_of_methodNamed Bd.named
  have hnm := (name_of_methodNamed Bd.named Bd.method).1
  have X0 : Stand p l e ({ frames := 0, cells := 0, slots := 0, locals := 0 } : Room) s m #[(.ref a)] below meth c s₁ [] 0 0 := Stand.of_body Bd
  have e0 : s₁.heap = h0 := by rw [← hh, Bd.state]; rfl
  have N0 := Fr.nil n0
  show Dn p e below s (Q1 Z a aR cc h0 n0) ({ frames := 0, cells := 0, slots := 0, locals := 0 } : Room).cells ({ frames := 0, cells := 0, slots := 0, locals := 0 } : Room).slots (s₁.setTop (entryFrame m #[(.ref a)] 3))
  refine Dn.st (fun _ kk => castTop (ef1_rm1 m a) kk) ?_
  show Dn p e below s _ _ _ (s₁.setTop (mkF m 0 #[.val (.ref a), .unset, .unset] []))
  refine Dn.st (fun _ kk => XS.aloadN X0.here hx rfl (hb hby d1_0) rfl rfl (kk)) ?_
  show Dn p e below s _ _ _ (s₁.setTop (mkF m 1 #[.val (.ref a), .unset, .unset] [(.ref a)]))
  obtain ⟨T1, X1, e1, st1⟩ := getS2 X0 hx hZ hown (host := "") (Or.inl (hw _ (List.mem_of_getElem? (i := 10) rfl))) Via.refl e0 S_ROBERTS (g := (mkF m 1 #[.val (.ref a), .unset, .unset] [(.ref a)])) rfl (hb hby d1_1)
  refine Dn.st st1 ?_
  show Dn p e below s _ _ _ (T1.setTop (mkF m 4 #[.val (.ref a), .unset, .unset] [(.ref aR), (.ref a)]))
  refine Dn.st (fun _ kk => Jvm.RoadKit.acmp (g := (mkF m 4 #[.val (.ref a), .unset, .unset] [(.ref aR), (.ref a)])) X1 hx rfl rfl rfl (pc0 := 4) (pc' := 12) (same := false) rfl (hb hby d1_4) rfl (decide_eq_false fun q => hne (Value.ref.inj q)) (by decide) (by decide) (XS.aloadN X1.here hx rfl (hb hby d1_12) rfl rfl (kk))) ?_
  show Dn p e below s _ _ _ (T1.setTop (mkF m 13 #[.val (.ref a), .unset, .unset] [(.ref a)]))
  obtain ⟨T13, X13, e13, st13⟩ := getF X1 hx hZ hown (host := "") (Or.inl (hw _ (List.mem_of_getElem? (i := 12) rfl))) Via.refl e1 F_c (g := (mkF m 13 #[.val (.ref a), .unset, .unset] [(.ref a)])) rfl rfl (hb hby d1_13)
  refine Dn.st st13 ?_
  show Dn p e below s _ _ _ (T13.setTop (mkF m 16 #[.val (.ref a), .unset, .unset] [(.int cc)]))
  refine Dn.st (fun _ kk => XS.iconst X13.here hx rfl (hb hby d1_16) (XS.iadd X13.here hx rfl (hb hby d1_17) rfl (XS.i2dS X13.here hx rfl (hb hby d1_18) rfl rfl (XS.dstoreN X13.here hx rfl (hb hby d1_19) rfl (l' := #[.val (.ref a), .val (.double (FP.i2d (cc + (2 : Int32)))), .second]) rfl (XS.dloadN X13.here hx rfl (hb hby d1_20) rfl  (kk)))))) ?_
  show Dn p e below s _ _ _ (T13.setTop (mkF m 21 #[.val (.ref a), .val (.double (FP.i2d (cc + (2 : Int32)))), .second] [(.double (FP.i2d (cc + (2 : Int32))))]))
  exact Dn.ret X13 hlk hx hret rfl (Or.inr (Or.inr (Or.inl ⟨rfl, rfl, _, rfl⟩))) (hb hby d1_21) (by rw [e13]; exact ⟨rfl, N0, rfl⟩) (by decide) (by decide)

theorem d1_7 : decode prog_40_method_6_code 7 = .ok (.dconst 1, 1) := by decide +kernel
theorem d1_8 : decode prog_40_method_6_code 8 = .ok (.dstore_n 1, 1) := by decide +kernel
theorem d1_9 : decode prog_40_method_6_code 9 = .ok (.goto 11, 3) := by decide +kernel
theorem ef1_rm1R (m : MethodId) (x0 : Addr) : entryFrame m #[(.ref x0)] 3 = mkF m 0 #[.val (.ref x0), .unset, .unset] [] := by first | (simp [entryFrame, mkF, argsToLocals, Value.category]; done) | rfl
def Q1R (Z : State) (a : Addr) (h0 : Heap) (n0 : Nat) (v : Option Value) (h : Heap) (L : List Loc) : Prop := v = some (.double FP.dconst1) ∧ Fr n0 L ∧ h = h0
set_option maxRecDepth 65536 in
set_option maxHeartbeats 40000000 in
theorem rm1R (l : Launch) (Z : State) (a0 : Array Value) (hw : ∀ d ∈ tables_1, d.before a0 Z = true) (ws : List Jvm.Cond) (a : Addr) (h0 : Heap) (n0 : Nat) (Z0 : n0 ≤ h0.size) (S_ROBERTS : Sta Z h0 "com/example/honest_ruler/honestruler/metric/GradientOperator" "ROBERTS" "Lcom/example/honest_ruler/honestruler/metric/GradientOperator;" (.ref a)) :
    MetFree l (⟨"com/example/honest_ruler/honestruler/metric/GradientOperator", "divisor", "()D"⟩ : MethodName) (head1 (Jvm.Cond.code (⟨"com/example/honest_ruler/honestruler/metric/GradientOperator", "divisor", "()D"⟩ : MethodName) prog_40_method_6_code 3 (some .double) :: ws) ({ frames := 0, cells := 0, slots := 0, locals := 0 } : Room)) (fun aa UU => aa = #[(.ref a)] ∧ Z.Warmed39 UU.vm ∧ UU.heap = h0) (fun _ _ _ _ _ => True) (fun _ UU oo UU' => ∃ vv LL, oo = .returned vv ∧ Q1R Z a h0 n0 vv UU'.heap LL ∧ FrameEnd UU oo UU' LL ({ frames := 0, cells := 0, slots := 0, locals := 0 } : Room).cells ({ frames := 0, cells := 0, slots := 0, locals := 0 } : Room).slots) := by
  refine MetFree.of_bodySF (plainFor_of_name pn0) hisR ?_
  intro p e s m args below meth c s₁ Bd hml0 hP hK
  obtain ⟨rfl, hZ, hh⟩ := hP
  have hx := Bd.exec
  have hby := Bd.bytes
  have hlk : meth.locks = false := BodyLoose.notSynchronized Bd
  have hret := Bd.returns
  have hml : c.maxLocals = 3 := hml0
  have hown : s.vm.findClass "com/example/honest_ruler/honestruler/metric/GradientOperator" = some m.cls := findClass_of_methodNamed Bd.named
  have hnm := (name_of_methodNamed Bd.named Bd.method).1
  have X0 : Stand p l e ({ frames := 0, cells := 0, slots := 0, locals := 0 } : Room) s m #[(.ref a)] below meth c s₁ [] 0 0 := Stand.of_body Bd
  have e0 : s₁.heap = h0 := by rw [← hh, Bd.state]; rfl
  have N0 := Fr.nil n0
  show Dn p e below s (Q1R Z a h0 n0) ({ frames := 0, cells := 0, slots := 0, locals := 0 } : Room).cells ({ frames := 0, cells := 0, slots := 0, locals := 0 } : Room).slots (s₁.setTop (entryFrame m #[(.ref a)] 3))
  refine Dn.st (fun _ kk => castTop (ef1_rm1R m a) kk) ?_
  show Dn p e below s _ _ _ (s₁.setTop (mkF m 0 #[.val (.ref a), .unset, .unset] []))
  refine Dn.st (fun _ kk => XS.aloadN X0.here hx rfl (hb hby d1_0) rfl rfl (kk)) ?_
  show Dn p e below s _ _ _ (s₁.setTop (mkF m 1 #[.val (.ref a), .unset, .unset] [(.ref a)]))
  obtain ⟨T1, X1, e1, st1⟩ := getS2 X0 hx hZ hown (host := "") (Or.inl (hw _ (List.mem_of_getElem? (i := 10) rfl))) Via.refl e0 S_ROBERTS (g := (mkF m 1 #[.val (.ref a), .unset, .unset] [(.ref a)])) rfl (hb hby d1_1)
  refine Dn.st st1 ?_
  show Dn p e below s _ _ _ (T1.setTop (mkF m 4 #[.val (.ref a), .unset, .unset] [(.ref a), (.ref a)]))
  refine Dn.st (fun _ kk => Jvm.RoadKit.acmp (g := (mkF m 4 #[.val (.ref a), .unset, .unset] [(.ref a), (.ref a)])) X1 hx rfl rfl rfl (pc0 := 4) (pc' := 7) (same := true) rfl (hb hby d1_4) rfl (decide_eq_true rfl) (by decide) (by decide) (XS.dconst1 X1.here hx rfl (hb hby d1_7) rfl (XS.dstoreN X1.here hx rfl (hb hby d1_8) rfl (l' := #[.val (.ref a), .val (.double FP.dconst1), .second]) rfl (XS.goto X1.here hx rfl (pc0 := 9) (pc' := 20) rfl (hb hby d1_9) (by decide) (by decide) (XS.dloadN X1.here hx rfl (hb hby d1_20) rfl  (kk)))))) ?_
  show Dn p e below s _ _ _ (T1.setTop (mkF m 21 #[.val (.ref a), .val (.double FP.dconst1), .second] [(.double FP.dconst1)]))
  exact Dn.ret X1 hlk hx hret rfl (Or.inr (Or.inr (Or.inl ⟨rfl, rfl, _, rfl⟩))) (hb hby d1_21) (by rw [e1]; exact ⟨rfl, N0, rfl⟩) (by decide) (by decide)

theorem pd0 : parseMethodDescriptor "()D" = some ⟨[], some .double⟩ := by decide +kernel
theorem pn1 : plainName "com/example/honest_ruler/honestruler/metric/GradientOperatorDivisorPinLaw" = true := by first | (simp [plainName, overriddenIn]; done) | decide +kernel
theorem ef0_rm0 (m : MethodId) (x0 : Int32) : entryFrame m #[(.int x0)] maxLocals = mkF m 0 #[.val (.int x0), .unset, .unset, .unset, .unset, .unset, .unset] [] := by first | (simp [entryFrame, mkF, argsToLocals, Value.category, maxLocals]; done) | rfl
def Q0 (Z : State) (p0 : Int32) (aP aR aS : Addr) (h0 : Heap) (n0 : Nat) (v : Option Value) (h : Heap) (L : List Loc) : Prop := v = some (.int 1) ∧ Fr n0 L
set_option maxRecDepth 65536 in
set_option maxHeartbeats 40000000 in
theorem rm0 (l : Launch) (Z : State) (a0 : Array Value) (hw : ∀ d ∈ tables_1, d.before a0 Z = true) (ws : List Jvm.Cond) (p0 : Int32) (aP aR aS : Addr) (h0 : Heap) (n0 : Nat) (Z0 : n0 ≤ h0.size) (S_PREWITT : Sta Z h0 "com/example/honest_ruler/honestruler/metric/GradientOperator" "PREWITT" "Lcom/example/honest_ruler/honestruler/metric/GradientOperator;" (.ref aP)) (S_ROBERTS : Sta Z h0 "com/example/honest_ruler/honestruler/metric/GradientOperator" "ROBERTS" "Lcom/example/honest_ruler/honestruler/metric/GradientOperator;" (.ref aR)) (S_SOBEL : Sta Z h0 "com/example/honest_ruler/honestruler/metric/GradientOperator" "SOBEL" "Lcom/example/honest_ruler/honestruler/metric/GradientOperator;" (.ref aS)) (E_aP : Exa Z h0 aP "com/example/honest_ruler/honestruler/metric/GradientOperator") (E_aR : Exa Z h0 aR "com/example/honest_ruler/honestruler/metric/GradientOperator") (E_aS : Exa Z h0 aS "com/example/honest_ruler/honestruler/metric/GradientOperator") (F_aP : Fld Z h0 aP "com/example/honest_ruler/honestruler/metric/GradientOperator" "centre" "I" (.int 1)) (F_aS : Fld Z h0 aS "com/example/honest_ruler/honestruler/metric/GradientOperator" "centre" "I" (.int 2)) (ne_aP : aP ≠ aR) (ne_aS : aS ≠ aR) :
    MetFree l x (head1 (Jvm.Cond.code x code maxLocals ret :: ws) room_1) (fun aa UU => aa = #[(.int p0)] ∧ Z.Warmed39 UU.vm ∧ UU.heap = h0) (fun _ _ _ _ _ => True) (fun _ UU oo UU' => ∃ vv LL, oo = .returned vv ∧ Q0 Z p0 aP aR aS h0 n0 vv UU'.heap LL ∧ FrameEnd UU oo UU' LL 0 0) := by
  refine MetFree.of_bodySF (plainFor_of_name pn1) hisR ?_
  intro p e s m args below meth c s₁ Bd hml0 hP hK
  obtain ⟨rfl, hZ, hh⟩ := hP
  have hx := Bd.exec
  have hby := Bd.bytes
  have hlk : meth.locks = false := BodyLoose.notSynchronized Bd
  have hret := Bd.returns
  have hml : c.maxLocals = 7 := hml0
  have hown : s.vm.findClass "com/example/honest_ruler/honestruler/metric/GradientOperatorDivisorPinLaw" = some m.cls := findClass_of_methodNamed Bd.named
  have hnm := (name_of_methodNamed Bd.named Bd.method).1
  have X0 : Stand p l e room_1 s m #[(.int p0)] below meth c s₁ [] 0 0 := Stand.of_body Bd
  have e0 : s₁.heap = h0 := by rw [← hh, Bd.state]; rfl
  have N0 := Fr.nil n0
  show Dn p e below s (Q0 Z p0 aP aR aS h0 n0) 0 0 (s₁.setTop (entryFrame m #[(.int p0)] maxLocals))
  refine Dn.st (fun _ kk => castTop (ef0_rm0 m p0) kk) ?_
  show Dn p e below s _ _ _ (s₁.setTop (mkF m 0 #[.val (.int p0), .unset, .unset, .unset, .unset, .unset, .unset] []))
  refine Dn.st (fun _ kk => XS.iloadN X0.here hx rfl (hb hby at_0) rfl  (X0.ldcInt hx hown (mvT hZ (hw _ (List.mem_of_getElem? (i := 0) rfl))) (g := (mkF m 1 #[.val (.int p0), .unset, .unset, .unset, .unset, .unset, .unset] [(.int p0)])) rfl (hb hby at_1) _ (XS.iand X0.here hx rfl (hb hby at_3) rfl (XS.iconst X0.here hx rfl (hb hby at_4) (iremM X0 hx rfl (hb hby at_5) rfl (by decide) (XS.istoreN X0.here hx rfl (hb hby at_6) rfl (l' := #[.val (.int p0), .val (.int ((p0 &&& (2147483647 : Int32)) % (3 : Int32))), .unset, .unset, .unset, .unset, .unset]) rfl (kk))))))) ?_
  show Dn p e below s _ _ _ (s₁.setTop (mkF m 7 #[.val (.int p0), .val (.int ((p0 &&& (2147483647 : Int32)) % (3 : Int32))), .unset, .unset, .unset, .unset, .unset] []))
  refine Dn.st (fun _ kk => XS.iloadN X0.here hx rfl (hb hby at_7) rfl  (kk)) ?_
  show Dn p e below s _ _ _ (s₁.setTop (mkF m 8 #[.val (.int p0), .val (.int ((p0 &&& (2147483647 : Int32)) % (3 : Int32))), .unset, .unset, .unset, .unset, .unset] [(.int ((p0 &&& (2147483647 : Int32)) % (3 : Int32)))]))
  by_cases hc8 : ((p0 &&& (2147483647 : Int32)) % (3 : Int32)) = (0 : Int32)
  · refine Dn.st (fun _ kk => XS.ifNo X0.here hx rfl (hb hby at_8) rfl ((if0 _ _).trans (teq hc8).2) (kk)) ?_
    show Dn p e below s _ _ _ (s₁.setTop (mkF m 11 #[.val (.int p0), .val (.int ((p0 &&& (2147483647 : Int32)) % (3 : Int32))), .unset, .unset, .unset, .unset, .unset] []))
    obtain ⟨T11, X11, e11, st11⟩ := getS2 X0 hx hZ hown (host := "") (Or.inl (hw _ (List.mem_of_getElem? (i := 1) rfl))) Via.refl e0 S_PREWITT (g := (mkF m 11 #[.val (.int p0), .val (.int ((p0 &&& (2147483647 : Int32)) % (3 : Int32))), .unset, .unset, .unset, .unset, .unset] [])) rfl (hb hby at_11)
    refine Dn.st st11 ?_
    show Dn p e below s _ _ _ (T11.setTop (mkF m 14 #[.val (.int p0), .val (.int ((p0 &&& (2147483647 : Int32)) % (3 : Int32))), .unset, .unset, .unset, .unset, .unset] [(.ref aP)]))
    refine Dn.st (fun _ kk => XS.astoreN X11.here hx rfl (hb hby at_14) rfl rfl (l' := #[.val (.int p0), .val (.int ((p0 &&& (2147483647 : Int32)) % (3 : Int32))), .val (.ref aP), .unset, .unset, .unset, .unset]) rfl (X11.ldc2DoubleC hx hown (mvT hZ (hw _ (List.mem_of_getElem? (i := 4) rfl))) (g := (mkF m 15 #[.val (.int p0), .val (.int ((p0 &&& (2147483647 : Int32)) % (3 : Int32))), .val (.ref aP), .unset, .unset, .unset, .unset] [])) rfl (hb hby at_15) _ (XS.dstoreN X11.here hx rfl (hb hby at_18) rfl (l' := #[.val (.int p0), .val (.int ((p0 &&& (2147483647 : Int32)) % (3 : Int32))), .val (.ref aP), .val (.double (4613937818241073152 : UInt64)), .second, .unset, .unset]) rfl (XS.goto X11.here hx rfl (pc0 := 19) (pc' := 44) rfl (hb hby at_19) (by decide) (by decide) (XS.aloadN X11.here hx rfl (hb hby at_44) rfl rfl (kk)))))) ?_
    show Dn p e below s _ _ _ (T11.setTop (mkF m 45 #[.val (.int p0), .val (.int ((p0 &&& (2147483647 : Int32)) % (3 : Int32))), .val (.ref aP), .val (.double (4613937818241073152 : UInt64)), .second, .unset, .unset] [(.ref aP)]))
    obtain ⟨cq45, kq45, q45a, q45b, q45c⟩ := isOf hZ e11 E_aP
    obtain ⟨_, _, ⟨T45, L45, k45, n45⟩, -, X45, ⟨Lc45, hQ45, l45, y45, z45⟩, st45⟩ := X11.virtualBack hx (y := (⟨"com/example/honest_ruler/honestruler/metric/GradientOperator", "divisor", "()D"⟩ : MethodName)) (z := (⟨"com/example/honest_ruler/honestruler/metric/GradientOperator", "divisor", "()D"⟩ : MethodName)) hown (mvT hZ (hw _ (List.mem_of_getElem? (i := 5) rfl))) (mvT hZ (hw _ (List.mem_of_getElem? (i := 6) rfl))) (notFace_of_selects (args := #[]) (mvT hZ (hw _ (List.mem_of_getElem? (i := 8) rfl)))) (mvT hZ (hw _ (List.mem_of_getElem? (i := 8) rfl))) (mvT hZ (hw _ (List.mem_of_getElem? (i := 7) rfl))) (by decide) (backOf (W := 0) (rm1 l Z a0 hw [] aP aR 1 h0 n0 Z0 S_ROBERTS ne_aP F_aP) hZ (hw _ (List.mem_of_getElem? (i := 9) rfl)) (hw _ (List.mem_of_getElem? (i := 2) rfl)) (by decide) (by decide)) q45a q45c (g := (mkF m 45 #[.val (.int p0), .val (.int ((p0 &&& (2147483647 : Int32)) % (3 : Int32))), .val (.ref aP), .val (.double (4613937818241073152 : UInt64)), .second, .unset, .unset] [(.ref aP)])) rfl (by rw [hml]; rfl) (Steps.refl _) (argsL := []) (rest := []) (lenOf pd0 rfl) rfl (by show 2 * 0 + _ ≤ _; exact Nat.le_of_eq rfl) (hb hby at_45) (fun _ _ => ⟨rfl, e11, (by decide : 0 + 0 ≤ _), (by decide : 0 + 0 ≤ _)⟩)
    dsimp only [Pt.U, Pt.locs, Pt.cells, Pt.slots] at X45 l45 y45 z45 st45 hQ45
    subst l45 y45 z45
    obtain ⟨rfl, Nq45, hh45⟩ := hQ45
    have N45 := Fr.app N0 Nq45
    refine Dn.tr st45 ?_
    show Dn p e below s _ _ _ (T45.setTop (mkF m 48 #[.val (.int p0), .val (.int ((p0 &&& (2147483647 : Int32)) % (3 : Int32))), .val (.ref aP), .val (.double (4613937818241073152 : UInt64)), .second, .unset, .unset] [(.double (FP.i2d (1 + (2 : Int32))))]))
    refine Dn.st (fun _ kk => XS.dstore X45.here hx rfl (hb hby at_48) rfl (l' := #[.val (.int p0), .val (.int ((p0 &&& (2147483647 : Int32)) % (3 : Int32))), .val (.ref aP), .val (.double (4613937818241073152 : UInt64)), .second, .val (.double (FP.i2d (1 + (2 : Int32)))), .second]) rfl (XS.dload X45.here hx rfl (hb hby at_50) rfl  (XS.dloadN X45.here hx rfl (hb hby at_52) rfl  (XS.dcmpS X45.here hx rfl (hb hby at_53) rfl (show cmpValue (FP.dcmp (FP.i2d (1 + (2 : Int32))) (4613937818241073152 : UInt64)) .l = (0 : Int32) from (by decide +kernel)) (kk))))) ?_
    show Dn p e below s _ _ _ (T45.setTop (mkF m 54 #[.val (.int p0), .val (.int ((p0 &&& (2147483647 : Int32)) % (3 : Int32))), .val (.ref aP), .val (.double (4613937818241073152 : UInt64)), .second, .val (.double (FP.i2d (1 + (2 : Int32)))), .second] [(.int (0 : Int32))]))
    have hc54 : (0 : Int32) = (0 : Int32) := by decide
    refine Dn.st (fun _ kk => XS.ifNo X45.here hx rfl (hb hby at_54) rfl ((if0 _ _).trans (teq hc54).2) (XS.iconst X45.here hx rfl (hb hby at_57) (XS.goto X45.here hx rfl (pc0 := 58) (pc' := 62) rfl (hb hby at_58) (by decide) (by decide) (kk)))) ?_
    show Dn p e below s _ _ _ (T45.setTop (mkF m 62 #[.val (.int p0), .val (.int ((p0 &&& (2147483647 : Int32)) % (3 : Int32))), .val (.ref aP), .val (.double (4613937818241073152 : UInt64)), .second, .val (.double (FP.i2d (1 + (2 : Int32)))), .second] [(.int (1 : Int32))]))
    exact Dn.ret X45 hlk hx hret rfl (Or.inl ⟨rfl, Or.inr (Or.inl rfl), _, rfl⟩) (hb hby at_62) (by rw [hh45]; exact ⟨rfl, N45⟩) (by decide) (by decide)
  · refine Dn.st (fun _ kk => XS.ifYes X0.here hx rfl (pc0 := 8) (pc' := 22) rfl (hb hby at_8) rfl ((if0 _ _).trans (feq hc8).2) (by decide) (by decide) (XS.iloadN X0.here hx rfl (hb hby at_22) rfl  (XS.iconst X0.here hx rfl (hb hby at_23) (kk)))) ?_
    show Dn p e below s _ _ _ (s₁.setTop (mkF m 24 #[.val (.int p0), .val (.int ((p0 &&& (2147483647 : Int32)) % (3 : Int32))), .unset, .unset, .unset, .unset, .unset] [(.int (1 : Int32)), (.int ((p0 &&& (2147483647 : Int32)) % (3 : Int32)))]))
    by_cases hc24 : ((p0 &&& (2147483647 : Int32)) % (3 : Int32)) = (1 : Int32)
    · refine Dn.st (fun _ kk => XS.icmpNo X0.here hx rfl (hb hby at_24) rfl (teq hc24).2 (kk)) ?_
      show Dn p e below s _ _ _ (s₁.setTop (mkF m 27 #[.val (.int p0), .val (.int ((p0 &&& (2147483647 : Int32)) % (3 : Int32))), .unset, .unset, .unset, .unset, .unset] []))
      obtain ⟨T27, X27, e27, st27⟩ := getS2 X0 hx hZ hown (host := "") (Or.inl (hw _ (List.mem_of_getElem? (i := 17) rfl))) Via.refl e0 S_ROBERTS (g := (mkF m 27 #[.val (.int p0), .val (.int ((p0 &&& (2147483647 : Int32)) % (3 : Int32))), .unset, .unset, .unset, .unset, .unset] [])) rfl (hb hby at_27)
      refine Dn.st st27 ?_
      show Dn p e below s _ _ _ (T27.setTop (mkF m 30 #[.val (.int p0), .val (.int ((p0 &&& (2147483647 : Int32)) % (3 : Int32))), .unset, .unset, .unset, .unset, .unset] [(.ref aR)]))
      refine Dn.st (fun _ kk => XS.astoreN X27.here hx rfl (hb hby at_30) rfl rfl (l' := #[.val (.int p0), .val (.int ((p0 &&& (2147483647 : Int32)) % (3 : Int32))), .val (.ref aR), .unset, .unset, .unset, .unset]) rfl (XS.dconst1 X27.here hx rfl (hb hby at_31) rfl (XS.dstoreN X27.here hx rfl (hb hby at_32) rfl (l' := #[.val (.int p0), .val (.int ((p0 &&& (2147483647 : Int32)) % (3 : Int32))), .val (.ref aR), .val (.double FP.dconst1), .second, .unset, .unset]) rfl (XS.goto X27.here hx rfl (pc0 := 33) (pc' := 44) rfl (hb hby at_33) (by decide) (by decide) (XS.aloadN X27.here hx rfl (hb hby at_44) rfl rfl (kk)))))) ?_
      show Dn p e below s _ _ _ (T27.setTop (mkF m 45 #[.val (.int p0), .val (.int ((p0 &&& (2147483647 : Int32)) % (3 : Int32))), .val (.ref aR), .val (.double FP.dconst1), .second, .unset, .unset] [(.ref aR)]))
      obtain ⟨cq45, kq45, q45a, q45b, q45c⟩ := isOf hZ e27 E_aR
      obtain ⟨_, _, ⟨T45, L45, k45, n45⟩, -, X45, ⟨Lc45, hQ45, l45, y45, z45⟩, st45⟩ := X27.virtualBack hx (y := (⟨"com/example/honest_ruler/honestruler/metric/GradientOperator", "divisor", "()D"⟩ : MethodName)) (z := (⟨"com/example/honest_ruler/honestruler/metric/GradientOperator", "divisor", "()D"⟩ : MethodName)) hown (mvT hZ (hw _ (List.mem_of_getElem? (i := 5) rfl))) (mvT hZ (hw _ (List.mem_of_getElem? (i := 6) rfl))) (notFace_of_selects (args := #[]) (mvT hZ (hw _ (List.mem_of_getElem? (i := 8) rfl)))) (mvT hZ (hw _ (List.mem_of_getElem? (i := 8) rfl))) (mvT hZ (hw _ (List.mem_of_getElem? (i := 7) rfl))) (by decide) (backOf (W := 0) (rm1R l Z a0 hw [] aR  h0 n0 Z0 S_ROBERTS) hZ (hw _ (List.mem_of_getElem? (i := 9) rfl)) (hw _ (List.mem_of_getElem? (i := 2) rfl)) (by decide) (by decide)) q45a q45c (g := (mkF m 45 #[.val (.int p0), .val (.int ((p0 &&& (2147483647 : Int32)) % (3 : Int32))), .val (.ref aR), .val (.double FP.dconst1), .second, .unset, .unset] [(.ref aR)])) rfl (by rw [hml]; rfl) (Steps.refl _) (argsL := []) (rest := []) (lenOf pd0 rfl) rfl (by show 2 * 0 + _ ≤ _; exact Nat.le_of_eq rfl) (hb hby at_45) (fun _ _ => ⟨rfl, e27, (by decide : 0 + 0 ≤ _), (by decide : 0 + 0 ≤ _)⟩)
      dsimp only [Pt.U, Pt.locs, Pt.cells, Pt.slots] at X45 l45 y45 z45 st45 hQ45
      subst l45 y45 z45
      obtain ⟨rfl, Nq45, hh45⟩ := hQ45
      have N45 := Fr.app N0 Nq45
      refine Dn.tr st45 ?_
      show Dn p e below s _ _ _ (T45.setTop (mkF m 48 #[.val (.int p0), .val (.int ((p0 &&& (2147483647 : Int32)) % (3 : Int32))), .val (.ref aR), .val (.double FP.dconst1), .second, .unset, .unset] [(.double FP.dconst1)]))
      refine Dn.st (fun _ kk => XS.dstore X45.here hx rfl (hb hby at_48) rfl (l' := #[.val (.int p0), .val (.int ((p0 &&& (2147483647 : Int32)) % (3 : Int32))), .val (.ref aR), .val (.double FP.dconst1), .second, .val (.double FP.dconst1), .second]) rfl (XS.dload X45.here hx rfl (hb hby at_50) rfl  (XS.dloadN X45.here hx rfl (hb hby at_52) rfl  (XS.dcmpS X45.here hx rfl (hb hby at_53) rfl (show cmpValue (FP.dcmp FP.dconst1 FP.dconst1) .l = (0 : Int32) from (by decide +kernel)) (kk))))) ?_
      show Dn p e below s _ _ _ (T45.setTop (mkF m 54 #[.val (.int p0), .val (.int ((p0 &&& (2147483647 : Int32)) % (3 : Int32))), .val (.ref aR), .val (.double FP.dconst1), .second, .val (.double FP.dconst1), .second] [(.int (0 : Int32))]))
      have hc54 : (0 : Int32) = (0 : Int32) := by decide
      refine Dn.st (fun _ kk => XS.ifNo X45.here hx rfl (hb hby at_54) rfl ((if0 _ _).trans (teq hc54).2) (XS.iconst X45.here hx rfl (hb hby at_57) (XS.goto X45.here hx rfl (pc0 := 58) (pc' := 62) rfl (hb hby at_58) (by decide) (by decide) (kk)))) ?_
      show Dn p e below s _ _ _ (T45.setTop (mkF m 62 #[.val (.int p0), .val (.int ((p0 &&& (2147483647 : Int32)) % (3 : Int32))), .val (.ref aR), .val (.double FP.dconst1), .second, .val (.double FP.dconst1), .second] [(.int (1 : Int32))]))
      exact Dn.ret X45 hlk hx hret rfl (Or.inl ⟨rfl, Or.inr (Or.inl rfl), _, rfl⟩) (hb hby at_62) (by rw [hh45]; exact ⟨rfl, N45⟩) (by decide) (by decide)
    · refine Dn.st (fun _ kk => XS.icmpYes X0.here hx rfl (pc0 := 24) (pc' := 36) rfl (hb hby at_24) rfl (feq hc24).2 (by decide) (by decide) (kk)) ?_
      show Dn p e below s _ _ _ (s₁.setTop (mkF m 36 #[.val (.int p0), .val (.int ((p0 &&& (2147483647 : Int32)) % (3 : Int32))), .unset, .unset, .unset, .unset, .unset] []))
      obtain ⟨T36, X36, e36, st36⟩ := getS2 X0 hx hZ hown (host := "") (Or.inl (hw _ (List.mem_of_getElem? (i := 14) rfl))) Via.refl e0 S_SOBEL (g := (mkF m 36 #[.val (.int p0), .val (.int ((p0 &&& (2147483647 : Int32)) % (3 : Int32))), .unset, .unset, .unset, .unset, .unset] [])) rfl (hb hby at_36)
      refine Dn.st st36 ?_
      show Dn p e below s _ _ _ (T36.setTop (mkF m 39 #[.val (.int p0), .val (.int ((p0 &&& (2147483647 : Int32)) % (3 : Int32))), .unset, .unset, .unset, .unset, .unset] [(.ref aS)]))
      refine Dn.st (fun _ kk => XS.astoreN X36.here hx rfl (hb hby at_39) rfl rfl (l' := #[.val (.int p0), .val (.int ((p0 &&& (2147483647 : Int32)) % (3 : Int32))), .val (.ref aS), .unset, .unset, .unset, .unset]) rfl (X36.ldc2DoubleC hx hown (mvT hZ (hw _ (List.mem_of_getElem? (i := 16) rfl))) (g := (mkF m 40 #[.val (.int p0), .val (.int ((p0 &&& (2147483647 : Int32)) % (3 : Int32))), .val (.ref aS), .unset, .unset, .unset, .unset] [])) rfl (hb hby at_40) _ (XS.dstoreN X36.here hx rfl (hb hby at_43) rfl (l' := #[.val (.int p0), .val (.int ((p0 &&& (2147483647 : Int32)) % (3 : Int32))), .val (.ref aS), .val (.double (4616189618054758400 : UInt64)), .second, .unset, .unset]) rfl (XS.aloadN X36.here hx rfl (hb hby at_44) rfl rfl (kk))))) ?_
      show Dn p e below s _ _ _ (T36.setTop (mkF m 45 #[.val (.int p0), .val (.int ((p0 &&& (2147483647 : Int32)) % (3 : Int32))), .val (.ref aS), .val (.double (4616189618054758400 : UInt64)), .second, .unset, .unset] [(.ref aS)]))
      obtain ⟨cq45, kq45, q45a, q45b, q45c⟩ := isOf hZ e36 E_aS
      obtain ⟨_, _, ⟨T45, L45, k45, n45⟩, -, X45, ⟨Lc45, hQ45, l45, y45, z45⟩, st45⟩ := X36.virtualBack hx (y := (⟨"com/example/honest_ruler/honestruler/metric/GradientOperator", "divisor", "()D"⟩ : MethodName)) (z := (⟨"com/example/honest_ruler/honestruler/metric/GradientOperator", "divisor", "()D"⟩ : MethodName)) hown (mvT hZ (hw _ (List.mem_of_getElem? (i := 5) rfl))) (mvT hZ (hw _ (List.mem_of_getElem? (i := 6) rfl))) (notFace_of_selects (args := #[]) (mvT hZ (hw _ (List.mem_of_getElem? (i := 8) rfl)))) (mvT hZ (hw _ (List.mem_of_getElem? (i := 8) rfl))) (mvT hZ (hw _ (List.mem_of_getElem? (i := 7) rfl))) (by decide) (backOf (W := 0) (rm1 l Z a0 hw [] aS aR 2 h0 n0 Z0 S_ROBERTS ne_aS F_aS) hZ (hw _ (List.mem_of_getElem? (i := 9) rfl)) (hw _ (List.mem_of_getElem? (i := 2) rfl)) (by decide) (by decide)) q45a q45c (g := (mkF m 45 #[.val (.int p0), .val (.int ((p0 &&& (2147483647 : Int32)) % (3 : Int32))), .val (.ref aS), .val (.double (4616189618054758400 : UInt64)), .second, .unset, .unset] [(.ref aS)])) rfl (by rw [hml]; rfl) (Steps.refl _) (argsL := []) (rest := []) (lenOf pd0 rfl) rfl (by show 2 * 0 + _ ≤ _; exact Nat.le_of_eq rfl) (hb hby at_45) (fun _ _ => ⟨rfl, e36, (by decide : 0 + 0 ≤ _), (by decide : 0 + 0 ≤ _)⟩)
      dsimp only [Pt.U, Pt.locs, Pt.cells, Pt.slots] at X45 l45 y45 z45 st45 hQ45
      subst l45 y45 z45
      obtain ⟨rfl, Nq45, hh45⟩ := hQ45
      have N45 := Fr.app N0 Nq45
      refine Dn.tr st45 ?_
      show Dn p e below s _ _ _ (T45.setTop (mkF m 48 #[.val (.int p0), .val (.int ((p0 &&& (2147483647 : Int32)) % (3 : Int32))), .val (.ref aS), .val (.double (4616189618054758400 : UInt64)), .second, .unset, .unset] [(.double (FP.i2d (2 + (2 : Int32))))]))
      refine Dn.st (fun _ kk => XS.dstore X45.here hx rfl (hb hby at_48) rfl (l' := #[.val (.int p0), .val (.int ((p0 &&& (2147483647 : Int32)) % (3 : Int32))), .val (.ref aS), .val (.double (4616189618054758400 : UInt64)), .second, .val (.double (FP.i2d (2 + (2 : Int32)))), .second]) rfl (XS.dload X45.here hx rfl (hb hby at_50) rfl  (XS.dloadN X45.here hx rfl (hb hby at_52) rfl  (XS.dcmpS X45.here hx rfl (hb hby at_53) rfl (show cmpValue (FP.dcmp (FP.i2d (2 + (2 : Int32))) (4616189618054758400 : UInt64)) .l = (0 : Int32) from (by decide +kernel)) (kk))))) ?_
      show Dn p e below s _ _ _ (T45.setTop (mkF m 54 #[.val (.int p0), .val (.int ((p0 &&& (2147483647 : Int32)) % (3 : Int32))), .val (.ref aS), .val (.double (4616189618054758400 : UInt64)), .second, .val (.double (FP.i2d (2 + (2 : Int32)))), .second] [(.int (0 : Int32))]))
      have hc54 : (0 : Int32) = (0 : Int32) := by decide
      refine Dn.st (fun _ kk => XS.ifNo X45.here hx rfl (hb hby at_54) rfl ((if0 _ _).trans (teq hc54).2) (XS.iconst X45.here hx rfl (hb hby at_57) (XS.goto X45.here hx rfl (pc0 := 58) (pc' := 62) rfl (hb hby at_58) (by decide) (by decide) (kk)))) ?_
      show Dn p e below s _ _ _ (T45.setTop (mkF m 62 #[.val (.int p0), .val (.int ((p0 &&& (2147483647 : Int32)) % (3 : Int32))), .val (.ref aS), .val (.double (4616189618054758400 : UInt64)), .second, .val (.double (FP.i2d (2 + (2 : Int32)))), .second] [(.int (1 : Int32))]))
      exact Dn.ret X45 hlk hx hret rfl (Or.inl ⟨rfl, Or.inr (Or.inl rfl), _, rfl⟩) (hb hby at_62) (by rw [hh45]; exact ⟨rfl, N45⟩) (by decide) (by decide)

set_option maxRecDepth 65536 in
set_option maxHeartbeats 40000000 in
theorem comes_1 {Post : Tables → Env → Array Value → State → Outcome → State → Prop} (hpost : ∀ tb e args s v u, (limb_1_1.after args s (.returned v) u = true ∧ limb_1_2.after args s (.returned v) u = true ∧ True) → FrameEnd s (.returned v) u (Jvm.fieldLocs frame_1_writes args s ++ Jvm.arrayLocs frame_1_arrays args s ++ Jvm.staticLocs frame_1_statics s) 0 0 → Post tb e args s (.returned v) u) :
    ArmFor flags0 classFile x code maxLocals ret World_1 tables_1 room_1 Calls_1 rest_1 Pre_1 Post := by
  intro l hfl _ _ p e ha hc hk s m args below hf hA hF happ hP
  obtain ⟨hcalls, hrest, hpre⟩ := hP
  obtain ⟨-, -, -, hnamed, -, -, -, hat⟩ := (Spec.applies_iff hf).mp happ
  obtain ⟨hg, hn⟩ := and_e (Cond.before_iff.mp (show (Jvm.Cond.and given_1 narrow_1).before args s = true from hpre))
  obtain ⟨g1a, g1b⟩ := and_e hg
  obtain ⟨g2a, g2b⟩ := and_e hn
  obtain ⟨g3a, g3b⟩ := and_e g2b
  obtain ⟨g4a, g4b⟩ := and_e g3b
  obtain ⟨g5a, g5b⟩ := and_e g4b
  obtain ⟨g6a, g6b⟩ := and_e g5b
  obtain ⟨g7a, g7b⟩ := and_e g6b
  obtain ⟨g8a, g8b⟩ := and_e g7b
  obtain ⟨g9a, g9b⟩ := and_e g8b
  obtain ⟨w0, rfl⟩ : ∃ w0 : Value, args = #[w0] := by
    have hs : args.size = 1 := by simpa [Cond.value, given_1] using g1a
    obtain ⟨L⟩ := args
    match L, hs with
    | [w0], _ => exact ⟨w0, rfl⟩
  have hw := fun d (hd : d ∈ tables_1) => atoms_spec (ws := Jvm.Cond.code x code maxLocals ret :: tables_1) hat d (List.mem_cons_of_mem _ hd)
  have hfit : Fit s := fun {y c} hc i hi => by
    obtain ⟨ha, rfl⟩ := Array.getElem?_eq_some_iff.mp hc
    have q := List.all_eq_true.mp ((Array.all_eq_true_iff_forall_mem.mp hF) _ (Array.getElem_mem ha)) i (List.mem_range.mpr hi)
    simpa [Array.getElem?_eq_getElem hi] using q
  obtain ⟨i0, ei0⟩ := is_v g1b
  obtain rfl : w0 = (.int i0) := Option.some.inj ei0
  obtain ⟨a_PREWITT, v_PREWITT⟩ := exa_v g2a
  have S_PREWITT := Sta.start v_PREWITT (Or.inr ⟨(hw _ (List.mem_of_getElem? (i := 2) rfl)), (hw _ (List.mem_of_getElem? (i := 3) rfl))⟩)
  have E_PREWITT := Exa.start v_PREWITT g2a
  obtain ⟨a_ROBERTS, v_ROBERTS⟩ := exa_v g3a
  have S_ROBERTS := Sta.start v_ROBERTS (Or.inr ⟨(hw _ (List.mem_of_getElem? (i := 2) rfl)), (hw _ (List.mem_of_getElem? (i := 11) rfl))⟩)
  have E_ROBERTS := Exa.start v_ROBERTS g3a
  have F_PREWITT_ordinal := Fld.start ((fld_at v_PREWITT).symm.trans (eqv_i (Term.int_eval (0)) g4a))
  have F_ROBERTS_ordinal := Fld.start ((fld_at v_ROBERTS).symm.trans (eqv_i (Term.int_eval (1)) g5a))
  have F_PREWITT_centre := Fld.start ((fld_at v_PREWITT).symm.trans (eqv_i (Term.int_eval (1)) g6a))
  obtain ⟨a_SOBEL, v_SOBEL⟩ := exa_v g7a
  have S_SOBEL := Sta.start v_SOBEL (Or.inr ⟨(hw _ (List.mem_of_getElem? (i := 2) rfl)), (hw _ (List.mem_of_getElem? (i := 15) rfl))⟩)
  have E_SOBEL := Exa.start v_SOBEL g7a
  have F_SOBEL_ordinal := Fld.start ((fld_at v_SOBEL).symm.trans (eqv_i (Term.int_eval (2)) g8a))
  have F_SOBEL_centre := Fld.start ((fld_at v_SOBEL).symm.trans (eqv_i (Term.int_eval (2)) g9a))
  have F_ROBERTS_centre := Fld.start ((fld_at v_ROBERTS).symm.trans (eqv_i (Term.int_eval (0)) g9b))
  obtain ⟨n, o, h1, h2, h3, _, L, rfl, ⟨rfl, N⟩, hq⟩ := rm0 l s _ hw tables_1 i0 a_PREWITT a_ROBERTS a_SOBEL s.heap s.heap.size (Nat.le_refl _) S_PREWITT S_ROBERTS S_SOBEL E_PREWITT E_ROBERTS E_SOBEL F_PREWITT_centre F_SOBEL_centre (F_PREWITT_ordinal.ne F_ROBERTS_ordinal (by decide)) (F_SOBEL_ordinal.ne F_ROBERTS_ordinal (by decide)) p e ha hc hk s m _ below hf ((Spec.applies_iff_loose hf).mp happ).1 ⟨rfl, State.Warmed39.refl s, rfl⟩ trivial
  refine ⟨n, _, h1, h2, h3, hpost _ _ _ _ _ _ ⟨Cond.after_iff.mpr rfl, Cond.after_iff.mpr (eq_i res_at (Term.int_eval (1)) rfl), trivial⟩ ⟨hq.1, hq.2.1, (hq.2.2.sift fun y hy => Or.inr (N y hy)).mono (by decide) (by decide)⟩⟩
theorem main_1_1 : Claimed_1_1 := comes_1 fun _ _ _ _ _ _ h hF => ⟨h.1, hF⟩
theorem main_1_2 : Claimed_1_2 := comes_1 fun _ _ _ _ _ _ h hF => ⟨h.2.1, hF⟩
end Jvm.Pilot.@@N@@
namespace Jvm.Pilot.@@N@@
open Jvm Jvm.ClassFile Sem Op Lib Jvm.Free Jvm.Stand Jvm.Pilot.@@N@@.Jvm.D
/-! MADE BY PROGRAM (witnessworld.py) out of the Statement's table words and the real class files: 14 classes; the members and pool entries that the words name. The judged class is class 1, her method 1. -/
namespace start1
open Jvm.ClassFile
def u (s : String) : CpInfo := .utf8 (stringToUtf16 s)
/-- a pool by its gaps: so many unusable entries, then the entry; so many at the end -/
def gap : Nat → List CpInfo → List CpInfo
  | 0, r => r
  | n + 1, r => .unusable :: gap n r
def poolList (es : List (Nat × CpInfo)) (last : Nat) : List CpInfo := es.foldr (fun e r => gap e.1 (e.2 :: r)) (gap last [])
def pool (es : List (Nat × CpInfo)) (last : Nat) : Array CpInfo := ⟨poolList es last⟩
def fileOf (pool : Array CpInfo) (this : Nat) (attrs : Array Attribute := #[]) (ms : Array MethodInfo := #[]) (fl : Nat := 33) (sup : Nat := 0) (ifs : Array Nat := #[]) (fds : Array FieldInfo := #[]) : ClassFile where
  minorVersion := 0
  majorVersion := 65
  constantPool := pool
  accessFlags := fl
  thisClass := this
  superClass := sup
  interfaces := ifs
  fields := fds
  methods := ms
  attributes := attrs
def plain (name : String) (sup : Option ClassId) : Class where
  name := name
  kind := .ordinary
  loader := none
  accessFlags := 33
  super := sup
  interfaces := #[]
  cf := none
  fields := #[]
  methods := #[]
  instanceTypes := #[]
  staticTypes := #[]
  resolved := #[]
  callSites := []
  init := .initialized
  statics := none
  mirror := none

def pool0 : Array CpInfo := pool [(5, u "<init>"), (0, u "()V"), (1, .class_ 10), (1, u "java/lang/Object")] 113

def k0m0 : Method := { name := "<init>", desc := "()V", sig := { parameters := [], returnType := none }, accessFlags := 1, code := none }
/-- java/lang/Object -/
def k0 : Class := { plain "java/lang/Object" none with
  accessFlags := 33
  interfaces := #[]
  cf := some (fileOf pool0 8 #[] #[{ accessFlags := 1, nameIndex := 5, descriptorIndex := 6, attributes := #[] }] 33 0 #[] #[])
  fields := #[]
  methods := #[k0m0]
  instanceTypes := #[]
  staticTypes := #[]
  resolved := Array.replicate 124 none
  statics := none }

def pool1 : Array CpInfo := pool [(2, .class_ 4), (1, u "java/lang/Object"), (0, u "<init>"), (0, u "()V"), (0, .integer 2147483647), (0, .fieldref 9 10), (0, .class_ 11), (0, .nameAndType 12 13), (0, u "com/example/honest_ruler/honestruler/metric/GradientOperator"), (0, u "PREWITT"), (0, u "Lcom/example/honest_ruler/honestruler/metric/GradientOperator;"), (0, .double 4613937818241073152), (1, .fieldref 9 17), (0, .nameAndType 18 13), (0, u "ROBERTS"), (0, .fieldref 9 20), (0, .nameAndType 21 13), (0, u "SOBEL"), (0, .double 4616189618054758400), (1, .methodref 9 25), (0, .nameAndType 26 27), (0, u "divisor"), (0, u "()D"), (0, .class_ 29), (0, u "com/example/honest_ruler/honestruler/metric/GradientOperatorDivisorPinLaw"), (2, u "law"), (0, u "(I)Z")] 3

def k1m0 : Method := { name := "<init>", desc := "()V", sig := { parameters := [], returnType := none }, accessFlags := 1, code := none }
def k1c1 : Code := { maxStack := 4, maxLocals := 7, code := code, exceptionTable := #[], attributes := #[] }
def k1m1 : Method := { name := "law", desc := "(I)Z", sig := { parameters := [.int], returnType := some .boolean }, accessFlags := 9, code := some k1c1 }
/-- com/example/honest_ruler/honestruler/metric/GradientOperatorDivisorPinLaw -/
def k1 : Class := { plain "com/example/honest_ruler/honestruler/metric/GradientOperatorDivisorPinLaw" (some 0) with
  accessFlags := 49
  interfaces := #[]
  cf := some (fileOf pool1 28 #[] #[{ accessFlags := 1, nameIndex := 5, descriptorIndex := 6, attributes := #[] }, { accessFlags := 9, nameIndex := 32, descriptorIndex := 33, attributes := #[] }] 49 2 #[] #[])
  fields := #[]
  methods := #[k1m0, k1m1]
  instanceTypes := #[]
  staticTypes := #[]
  resolved := Array.replicate 37 none
  statics := none }

def pool2 : Array CpInfo := pool [(1, .class_ 2), (0, u "java/lang/constant/Constable"), (0, .class_ 4), (0, u "java/lang/Object")] 6

/-- java/lang/constant/Constable -/
def k2 : Class := { plain "java/lang/constant/Constable" (some 0) with
  accessFlags := 1537
  interfaces := #[]
  cf := some (fileOf pool2 1 #[] #[] 1537 3 #[] #[])
  fields := #[]
  methods := #[]
  instanceTypes := #[]
  staticTypes := #[]
  resolved := Array.replicate 11 none
  statics := none }

def pool3 : Array CpInfo := pool [(1, .class_ 2), (0, u "java/lang/Comparable"), (0, .class_ 4), (0, u "java/lang/Object")] 7

/-- java/lang/Comparable -/
def k3 : Class := { plain "java/lang/Comparable" (some 0) with
  accessFlags := 1537
  interfaces := #[]
  cf := some (fileOf pool3 1 #[] #[] 1537 3 #[] #[])
  fields := #[]
  methods := #[]
  instanceTypes := #[]
  staticTypes := #[]
  resolved := Array.replicate 12 none
  statics := none }

def pool4 : Array CpInfo := pool [(1, .class_ 2), (0, u "java/io/Serializable"), (0, .class_ 4), (0, u "java/lang/Object")] 2

/-- java/io/Serializable -/
def k4 : Class := { plain "java/io/Serializable" (some 0) with
  accessFlags := 1537
  interfaces := #[]
  cf := some (fileOf pool4 1 #[] #[] 1537 3 #[] #[])
  fields := #[]
  methods := #[]
  instanceTypes := #[]
  staticTypes := #[]
  resolved := Array.replicate 7 none
  statics := none }

def pool5 : Array CpInfo := pool [(2, .class_ 4), (1, u "java/lang/Enum"), (0, u "name"), (0, u "Ljava/lang/String;"), (2, u "ordinal"), (0, u "I"), (1, .class_ 14), (1, u "java/lang/Object"), (4, u "hash"), (86, .class_ 108), (1, u "java/lang/Enum$EnumDesc"), (2, .class_ 112), (0, u "java/lang/constant/Constable"), (0, .class_ 114), (0, u "java/lang/Comparable"), (0, .class_ 116), (0, u "java/io/Serializable")] 87

/-- java/lang/Enum -/
def k5 : Class := { plain "java/lang/Enum" (some 0) with
  accessFlags := 1057
  interfaces := #[2, 3, 4]
  cf := some (fileOf pool5 2 #[.nestMembers #[106]] #[] 1057 12 #[111, 113, 115] #[{ accessFlags := 18, nameIndex := 5, descriptorIndex := 6, attributes := #[] }, { accessFlags := 18, nameIndex := 9, descriptorIndex := 10, attributes := #[] }, { accessFlags := 2, nameIndex := 19, descriptorIndex := 10, attributes := #[] }])
  fields := #[{ name := "name", type := (.object "java/lang/String"), accessFlags := 18, slot := 0, constantValue := 0 }, { name := "ordinal", type := .int, accessFlags := 18, slot := 1, constantValue := 0 }, { name := "hash", type := .int, accessFlags := 2, slot := 2, constantValue := 0 }]
  methods := #[]
  instanceTypes := #[(.object "java/lang/String"), .int, .int]
  staticTypes := #[]
  resolved := Array.replicate 204 none
  statics := none }

def pool6 : Array CpInfo := pool [(2, .class_ 4), (1, u "com/example/honest_ruler/honestruler/metric/Named"), (19, .class_ 25), (0, u "java/lang/Object")] 21

/-- com/example/honest_ruler/honestruler/metric/Named -/
def k6 : Class := { plain "com/example/honest_ruler/honestruler/metric/Named" (some 0) with
  accessFlags := 1537
  interfaces := #[]
  cf := some (fileOf pool6 2 #[] #[] 1537 24 #[] #[])
  fields := #[]
  methods := #[]
  instanceTypes := #[]
  staticTypes := #[]
  resolved := Array.replicate 47 none
  statics := none }

def pool7 : Array CpInfo := pool [(7, .class_ 8), (0, u "com/example/honest_ruler/honestruler/metric/Choice"), (0, .class_ 10), (0, u "java/lang/Object"), (0, .class_ 12), (0, u "com/example/honest_ruler/honestruler/metric/Named")] 29

/-- com/example/honest_ruler/honestruler/metric/Choice -/
def k7 : Class := { plain "com/example/honest_ruler/honestruler/metric/Choice" (some 0) with
  accessFlags := 1537
  interfaces := #[6]
  cf := some (fileOf pool7 7 #[] #[] 1537 9 #[11] #[])
  fields := #[]
  methods := #[]
  instanceTypes := #[]
  staticTypes := #[]
  resolved := Array.replicate 42 none
  statics := none }

def pool8 : Array CpInfo := pool [(1, .class_ 2), (0, u "com/example/honest_ruler/honestruler/metric/GradientOperator"), (2, u "PREWITT"), (0, u "Lcom/example/honest_ruler/honestruler/metric/GradientOperator;"), (0, .fieldref 1 8), (0, .nameAndType 9 6), (0, u "ROBERTS"), (2, u "SOBEL"), (2, u "$VALUES"), (0, u "[Lcom/example/honest_ruler/honestruler/metric/GradientOperator;"), (6, .class_ 25), (1, u "java/lang/Enum"), (8, u "name"), (0, u "Ljava/lang/String;"), (2, u "size"), (0, u "I"), (0, .fieldref 1 41), (0, .nameAndType 42 39), (0, u "centre"), (28, .class_ 72), (0, u "com/example/honest_ruler/honestruler/metric/Choice"), (10, u "divisor"), (0, u "()D")] 12

def k8c0 : Code := { maxStack := 2, maxLocals := 3, code := prog_40_method_6_code, exceptionTable := #[], attributes := #[] }
def k8m0 : Method := { name := "divisor", desc := "()D", sig := { parameters := [], returnType := some .double }, accessFlags := 0, code := some k8c0 }
/-- com/example/honest_ruler/honestruler/metric/GradientOperator -/
def k8 : Class := { plain "com/example/honest_ruler/honestruler/metric/GradientOperator" (some 5) with
  accessFlags := 16433
  interfaces := #[7]
  cf := some (fileOf pool8 1 #[] #[{ accessFlags := 0, nameIndex := 83, descriptorIndex := 84, attributes := #[] }] 16433 23 #[71] #[{ accessFlags := 16409, nameIndex := 5, descriptorIndex := 6, attributes := #[] }, { accessFlags := 16409, nameIndex := 9, descriptorIndex := 6, attributes := #[] }, { accessFlags := 16409, nameIndex := 12, descriptorIndex := 6, attributes := #[] }, { accessFlags := 18, nameIndex := 34, descriptorIndex := 35, attributes := #[] }, { accessFlags := 18, nameIndex := 38, descriptorIndex := 39, attributes := #[] }, { accessFlags := 18, nameIndex := 42, descriptorIndex := 39, attributes := #[] }, { accessFlags := 4122, nameIndex := 15, descriptorIndex := 16, attributes := #[] }])
  fields := #[{ name := "PREWITT", type := (.object "com/example/honest_ruler/honestruler/metric/GradientOperator"), accessFlags := 16409, slot := 0, constantValue := 0 }, { name := "ROBERTS", type := (.object "com/example/honest_ruler/honestruler/metric/GradientOperator"), accessFlags := 16409, slot := 1, constantValue := 0 }, { name := "SOBEL", type := (.object "com/example/honest_ruler/honestruler/metric/GradientOperator"), accessFlags := 16409, slot := 2, constantValue := 0 }, { name := "name", type := (.object "java/lang/String"), accessFlags := 18, slot := 3, constantValue := 0 }, { name := "size", type := .int, accessFlags := 18, slot := 4, constantValue := 0 }, { name := "centre", type := .int, accessFlags := 18, slot := 5, constantValue := 0 }, { name := "$VALUES", type := (.array (.object "com/example/honest_ruler/honestruler/metric/GradientOperator")), accessFlags := 4122, slot := 3, constantValue := 0 }]
  methods := #[k8m0]
  instanceTypes := #[(.object "java/lang/String"), .int, .int, (.object "java/lang/String"), .int, .int]
  staticTypes := #[(.object "com/example/honest_ruler/honestruler/metric/GradientOperator"), (.object "com/example/honest_ruler/honestruler/metric/GradientOperator"), (.object "com/example/honest_ruler/honestruler/metric/GradientOperator"), (.array (.object "com/example/honest_ruler/honestruler/metric/GradientOperator"))]
  resolved := Array.replicate 97 none
  statics := some 0 }

def pool9 : Array CpInfo := pool [(1, u "java/lang/Cloneable"), (0, .class_ 1), (0, u "java/lang/Object"), (0, .class_ 3)] 3

/-- java/lang/Cloneable -/
def k9 : Class := { plain "java/lang/Cloneable" (some 0) with
  accessFlags := 1537
  interfaces := #[]
  cf := some (fileOf pool9 2 #[] #[] 1537 4 #[] #[])
  fields := #[]
  methods := #[]
  instanceTypes := #[]
  staticTypes := #[]
  resolved := Array.replicate 8 none
  statics := none }

/-- the primitive byte -/
def k10 : Class := { plain "byte" none with kind := .primitive 'B', accessFlags := 0x411 }
/-- [B -/
def k11 : Class := { plain "[B" (some 0) with kind := .array 10 .byte, interfaces := #[9, 4], accessFlags := 1041 }

/-- the primitive int -/
def k12 : Class := { plain "int" none with kind := .primitive 'I', accessFlags := 0x411 }
/-- [I -/
def k13 : Class := { plain "[I" (some 0) with kind := .array 12 .int, interfaces := #[9, 4], accessFlags := 1041 }

def heap : Heap := #[{ cls := 8, slots := #[.ref 1, .ref 2, .ref 3, .null], vm := .statics 8 },
  { cls := 8, slots := #[.null, .int 0, .int 0, .null, .int 0, .int 1], vm := .none },
  { cls := 8, slots := #[.null, .int 1, .int 0, .null, .int 0, .int 0], vm := .none },
  { cls := 8, slots := #[.null, .int 2, .int 0, .null, .int 0, .int 2], vm := .none }]
def classes : Array Class := #[k0, k1, k2, k3, k4, k5, k6, k7, k8, k9, k10, k11, k12, k13]
def interned : List (Array UInt16 × Addr) := []
def slotsUsed : Nat := 22
def theMethod : MethodId := ⟨1, 1⟩
def args0 : Array Value := #[.int 5]
def aboutOver (below : List Frame) : State where
  vm := { classes := classes, interned := interned.toArray }
  heap := heap
  slotsUsed := slotsUsed
  threads := #[{ frames := .invoking theMethod args0 :: below }]
def below0 : List Frame := [.native { method := ⟨0, 0⟩, args := #[] }]
def about1 : State := aboutOver below0
def p0 : Program := .bare "" "" ""
def e0 : Env := launch0.env 0 0 0
theorem w_frames : about1.frames = Frame.invoking theMethod args0 :: below0 := rfl
set_option maxRecDepth 65536 in
theorem w_args : argsFit about1.vm theMethod args0 = true := by decide +kernel
set_option maxRecDepth 65536 in
theorem w_heap : heapFits about1 = true := by decide +kernel
set_option maxRecDepth 65536 in
theorem w_runnable : about1.curStatus? = some .runnable := by decide +kernel
set_option maxRecDepth 65536 in
theorem w_alone : about1.alone = true := by decide +kernel
set_option maxRecDepth 65536 in
theorem w_named : about1.methodNamed? x = some theMethod := by decide +kernel
set_option maxRecDepth 65536 in
theorem w_hears : about1.hears theMethod below0 = true := by decide +kernel
set_option maxRecDepth 65536 in
theorem w_ripe : about1.ripe theMethod args0 below0 = true := by decide +kernel
theorem w_running : about1.status = .running := rfl
set_option maxRecDepth 65536 in
theorem w_room : about1.hasRoom e0.platform room_1 = true :=
  launch0.hasRoom_least _ room_1 (by decide +kernel) (by decide +kernel) (by decide +kernel) (by decide +kernel) (by decide +kernel) (by decide +kernel)
theorem allAtoms_all (ts : List Jvm.Cond) (a : Array Jvm.Value) (st : Jvm.State) : (allAtoms ts).before a st = ts.all (fun c => c.before a st) := by
  induction ts with
  | nil => rfl
  | cons c t ih =>
    show (Jvm.Cond.and c (allAtoms t)).before a st = _
    rw [Jvm.Cond.before_and, ih, List.all_cons]
def words1 : List Jvm.Cond := Jvm.Cond.code x code maxLocals ret :: tables_1
/-- a 'code' word, met by the world's own term for the bytes: nothing is compared byte by byte -/
theorem code_word {y : MethodName} {bytes : ByteArray} {mx : Nat} {rt : Option FieldType} {a : Array Value} {s : State} {m : MethodId} {meth : Method} {c : Code} (h1 : s.methodNamed? y = some m) (h2 : s.vm.method? m = some meth) (h3 : meth.code = some c) (h4 : c.code = bytes)
    (h5 : (c.maxLocals == mx && c.exceptionTable.isEmpty && decide (c.maxStack ≤ mostOperands) && decide (meth.sig.returnType = rt) && !meth.locks && decide (parseMethodDescriptor y.desc = some meth.sig)) = true) : (Jvm.Cond.code y bytes mx rt).before a s = true := by
  simp only [Bool.and_eq_true, beq_iff_eq, Bool.not_eq_true', decide_eq_true_eq] at h5
  obtain ⟨⟨⟨⟨⟨g1, g2⟩, g3⟩, g4⟩, g5⟩, g6⟩ := h5
  simp [Cond.before, Cond.holds, Cond.value, h1, h2, h3, h4, g1, g2, g3, g4, g5, g6]
def isCode : Jvm.Cond → Bool
  | .code _ _ _ _ => true
  | _ => false
theorem all_split {L : List Jvm.Cond} {P : Jvm.Cond → Bool} (h1 : L.all (fun c => isCode c || P c) = true) (h2 : ∀ c ∈ L.filter isCode, P c = true) : L.all P = true := by
  refine List.all_eq_true.mpr fun c hc => ?_
  have h := List.all_eq_true.mp h1 c hc
  rcases Bool.eq_false_or_eq_true (isCode c) with hi | hi
  · exact h2 c (List.mem_filter.mpr ⟨hc, hi⟩)
  · simpa [hi] using h
set_option maxRecDepth 65536 in
theorem w_c0 : (Jvm.Cond.code x code maxLocals ret).before args0 about1 = true := code_word (m := ⟨1, 1⟩) (meth := k1m1) (c := k1c1) (by decide +kernel) rfl rfl rfl (by decide +kernel)
set_option maxRecDepth 65536 in
theorem w_c1 : (Jvm.Cond.code ({ cls := "com/example/honest_ruler/honestruler/metric/GradientOperator", name := "divisor", desc := "()D" } : Jvm.MethodName) prog_40_method_6_code (3 : Nat) (Option.some Jvm.ClassFile.FieldType.double)).before args0 about1 = true := code_word (m := ⟨8, 0⟩) (meth := k8m0) (c := k8c0) (by decide +kernel) rfl rfl rfl (by decide +kernel)
def codes1 : List Jvm.Cond := [Jvm.Cond.code x code maxLocals ret, Jvm.Cond.code ({ cls := "com/example/honest_ruler/honestruler/metric/GradientOperator", name := "divisor", desc := "()D" } : Jvm.MethodName) prog_40_method_6_code (3 : Nat) (Option.some Jvm.ClassFile.FieldType.double)]
set_option maxRecDepth 65536 in
theorem codes_eq : words1.filter isCode = codes1 := rfl
theorem w_codes : ∀ c ∈ words1.filter isCode, c.before args0 about1 = true := by
  rw [codes_eq]
  intro c hc
  simp only [codes1, List.mem_cons, List.not_mem_nil, or_false] at hc
  rcases hc with rfl | rfl
  · exact w_c0
  · exact w_c1
set_option maxRecDepth 65536 in
theorem w_t1 : words1.all (fun c => isCode c || c.before args0 about1) = true := by decide +kernel
theorem w_tables : (allAtoms (Jvm.Cond.code x code maxLocals ret :: tables_1)).before args0 about1 = true := by
  rw [allAtoms_all]
  show words1.all (fun c => c.before args0 about1) = true
  refine all_split ?_ w_codes
  rw [w_t1]
set_option maxRecDepth 65536 in
theorem w_case : (Jvm.Cond.and given_1 narrow_1).before args0 about1 = true := by decide +kernel
theorem w_applies : (headSpec (Jvm.Cond.code x code maxLocals ret :: tables_1) room_1).applies x e0.platform about1 = true :=
  (Spec.applies_iff w_frames).mpr ⟨w_running, w_runnable, w_alone, w_named, w_hears, w_ripe, w_room, w_tables⟩
theorem atStart : AtStart classFile x code maxLocals ret World_1 tables_1 room_1 Calls_1 rest_1 Pre_1 launch0 p0 e0 about1 theMethod args0 below0 :=
  ⟨lists_1, trivial, launch0.admits_env _ _ _, launch0.least_env, fairChoices_fair.cas, fairChoices_fair.clock, w_frames, w_args, w_heap, w_applies, trivial, trivial, w_case⟩
end start1
theorem witness_1 : WitnessClaimed_1 := ⟨start1.p0, start1.e0, start1.about1, start1.theMethod, start1.args0, start1.below0, start1.atStart⟩
end Jvm.Pilot.@@N@@
