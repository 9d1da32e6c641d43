import JvmDerived
import JvmDerived.Pilot.@@N@@Statement
import JvmDerived.Pilot.@@N@@Code
set_option linter.unusedVariables false
set_option linter.unusedSimpArgs false
namespace Jvm.Pilot.@@N@@
open Jvm Jvm.ClassFile Sem Op Lib Jvm.Free Jvm.Stand Jvm.LawKit Jvm.RoadKit Bundle Jvm.Pilot.@@N@@.Jvm.D
section Own
variable {p : Program} {l : Launch} {e : Env} {R : Room} {s : State} {m : MethodId} {args : Array Value} {below : List Frame} {meth : Method} {c : Code} {T : State} {locs : List Loc} {cells slots : Nat}
/-- the run from A ends, returns what Q says, and has made and written no more than told -/
def Dn (p : Program) (e : Env) (below : List Frame) (s : State) (Q : Option Value → Heap → List Loc → Prop) (rc rs : Nat) (A : State) : Prop :=
  ∃ s₂ o, Steps p.tables e below A s₂ ∧ s₂.status = .running ∧ Ended s₂ below o ∧ ∃ v L, o = .returned v ∧ Q v s₂.heap L ∧ FrameEnd s o s₂ L rc rs
theorem Dn.st {Q : Option Value → Heap → List Loc → Prop} {rc rs : Nat} {A B : State} (h : ∀ t, Steps p.tables e below B t → Steps p.tables e below A t) (k : Dn p e below s Q rc rs B) : Dn p e below s Q rc rs A := by
  obtain ⟨s2, o, h1, h2⟩ := k; exact ⟨s2, o, h _ h1, h2⟩
theorem Dn.tr {Q : Option Value → Heap → List Loc → Prop} {rc rs : Nat} {A B : State} (h : Steps p.tables e below A B) (k : Dn p e below s Q rc rs B) : Dn p e below s Q rc rs A := by
  obtain ⟨s2, o, h1, h2⟩ := k; exact ⟨s2, o, h.trans h1, h2⟩
theorem Dn.ret (X : Stand p l e R s m args below meth c T locs cells slots) (hlk : meth.locks = false) (hx : p.tables.exec = Jvm.exec) {pc : Nat} {Ls : Array Slot} {w : Value} {t : FieldType} {i : Instr} {rest : List Value} (hret : meth.sig.returnType = some t) (hn : narrow t w = w)
    (hi : (i = .ireturn ∧ (t = .int ∨ t = .boolean ∨ t = .byte ∨ t = .char ∨ t = .short) ∧ ∃ z, w = .int z) ∨ (i = .lreturn ∧ t = .long ∧ ∃ z, w = .long z) ∨ (i = .dreturn ∧ t = .double ∧ ∃ z, w = .double z) ∨ (i = .freturn ∧ t = .float ∧ ∃ z, w = .float z) ∨ (i = .areturn ∧ t.isReference = true ∧ w.isRef = true))
    (hd : decode c.code pc = .ok (i, 1)) {Q : Option Value → Heap → List Loc → Prop} {rc rs : Nat} (hq : Q (some w) T.heap locs) (hc : cells ≤ rc) (hs : slots ≤ rs) : Dn p e below s Q rc rs (T.setTop (mkF m pc Ls (w :: rest))) := by
  obtain ⟨fs, hr, hrun, hended, hW, hsame⟩ := X.leave (v := some w) (fun h => by rw [hret] at h; cases h) hlk
  exact ⟨_, _, retOut X hx hret hn hi hd hr, hrun, hended, _, _, rfl, hq, ⟨_, rfl⟩, hW, hsame.mono hc hs⟩
theorem Dn.ret0 (X : Stand p l e R s m args below meth c T locs cells slots) (hlk : meth.locks = false) (hx : p.tables.exec = Jvm.exec) {pc : Nat} {Ls : Array Slot} (hret : meth.sig.returnType = none)
    (hd : decode c.code pc = .ok (.return_, 1)) {Q : Option Value → Heap → List Loc → Prop} {rc rs : Nat} (hq : Q none T.heap locs) (hc : cells ≤ rc) (hs : slots ≤ rs) : Dn p e below s Q rc rs (T.setTop (mkF m pc Ls [])) := by
  obtain ⟨fs, hr, hrun, hended, hW, hsame⟩ := X.leave (v := none) (fun _ => rfl) hlk
  exact ⟨_, _, X.returnOut hx hret hd hr, hrun, hended, _, _, rfl, hq, ⟨_, rfl⟩, hW, hsame.mono hc hs⟩
theorem own_iincW {tb : Tables} [Ours tb] {target : State} {g : JFrame} (h : At T m c below) (hx : tb.exec = Jvm.exec) (hg : g.method = m) {k : Nat} {cst : Int} {x : Int32} {l' : Array Slot} (hd : decode c.code g.pc = .ok (.iinc k cst, 6)) (hl : g.locals[k]? = some (.val (.int x))) (hl' : storeLocals g.locals k (.int (x + Int32.ofInt cst)) = some l')
    (hr : Steps tb e below (T.setTop { g with pc := g.pc + 6, locals := l' }) target) : Steps tb e below (T.setTop g) target := by
  subst hg
  jvm_step h [h.top, hx, hd, hl, hl']
  exact hr
theorem own_dremS {tb : Tables} [Ours tb] {target : State} {g : JFrame} (h : At T m c below) (hx : tb.exec = Jvm.exec) (hg : g.method = m) {x y v : UInt64} {rest : List Value} (hd : decode c.code g.pc = .ok (.drem, 1)) (hs : g.stack = .double y :: .double x :: rest) (hn : Jvm.Free.Fl.NoNaN64 (FP.drem x y)) (hv : FP.drem x y = v)
    (hr : Steps tb e below (T.setTop { g with pc := g.pc + 1, stack := .double v :: rest }) target) : Steps tb e below (T.setTop g) target := by
  subst hg; subst hv
  obtain ⟨gm, gp, gl, gs, gk, ge, gr⟩ := g
  simp only at hs hd
  subst hs
  jvm_step h [h.top, hx, hd, Op.drem.at_number h.top hn]
  exact hr
end Own
theorem d2_0 : decode prog_10_method_6_code 0 = .ok (.aload_n 0, 1) := by decide +kernel
theorem d2_1 : decode prog_10_method_6_code 1 = .ok (.invokespecial 31, 3) := by decide +kernel
theorem d2_4 : decode prog_10_method_6_code 4 = .ok (.iload_n 1, 1) := by decide +kernel
theorem d2_5 : decode prog_10_method_6_code 5 = .ok (.ifCond .le 7, 3) := by decide +kernel
theorem d2_8 : decode prog_10_method_6_code 8 = .ok (.iload_n 2, 1) := by decide +kernel
theorem d2_9 : decode prog_10_method_6_code 9 = .ok (.ifCond .gt 18, 3) := by decide +kernel
theorem d2_27 : decode prog_10_method_6_code 27 = .ok (.aload 5, 2) := by decide +kernel
theorem d2_29 : decode prog_10_method_6_code 29 = .ok (.ifnonnull 11, 3) := by decide +kernel
theorem d2_40 : decode prog_10_method_6_code 40 = .ok (.iconst 1, 1) := by decide +kernel
theorem d2_41 : decode prog_10_method_6_code 41 = .ok (.istore 11, 2) := by decide +kernel
theorem d2_43 : decode prog_10_method_6_code 43 = .ok (.lload_n 3, 1) := by decide +kernel
theorem d2_44 : decode prog_10_method_6_code 44 = .ok (.iload_n 1, 1) := by decide +kernel
theorem d2_45 : decode prog_10_method_6_code 45 = .ok (.i2l, 1) := by decide +kernel
theorem d2_46 : decode prog_10_method_6_code 46 = .ok (.iload_n 2, 1) := by decide +kernel
theorem d2_47 : decode prog_10_method_6_code 47 = .ok (.i2l, 1) := by decide +kernel
theorem d2_48 : decode prog_10_method_6_code 48 = .ok (.lmul, 1) := by decide +kernel
theorem d2_49 : decode prog_10_method_6_code 49 = .ok (.iload 11, 2) := by decide +kernel
theorem d2_51 : decode prog_10_method_6_code 51 = .ok (.i2l, 1) := by decide +kernel
theorem d2_52 : decode prog_10_method_6_code 52 = .ok (.lmul, 1) := by decide +kernel
theorem d2_53 : decode prog_10_method_6_code 53 = .ok (.lcmp, 1) := by decide +kernel
theorem d2_54 : decode prog_10_method_6_code 54 = .ok (.ifCond .eq 41, 3) := by decide +kernel
theorem d2_95 : decode prog_10_method_6_code 95 = .ok (.aload_n 0, 1) := by decide +kernel
theorem d2_96 : decode prog_10_method_6_code 96 = .ok (.iload_n 1, 1) := by decide +kernel
theorem d2_97 : decode prog_10_method_6_code 97 = .ok (.putfield 56, 3) := by decide +kernel
theorem d2_100 : decode prog_10_method_6_code 100 = .ok (.aload_n 0, 1) := by decide +kernel
theorem d2_101 : decode prog_10_method_6_code 101 = .ok (.iload_n 2, 1) := by decide +kernel
theorem d2_102 : decode prog_10_method_6_code 102 = .ok (.putfield 60, 3) := by decide +kernel
theorem d2_105 : decode prog_10_method_6_code 105 = .ok (.aload_n 0, 1) := by decide +kernel
theorem d2_106 : decode prog_10_method_6_code 106 = .ok (.aload 5, 2) := by decide +kernel
theorem d2_108 : decode prog_10_method_6_code 108 = .ok (.putfield 63, 3) := by decide +kernel
theorem d2_111 : decode prog_10_method_6_code 111 = .ok (.aload_n 0, 1) := by decide +kernel
theorem d2_112 : decode prog_10_method_6_code 112 = .ok (.aload 5, 2) := by decide +kernel
theorem d2_114 : decode prog_10_method_6_code 114 = .ok (.ifnonnull 8, 3) := by decide +kernel
theorem d2_122 : decode prog_10_method_6_code 122 = .ok (.iconst 0, 1) := by decide +kernel
theorem d2_123 : decode prog_10_method_6_code 123 = .ok (.putfield 67, 3) := by decide +kernel
theorem d2_126 : decode prog_10_method_6_code 126 = .ok (.aload_n 0, 1) := by decide +kernel
theorem d2_127 : decode prog_10_method_6_code 127 = .ok (.aload_n 0, 1) := by decide +kernel
theorem d2_128 : decode prog_10_method_6_code 128 = .ok (.getfield 67, 3) := by decide +kernel
theorem d2_131 : decode prog_10_method_6_code 131 = .ok (.bipush 8, 2) := by decide +kernel
theorem d2_133 : decode prog_10_method_6_code 133 = .ok (.if_icmp .le 17, 3) := by decide +kernel
theorem d2_150 : decode prog_10_method_6_code 150 = .ok (.dconst 1, 1) := by decide +kernel
theorem d2_151 : decode prog_10_method_6_code 151 = .ok (.putfield 76, 3) := by decide +kernel
theorem d2_154 : decode prog_10_method_6_code 154 = .ok (.aload_n 0, 1) := by decide +kernel
theorem d2_155 : decode prog_10_method_6_code 155 = .ok (.aload 6, 2) := by decide +kernel
theorem d2_157 : decode prog_10_method_6_code 157 = .ok (.putfield 80, 3) := by decide +kernel
theorem d2_160 : decode prog_10_method_6_code 160 = .ok (.aload_n 0, 1) := by decide +kernel
theorem d2_161 : decode prog_10_method_6_code 161 = .ok (.getfield 67, 3) := by decide +kernel
theorem d2_164 : decode prog_10_method_6_code 164 = .ok (.bipush 8, 2) := by decide +kernel
theorem d2_166 : decode prog_10_method_6_code 166 = .ok (.if_icmp .le 7, 3) := by decide +kernel
theorem d2_173 : decode prog_10_method_6_code 173 = .ok (.iconst 0, 1) := by decide +kernel
theorem d2_174 : decode prog_10_method_6_code 174 = .ok (.istore 12, 2) := by decide +kernel
theorem d2_176 : decode prog_10_method_6_code 176 = .ok (.aload 6, 2) := by decide +kernel
theorem d2_178 : decode prog_10_method_6_code 178 = .ok (.ifnonnull 7, 3) := by decide +kernel
theorem d2_181 : decode prog_10_method_6_code 181 = .ok (.aconst_null, 1) := by decide +kernel
theorem d2_182 : decode prog_10_method_6_code 182 = .ok (.goto 14, 3) := by decide +kernel
theorem d2_196 : decode prog_10_method_6_code 196 = .ok (.astore 13, 2) := by decide +kernel
theorem d2_198 : decode prog_10_method_6_code 198 = .ok (.aload_n 0, 1) := by decide +kernel
theorem d2_199 : decode prog_10_method_6_code 199 = .ok (.aload 13, 2) := by decide +kernel
theorem d2_201 : decode prog_10_method_6_code 201 = .ok (.ifnull 8, 3) := by decide +kernel
theorem d2_209 : decode prog_10_method_6_code 209 = .ok (.aconst_null, 1) := by decide +kernel
theorem d2_210 : decode prog_10_method_6_code 210 = .ok (.goto 8, 3) := by decide +kernel
theorem d2_218 : decode prog_10_method_6_code 218 = .ok (.putfield 98, 3) := by decide +kernel
theorem d2_221 : decode prog_10_method_6_code 221 = .ok (.aload_n 0, 1) := by decide +kernel
theorem d2_222 : decode prog_10_method_6_code 222 = .ok (.aload 13, 2) := by decide +kernel
theorem d2_224 : decode prog_10_method_6_code 224 = .ok (.ifnull 8, 3) := by decide +kernel
theorem d2_232 : decode prog_10_method_6_code 232 = .ok (.aconst_null, 1) := by decide +kernel
theorem d2_233 : decode prog_10_method_6_code 233 = .ok (.goto 8, 3) := by decide +kernel
theorem d2_241 : decode prog_10_method_6_code 241 = .ok (.putfield 106, 3) := by decide +kernel
theorem d2_244 : decode prog_10_method_6_code 244 = .ok (.aload_n 0, 1) := by decide +kernel
theorem d2_245 : decode prog_10_method_6_code 245 = .ok (.aload 8, 2) := by decide +kernel
theorem d2_247 : decode prog_10_method_6_code 247 = .ok (.putfield 110, 3) := by decide +kernel
theorem d2_250 : decode prog_10_method_6_code 250 = .ok (.aload_n 0, 1) := by decide +kernel
theorem d2_251 : decode prog_10_method_6_code 251 = .ok (.lload 9, 2) := by decide +kernel
theorem d2_253 : decode prog_10_method_6_code 253 = .ok (.putfield 114, 3) := by decide +kernel
theorem d2_256 : decode prog_10_method_6_code 256 = .ok (.return_, 1) := by decide +kernel
theorem pn0 : plainName "com/example/honest_ruler/honestruler/image/LumaPlane" = true := by first | (simp [plainName, overriddenIn]; done) | decide +kernel
theorem ef2_rm2 (m : MethodId) (x0 : Addr) (x1 : Int32) (x2 : Int32) (x3 : Int64) (x4 : Addr) (x6 : Int32) (x8 : Int64) : entryFrame m #[(.ref x0), (.int x1), (.int x2), (.long x3), (.ref x4), .null, (.int x6), .null, (.long x8)] 14 = mkF m 0 #[.val (.ref x0), .val (.int x1), .val (.int x2), .val (.long x3), .second, .val (.ref x4), .val .null, .val (.int x6), .val .null, .val (.long x8), .second, .unset, .unset, .unset] [] := by first | (simp [entryFrame, mkF, argsToLocals, Value.category]; done) | rfl
def Q2 (Z : State) (a : Addr) (ar : Addr) (ka : ClassId) (uu : UInt64) (h0 : Heap) (n0 : Nat) (v : Option Value) (h : Heap) (L : List Loc) : Prop := v = none ∧ Fr n0 L ∧ Keep h0 h [a] ∧ Exa Z h a "com/example/honest_ruler/honestruler/image/LumaPlane" ∧ (Fld Z h a "com/example/honest_ruler/honestruler/image/LumaPlane" "width" "I" (.int (1 : Int32)))
set_option maxRecDepth 65536 in
set_option maxHeartbeats 40000000 in
theorem rm2 (l : Launch) (Z : State) (a0 : Array Value) (hw : ∀ d ∈ tables_1, d.before a0 Z = true) (ws : List Jvm.Cond) (a : Addr) (ar : Addr) (ka : ClassId) (uu : UInt64) (h0 : Heap) (n0 : Nat) (Z0 : n0 ≤ h0.size) (ga : n0 ≤ a) (Ea : Exa Z h0 a "com/example/honest_ruler/honestruler/image/LumaPlane") (F0 : Fld Z h0 a "com/example/honest_ruler/honestruler/image/LumaPlane" "width" "I" (.int 0)) (F1 : Fld Z h0 a "com/example/honest_ruler/honestruler/image/LumaPlane" "height" "I" (.int 0)) (F2 : Fld Z h0 a "com/example/honest_ruler/honestruler/image/LumaPlane" "samples" "[D" .null) (F3 : Fld Z h0 a "com/example/honest_ruler/honestruler/image/LumaPlane" "bits" "I" (.int 0)) (F4 : Fld Z h0 a "com/example/honest_ruler/honestruler/image/LumaPlane" "unit" "D" (.double 0)) (F5 : Fld Z h0 a "com/example/honest_ruler/honestruler/image/LumaPlane" "bytes" "Ljava/nio/ByteBuffer;" .null) (F6 : Fld Z h0 a "com/example/honest_ruler/honestruler/image/LumaPlane" "words" "Ljava/nio/IntBuffer;" .null) (F7 : Fld Z h0 a "com/example/honest_ruler/honestruler/image/LumaPlane" "wideSamples" "Ljava/nio/ShortBuffer;" .null) (F8 : Fld Z h0 a "com/example/honest_ruler/honestruler/image/LumaPlane" "file" "Lcom/example/honest_ruler/honestruler/image/ReadOnlyFile;" .null) (F9 : Fld Z h0 a "com/example/honest_ruler/honestruler/image/LumaPlane" "fileStart" "J" (.long 0)) (Va : Arv Z h0 ar ka .double 1 [(.double uu)] (.double 0)) (nea : ar ≠ a) :
    MetFree l (⟨"com/example/honest_ruler/honestruler/image/LumaPlane", "<init>", "(IIJ[DLjava/nio/ByteBuffer;ILcom/example/honest_ruler/honestruler/image/ReadOnlyFile;J)V"⟩ : MethodName) (head1 (Jvm.Cond.code (⟨"com/example/honest_ruler/honestruler/image/LumaPlane", "<init>", "(IIJ[DLjava/nio/ByteBuffer;ILcom/example/honest_ruler/honestruler/image/ReadOnlyFile;J)V"⟩ : MethodName) prog_10_method_6_code 14 none :: ws) ({ frames := 1, cells := 0, slots := 0, locals := 12 } : Room)) (fun aa UU => aa = #[(.ref a), (.int (1 : Int32)), (.int (1 : Int32)), (.long (1 : Int64)), (.ref ar), .null, (.int (0 : Int32)), .null, (.long (0 : Int64))] ∧ Z.Warmed39 UU.vm ∧ UU.heap = h0) (fun _ _ _ _ _ => True) (fun _ UU oo UU' => ∃ vv LL, oo = .returned vv ∧ Q2 Z a ar ka uu h0 n0 vv UU'.heap LL ∧ FrameEnd UU oo UU' LL ({ frames := 1, cells := 0, slots := 0, locals := 12 } : Room).cells ({ frames := 1, cells := 0, slots := 0, locals := 12 } : Room).slots) := by
  refine MetFree.of_bodySF (plainFor_of_name pn0) hisR ?_
  intro p e s m args below meth c s₁ Bd hml0 hP hK
  obtain ⟨rfl, hZ, hh⟩ := hP
  have hx := Bd.exec
  have hby := Bd.bytes
  have hlk : meth.locks = false := BodyLoose.notSynchronized Bd
  have hret := Bd.returns
  have hml : c.maxLocals = 14 := hml0
  have hown : s.vm.findClass "com/example/honest_ruler/honestruler/image/LumaPlane" = some m.cls := findClass_of_methodNamed Bd.named
  have hnm := (name_of_methodNamed Bd.named Bd.method).1
  have X0 : Stand p l e ({ frames := 1, cells := 0, slots := 0, locals := 12 } : Room) s m #[(.ref a), (.int (1 : Int32)), (.int (1 : Int32)), (.long (1 : Int64)), (.ref ar), .null, (.int (0 : Int32)), .null, (.long (0 : Int64))] below meth c s₁ [] 0 0 := Stand.of_body Bd
  have e0 : s₁.heap = h0 := by rw [← hh, Bd.state]; rfl
  have N0 := Fr.nil n0
  show Dn p e below s (Q2 Z a ar ka uu h0 n0) ({ frames := 1, cells := 0, slots := 0, locals := 12 } : Room).cells ({ frames := 1, cells := 0, slots := 0, locals := 12 } : Room).slots (s₁.setTop (entryFrame m #[(.ref a), (.int (1 : Int32)), (.int (1 : Int32)), (.long (1 : Int64)), (.ref ar), .null, (.int (0 : Int32)), .null, (.long (0 : Int64))] 14))
  refine Dn.st (fun _ kk => castTop (ef2_rm2 m a (1 : Int32) (1 : Int32) (1 : Int64) ar (0 : Int32) (0 : Int64)) kk) ?_
  show Dn p e below s _ _ _ (s₁.setTop (mkF m 0 #[.val (.ref a), .val (.int (1 : Int32)), .val (.int (1 : Int32)), .val (.long (1 : Int64)), .second, .val (.ref ar), .val .null, .val (.int (0 : Int32)), .val .null, .val (.long (0 : Int64)), .second, .unset, .unset, .unset] []))
  refine Dn.st (fun _ kk => XS.aloadN X0.here hx rfl (hb hby d2_0) rfl rfl (kk)) ?_
  show Dn p e below s _ _ _ (s₁.setTop (mkF m 1 #[.val (.ref a), .val (.int (1 : Int32)), .val (.int (1 : Int32)), .val (.long (1 : Int64)), .second, .val (.ref ar), .val .null, .val (.int (0 : Int32)), .val .null, .val (.long (0 : Int64)), .second, .unset, .unset, .unset] [(.ref a)]))
  obtain ⟨T1, X1, e1, st1⟩ := initO X0 hx hZ hown (hw _ (List.mem_of_getElem? (i := 10) rfl)) (hw _ (List.mem_of_getElem? (i := 11) rfl)) (hw _ (List.mem_of_getElem? (i := 12) rfl)) e0 (g := (mkF m 1 #[.val (.ref a), .val (.int (1 : Int32)), .val (.int (1 : Int32)), .val (.long (1 : Int64)), .second, .val (.ref ar), .val .null, .val (.int (0 : Int32)), .val .null, .val (.long (0 : Int64)), .second, .unset, .unset, .unset] [(.ref a)])) rfl (by rw [hml]; rfl) rfl (hb hby d2_1) (by decide) (W := 0) (by show 2 * 0 + _ ≤ _; exact Nat.le_of_eq rfl) (by decide)
  refine Dn.st st1 ?_
  show Dn p e below s _ _ _ (T1.setTop (mkF m 4 #[.val (.ref a), .val (.int (1 : Int32)), .val (.int (1 : Int32)), .val (.long (1 : Int64)), .second, .val (.ref ar), .val .null, .val (.int (0 : Int32)), .val .null, .val (.long (0 : Int64)), .second, .unset, .unset, .unset] []))
  refine Dn.st (fun _ kk => XS.iloadN X1.here hx rfl (hb hby d2_4) rfl  (kk)) ?_
  show Dn p e below s _ _ _ (T1.setTop (mkF m 5 #[.val (.ref a), .val (.int (1 : Int32)), .val (.int (1 : Int32)), .val (.long (1 : Int64)), .second, .val (.ref ar), .val .null, .val (.int (0 : Int32)), .val .null, .val (.long (0 : Int64)), .second, .unset, .unset, .unset] [(.int (1 : Int32))]))
  have hc5 : (0 : Int32) < (1 : Int32) := by decide
  refine Dn.st (fun _ kk => XS.ifNo X1.here hx rfl (hb hby d2_5) rfl ((if0 _ _).trans (tlt hc5).2.2.2) (XS.iloadN X1.here hx rfl (hb hby d2_8) rfl  (kk))) ?_
  show Dn p e below s _ _ _ (T1.setTop (mkF m 9 #[.val (.ref a), .val (.int (1 : Int32)), .val (.int (1 : Int32)), .val (.long (1 : Int64)), .second, .val (.ref ar), .val .null, .val (.int (0 : Int32)), .val .null, .val (.long (0 : Int64)), .second, .unset, .unset, .unset] [(.int (1 : Int32))]))
  have hc9 : (0 : Int32) < (1 : Int32) := by decide
  refine Dn.st (fun _ kk => XS.ifYes X1.here hx rfl (pc0 := 9) (pc' := 27) rfl (hb hby d2_9) rfl ((if0 _ _).trans (tlt hc9).2.2.1) (by decide) (by decide) (XS.aload X1.here hx rfl (hb hby d2_27) rfl rfl (XS.ifnonnullYes X1.here hx rfl (pc0 := 29) (pc' := 40) rfl (hb hby d2_29) rfl (by decide) (by decide) (XS.iconst X1.here hx rfl (hb hby d2_40) (XS.istore X1.here hx rfl (hb hby d2_41) rfl (l' := #[.val (.ref a), .val (.int (1 : Int32)), .val (.int (1 : Int32)), .val (.long (1 : Int64)), .second, .val (.ref ar), .val .null, .val (.int (0 : Int32)), .val .null, .val (.long (0 : Int64)), .second, .val (.int (1 : Int32)), .unset, .unset]) rfl (XS.lloadN X1.here hx rfl (hb hby d2_43) rfl  (kk))))))) ?_
  show Dn p e below s _ _ _ (T1.setTop (mkF m 44 #[.val (.ref a), .val (.int (1 : Int32)), .val (.int (1 : Int32)), .val (.long (1 : Int64)), .second, .val (.ref ar), .val .null, .val (.int (0 : Int32)), .val .null, .val (.long (0 : Int64)), .second, .val (.int (1 : Int32)), .unset, .unset] [(.long (1 : Int64))]))
  refine Dn.st (fun _ kk => XS.iloadN X1.here hx rfl (hb hby d2_44) rfl  (XS.i2l X1.here hx rfl (hb hby d2_45) rfl (XS.iloadN X1.here hx rfl (hb hby d2_46) rfl  (XS.i2l X1.here hx rfl (hb hby d2_47) rfl (XS.lmul X1.here hx rfl (hb hby d2_48) rfl (XS.iload X1.here hx rfl (hb hby d2_49) rfl  (kk))))))) ?_
  show Dn p e below s _ _ _ (T1.setTop (mkF m 51 #[.val (.ref a), .val (.int (1 : Int32)), .val (.int (1 : Int32)), .val (.long (1 : Int64)), .second, .val (.ref ar), .val .null, .val (.int (0 : Int32)), .val .null, .val (.long (0 : Int64)), .second, .val (.int (1 : Int32)), .unset, .unset] [(.int (1 : Int32)), (.long (1 : Int64)), (.long (1 : Int64))]))
  refine Dn.st (fun _ kk => XS.i2l X1.here hx rfl (hb hby d2_51) rfl (XS.lmul X1.here hx rfl (hb hby d2_52) rfl (XS.lcmp X1.here hx rfl (hb hby d2_53) rfl (kk)))) ?_
  show Dn p e below s _ _ _ (T1.setTop (mkF m 54 #[.val (.ref a), .val (.int (1 : Int32)), .val (.int (1 : Int32)), .val (.long (1 : Int64)), .second, .val (.ref ar), .val .null, .val (.int (0 : Int32)), .val .null, .val (.long (0 : Int64)), .second, .val (.int (1 : Int32)), .unset, .unset] [(.int (0 : Int32))]))
  have hc54 : (0 : Int32) = (0 : Int32) := by decide
  refine Dn.st (fun _ kk => XS.ifYes X1.here hx rfl (pc0 := 54) (pc' := 95) rfl (hb hby d2_54) rfl ((if0 _ _).trans (teq hc54).1) (by decide) (by decide) (XS.aloadN X1.here hx rfl (hb hby d2_95) rfl rfl (XS.iloadN X1.here hx rfl (hb hby d2_96) rfl  (kk)))) ?_
  show Dn p e below s _ _ _ (T1.setTop (mkF m 97 #[.val (.ref a), .val (.int (1 : Int32)), .val (.int (1 : Int32)), .val (.long (1 : Int64)), .second, .val (.ref ar), .val .null, .val (.int (0 : Int32)), .val .null, .val (.long (0 : Int64)), .second, .val (.int (1 : Int32)), .unset, .unset] [(.int (1 : Int32)), (.ref a)]))
  obtain ⟨T97, h97, X97, e97, W97, st97⟩ := putF X1 hx hZ hown (host := "") (Or.inl (hw _ (List.mem_of_getElem? (i := 13) rfl))) Via.refl e1 F0 Ea (Or.inr ⟨(hw _ (List.mem_of_getElem? (i := 14) rfl)), rfl, hnm⟩) (hw _ (List.mem_of_getElem? (i := 1) rfl)) (ty := .int) (by decide) rfl rfl (g := (mkF m 97 #[.val (.ref a), .val (.int (1 : Int32)), .val (.int (1 : Int32)), .val (.long (1 : Int64)), .second, .val (.ref ar), .val .null, .val (.int (0 : Int32)), .val .null, .val (.long (0 : Int64)), .second, .val (.int (1 : Int32)), .unset, .unset] [(.int (1 : Int32)), (.ref a)])) rfl rfl (hb hby d2_97)
  have E_a_97 := Ea.wr W97
  have F_a_height_97 := F1.other W97 (Or.inr (slot_ne (Or.inr (hw _ (List.mem_of_getElem? (i := 16) rfl))) (Or.inr (hw _ (List.mem_of_getElem? (i := 14) rfl))) (by decide) (t := .int) (t' := .int) (by decide) (by decide)))
  have F_a_samples_97 := F2.other W97 (Or.inr (slot_ne (Or.inr (hw _ (List.mem_of_getElem? (i := 18) rfl))) (Or.inr (hw _ (List.mem_of_getElem? (i := 14) rfl))) (by decide) (t := (.array .double)) (t' := .int) (by decide) (by decide)))
  have F_a_bits_97 := F3.other W97 (Or.inr (slot_ne (Or.inr (hw _ (List.mem_of_getElem? (i := 20) rfl))) (Or.inr (hw _ (List.mem_of_getElem? (i := 14) rfl))) (by decide) (t := .int) (t' := .int) (by decide) (by decide)))
  have F_a_unit_97 := F4.other W97 (Or.inr (slot_ne (Or.inr (hw _ (List.mem_of_getElem? (i := 22) rfl))) (Or.inr (hw _ (List.mem_of_getElem? (i := 14) rfl))) (by decide) (t := .double) (t' := .int) (by decide) (by decide)))
  have F_a_bytes_97 := F5.other W97 (Or.inr (slot_ne (Or.inr (hw _ (List.mem_of_getElem? (i := 24) rfl))) (Or.inr (hw _ (List.mem_of_getElem? (i := 14) rfl))) (by decide) (t := (.object "java/nio/ByteBuffer")) (t' := .int) (by decide) (by decide)))
  have F_a_words_97 := F6.other W97 (Or.inr (slot_ne (Or.inr (hw _ (List.mem_of_getElem? (i := 26) rfl))) (Or.inr (hw _ (List.mem_of_getElem? (i := 14) rfl))) (by decide) (t := (.object "java/nio/IntBuffer")) (t' := .int) (by decide) (by decide)))
  have F_a_wideSamples_97 := F7.other W97 (Or.inr (slot_ne (Or.inr (hw _ (List.mem_of_getElem? (i := 28) rfl))) (Or.inr (hw _ (List.mem_of_getElem? (i := 14) rfl))) (by decide) (t := (.object "java/nio/ShortBuffer")) (t' := .int) (by decide) (by decide)))
  have F_a_file_97 := F8.other W97 (Or.inr (slot_ne (Or.inr (hw _ (List.mem_of_getElem? (i := 30) rfl))) (Or.inr (hw _ (List.mem_of_getElem? (i := 14) rfl))) (by decide) (t := (.object "com/example/honest_ruler/honestruler/image/ReadOnlyFile")) (t' := .int) (by decide) (by decide)))
  have F_a_fileStart_97 := F9.other W97 (Or.inr (slot_ne (Or.inr (hw _ (List.mem_of_getElem? (i := 32) rfl))) (Or.inr (hw _ (List.mem_of_getElem? (i := 14) rfl))) (by decide) (t := .long) (t' := .int) (by decide) (by decide)))
  have V_ar_97 := Va.other W97 nea
  have F_a_width_97 := F0.same W97
  have K97 := (Keep.refl h0 [a]).wr W97 (Or.inl (List.mem_of_getElem? (i := 0) rfl))
  have N97 := Fr.snoc X97 N0 ga
  have Z97 : n0 ≤ h97.size := Nat.le_trans Z0 (Keep.of_wr W97).1
  refine Dn.st st97 ?_
  show Dn p e below s _ _ _ (T97.setTop (mkF m 100 #[.val (.ref a), .val (.int (1 : Int32)), .val (.int (1 : Int32)), .val (.long (1 : Int64)), .second, .val (.ref ar), .val .null, .val (.int (0 : Int32)), .val .null, .val (.long (0 : Int64)), .second, .val (.int (1 : Int32)), .unset, .unset] []))
  refine Dn.st (fun _ kk => XS.aloadN X97.here hx rfl (hb hby d2_100) rfl rfl (XS.iloadN X97.here hx rfl (hb hby d2_101) rfl  (kk))) ?_
  show Dn p e below s _ _ _ (T97.setTop (mkF m 102 #[.val (.ref a), .val (.int (1 : Int32)), .val (.int (1 : Int32)), .val (.long (1 : Int64)), .second, .val (.ref ar), .val .null, .val (.int (0 : Int32)), .val .null, .val (.long (0 : Int64)), .second, .val (.int (1 : Int32)), .unset, .unset] [(.int (1 : Int32)), (.ref a)]))
  obtain ⟨T102, h102, X102, e102, W102, st102⟩ := putF X97 hx hZ hown (host := "") (Or.inl (hw _ (List.mem_of_getElem? (i := 15) rfl))) Via.refl e97 F_a_height_97 E_a_97 (Or.inr ⟨(hw _ (List.mem_of_getElem? (i := 16) rfl)), rfl, hnm⟩) (hw _ (List.mem_of_getElem? (i := 1) rfl)) (ty := .int) (by decide) rfl rfl (g := (mkF m 102 #[.val (.ref a), .val (.int (1 : Int32)), .val (.int (1 : Int32)), .val (.long (1 : Int64)), .second, .val (.ref ar), .val .null, .val (.int (0 : Int32)), .val .null, .val (.long (0 : Int64)), .second, .val (.int (1 : Int32)), .unset, .unset] [(.int (1 : Int32)), (.ref a)])) rfl rfl (hb hby d2_102)
  have E_a_102 := E_a_97.wr W102
  have F_a_width_102 := F_a_width_97.other W102 (Or.inr (slot_ne (Or.inr (hw _ (List.mem_of_getElem? (i := 14) rfl))) (Or.inr (hw _ (List.mem_of_getElem? (i := 16) rfl))) (by decide) (t := .int) (t' := .int) (by decide) (by decide)))
  have F_a_samples_102 := F_a_samples_97.other W102 (Or.inr (slot_ne (Or.inr (hw _ (List.mem_of_getElem? (i := 18) rfl))) (Or.inr (hw _ (List.mem_of_getElem? (i := 16) rfl))) (by decide) (t := (.array .double)) (t' := .int) (by decide) (by decide)))
  have F_a_bits_102 := F_a_bits_97.other W102 (Or.inr (slot_ne (Or.inr (hw _ (List.mem_of_getElem? (i := 20) rfl))) (Or.inr (hw _ (List.mem_of_getElem? (i := 16) rfl))) (by decide) (t := .int) (t' := .int) (by decide) (by decide)))
  have F_a_unit_102 := F_a_unit_97.other W102 (Or.inr (slot_ne (Or.inr (hw _ (List.mem_of_getElem? (i := 22) rfl))) (Or.inr (hw _ (List.mem_of_getElem? (i := 16) rfl))) (by decide) (t := .double) (t' := .int) (by decide) (by decide)))
  have F_a_bytes_102 := F_a_bytes_97.other W102 (Or.inr (slot_ne (Or.inr (hw _ (List.mem_of_getElem? (i := 24) rfl))) (Or.inr (hw _ (List.mem_of_getElem? (i := 16) rfl))) (by decide) (t := (.object "java/nio/ByteBuffer")) (t' := .int) (by decide) (by decide)))
  have F_a_words_102 := F_a_words_97.other W102 (Or.inr (slot_ne (Or.inr (hw _ (List.mem_of_getElem? (i := 26) rfl))) (Or.inr (hw _ (List.mem_of_getElem? (i := 16) rfl))) (by decide) (t := (.object "java/nio/IntBuffer")) (t' := .int) (by decide) (by decide)))
  have F_a_wideSamples_102 := F_a_wideSamples_97.other W102 (Or.inr (slot_ne (Or.inr (hw _ (List.mem_of_getElem? (i := 28) rfl))) (Or.inr (hw _ (List.mem_of_getElem? (i := 16) rfl))) (by decide) (t := (.object "java/nio/ShortBuffer")) (t' := .int) (by decide) (by decide)))
  have F_a_file_102 := F_a_file_97.other W102 (Or.inr (slot_ne (Or.inr (hw _ (List.mem_of_getElem? (i := 30) rfl))) (Or.inr (hw _ (List.mem_of_getElem? (i := 16) rfl))) (by decide) (t := (.object "com/example/honest_ruler/honestruler/image/ReadOnlyFile")) (t' := .int) (by decide) (by decide)))
  have F_a_fileStart_102 := F_a_fileStart_97.other W102 (Or.inr (slot_ne (Or.inr (hw _ (List.mem_of_getElem? (i := 32) rfl))) (Or.inr (hw _ (List.mem_of_getElem? (i := 16) rfl))) (by decide) (t := .long) (t' := .int) (by decide) (by decide)))
  have V_ar_102 := V_ar_97.other W102 nea
  have F_a_height_102 := F_a_height_97.same W102
  have K102 := K97.wr W102 (Or.inl (List.mem_of_getElem? (i := 0) rfl))
  have N102 := Fr.snoc X102 N97 ga
  have Z102 : n0 ≤ h102.size := Nat.le_trans Z97 (Keep.of_wr W102).1
  refine Dn.st st102 ?_
  show Dn p e below s _ _ _ (T102.setTop (mkF m 105 #[.val (.ref a), .val (.int (1 : Int32)), .val (.int (1 : Int32)), .val (.long (1 : Int64)), .second, .val (.ref ar), .val .null, .val (.int (0 : Int32)), .val .null, .val (.long (0 : Int64)), .second, .val (.int (1 : Int32)), .unset, .unset] []))
  refine Dn.st (fun _ kk => XS.aloadN X102.here hx rfl (hb hby d2_105) rfl rfl (XS.aload X102.here hx rfl (hb hby d2_106) rfl rfl (kk))) ?_
  show Dn p e below s _ _ _ (T102.setTop (mkF m 108 #[.val (.ref a), .val (.int (1 : Int32)), .val (.int (1 : Int32)), .val (.long (1 : Int64)), .second, .val (.ref ar), .val .null, .val (.int (0 : Int32)), .val .null, .val (.long (0 : Int64)), .second, .val (.int (1 : Int32)), .unset, .unset] [(.ref ar), (.ref a)]))
  obtain ⟨T108, h108, X108, e108, W108, st108⟩ := putF X102 hx hZ hown (host := "") (Or.inl (hw _ (List.mem_of_getElem? (i := 17) rfl))) Via.refl e102 F_a_samples_102 E_a_102 (Or.inr ⟨(hw _ (List.mem_of_getElem? (i := 18) rfl)), rfl, hnm⟩) (hw _ (List.mem_of_getElem? (i := 1) rfl)) (ty := (.array .double)) (by decide) rfl rfl (g := (mkF m 108 #[.val (.ref a), .val (.int (1 : Int32)), .val (.int (1 : Int32)), .val (.long (1 : Int64)), .second, .val (.ref ar), .val .null, .val (.int (0 : Int32)), .val .null, .val (.long (0 : Int64)), .second, .val (.int (1 : Int32)), .unset, .unset] [(.ref ar), (.ref a)])) rfl rfl (hb hby d2_108)
  have E_a_108 := E_a_102.wr W108
  have F_a_width_108 := F_a_width_102.other W108 (Or.inr (slot_ne (Or.inr (hw _ (List.mem_of_getElem? (i := 14) rfl))) (Or.inr (hw _ (List.mem_of_getElem? (i := 18) rfl))) (by decide) (t := .int) (t' := (.array .double)) (by decide) (by decide)))
  have F_a_height_108 := F_a_height_102.other W108 (Or.inr (slot_ne (Or.inr (hw _ (List.mem_of_getElem? (i := 16) rfl))) (Or.inr (hw _ (List.mem_of_getElem? (i := 18) rfl))) (by decide) (t := .int) (t' := (.array .double)) (by decide) (by decide)))
  have F_a_bits_108 := F_a_bits_102.other W108 (Or.inr (slot_ne (Or.inr (hw _ (List.mem_of_getElem? (i := 20) rfl))) (Or.inr (hw _ (List.mem_of_getElem? (i := 18) rfl))) (by decide) (t := .int) (t' := (.array .double)) (by decide) (by decide)))
  have F_a_unit_108 := F_a_unit_102.other W108 (Or.inr (slot_ne (Or.inr (hw _ (List.mem_of_getElem? (i := 22) rfl))) (Or.inr (hw _ (List.mem_of_getElem? (i := 18) rfl))) (by decide) (t := .double) (t' := (.array .double)) (by decide) (by decide)))
  have F_a_bytes_108 := F_a_bytes_102.other W108 (Or.inr (slot_ne (Or.inr (hw _ (List.mem_of_getElem? (i := 24) rfl))) (Or.inr (hw _ (List.mem_of_getElem? (i := 18) rfl))) (by decide) (t := (.object "java/nio/ByteBuffer")) (t' := (.array .double)) (by decide) (by decide)))
  have F_a_words_108 := F_a_words_102.other W108 (Or.inr (slot_ne (Or.inr (hw _ (List.mem_of_getElem? (i := 26) rfl))) (Or.inr (hw _ (List.mem_of_getElem? (i := 18) rfl))) (by decide) (t := (.object "java/nio/IntBuffer")) (t' := (.array .double)) (by decide) (by decide)))
  have F_a_wideSamples_108 := F_a_wideSamples_102.other W108 (Or.inr (slot_ne (Or.inr (hw _ (List.mem_of_getElem? (i := 28) rfl))) (Or.inr (hw _ (List.mem_of_getElem? (i := 18) rfl))) (by decide) (t := (.object "java/nio/ShortBuffer")) (t' := (.array .double)) (by decide) (by decide)))
  have F_a_file_108 := F_a_file_102.other W108 (Or.inr (slot_ne (Or.inr (hw _ (List.mem_of_getElem? (i := 30) rfl))) (Or.inr (hw _ (List.mem_of_getElem? (i := 18) rfl))) (by decide) (t := (.object "com/example/honest_ruler/honestruler/image/ReadOnlyFile")) (t' := (.array .double)) (by decide) (by decide)))
  have F_a_fileStart_108 := F_a_fileStart_102.other W108 (Or.inr (slot_ne (Or.inr (hw _ (List.mem_of_getElem? (i := 32) rfl))) (Or.inr (hw _ (List.mem_of_getElem? (i := 18) rfl))) (by decide) (t := .long) (t' := (.array .double)) (by decide) (by decide)))
  have V_ar_108 := V_ar_102.other W108 nea
  have F_a_samples_108 := F_a_samples_102.same W108
  have K108 := K102.wr W108 (Or.inl (List.mem_of_getElem? (i := 0) rfl))
  have N108 := Fr.snoc X108 N102 ga
  have Z108 : n0 ≤ h108.size := Nat.le_trans Z102 (Keep.of_wr W108).1
  refine Dn.st st108 ?_
  show Dn p e below s _ _ _ (T108.setTop (mkF m 111 #[.val (.ref a), .val (.int (1 : Int32)), .val (.int (1 : Int32)), .val (.long (1 : Int64)), .second, .val (.ref ar), .val .null, .val (.int (0 : Int32)), .val .null, .val (.long (0 : Int64)), .second, .val (.int (1 : Int32)), .unset, .unset] []))
  refine Dn.st (fun _ kk => XS.aloadN X108.here hx rfl (hb hby d2_111) rfl rfl (XS.aload X108.here hx rfl (hb hby d2_112) rfl rfl (XS.ifnonnullYes X108.here hx rfl (pc0 := 114) (pc' := 122) rfl (hb hby d2_114) rfl (by decide) (by decide) (XS.iconst X108.here hx rfl (hb hby d2_122) (kk))))) ?_
  show Dn p e below s _ _ _ (T108.setTop (mkF m 123 #[.val (.ref a), .val (.int (1 : Int32)), .val (.int (1 : Int32)), .val (.long (1 : Int64)), .second, .val (.ref ar), .val .null, .val (.int (0 : Int32)), .val .null, .val (.long (0 : Int64)), .second, .val (.int (1 : Int32)), .unset, .unset] [(.int (0 : Int32)), (.ref a)]))
  obtain ⟨T123, h123, X123, e123, W123, st123⟩ := putF X108 hx hZ hown (host := "") (Or.inl (hw _ (List.mem_of_getElem? (i := 19) rfl))) Via.refl e108 F_a_bits_108 E_a_108 (Or.inr ⟨(hw _ (List.mem_of_getElem? (i := 20) rfl)), rfl, hnm⟩) (hw _ (List.mem_of_getElem? (i := 1) rfl)) (ty := .int) (by decide) rfl rfl (g := (mkF m 123 #[.val (.ref a), .val (.int (1 : Int32)), .val (.int (1 : Int32)), .val (.long (1 : Int64)), .second, .val (.ref ar), .val .null, .val (.int (0 : Int32)), .val .null, .val (.long (0 : Int64)), .second, .val (.int (1 : Int32)), .unset, .unset] [(.int (0 : Int32)), (.ref a)])) rfl rfl (hb hby d2_123)
  have E_a_123 := E_a_108.wr W123
  have F_a_width_123 := F_a_width_108.other W123 (Or.inr (slot_ne (Or.inr (hw _ (List.mem_of_getElem? (i := 14) rfl))) (Or.inr (hw _ (List.mem_of_getElem? (i := 20) rfl))) (by decide) (t := .int) (t' := .int) (by decide) (by decide)))
  have F_a_height_123 := F_a_height_108.other W123 (Or.inr (slot_ne (Or.inr (hw _ (List.mem_of_getElem? (i := 16) rfl))) (Or.inr (hw _ (List.mem_of_getElem? (i := 20) rfl))) (by decide) (t := .int) (t' := .int) (by decide) (by decide)))
  have F_a_samples_123 := F_a_samples_108.other W123 (Or.inr (slot_ne (Or.inr (hw _ (List.mem_of_getElem? (i := 18) rfl))) (Or.inr (hw _ (List.mem_of_getElem? (i := 20) rfl))) (by decide) (t := (.array .double)) (t' := .int) (by decide) (by decide)))
  have F_a_unit_123 := F_a_unit_108.other W123 (Or.inr (slot_ne (Or.inr (hw _ (List.mem_of_getElem? (i := 22) rfl))) (Or.inr (hw _ (List.mem_of_getElem? (i := 20) rfl))) (by decide) (t := .double) (t' := .int) (by decide) (by decide)))
  have F_a_bytes_123 := F_a_bytes_108.other W123 (Or.inr (slot_ne (Or.inr (hw _ (List.mem_of_getElem? (i := 24) rfl))) (Or.inr (hw _ (List.mem_of_getElem? (i := 20) rfl))) (by decide) (t := (.object "java/nio/ByteBuffer")) (t' := .int) (by decide) (by decide)))
  have F_a_words_123 := F_a_words_108.other W123 (Or.inr (slot_ne (Or.inr (hw _ (List.mem_of_getElem? (i := 26) rfl))) (Or.inr (hw _ (List.mem_of_getElem? (i := 20) rfl))) (by decide) (t := (.object "java/nio/IntBuffer")) (t' := .int) (by decide) (by decide)))
  have F_a_wideSamples_123 := F_a_wideSamples_108.other W123 (Or.inr (slot_ne (Or.inr (hw _ (List.mem_of_getElem? (i := 28) rfl))) (Or.inr (hw _ (List.mem_of_getElem? (i := 20) rfl))) (by decide) (t := (.object "java/nio/ShortBuffer")) (t' := .int) (by decide) (by decide)))
  have F_a_file_123 := F_a_file_108.other W123 (Or.inr (slot_ne (Or.inr (hw _ (List.mem_of_getElem? (i := 30) rfl))) (Or.inr (hw _ (List.mem_of_getElem? (i := 20) rfl))) (by decide) (t := (.object "com/example/honest_ruler/honestruler/image/ReadOnlyFile")) (t' := .int) (by decide) (by decide)))
  have F_a_fileStart_123 := F_a_fileStart_108.other W123 (Or.inr (slot_ne (Or.inr (hw _ (List.mem_of_getElem? (i := 32) rfl))) (Or.inr (hw _ (List.mem_of_getElem? (i := 20) rfl))) (by decide) (t := .long) (t' := .int) (by decide) (by decide)))
  have V_ar_123 := V_ar_108.other W123 nea
  have F_a_bits_123 := F_a_bits_108.same W123
  have K123 := K108.wr W123 (Or.inl (List.mem_of_getElem? (i := 0) rfl))
  have N123 := Fr.snoc X123 N108 ga
  have Z123 : n0 ≤ h123.size := Nat.le_trans Z108 (Keep.of_wr W123).1
  refine Dn.st st123 ?_
  show Dn p e below s _ _ _ (T123.setTop (mkF m 126 #[.val (.ref a), .val (.int (1 : Int32)), .val (.int (1 : Int32)), .val (.long (1 : Int64)), .second, .val (.ref ar), .val .null, .val (.int (0 : Int32)), .val .null, .val (.long (0 : Int64)), .second, .val (.int (1 : Int32)), .unset, .unset] []))
  refine Dn.st (fun _ kk => XS.aloadN X123.here hx rfl (hb hby d2_126) rfl rfl (XS.aloadN X123.here hx rfl (hb hby d2_127) rfl rfl (kk))) ?_
  show Dn p e below s _ _ _ (T123.setTop (mkF m 128 #[.val (.ref a), .val (.int (1 : Int32)), .val (.int (1 : Int32)), .val (.long (1 : Int64)), .second, .val (.ref ar), .val .null, .val (.int (0 : Int32)), .val .null, .val (.long (0 : Int64)), .second, .val (.int (1 : Int32)), .unset, .unset] [(.ref a), (.ref a)]))
  obtain ⟨T128, X128, e128, st128⟩ := getF X123 hx hZ hown (host := "") (Or.inl (hw _ (List.mem_of_getElem? (i := 19) rfl))) Via.refl e123 F_a_bits_123 (g := (mkF m 128 #[.val (.ref a), .val (.int (1 : Int32)), .val (.int (1 : Int32)), .val (.long (1 : Int64)), .second, .val (.ref ar), .val .null, .val (.int (0 : Int32)), .val .null, .val (.long (0 : Int64)), .second, .val (.int (1 : Int32)), .unset, .unset] [(.ref a), (.ref a)])) rfl rfl (hb hby d2_128)
  refine Dn.st st128 ?_
  show Dn p e below s _ _ _ (T128.setTop (mkF m 131 #[.val (.ref a), .val (.int (1 : Int32)), .val (.int (1 : Int32)), .val (.long (1 : Int64)), .second, .val (.ref ar), .val .null, .val (.int (0 : Int32)), .val .null, .val (.long (0 : Int64)), .second, .val (.int (1 : Int32)), .unset, .unset] [(.int (0 : Int32)), (.ref a)]))
  refine Dn.st (fun _ kk => XS.bipush X128.here hx rfl (hb hby d2_131) (kk)) ?_
  show Dn p e below s _ _ _ (T128.setTop (mkF m 133 #[.val (.ref a), .val (.int (1 : Int32)), .val (.int (1 : Int32)), .val (.long (1 : Int64)), .second, .val (.ref ar), .val .null, .val (.int (0 : Int32)), .val .null, .val (.long (0 : Int64)), .second, .val (.int (1 : Int32)), .unset, .unset] [(.int (8 : Int32)), (.int (0 : Int32)), (.ref a)]))
  have hc133 : ¬ ((8 : Int32) < (0 : Int32)) := by decide
  refine Dn.st (fun _ kk => XS.icmpYes X128.here hx rfl (pc0 := 133) (pc' := 150) rfl (hb hby d2_133) rfl (flt hc133).2.2.2 (by decide) (by decide) (XS.dconst1 X128.here hx rfl (hb hby d2_150) rfl (kk))) ?_
  show Dn p e below s _ _ _ (T128.setTop (mkF m 151 #[.val (.ref a), .val (.int (1 : Int32)), .val (.int (1 : Int32)), .val (.long (1 : Int64)), .second, .val (.ref ar), .val .null, .val (.int (0 : Int32)), .val .null, .val (.long (0 : Int64)), .second, .val (.int (1 : Int32)), .unset, .unset] [(.double FP.dconst1), (.ref a)]))
  obtain ⟨T151, h151, X151, e151, W151, st151⟩ := putF X128 hx hZ hown (host := "") (Or.inl (hw _ (List.mem_of_getElem? (i := 21) rfl))) Via.refl e128 F_a_unit_123 E_a_123 (Or.inr ⟨(hw _ (List.mem_of_getElem? (i := 22) rfl)), rfl, hnm⟩) (hw _ (List.mem_of_getElem? (i := 1) rfl)) (ty := .double) (by decide) rfl rfl (g := (mkF m 151 #[.val (.ref a), .val (.int (1 : Int32)), .val (.int (1 : Int32)), .val (.long (1 : Int64)), .second, .val (.ref ar), .val .null, .val (.int (0 : Int32)), .val .null, .val (.long (0 : Int64)), .second, .val (.int (1 : Int32)), .unset, .unset] [(.double FP.dconst1), (.ref a)])) rfl rfl (hb hby d2_151)
  have E_a_151 := E_a_123.wr W151
  have F_a_width_151 := F_a_width_123.other W151 (Or.inr (slot_ne (Or.inr (hw _ (List.mem_of_getElem? (i := 14) rfl))) (Or.inr (hw _ (List.mem_of_getElem? (i := 22) rfl))) (by decide) (t := .int) (t' := .double) (by decide) (by decide)))
  have F_a_height_151 := F_a_height_123.other W151 (Or.inr (slot_ne (Or.inr (hw _ (List.mem_of_getElem? (i := 16) rfl))) (Or.inr (hw _ (List.mem_of_getElem? (i := 22) rfl))) (by decide) (t := .int) (t' := .double) (by decide) (by decide)))
  have F_a_samples_151 := F_a_samples_123.other W151 (Or.inr (slot_ne (Or.inr (hw _ (List.mem_of_getElem? (i := 18) rfl))) (Or.inr (hw _ (List.mem_of_getElem? (i := 22) rfl))) (by decide) (t := (.array .double)) (t' := .double) (by decide) (by decide)))
  have F_a_bits_151 := F_a_bits_123.other W151 (Or.inr (slot_ne (Or.inr (hw _ (List.mem_of_getElem? (i := 20) rfl))) (Or.inr (hw _ (List.mem_of_getElem? (i := 22) rfl))) (by decide) (t := .int) (t' := .double) (by decide) (by decide)))
  have F_a_bytes_151 := F_a_bytes_123.other W151 (Or.inr (slot_ne (Or.inr (hw _ (List.mem_of_getElem? (i := 24) rfl))) (Or.inr (hw _ (List.mem_of_getElem? (i := 22) rfl))) (by decide) (t := (.object "java/nio/ByteBuffer")) (t' := .double) (by decide) (by decide)))
  have F_a_words_151 := F_a_words_123.other W151 (Or.inr (slot_ne (Or.inr (hw _ (List.mem_of_getElem? (i := 26) rfl))) (Or.inr (hw _ (List.mem_of_getElem? (i := 22) rfl))) (by decide) (t := (.object "java/nio/IntBuffer")) (t' := .double) (by decide) (by decide)))
  have F_a_wideSamples_151 := F_a_wideSamples_123.other W151 (Or.inr (slot_ne (Or.inr (hw _ (List.mem_of_getElem? (i := 28) rfl))) (Or.inr (hw _ (List.mem_of_getElem? (i := 22) rfl))) (by decide) (t := (.object "java/nio/ShortBuffer")) (t' := .double) (by decide) (by decide)))
  have F_a_file_151 := F_a_file_123.other W151 (Or.inr (slot_ne (Or.inr (hw _ (List.mem_of_getElem? (i := 30) rfl))) (Or.inr (hw _ (List.mem_of_getElem? (i := 22) rfl))) (by decide) (t := (.object "com/example/honest_ruler/honestruler/image/ReadOnlyFile")) (t' := .double) (by decide) (by decide)))
  have F_a_fileStart_151 := F_a_fileStart_123.other W151 (Or.inr (slot_ne (Or.inr (hw _ (List.mem_of_getElem? (i := 32) rfl))) (Or.inr (hw _ (List.mem_of_getElem? (i := 22) rfl))) (by decide) (t := .long) (t' := .double) (by decide) (by decide)))
  have V_ar_151 := V_ar_123.other W151 nea
  have F_a_unit_151 := F_a_unit_123.same W151
  have K151 := K123.wr W151 (Or.inl (List.mem_of_getElem? (i := 0) rfl))
  have N151 := Fr.snoc X151 N123 ga
  have Z151 : n0 ≤ h151.size := Nat.le_trans Z123 (Keep.of_wr W151).1
  refine Dn.st st151 ?_
  show Dn p e below s _ _ _ (T151.setTop (mkF m 154 #[.val (.ref a), .val (.int (1 : Int32)), .val (.int (1 : Int32)), .val (.long (1 : Int64)), .second, .val (.ref ar), .val .null, .val (.int (0 : Int32)), .val .null, .val (.long (0 : Int64)), .second, .val (.int (1 : Int32)), .unset, .unset] []))
  refine Dn.st (fun _ kk => XS.aloadN X151.here hx rfl (hb hby d2_154) rfl rfl (XS.aload X151.here hx rfl (hb hby d2_155) rfl rfl (kk))) ?_
  show Dn p e below s _ _ _ (T151.setTop (mkF m 157 #[.val (.ref a), .val (.int (1 : Int32)), .val (.int (1 : Int32)), .val (.long (1 : Int64)), .second, .val (.ref ar), .val .null, .val (.int (0 : Int32)), .val .null, .val (.long (0 : Int64)), .second, .val (.int (1 : Int32)), .unset, .unset] [.null, (.ref a)]))
  obtain ⟨T157, h157, X157, e157, W157, st157⟩ := putF X151 hx hZ hown (host := "") (Or.inl (hw _ (List.mem_of_getElem? (i := 23) rfl))) Via.refl e151 F_a_bytes_151 E_a_151 (Or.inr ⟨(hw _ (List.mem_of_getElem? (i := 24) rfl)), rfl, hnm⟩) (hw _ (List.mem_of_getElem? (i := 1) rfl)) (ty := (.object "java/nio/ByteBuffer")) (by decide) rfl rfl (g := (mkF m 157 #[.val (.ref a), .val (.int (1 : Int32)), .val (.int (1 : Int32)), .val (.long (1 : Int64)), .second, .val (.ref ar), .val .null, .val (.int (0 : Int32)), .val .null, .val (.long (0 : Int64)), .second, .val (.int (1 : Int32)), .unset, .unset] [.null, (.ref a)])) rfl rfl (hb hby d2_157)
  have E_a_157 := E_a_151.wr W157
  have F_a_width_157 := F_a_width_151.other W157 (Or.inr (slot_ne (Or.inr (hw _ (List.mem_of_getElem? (i := 14) rfl))) (Or.inr (hw _ (List.mem_of_getElem? (i := 24) rfl))) (by decide) (t := .int) (t' := (.object "java/nio/ByteBuffer")) (by decide) (by decide)))
  have F_a_height_157 := F_a_height_151.other W157 (Or.inr (slot_ne (Or.inr (hw _ (List.mem_of_getElem? (i := 16) rfl))) (Or.inr (hw _ (List.mem_of_getElem? (i := 24) rfl))) (by decide) (t := .int) (t' := (.object "java/nio/ByteBuffer")) (by decide) (by decide)))
  have F_a_samples_157 := F_a_samples_151.other W157 (Or.inr (slot_ne (Or.inr (hw _ (List.mem_of_getElem? (i := 18) rfl))) (Or.inr (hw _ (List.mem_of_getElem? (i := 24) rfl))) (by decide) (t := (.array .double)) (t' := (.object "java/nio/ByteBuffer")) (by decide) (by decide)))
  have F_a_bits_157 := F_a_bits_151.other W157 (Or.inr (slot_ne (Or.inr (hw _ (List.mem_of_getElem? (i := 20) rfl))) (Or.inr (hw _ (List.mem_of_getElem? (i := 24) rfl))) (by decide) (t := .int) (t' := (.object "java/nio/ByteBuffer")) (by decide) (by decide)))
  have F_a_unit_157 := F_a_unit_151.other W157 (Or.inr (slot_ne (Or.inr (hw _ (List.mem_of_getElem? (i := 22) rfl))) (Or.inr (hw _ (List.mem_of_getElem? (i := 24) rfl))) (by decide) (t := .double) (t' := (.object "java/nio/ByteBuffer")) (by decide) (by decide)))
  have F_a_words_157 := F_a_words_151.other W157 (Or.inr (slot_ne (Or.inr (hw _ (List.mem_of_getElem? (i := 26) rfl))) (Or.inr (hw _ (List.mem_of_getElem? (i := 24) rfl))) (by decide) (t := (.object "java/nio/IntBuffer")) (t' := (.object "java/nio/ByteBuffer")) (by decide) (by decide)))
  have F_a_wideSamples_157 := F_a_wideSamples_151.other W157 (Or.inr (slot_ne (Or.inr (hw _ (List.mem_of_getElem? (i := 28) rfl))) (Or.inr (hw _ (List.mem_of_getElem? (i := 24) rfl))) (by decide) (t := (.object "java/nio/ShortBuffer")) (t' := (.object "java/nio/ByteBuffer")) (by decide) (by decide)))
  have F_a_file_157 := F_a_file_151.other W157 (Or.inr (slot_ne (Or.inr (hw _ (List.mem_of_getElem? (i := 30) rfl))) (Or.inr (hw _ (List.mem_of_getElem? (i := 24) rfl))) (by decide) (t := (.object "com/example/honest_ruler/honestruler/image/ReadOnlyFile")) (t' := (.object "java/nio/ByteBuffer")) (by decide) (by decide)))
  have F_a_fileStart_157 := F_a_fileStart_151.other W157 (Or.inr (slot_ne (Or.inr (hw _ (List.mem_of_getElem? (i := 32) rfl))) (Or.inr (hw _ (List.mem_of_getElem? (i := 24) rfl))) (by decide) (t := .long) (t' := (.object "java/nio/ByteBuffer")) (by decide) (by decide)))
  have V_ar_157 := V_ar_151.other W157 nea
  have F_a_bytes_157 := F_a_bytes_151.same W157
  have K157 := K151.wr W157 (Or.inl (List.mem_of_getElem? (i := 0) rfl))
  have N157 := Fr.snoc X157 N151 ga
  have Z157 : n0 ≤ h157.size := Nat.le_trans Z151 (Keep.of_wr W157).1
  refine Dn.st st157 ?_
  show Dn p e below s _ _ _ (T157.setTop (mkF m 160 #[.val (.ref a), .val (.int (1 : Int32)), .val (.int (1 : Int32)), .val (.long (1 : Int64)), .second, .val (.ref ar), .val .null, .val (.int (0 : Int32)), .val .null, .val (.long (0 : Int64)), .second, .val (.int (1 : Int32)), .unset, .unset] []))
  refine Dn.st (fun _ kk => XS.aloadN X157.here hx rfl (hb hby d2_160) rfl rfl (kk)) ?_
  show Dn p e below s _ _ _ (T157.setTop (mkF m 161 #[.val (.ref a), .val (.int (1 : Int32)), .val (.int (1 : Int32)), .val (.long (1 : Int64)), .second, .val (.ref ar), .val .null, .val (.int (0 : Int32)), .val .null, .val (.long (0 : Int64)), .second, .val (.int (1 : Int32)), .unset, .unset] [(.ref a)]))
  obtain ⟨T161, X161, e161, st161⟩ := getF X157 hx hZ hown (host := "") (Or.inl (hw _ (List.mem_of_getElem? (i := 19) rfl))) Via.refl e157 F_a_bits_157 (g := (mkF m 161 #[.val (.ref a), .val (.int (1 : Int32)), .val (.int (1 : Int32)), .val (.long (1 : Int64)), .second, .val (.ref ar), .val .null, .val (.int (0 : Int32)), .val .null, .val (.long (0 : Int64)), .second, .val (.int (1 : Int32)), .unset, .unset] [(.ref a)])) rfl rfl (hb hby d2_161)
  refine Dn.st st161 ?_
  show Dn p e below s _ _ _ (T161.setTop (mkF m 164 #[.val (.ref a), .val (.int (1 : Int32)), .val (.int (1 : Int32)), .val (.long (1 : Int64)), .second, .val (.ref ar), .val .null, .val (.int (0 : Int32)), .val .null, .val (.long (0 : Int64)), .second, .val (.int (1 : Int32)), .unset, .unset] [(.int (0 : Int32))]))
  refine Dn.st (fun _ kk => XS.bipush X161.here hx rfl (hb hby d2_164) (kk)) ?_
  show Dn p e below s _ _ _ (T161.setTop (mkF m 166 #[.val (.ref a), .val (.int (1 : Int32)), .val (.int (1 : Int32)), .val (.long (1 : Int64)), .second, .val (.ref ar), .val .null, .val (.int (0 : Int32)), .val .null, .val (.long (0 : Int64)), .second, .val (.int (1 : Int32)), .unset, .unset] [(.int (8 : Int32)), (.int (0 : Int32))]))
  have hc166 : ¬ ((8 : Int32) < (0 : Int32)) := by decide
  refine Dn.st (fun _ kk => XS.icmpYes X161.here hx rfl (pc0 := 166) (pc' := 173) rfl (hb hby d2_166) rfl (flt hc166).2.2.2 (by decide) (by decide) (XS.iconst X161.here hx rfl (hb hby d2_173) (XS.istore X161.here hx rfl (hb hby d2_174) rfl (l' := #[.val (.ref a), .val (.int (1 : Int32)), .val (.int (1 : Int32)), .val (.long (1 : Int64)), .second, .val (.ref ar), .val .null, .val (.int (0 : Int32)), .val .null, .val (.long (0 : Int64)), .second, .val (.int (1 : Int32)), .val (.int (0 : Int32)), .unset]) rfl (XS.aload X161.here hx rfl (hb hby d2_176) rfl rfl (XS.ifnonnullNo X161.here hx rfl (hb hby d2_178) rfl (XS.aconstNull X161.here hx rfl (hb hby d2_181) (kk))))))) ?_
  show Dn p e below s _ _ _ (T161.setTop (mkF m 182 #[.val (.ref a), .val (.int (1 : Int32)), .val (.int (1 : Int32)), .val (.long (1 : Int64)), .second, .val (.ref ar), .val .null, .val (.int (0 : Int32)), .val .null, .val (.long (0 : Int64)), .second, .val (.int (1 : Int32)), .val (.int (0 : Int32)), .unset] [.null]))
  refine Dn.st (fun _ kk => XS.goto X161.here hx rfl (pc0 := 182) (pc' := 196) rfl (hb hby d2_182) (by decide) (by decide) (XS.astore X161.here hx rfl (hb hby d2_196) rfl rfl (l' := #[.val (.ref a), .val (.int (1 : Int32)), .val (.int (1 : Int32)), .val (.long (1 : Int64)), .second, .val (.ref ar), .val .null, .val (.int (0 : Int32)), .val .null, .val (.long (0 : Int64)), .second, .val (.int (1 : Int32)), .val (.int (0 : Int32)), .val .null]) rfl (XS.aloadN X161.here hx rfl (hb hby d2_198) rfl rfl (XS.aload X161.here hx rfl (hb hby d2_199) rfl rfl (XS.ifnullYes X161.here hx rfl (pc0 := 201) (pc' := 209) rfl (hb hby d2_201) rfl (by decide) (by decide) (XS.aconstNull X161.here hx rfl (hb hby d2_209) (kk))))))) ?_
  show Dn p e below s _ _ _ (T161.setTop (mkF m 210 #[.val (.ref a), .val (.int (1 : Int32)), .val (.int (1 : Int32)), .val (.long (1 : Int64)), .second, .val (.ref ar), .val .null, .val (.int (0 : Int32)), .val .null, .val (.long (0 : Int64)), .second, .val (.int (1 : Int32)), .val (.int (0 : Int32)), .val .null] [.null, (.ref a)]))
  refine Dn.st (fun _ kk => XS.goto X161.here hx rfl (pc0 := 210) (pc' := 218) rfl (hb hby d2_210) (by decide) (by decide) (kk)) ?_
  show Dn p e below s _ _ _ (T161.setTop (mkF m 218 #[.val (.ref a), .val (.int (1 : Int32)), .val (.int (1 : Int32)), .val (.long (1 : Int64)), .second, .val (.ref ar), .val .null, .val (.int (0 : Int32)), .val .null, .val (.long (0 : Int64)), .second, .val (.int (1 : Int32)), .val (.int (0 : Int32)), .val .null] [.null, (.ref a)]))
  obtain ⟨T218, h218, X218, e218, W218, st218⟩ := putF X161 hx hZ hown (host := "") (Or.inl (hw _ (List.mem_of_getElem? (i := 25) rfl))) Via.refl e161 F_a_words_157 E_a_157 (Or.inr ⟨(hw _ (List.mem_of_getElem? (i := 26) rfl)), rfl, hnm⟩) (hw _ (List.mem_of_getElem? (i := 1) rfl)) (ty := (.object "java/nio/IntBuffer")) (by decide) rfl rfl (g := (mkF m 218 #[.val (.ref a), .val (.int (1 : Int32)), .val (.int (1 : Int32)), .val (.long (1 : Int64)), .second, .val (.ref ar), .val .null, .val (.int (0 : Int32)), .val .null, .val (.long (0 : Int64)), .second, .val (.int (1 : Int32)), .val (.int (0 : Int32)), .val .null] [.null, (.ref a)])) rfl rfl (hb hby d2_218)
  have E_a_218 := E_a_157.wr W218
  have F_a_width_218 := F_a_width_157.other W218 (Or.inr (slot_ne (Or.inr (hw _ (List.mem_of_getElem? (i := 14) rfl))) (Or.inr (hw _ (List.mem_of_getElem? (i := 26) rfl))) (by decide) (t := .int) (t' := (.object "java/nio/IntBuffer")) (by decide) (by decide)))
  have F_a_height_218 := F_a_height_157.other W218 (Or.inr (slot_ne (Or.inr (hw _ (List.mem_of_getElem? (i := 16) rfl))) (Or.inr (hw _ (List.mem_of_getElem? (i := 26) rfl))) (by decide) (t := .int) (t' := (.object "java/nio/IntBuffer")) (by decide) (by decide)))
  have F_a_samples_218 := F_a_samples_157.other W218 (Or.inr (slot_ne (Or.inr (hw _ (List.mem_of_getElem? (i := 18) rfl))) (Or.inr (hw _ (List.mem_of_getElem? (i := 26) rfl))) (by decide) (t := (.array .double)) (t' := (.object "java/nio/IntBuffer")) (by decide) (by decide)))
  have F_a_bits_218 := F_a_bits_157.other W218 (Or.inr (slot_ne (Or.inr (hw _ (List.mem_of_getElem? (i := 20) rfl))) (Or.inr (hw _ (List.mem_of_getElem? (i := 26) rfl))) (by decide) (t := .int) (t' := (.object "java/nio/IntBuffer")) (by decide) (by decide)))
  have F_a_unit_218 := F_a_unit_157.other W218 (Or.inr (slot_ne (Or.inr (hw _ (List.mem_of_getElem? (i := 22) rfl))) (Or.inr (hw _ (List.mem_of_getElem? (i := 26) rfl))) (by decide) (t := .double) (t' := (.object "java/nio/IntBuffer")) (by decide) (by decide)))
  have F_a_bytes_218 := F_a_bytes_157.other W218 (Or.inr (slot_ne (Or.inr (hw _ (List.mem_of_getElem? (i := 24) rfl))) (Or.inr (hw _ (List.mem_of_getElem? (i := 26) rfl))) (by decide) (t := (.object "java/nio/ByteBuffer")) (t' := (.object "java/nio/IntBuffer")) (by decide) (by decide)))
  have F_a_wideSamples_218 := F_a_wideSamples_157.other W218 (Or.inr (slot_ne (Or.inr (hw _ (List.mem_of_getElem? (i := 28) rfl))) (Or.inr (hw _ (List.mem_of_getElem? (i := 26) rfl))) (by decide) (t := (.object "java/nio/ShortBuffer")) (t' := (.object "java/nio/IntBuffer")) (by decide) (by decide)))
  have F_a_file_218 := F_a_file_157.other W218 (Or.inr (slot_ne (Or.inr (hw _ (List.mem_of_getElem? (i := 30) rfl))) (Or.inr (hw _ (List.mem_of_getElem? (i := 26) rfl))) (by decide) (t := (.object "com/example/honest_ruler/honestruler/image/ReadOnlyFile")) (t' := (.object "java/nio/IntBuffer")) (by decide) (by decide)))
  have F_a_fileStart_218 := F_a_fileStart_157.other W218 (Or.inr (slot_ne (Or.inr (hw _ (List.mem_of_getElem? (i := 32) rfl))) (Or.inr (hw _ (List.mem_of_getElem? (i := 26) rfl))) (by decide) (t := .long) (t' := (.object "java/nio/IntBuffer")) (by decide) (by decide)))
  have V_ar_218 := V_ar_157.other W218 nea
  have F_a_words_218 := F_a_words_157.same W218
  have K218 := K157.wr W218 (Or.inl (List.mem_of_getElem? (i := 0) rfl))
  have N218 := Fr.snoc X218 N157 ga
  have Z218 : n0 ≤ h218.size := Nat.le_trans Z157 (Keep.of_wr W218).1
  refine Dn.st st218 ?_
  show Dn p e below s _ _ _ (T218.setTop (mkF m 221 #[.val (.ref a), .val (.int (1 : Int32)), .val (.int (1 : Int32)), .val (.long (1 : Int64)), .second, .val (.ref ar), .val .null, .val (.int (0 : Int32)), .val .null, .val (.long (0 : Int64)), .second, .val (.int (1 : Int32)), .val (.int (0 : Int32)), .val .null] []))
  refine Dn.st (fun _ kk => XS.aloadN X218.here hx rfl (hb hby d2_221) rfl rfl (XS.aload X218.here hx rfl (hb hby d2_222) rfl rfl (XS.ifnullYes X218.here hx rfl (pc0 := 224) (pc' := 232) rfl (hb hby d2_224) rfl (by decide) (by decide) (XS.aconstNull X218.here hx rfl (hb hby d2_232) (XS.goto X218.here hx rfl (pc0 := 233) (pc' := 241) rfl (hb hby d2_233) (by decide) (by decide) (kk)))))) ?_
  show Dn p e below s _ _ _ (T218.setTop (mkF m 241 #[.val (.ref a), .val (.int (1 : Int32)), .val (.int (1 : Int32)), .val (.long (1 : Int64)), .second, .val (.ref ar), .val .null, .val (.int (0 : Int32)), .val .null, .val (.long (0 : Int64)), .second, .val (.int (1 : Int32)), .val (.int (0 : Int32)), .val .null] [.null, (.ref a)]))
  obtain ⟨T241, h241, X241, e241, W241, st241⟩ := putF X218 hx hZ hown (host := "") (Or.inl (hw _ (List.mem_of_getElem? (i := 27) rfl))) Via.refl e218 F_a_wideSamples_218 E_a_218 (Or.inr ⟨(hw _ (List.mem_of_getElem? (i := 28) rfl)), rfl, hnm⟩) (hw _ (List.mem_of_getElem? (i := 1) rfl)) (ty := (.object "java/nio/ShortBuffer")) (by decide) rfl rfl (g := (mkF m 241 #[.val (.ref a), .val (.int (1 : Int32)), .val (.int (1 : Int32)), .val (.long (1 : Int64)), .second, .val (.ref ar), .val .null, .val (.int (0 : Int32)), .val .null, .val (.long (0 : Int64)), .second, .val (.int (1 : Int32)), .val (.int (0 : Int32)), .val .null] [.null, (.ref a)])) rfl rfl (hb hby d2_241)
  have E_a_241 := E_a_218.wr W241
  have F_a_width_241 := F_a_width_218.other W241 (Or.inr (slot_ne (Or.inr (hw _ (List.mem_of_getElem? (i := 14) rfl))) (Or.inr (hw _ (List.mem_of_getElem? (i := 28) rfl))) (by decide) (t := .int) (t' := (.object "java/nio/ShortBuffer")) (by decide) (by decide)))
  have F_a_height_241 := F_a_height_218.other W241 (Or.inr (slot_ne (Or.inr (hw _ (List.mem_of_getElem? (i := 16) rfl))) (Or.inr (hw _ (List.mem_of_getElem? (i := 28) rfl))) (by decide) (t := .int) (t' := (.object "java/nio/ShortBuffer")) (by decide) (by decide)))
  have F_a_samples_241 := F_a_samples_218.other W241 (Or.inr (slot_ne (Or.inr (hw _ (List.mem_of_getElem? (i := 18) rfl))) (Or.inr (hw _ (List.mem_of_getElem? (i := 28) rfl))) (by decide) (t := (.array .double)) (t' := (.object "java/nio/ShortBuffer")) (by decide) (by decide)))
  have F_a_bits_241 := F_a_bits_218.other W241 (Or.inr (slot_ne (Or.inr (hw _ (List.mem_of_getElem? (i := 20) rfl))) (Or.inr (hw _ (List.mem_of_getElem? (i := 28) rfl))) (by decide) (t := .int) (t' := (.object "java/nio/ShortBuffer")) (by decide) (by decide)))
  have F_a_unit_241 := F_a_unit_218.other W241 (Or.inr (slot_ne (Or.inr (hw _ (List.mem_of_getElem? (i := 22) rfl))) (Or.inr (hw _ (List.mem_of_getElem? (i := 28) rfl))) (by decide) (t := .double) (t' := (.object "java/nio/ShortBuffer")) (by decide) (by decide)))
  have F_a_bytes_241 := F_a_bytes_218.other W241 (Or.inr (slot_ne (Or.inr (hw _ (List.mem_of_getElem? (i := 24) rfl))) (Or.inr (hw _ (List.mem_of_getElem? (i := 28) rfl))) (by decide) (t := (.object "java/nio/ByteBuffer")) (t' := (.object "java/nio/ShortBuffer")) (by decide) (by decide)))
  have F_a_words_241 := F_a_words_218.other W241 (Or.inr (slot_ne (Or.inr (hw _ (List.mem_of_getElem? (i := 26) rfl))) (Or.inr (hw _ (List.mem_of_getElem? (i := 28) rfl))) (by decide) (t := (.object "java/nio/IntBuffer")) (t' := (.object "java/nio/ShortBuffer")) (by decide) (by decide)))
  have F_a_file_241 := F_a_file_218.other W241 (Or.inr (slot_ne (Or.inr (hw _ (List.mem_of_getElem? (i := 30) rfl))) (Or.inr (hw _ (List.mem_of_getElem? (i := 28) rfl))) (by decide) (t := (.object "com/example/honest_ruler/honestruler/image/ReadOnlyFile")) (t' := (.object "java/nio/ShortBuffer")) (by decide) (by decide)))
  have F_a_fileStart_241 := F_a_fileStart_218.other W241 (Or.inr (slot_ne (Or.inr (hw _ (List.mem_of_getElem? (i := 32) rfl))) (Or.inr (hw _ (List.mem_of_getElem? (i := 28) rfl))) (by decide) (t := .long) (t' := (.object "java/nio/ShortBuffer")) (by decide) (by decide)))
  have V_ar_241 := V_ar_218.other W241 nea
  have F_a_wideSamples_241 := F_a_wideSamples_218.same W241
  have K241 := K218.wr W241 (Or.inl (List.mem_of_getElem? (i := 0) rfl))
  have N241 := Fr.snoc X241 N218 ga
  have Z241 : n0 ≤ h241.size := Nat.le_trans Z218 (Keep.of_wr W241).1
  refine Dn.st st241 ?_
  show Dn p e below s _ _ _ (T241.setTop (mkF m 244 #[.val (.ref a), .val (.int (1 : Int32)), .val (.int (1 : Int32)), .val (.long (1 : Int64)), .second, .val (.ref ar), .val .null, .val (.int (0 : Int32)), .val .null, .val (.long (0 : Int64)), .second, .val (.int (1 : Int32)), .val (.int (0 : Int32)), .val .null] []))
  refine Dn.st (fun _ kk => XS.aloadN X241.here hx rfl (hb hby d2_244) rfl rfl (XS.aload X241.here hx rfl (hb hby d2_245) rfl rfl (kk))) ?_
  show Dn p e below s _ _ _ (T241.setTop (mkF m 247 #[.val (.ref a), .val (.int (1 : Int32)), .val (.int (1 : Int32)), .val (.long (1 : Int64)), .second, .val (.ref ar), .val .null, .val (.int (0 : Int32)), .val .null, .val (.long (0 : Int64)), .second, .val (.int (1 : Int32)), .val (.int (0 : Int32)), .val .null] [.null, (.ref a)]))
  obtain ⟨T247, h247, X247, e247, W247, st247⟩ := putF X241 hx hZ hown (host := "") (Or.inl (hw _ (List.mem_of_getElem? (i := 29) rfl))) Via.refl e241 F_a_file_241 E_a_241 (Or.inr ⟨(hw _ (List.mem_of_getElem? (i := 30) rfl)), rfl, hnm⟩) (hw _ (List.mem_of_getElem? (i := 1) rfl)) (ty := (.object "com/example/honest_ruler/honestruler/image/ReadOnlyFile")) (by decide) rfl rfl (g := (mkF m 247 #[.val (.ref a), .val (.int (1 : Int32)), .val (.int (1 : Int32)), .val (.long (1 : Int64)), .second, .val (.ref ar), .val .null, .val (.int (0 : Int32)), .val .null, .val (.long (0 : Int64)), .second, .val (.int (1 : Int32)), .val (.int (0 : Int32)), .val .null] [.null, (.ref a)])) rfl rfl (hb hby d2_247)
  have E_a_247 := E_a_241.wr W247
  have F_a_width_247 := F_a_width_241.other W247 (Or.inr (slot_ne (Or.inr (hw _ (List.mem_of_getElem? (i := 14) rfl))) (Or.inr (hw _ (List.mem_of_getElem? (i := 30) rfl))) (by decide) (t := .int) (t' := (.object "com/example/honest_ruler/honestruler/image/ReadOnlyFile")) (by decide) (by decide)))
  have F_a_height_247 := F_a_height_241.other W247 (Or.inr (slot_ne (Or.inr (hw _ (List.mem_of_getElem? (i := 16) rfl))) (Or.inr (hw _ (List.mem_of_getElem? (i := 30) rfl))) (by decide) (t := .int) (t' := (.object "com/example/honest_ruler/honestruler/image/ReadOnlyFile")) (by decide) (by decide)))
  have F_a_samples_247 := F_a_samples_241.other W247 (Or.inr (slot_ne (Or.inr (hw _ (List.mem_of_getElem? (i := 18) rfl))) (Or.inr (hw _ (List.mem_of_getElem? (i := 30) rfl))) (by decide) (t := (.array .double)) (t' := (.object "com/example/honest_ruler/honestruler/image/ReadOnlyFile")) (by decide) (by decide)))
  have F_a_bits_247 := F_a_bits_241.other W247 (Or.inr (slot_ne (Or.inr (hw _ (List.mem_of_getElem? (i := 20) rfl))) (Or.inr (hw _ (List.mem_of_getElem? (i := 30) rfl))) (by decide) (t := .int) (t' := (.object "com/example/honest_ruler/honestruler/image/ReadOnlyFile")) (by decide) (by decide)))
  have F_a_unit_247 := F_a_unit_241.other W247 (Or.inr (slot_ne (Or.inr (hw _ (List.mem_of_getElem? (i := 22) rfl))) (Or.inr (hw _ (List.mem_of_getElem? (i := 30) rfl))) (by decide) (t := .double) (t' := (.object "com/example/honest_ruler/honestruler/image/ReadOnlyFile")) (by decide) (by decide)))
  have F_a_bytes_247 := F_a_bytes_241.other W247 (Or.inr (slot_ne (Or.inr (hw _ (List.mem_of_getElem? (i := 24) rfl))) (Or.inr (hw _ (List.mem_of_getElem? (i := 30) rfl))) (by decide) (t := (.object "java/nio/ByteBuffer")) (t' := (.object "com/example/honest_ruler/honestruler/image/ReadOnlyFile")) (by decide) (by decide)))
  have F_a_words_247 := F_a_words_241.other W247 (Or.inr (slot_ne (Or.inr (hw _ (List.mem_of_getElem? (i := 26) rfl))) (Or.inr (hw _ (List.mem_of_getElem? (i := 30) rfl))) (by decide) (t := (.object "java/nio/IntBuffer")) (t' := (.object "com/example/honest_ruler/honestruler/image/ReadOnlyFile")) (by decide) (by decide)))
  have F_a_wideSamples_247 := F_a_wideSamples_241.other W247 (Or.inr (slot_ne (Or.inr (hw _ (List.mem_of_getElem? (i := 28) rfl))) (Or.inr (hw _ (List.mem_of_getElem? (i := 30) rfl))) (by decide) (t := (.object "java/nio/ShortBuffer")) (t' := (.object "com/example/honest_ruler/honestruler/image/ReadOnlyFile")) (by decide) (by decide)))
  have F_a_fileStart_247 := F_a_fileStart_241.other W247 (Or.inr (slot_ne (Or.inr (hw _ (List.mem_of_getElem? (i := 32) rfl))) (Or.inr (hw _ (List.mem_of_getElem? (i := 30) rfl))) (by decide) (t := .long) (t' := (.object "com/example/honest_ruler/honestruler/image/ReadOnlyFile")) (by decide) (by decide)))
  have V_ar_247 := V_ar_241.other W247 nea
  have F_a_file_247 := F_a_file_241.same W247
  have K247 := K241.wr W247 (Or.inl (List.mem_of_getElem? (i := 0) rfl))
  have N247 := Fr.snoc X247 N241 ga
  have Z247 : n0 ≤ h247.size := Nat.le_trans Z241 (Keep.of_wr W247).1
  refine Dn.st st247 ?_
  show Dn p e below s _ _ _ (T247.setTop (mkF m 250 #[.val (.ref a), .val (.int (1 : Int32)), .val (.int (1 : Int32)), .val (.long (1 : Int64)), .second, .val (.ref ar), .val .null, .val (.int (0 : Int32)), .val .null, .val (.long (0 : Int64)), .second, .val (.int (1 : Int32)), .val (.int (0 : Int32)), .val .null] []))
  refine Dn.st (fun _ kk => XS.aloadN X247.here hx rfl (hb hby d2_250) rfl rfl (XS.lload X247.here hx rfl (hb hby d2_251) rfl  (kk))) ?_
  show Dn p e below s _ _ _ (T247.setTop (mkF m 253 #[.val (.ref a), .val (.int (1 : Int32)), .val (.int (1 : Int32)), .val (.long (1 : Int64)), .second, .val (.ref ar), .val .null, .val (.int (0 : Int32)), .val .null, .val (.long (0 : Int64)), .second, .val (.int (1 : Int32)), .val (.int (0 : Int32)), .val .null] [(.long (0 : Int64)), (.ref a)]))
  obtain ⟨T253, h253, X253, e253, W253, st253⟩ := putF X247 hx hZ hown (host := "") (Or.inl (hw _ (List.mem_of_getElem? (i := 31) rfl))) Via.refl e247 F_a_fileStart_247 E_a_247 (Or.inr ⟨(hw _ (List.mem_of_getElem? (i := 32) rfl)), rfl, hnm⟩) (hw _ (List.mem_of_getElem? (i := 1) rfl)) (ty := .long) (by decide) rfl rfl (g := (mkF m 253 #[.val (.ref a), .val (.int (1 : Int32)), .val (.int (1 : Int32)), .val (.long (1 : Int64)), .second, .val (.ref ar), .val .null, .val (.int (0 : Int32)), .val .null, .val (.long (0 : Int64)), .second, .val (.int (1 : Int32)), .val (.int (0 : Int32)), .val .null] [(.long (0 : Int64)), (.ref a)])) rfl rfl (hb hby d2_253)
  have E_a_253 := E_a_247.wr W253
  have F_a_width_253 := F_a_width_247.other W253 (Or.inr (slot_ne (Or.inr (hw _ (List.mem_of_getElem? (i := 14) rfl))) (Or.inr (hw _ (List.mem_of_getElem? (i := 32) rfl))) (by decide) (t := .int) (t' := .long) (by decide) (by decide)))
  have F_a_height_253 := F_a_height_247.other W253 (Or.inr (slot_ne (Or.inr (hw _ (List.mem_of_getElem? (i := 16) rfl))) (Or.inr (hw _ (List.mem_of_getElem? (i := 32) rfl))) (by decide) (t := .int) (t' := .long) (by decide) (by decide)))
  have F_a_samples_253 := F_a_samples_247.other W253 (Or.inr (slot_ne (Or.inr (hw _ (List.mem_of_getElem? (i := 18) rfl))) (Or.inr (hw _ (List.mem_of_getElem? (i := 32) rfl))) (by decide) (t := (.array .double)) (t' := .long) (by decide) (by decide)))
  have F_a_bits_253 := F_a_bits_247.other W253 (Or.inr (slot_ne (Or.inr (hw _ (List.mem_of_getElem? (i := 20) rfl))) (Or.inr (hw _ (List.mem_of_getElem? (i := 32) rfl))) (by decide) (t := .int) (t' := .long) (by decide) (by decide)))
  have F_a_unit_253 := F_a_unit_247.other W253 (Or.inr (slot_ne (Or.inr (hw _ (List.mem_of_getElem? (i := 22) rfl))) (Or.inr (hw _ (List.mem_of_getElem? (i := 32) rfl))) (by decide) (t := .double) (t' := .long) (by decide) (by decide)))
  have F_a_bytes_253 := F_a_bytes_247.other W253 (Or.inr (slot_ne (Or.inr (hw _ (List.mem_of_getElem? (i := 24) rfl))) (Or.inr (hw _ (List.mem_of_getElem? (i := 32) rfl))) (by decide) (t := (.object "java/nio/ByteBuffer")) (t' := .long) (by decide) (by decide)))
  have F_a_words_253 := F_a_words_247.other W253 (Or.inr (slot_ne (Or.inr (hw _ (List.mem_of_getElem? (i := 26) rfl))) (Or.inr (hw _ (List.mem_of_getElem? (i := 32) rfl))) (by decide) (t := (.object "java/nio/IntBuffer")) (t' := .long) (by decide) (by decide)))
  have F_a_wideSamples_253 := F_a_wideSamples_247.other W253 (Or.inr (slot_ne (Or.inr (hw _ (List.mem_of_getElem? (i := 28) rfl))) (Or.inr (hw _ (List.mem_of_getElem? (i := 32) rfl))) (by decide) (t := (.object "java/nio/ShortBuffer")) (t' := .long) (by decide) (by decide)))
  have F_a_file_253 := F_a_file_247.other W253 (Or.inr (slot_ne (Or.inr (hw _ (List.mem_of_getElem? (i := 30) rfl))) (Or.inr (hw _ (List.mem_of_getElem? (i := 32) rfl))) (by decide) (t := (.object "com/example/honest_ruler/honestruler/image/ReadOnlyFile")) (t' := .long) (by decide) (by decide)))
  have V_ar_253 := V_ar_247.other W253 nea
  have F_a_fileStart_253 := F_a_fileStart_247.same W253
  have K253 := K247.wr W253 (Or.inl (List.mem_of_getElem? (i := 0) rfl))
  have N253 := Fr.snoc X253 N247 ga
  have Z253 : n0 ≤ h253.size := Nat.le_trans Z247 (Keep.of_wr W253).1
  refine Dn.st st253 ?_
  show Dn p e below s _ _ _ (T253.setTop (mkF m 256 #[.val (.ref a), .val (.int (1 : Int32)), .val (.int (1 : Int32)), .val (.long (1 : Int64)), .second, .val (.ref ar), .val .null, .val (.int (0 : Int32)), .val .null, .val (.long (0 : Int64)), .second, .val (.int (1 : Int32)), .val (.int (0 : Int32)), .val .null] []))
  exact Dn.ret0 X253 hlk hx hret (hb hby d2_256) (by rw [e253]; exact ⟨rfl, N253, K253, E_a_253, F_a_width_253⟩) (by decide) (by decide)

theorem d1_0 : decode prog_10_method_1_code 0 = .ok (.aload_n 0, 1) := by decide +kernel
theorem d1_1 : decode prog_10_method_1_code 1 = .ok (.iload_n 1, 1) := by decide +kernel
theorem d1_2 : decode prog_10_method_1_code 2 = .ok (.iload_n 2, 1) := by decide +kernel
theorem d1_3 : decode prog_10_method_1_code 3 = .ok (.aload_n 3, 1) := by decide +kernel
theorem d1_4 : decode prog_10_method_1_code 4 = .ok (.arraylength, 1) := by decide +kernel
theorem d1_5 : decode prog_10_method_1_code 5 = .ok (.i2l, 1) := by decide +kernel
theorem d1_6 : decode prog_10_method_1_code 6 = .ok (.aload_n 3, 1) := by decide +kernel
theorem d1_7 : decode prog_10_method_1_code 7 = .ok (.aconst_null, 1) := by decide +kernel
theorem d1_8 : decode prog_10_method_1_code 8 = .ok (.iconst 0, 1) := by decide +kernel
theorem d1_9 : decode prog_10_method_1_code 9 = .ok (.aconst_null, 1) := by decide +kernel
theorem d1_10 : decode prog_10_method_1_code 10 = .ok (.lconst 0, 1) := by decide +kernel
theorem d1_11 : decode prog_10_method_1_code 11 = .ok (.invokespecial 1, 3) := by decide +kernel
theorem d1_14 : decode prog_10_method_1_code 14 = .ok (.return_, 1) := by decide +kernel
theorem pd0 : parseMethodDescriptor "(IIJ[DLjava/nio/ByteBuffer;ILcom/example/honest_ruler/honestruler/image/ReadOnlyFile;J)V" = some ⟨[.int, .int, .long, (.array .double), (.object "java/nio/ByteBuffer"), .int, (.object "com/example/honest_ruler/honestruler/image/ReadOnlyFile"), .long], none⟩ := by decide +kernel
theorem ef1_rm1 (m : MethodId) (x0 : Addr) (x1 : Int32) (x2 : Int32) (x3 : Addr) : entryFrame m #[(.ref x0), (.int x1), (.int x2), (.ref x3)] 4 = mkF m 0 #[.val (.ref x0), .val (.int x1), .val (.int x2), .val (.ref x3)] [] := by first | (simp [entryFrame, mkF, argsToLocals, Value.category]; done) | rfl
def Q1 (Z : State) (a : Addr) (ar : Addr) (ka : ClassId) (uu : UInt64) (h0 : Heap) (n0 : Nat) (v : Option Value) (h : Heap) (L : List Loc) : Prop := v = none ∧ Fr n0 L ∧ Keep h0 h [a] ∧ Exa Z h a "com/example/honest_ruler/honestruler/image/LumaPlane" ∧ (Fld Z h a "com/example/honest_ruler/honestruler/image/LumaPlane" "width" "I" (.int (1 : Int32)))
set_option maxRecDepth 65536 in
set_option maxHeartbeats 40000000 in
theorem rm1 (l : Launch) (Z : State) (a0 : Array Value) (hw : ∀ d ∈ tables_1, d.before a0 Z = true) (ws : List Jvm.Cond) (a : Addr) (ar : Addr) (ka : ClassId) (uu : UInt64) (h0 : Heap) (n0 : Nat) (Z0 : n0 ≤ h0.size) (ga : n0 ≤ a) (Ea : Exa Z h0 a "com/example/honest_ruler/honestruler/image/LumaPlane") (F0 : Fld Z h0 a "com/example/honest_ruler/honestruler/image/LumaPlane" "width" "I" (.int 0)) (F1 : Fld Z h0 a "com/example/honest_ruler/honestruler/image/LumaPlane" "height" "I" (.int 0)) (F2 : Fld Z h0 a "com/example/honest_ruler/honestruler/image/LumaPlane" "samples" "[D" .null) (F3 : Fld Z h0 a "com/example/honest_ruler/honestruler/image/LumaPlane" "bits" "I" (.int 0)) (F4 : Fld Z h0 a "com/example/honest_ruler/honestruler/image/LumaPlane" "unit" "D" (.double 0)) (F5 : Fld Z h0 a "com/example/honest_ruler/honestruler/image/LumaPlane" "bytes" "Ljava/nio/ByteBuffer;" .null) (F6 : Fld Z h0 a "com/example/honest_ruler/honestruler/image/LumaPlane" "words" "Ljava/nio/IntBuffer;" .null) (F7 : Fld Z h0 a "com/example/honest_ruler/honestruler/image/LumaPlane" "wideSamples" "Ljava/nio/ShortBuffer;" .null) (F8 : Fld Z h0 a "com/example/honest_ruler/honestruler/image/LumaPlane" "file" "Lcom/example/honest_ruler/honestruler/image/ReadOnlyFile;" .null) (F9 : Fld Z h0 a "com/example/honest_ruler/honestruler/image/LumaPlane" "fileStart" "J" (.long 0)) (Va : Arv Z h0 ar ka .double 1 [(.double uu)] (.double 0)) (nea : ar ≠ a) :
    MetFree l (⟨"com/example/honest_ruler/honestruler/image/LumaPlane", "<init>", "(II[D)V"⟩ : MethodName) (head1 (Jvm.Cond.code (⟨"com/example/honest_ruler/honestruler/image/LumaPlane", "<init>", "(II[D)V"⟩ : MethodName) prog_10_method_1_code 4 none :: ws) ({ frames := 2, cells := 0, slots := 0, locals := 37 } : Room)) (fun aa UU => aa = #[(.ref a), (.int (1 : Int32)), (.int (1 : Int32)), (.ref ar)] ∧ Z.Warmed39 UU.vm ∧ UU.heap = h0) (fun _ _ _ _ _ => True) (fun _ UU oo UU' => ∃ vv LL, oo = .returned vv ∧ Q1 Z a ar ka uu h0 n0 vv UU'.heap LL ∧ FrameEnd UU oo UU' LL ({ frames := 2, cells := 0, slots := 0, locals := 37 } : Room).cells ({ frames := 2, cells := 0, slots := 0, locals := 37 } : Room).slots) := by
  refine MetFree.of_bodySF (plainFor_of_name pn0) hisR ?_
  intro p e s m args below meth c s₁ Bd hml0 hP hK
  obtain ⟨rfl, hZ, hh⟩ := hP
  have hx := Bd.exec
  have hby := Bd.bytes
  have hlk : meth.locks = false := BodyLoose.notSynchronized Bd
  have hret := Bd.returns
  have hml : c.maxLocals = 4 := hml0
  have hown : s.vm.findClass "com/example/honest_ruler/honestruler/image/LumaPlane" = some m.cls := findClass_of_methodNamed Bd.named
  have hnm := (name_of_methodNamed Bd.named Bd.method).1
  have X0 : Stand p l e ({ frames := 2, cells := 0, slots := 0, locals := 37 } : Room) s m #[(.ref a), (.int (1 : Int32)), (.int (1 : Int32)), (.ref ar)] below meth c s₁ [] 0 0 := Stand.of_body Bd
  have e0 : s₁.heap = h0 := by rw [← hh, Bd.state]; rfl
  have N0 := Fr.nil n0
  show Dn p e below s (Q1 Z a ar ka uu h0 n0) ({ frames := 2, cells := 0, slots := 0, locals := 37 } : Room).cells ({ frames := 2, cells := 0, slots := 0, locals := 37 } : Room).slots (s₁.setTop (entryFrame m #[(.ref a), (.int (1 : Int32)), (.int (1 : Int32)), (.ref ar)] 4))
  refine Dn.st (fun _ kk => castTop (ef1_rm1 m a (1 : Int32) (1 : Int32) ar) kk) ?_
  show Dn p e below s _ _ _ (s₁.setTop (mkF m 0 #[.val (.ref a), .val (.int (1 : Int32)), .val (.int (1 : Int32)), .val (.ref ar)] []))
  refine Dn.st (fun _ kk => XS.aloadN X0.here hx rfl (hb hby d1_0) rfl rfl (XS.iloadN X0.here hx rfl (hb hby d1_1) rfl  (XS.iloadN X0.here hx rfl (hb hby d1_2) rfl  (XS.aloadN X0.here hx rfl (hb hby d1_3) rfl rfl (kk))))) ?_
  show Dn p e below s _ _ _ (s₁.setTop (mkF m 4 #[.val (.ref a), .val (.int (1 : Int32)), .val (.int (1 : Int32)), .val (.ref ar)] [(.ref ar), (.int (1 : Int32)), (.int (1 : Int32)), (.ref a)]))
  have Vc_ar_4 := Va
  obtain ⟨cl_ar_4, Ar_ar_4, q_ar_4, S_ar_4, N_ar_4, H_ar_4, G_ar_4⟩ := Vc_ar_4
  refine Dn.st (fun _ kk => X0.arraylength hx (by rw [e0]; exact Ar_ar_4.1) (State.isArrayOf_alike hZ.alike Ar_ar_4.2.1) (g := (mkF m 4 #[.val (.ref a), .val (.int (1 : Int32)), .val (.int (1 : Int32)), .val (.ref ar)] [(.ref ar), (.int (1 : Int32)), (.int (1 : Int32)), (.ref a)])) rfl rfl (hb hby d1_4) _ (kk)) ?_
  show Dn p e below s _ _ _ (s₁.setTop (mkF m 5 #[.val (.ref a), .val (.int (1 : Int32)), .val (.int (1 : Int32)), .val (.ref ar)] [(.int cl_ar_4.slots.size.toInt32), (.int (1 : Int32)), (.int (1 : Int32)), (.ref a)]))
  rw [len_of S_ar_4 N_ar_4]
  show Dn p e below s _ _ _ (s₁.setTop (mkF m 5 #[.val (.ref a), .val (.int (1 : Int32)), .val (.int (1 : Int32)), .val (.ref ar)] [(.int (1 : Int32)), (.int (1 : Int32)), (.int (1 : Int32)), (.ref a)]))
  refine Dn.st (fun _ kk => XS.i2l X0.here hx rfl (hb hby d1_5) rfl (XS.aloadN X0.here hx rfl (hb hby d1_6) rfl rfl (XS.aconstNull X0.here hx rfl (hb hby d1_7) (XS.iconst X0.here hx rfl (hb hby d1_8) (XS.aconstNull X0.here hx rfl (hb hby d1_9) (XS.lconst X0.here hx rfl (hb hby d1_10) (kk))))))) ?_
  show Dn p e below s _ _ _ (s₁.setTop (mkF m 11 #[.val (.ref a), .val (.int (1 : Int32)), .val (.int (1 : Int32)), .val (.ref ar)] [(.long (0 : Int64)), .null, (.int (0 : Int32)), .null, (.ref ar), (.long (1 : Int64)), (.int (1 : Int32)), (.int (1 : Int32)), (.ref a)]))
  obtain ⟨_, _, ⟨T11, L11, k11, n11⟩, -, X11, ⟨Lc11, hQ11, l11, y11, z11⟩, st11⟩ := X0.specialBack hx (y := (⟨"com/example/honest_ruler/honestruler/image/LumaPlane", "<init>", "(IIJ[DLjava/nio/ByteBuffer;ILcom/example/honest_ruler/honestruler/image/ReadOnlyFile;J)V"⟩ : MethodName)) rfl hown (mvT hZ (hw _ (List.mem_of_getElem? (i := 7) rfl))) (mvT hZ (hw _ (List.mem_of_getElem? (i := 8) rfl))) (mvT hZ (hw _ (List.mem_of_getElem? (i := 9) rfl))) (by decide) (backOf (W := 0) (rm2 l Z a0 hw []  a ar ka uu h0 n0 Z0 ga Ea F0 F1 F2 F3 F4 F5 F6 F7 F8 F9 Va nea) hZ (hw _ (List.mem_of_getElem? (i := 9) rfl)) (hw _ (List.mem_of_getElem? (i := 2) rfl)) (by decide) (by decide)) (g := (mkF m 11 #[.val (.ref a), .val (.int (1 : Int32)), .val (.int (1 : Int32)), .val (.ref ar)] [(.long (0 : Int64)), .null, (.int (0 : Int32)), .null, (.ref ar), (.long (1 : Int64)), (.int (1 : Int32)), (.int (1 : Int32)), (.ref a)])) rfl (by rw [hml]; rfl) (Steps.refl _) (a := a) (argsL := [(.int (1 : Int32)), (.int (1 : Int32)), (.long (1 : Int64)), (.ref ar), .null, (.int (0 : Int32)), .null, (.long (0 : Int64))]) (rest := []) (lenOf pd0 rfl) rfl (by show 2 * 0 + _ ≤ _; exact Nat.le_of_eq rfl) (hb hby d1_11) (fun _ _ => ⟨rfl, e0, (by decide : 0 + 0 ≤ _), (by decide : 0 + 0 ≤ _)⟩)
  dsimp only [Pt.U, Pt.locs, Pt.cells, Pt.slots] at X11 l11 y11 z11 st11 hQ11
  subst l11 y11 z11
  obtain ⟨rfl, Nq11, K11, E11, Fw11⟩ := hQ11
  have N11 := Fr.app N0 Nq11
  refine Dn.tr st11 ?_
  show Dn p e below s _ _ _ (T11.setTop (mkF m 14 #[.val (.ref a), .val (.int (1 : Int32)), .val (.int (1 : Int32)), .val (.ref ar)] []))
  exact Dn.ret0 X11 hlk hx hret (hb hby d1_14) ⟨rfl, N11, K11, E11, Fw11⟩ (by decide) (by decide)

theorem d4_0 : decode prog_26_method_1_code 0 = .ok (.aload_n 0, 1) := by decide +kernel
theorem d4_1 : decode prog_26_method_1_code 1 = .ok (.invokespecial 1, 3) := by decide +kernel
theorem d4_4 : decode prog_26_method_1_code 4 = .ok (.aload_n 0, 1) := by decide +kernel
theorem d4_5 : decode prog_26_method_1_code 5 = .ok (.aload_n 1, 1) := by decide +kernel
theorem d4_6 : decode prog_26_method_1_code 6 = .ok (.putfield 7, 3) := by decide +kernel
theorem d4_9 : decode prog_26_method_1_code 9 = .ok (.return_, 1) := by decide +kernel
theorem pn1 : plainName "com/example/honest_ruler/honestruler/input/StillFrame" = true := by first | (simp [plainName, overriddenIn]; done) | decide +kernel
theorem ef4_rm4 (m : MethodId) (x0 : Addr) (x1 : Addr) : entryFrame m #[(.ref x0), (.ref x1)] 2 = mkF m 0 #[.val (.ref x0), .val (.ref x1)] [] := by first | (simp [entryFrame, mkF, argsToLocals, Value.category]; done) | rfl
def Q4 (Z : State) (a : Addr) (pp : Addr) (h0 : Heap) (n0 : Nat) (v : Option Value) (h : Heap) (L : List Loc) : Prop := v = none ∧ Fr n0 L ∧ Keep h0 h [a] ∧ Exa Z h a "com/example/honest_ruler/honestruler/input/StillFrame" ∧ (Fld Z h a "com/example/honest_ruler/honestruler/input/StillFrame" "picture" "Lcom/example/honest_ruler/honestruler/image/LumaPlane;" (.ref pp)) ∧ (Fld Z h a "com/example/honest_ruler/honestruler/input/StillFrame" "given" "Z" (.int 0))
set_option maxRecDepth 65536 in
set_option maxHeartbeats 40000000 in
theorem rm4 (l : Launch) (Z : State) (a0 : Array Value) (hw : ∀ d ∈ tables_1, d.before a0 Z = true) (ws : List Jvm.Cond) (a : Addr) (pp : Addr) (h0 : Heap) (n0 : Nat) (Z0 : n0 ≤ h0.size) (ga : n0 ≤ a) (Ea : Exa Z h0 a "com/example/honest_ruler/honestruler/input/StillFrame") (F0 : Fld Z h0 a "com/example/honest_ruler/honestruler/input/StillFrame" "picture" "Lcom/example/honest_ruler/honestruler/image/LumaPlane;" .null) (F1 : Fld Z h0 a "com/example/honest_ruler/honestruler/input/StillFrame" "given" "Z" (.int 0)) :
    MetFree l (⟨"com/example/honest_ruler/honestruler/input/StillFrame", "<init>", "(Lcom/example/honest_ruler/honestruler/image/LumaPlane;)V"⟩ : MethodName) (head1 (Jvm.Cond.code (⟨"com/example/honest_ruler/honestruler/input/StillFrame", "<init>", "(Lcom/example/honest_ruler/honestruler/image/LumaPlane;)V"⟩ : MethodName) prog_26_method_1_code 2 none :: ws) ({ frames := 1, cells := 0, slots := 0, locals := 12 } : Room)) (fun aa UU => aa = #[(.ref a), (.ref pp)] ∧ Z.Warmed39 UU.vm ∧ UU.heap = h0) (fun _ _ _ _ _ => True) (fun _ UU oo UU' => ∃ vv LL, oo = .returned vv ∧ Q4 Z a pp h0 n0 vv UU'.heap LL ∧ FrameEnd UU oo UU' LL ({ frames := 1, cells := 0, slots := 0, locals := 12 } : Room).cells ({ frames := 1, cells := 0, slots := 0, locals := 12 } : Room).slots) := by
  refine MetFree.of_bodySF (plainFor_of_name pn1) hisR ?_
  intro p e s m args below meth c s₁ Bd hml0 hP hK
  obtain ⟨rfl, hZ, hh⟩ := hP
  have hx := Bd.exec
  have hby := Bd.bytes
  have hlk : meth.locks = false := BodyLoose.notSynchronized Bd
  have hret := Bd.returns
  have hml : c.maxLocals = 2 := hml0
  have hown : s.vm.findClass "com/example/honest_ruler/honestruler/input/StillFrame" = some m.cls := findClass_of_methodNamed Bd.named
  have hnm := (name_of_methodNamed Bd.named Bd.method).1
  have X0 : Stand p l e ({ frames := 1, cells := 0, slots := 0, locals := 12 } : Room) s m #[(.ref a), (.ref pp)] below meth c s₁ [] 0 0 := Stand.of_body Bd
  have e0 : s₁.heap = h0 := by rw [← hh, Bd.state]; rfl
  have N0 := Fr.nil n0
  show Dn p e below s (Q4 Z a pp h0 n0) ({ frames := 1, cells := 0, slots := 0, locals := 12 } : Room).cells ({ frames := 1, cells := 0, slots := 0, locals := 12 } : Room).slots (s₁.setTop (entryFrame m #[(.ref a), (.ref pp)] 2))
  refine Dn.st (fun _ kk => castTop (ef4_rm4 m a pp) kk) ?_
  show Dn p e below s _ _ _ (s₁.setTop (mkF m 0 #[.val (.ref a), .val (.ref pp)] []))
  refine Dn.st (fun _ kk => XS.aloadN X0.here hx rfl (hb hby d4_0) rfl rfl (kk)) ?_
  show Dn p e below s _ _ _ (s₁.setTop (mkF m 1 #[.val (.ref a), .val (.ref pp)] [(.ref a)]))
  obtain ⟨T1, X1, e1, st1⟩ := initO X0 hx hZ hown (hw _ (List.mem_of_getElem? (i := 39) rfl)) (hw _ (List.mem_of_getElem? (i := 11) rfl)) (hw _ (List.mem_of_getElem? (i := 12) rfl)) e0 (g := (mkF m 1 #[.val (.ref a), .val (.ref pp)] [(.ref a)])) rfl (by rw [hml]; rfl) rfl (hb hby d4_1) (by decide) (W := 0) (by show 2 * 0 + _ ≤ _; exact Nat.le_of_eq rfl) (by decide)
  refine Dn.st st1 ?_
  show Dn p e below s _ _ _ (T1.setTop (mkF m 4 #[.val (.ref a), .val (.ref pp)] []))
  refine Dn.st (fun _ kk => XS.aloadN X1.here hx rfl (hb hby d4_4) rfl rfl (XS.aloadN X1.here hx rfl (hb hby d4_5) rfl rfl (kk))) ?_
  show Dn p e below s _ _ _ (T1.setTop (mkF m 6 #[.val (.ref a), .val (.ref pp)] [(.ref pp), (.ref a)]))
  obtain ⟨T6, h6, X6, e6, W6, st6⟩ := putF X1 hx hZ hown (host := "") (Or.inl (hw _ (List.mem_of_getElem? (i := 40) rfl))) Via.refl e1 F0 Ea (Or.inr ⟨(hw _ (List.mem_of_getElem? (i := 41) rfl)), rfl, hnm⟩) (hw _ (List.mem_of_getElem? (i := 34) rfl)) (ty := (.object "com/example/honest_ruler/honestruler/image/LumaPlane")) (by decide) rfl rfl (g := (mkF m 6 #[.val (.ref a), .val (.ref pp)] [(.ref pp), (.ref a)])) rfl rfl (hb hby d4_6)
  have E_a_6 := Ea.wr W6
  have F_a_given_6 := F1.other W6 (Or.inr (slot_ne (Or.inl (hw _ (List.mem_of_getElem? (i := 58) rfl))) (Or.inr (hw _ (List.mem_of_getElem? (i := 41) rfl))) (by decide) (t := .boolean) (t' := (.object "com/example/honest_ruler/honestruler/image/LumaPlane")) (by decide) (by decide)))
  have F_a_picture_6 := F0.same W6
  have K6 := (Keep.refl h0 [a]).wr W6 (Or.inl (List.mem_of_getElem? (i := 0) rfl))
  have N6 := Fr.snoc X6 N0 ga
  have Z6 : n0 ≤ h6.size := Nat.le_trans Z0 (Keep.of_wr W6).1
  refine Dn.st st6 ?_
  show Dn p e below s _ _ _ (T6.setTop (mkF m 9 #[.val (.ref a), .val (.ref pp)] []))
  exact Dn.ret0 X6 hlk hx hret (hb hby d4_9) (by rw [e6]; exact ⟨rfl, N6, K6, E_a_6, F_a_picture_6, F_a_given_6⟩) (by decide) (by decide)

theorem d6_0 : decode prog_10_method_14_code 0 = .ok (.aload_n 0, 1) := by decide +kernel
theorem d6_1 : decode prog_10_method_14_code 1 = .ok (.getfield 56, 3) := by decide +kernel
theorem d6_4 : decode prog_10_method_14_code 4 = .ok (.ireturn, 1) := by decide +kernel
theorem ef6_rm6 (m : MethodId) (x0 : Addr) : entryFrame m #[(.ref x0)] 1 = mkF m 0 #[.val (.ref x0)] [] := by first | (simp [entryFrame, mkF, argsToLocals, Value.category]; done) | rfl
def Q6 (Z : State) (a : Addr) (h0 : Heap) (n0 : Nat) (v : Option Value) (h : Heap) (L : List Loc) : Prop := v = some (.int 1) ∧ Fr n0 L ∧ h = h0
set_option maxRecDepth 65536 in
set_option maxHeartbeats 40000000 in
theorem rm6 (l : Launch) (Z : State) (a0 : Array Value) (hw : ∀ d ∈ tables_1, d.before a0 Z = true) (ws : List Jvm.Cond) (a : Addr) (h0 : Heap) (n0 : Nat) (Z0 : n0 ≤ h0.size) (F0 : Fld Z h0 a "com/example/honest_ruler/honestruler/image/LumaPlane" "width" "I" (.int 1)) :
    MetFree l (⟨"com/example/honest_ruler/honestruler/image/LumaPlane", "getWidth", "()I"⟩ : MethodName) (head1 (Jvm.Cond.code (⟨"com/example/honest_ruler/honestruler/image/LumaPlane", "getWidth", "()I"⟩ : MethodName) prog_10_method_14_code 1 (some .int) :: ws) ({ frames := 0, cells := 0, slots := 0, locals := 0 } : Room)) (fun aa UU => aa = #[(.ref a)] ∧ Z.Warmed39 UU.vm ∧ UU.heap = h0) (fun _ _ _ _ _ => True) (fun _ UU oo UU' => ∃ vv LL, oo = .returned vv ∧ Q6 Z a h0 n0 vv UU'.heap LL ∧ FrameEnd UU oo UU' LL ({ frames := 0, cells := 0, slots := 0, locals := 0 } : Room).cells ({ frames := 0, cells := 0, slots := 0, locals := 0 } : Room).slots) := by
  refine MetFree.of_bodySF (plainFor_of_name pn0) hisR ?_
  intro p e s m args below meth c s₁ Bd hml0 hP hK
  obtain ⟨rfl, hZ, hh⟩ := hP
  have hx := Bd.exec
  have hby := Bd.bytes
  have hlk : meth.locks = false := BodyLoose.notSynchronized Bd
  have hret := Bd.returns
  have hml : c.maxLocals = 1 := hml0
  have hown : s.vm.findClass "com/example/honest_ruler/honestruler/image/LumaPlane" = some m.cls := findClass_of_methodNamed Bd.named
  have hnm := (name_of_methodNamed Bd.named Bd.method).1
  have X0 : Stand p l e ({ frames := 0, cells := 0, slots := 0, locals := 0 } : Room) s m #[(.ref a)] below meth c s₁ [] 0 0 := Stand.of_body Bd
  have e0 : s₁.heap = h0 := by rw [← hh, Bd.state]; rfl
  have N0 := Fr.nil n0
  show Dn p e below s (Q6 Z a h0 n0) ({ frames := 0, cells := 0, slots := 0, locals := 0 } : Room).cells ({ frames := 0, cells := 0, slots := 0, locals := 0 } : Room).slots (s₁.setTop (entryFrame m #[(.ref a)] 1))
  refine Dn.st (fun _ kk => castTop (ef6_rm6 m a) kk) ?_
  show Dn p e below s _ _ _ (s₁.setTop (mkF m 0 #[.val (.ref a)] []))
  refine Dn.st (fun _ kk => XS.aloadN X0.here hx rfl (hb hby d6_0) rfl rfl (kk)) ?_
  show Dn p e below s _ _ _ (s₁.setTop (mkF m 1 #[.val (.ref a)] [(.ref a)]))
  obtain ⟨T1, X1, e1, st1⟩ := getF X0 hx hZ hown (host := "") (Or.inl (hw _ (List.mem_of_getElem? (i := 13) rfl))) Via.refl e0 F0 (g := (mkF m 1 #[.val (.ref a)] [(.ref a)])) rfl rfl (hb hby d6_1)
  refine Dn.st st1 ?_
  show Dn p e below s _ _ _ (T1.setTop (mkF m 4 #[.val (.ref a)] [(.int (1 : Int32))]))
  exact Dn.ret X1 hlk hx hret rfl (Or.inl ⟨rfl, Or.inl rfl, _, rfl⟩) (hb hby d6_4) (by rw [e1]; exact ⟨rfl, N0, rfl⟩) (by decide) (by decide)

theorem d5_0 : decode prog_26_method_2_code 0 = .ok (.aload_n 0, 1) := by decide +kernel
theorem d5_1 : decode prog_26_method_2_code 1 = .ok (.getfield 7, 3) := by decide +kernel
theorem d5_4 : decode prog_26_method_2_code 4 = .ok (.invokevirtual 13, 3) := by decide +kernel
theorem d5_7 : decode prog_26_method_2_code 7 = .ok (.ireturn, 1) := by decide +kernel
theorem pd1 : parseMethodDescriptor "()I" = some ⟨[], some .int⟩ := by decide +kernel
theorem ef5_rm5 (m : MethodId) (x0 : Addr) : entryFrame m #[(.ref x0)] 1 = mkF m 0 #[.val (.ref x0)] [] := by first | (simp [entryFrame, mkF, argsToLocals, Value.category]; done) | rfl
def Q5 (Z : State) (a : Addr) (pp : Addr) (h0 : Heap) (n0 : Nat) (v : Option Value) (h : Heap) (L : List Loc) : Prop := v = some (.int 1) ∧ Fr n0 L ∧ h = h0
set_option maxRecDepth 65536 in
set_option maxHeartbeats 40000000 in
theorem rm5 (l : Launch) (Z : State) (a0 : Array Value) (hw : ∀ d ∈ tables_1, d.before a0 Z = true) (ws : List Jvm.Cond) (a : Addr) (pp : Addr) (h0 : Heap) (n0 : Nat) (Z0 : n0 ≤ h0.size) (F0 : Fld Z h0 a "com/example/honest_ruler/honestruler/input/StillFrame" "picture" "Lcom/example/honest_ruler/honestruler/image/LumaPlane;" (.ref pp)) (Ep : Exa Z h0 pp "com/example/honest_ruler/honestruler/image/LumaPlane") (F1 : Fld Z h0 pp "com/example/honest_ruler/honestruler/image/LumaPlane" "width" "I" (.int 1)) :
    MetFree l (⟨"com/example/honest_ruler/honestruler/input/StillFrame", "getWidth", "()I"⟩ : MethodName) (head1 (Jvm.Cond.code (⟨"com/example/honest_ruler/honestruler/input/StillFrame", "getWidth", "()I"⟩ : MethodName) prog_26_method_2_code 1 (some .int) :: ws) ({ frames := 1, cells := 0, slots := 0, locals := 12 } : Room)) (fun aa UU => aa = #[(.ref a)] ∧ Z.Warmed39 UU.vm ∧ UU.heap = h0) (fun _ _ _ _ _ => True) (fun _ UU oo UU' => ∃ vv LL, oo = .returned vv ∧ Q5 Z a pp h0 n0 vv UU'.heap LL ∧ FrameEnd UU oo UU' LL ({ frames := 1, cells := 0, slots := 0, locals := 12 } : Room).cells ({ frames := 1, cells := 0, slots := 0, locals := 12 } : Room).slots) := by
  refine MetFree.of_bodySF (plainFor_of_name pn1) hisR ?_
  intro p e s m args below meth c s₁ Bd hml0 hP hK
  obtain ⟨rfl, hZ, hh⟩ := hP
  have hx := Bd.exec
  have hby := Bd.bytes
  have hlk : meth.locks = false := BodyLoose.notSynchronized Bd
  have hret := Bd.returns
  have hml : c.maxLocals = 1 := hml0
  have hown : s.vm.findClass "com/example/honest_ruler/honestruler/input/StillFrame" = some m.cls := findClass_of_methodNamed Bd.named
  have hnm := (name_of_methodNamed Bd.named Bd.method).1
  have X0 : Stand p l e ({ frames := 1, cells := 0, slots := 0, locals := 12 } : Room) s m #[(.ref a)] below meth c s₁ [] 0 0 := Stand.of_body Bd
  have e0 : s₁.heap = h0 := by rw [← hh, Bd.state]; rfl
  have N0 := Fr.nil n0
  show Dn p e below s (Q5 Z a pp h0 n0) ({ frames := 1, cells := 0, slots := 0, locals := 12 } : Room).cells ({ frames := 1, cells := 0, slots := 0, locals := 12 } : Room).slots (s₁.setTop (entryFrame m #[(.ref a)] 1))
  refine Dn.st (fun _ kk => castTop (ef5_rm5 m a) kk) ?_
  show Dn p e below s _ _ _ (s₁.setTop (mkF m 0 #[.val (.ref a)] []))
  refine Dn.st (fun _ kk => XS.aloadN X0.here hx rfl (hb hby d5_0) rfl rfl (kk)) ?_
  show Dn p e below s _ _ _ (s₁.setTop (mkF m 1 #[.val (.ref a)] [(.ref a)]))
  obtain ⟨T1, X1, e1, st1⟩ := getF X0 hx hZ hown (host := "") (Or.inl (hw _ (List.mem_of_getElem? (i := 40) rfl))) Via.refl e0 F0 (g := (mkF m 1 #[.val (.ref a)] [(.ref a)])) rfl rfl (hb hby d5_1)
  refine Dn.st st1 ?_
  show Dn p e below s _ _ _ (T1.setTop (mkF m 4 #[.val (.ref a)] [(.ref pp)]))
  obtain ⟨cq4, kq4, q4a, q4b, q4c⟩ := isOf hZ e1 Ep
  obtain ⟨_, _, ⟨T4, L4, k4, n4⟩, -, X4, ⟨Lc4, hQ4, l4, y4, z4⟩, st4⟩ := X1.virtualBack hx (y := (⟨"com/example/honest_ruler/honestruler/image/LumaPlane", "getWidth", "()I"⟩ : MethodName)) (z := (⟨"com/example/honest_ruler/honestruler/image/LumaPlane", "getWidth", "()I"⟩ : MethodName)) hown (mvT hZ (hw _ (List.mem_of_getElem? (i := 47) rfl))) (mvT hZ (hw _ (List.mem_of_getElem? (i := 48) rfl))) (notFace_of_selects (args := #[]) (mvT hZ (hw _ (List.mem_of_getElem? (i := 50) rfl)))) (mvT hZ (hw _ (List.mem_of_getElem? (i := 50) rfl))) (mvT hZ (hw _ (List.mem_of_getElem? (i := 49) rfl))) (by decide) (backOf (W := 0) (rm6 l Z a0 hw [] pp  h0 n0 Z0 F1) hZ (hw _ (List.mem_of_getElem? (i := 51) rfl)) (hw _ (List.mem_of_getElem? (i := 2) rfl)) (by decide) (by decide)) q4a q4c (g := (mkF m 4 #[.val (.ref a)] [(.ref pp)])) rfl (by rw [hml]; rfl) (Steps.refl _) (argsL := []) (rest := []) (lenOf pd1 rfl) rfl (by show 2 * 0 + _ ≤ _; exact Nat.le_of_eq rfl) (hb hby d5_4) (fun _ _ => ⟨rfl, e1, (by decide : 0 + 0 ≤ _), (by decide : 0 + 0 ≤ _)⟩)
  dsimp only [Pt.U, Pt.locs, Pt.cells, Pt.slots] at X4 l4 y4 z4 st4 hQ4
  subst l4 y4 z4
  obtain ⟨rfl, Nq4, hh4⟩ := hQ4
  have N4 := Fr.app N0 Nq4
  refine Dn.tr st4 ?_
  show Dn p e below s _ _ _ (T4.setTop (mkF m 7 #[.val (.ref a)] [(.int (1 : Int32))]))
  exact Dn.ret X4 hlk hx hret rfl (Or.inl ⟨rfl, Or.inl rfl, _, rfl⟩) (hb hby d5_7) (by rw [hh4]; exact ⟨rfl, N4, rfl⟩) (by decide) (by decide)

theorem d7_0 : decode prog_26_method_5_code 0 = .ok (.aconst_null, 1) := by decide +kernel
theorem d7_1 : decode prog_26_method_5_code 1 = .ok (.astore_n 1, 1) := by decide +kernel
theorem d7_2 : decode prog_26_method_5_code 2 = .ok (.aload_n 0, 1) := by decide +kernel
theorem d7_3 : decode prog_26_method_5_code 3 = .ok (.getfield 25, 3) := by decide +kernel
theorem d7_6 : decode prog_26_method_5_code 6 = .ok (.ifCond .ne 13, 3) := by decide +kernel
theorem d7_9 : decode prog_26_method_5_code 9 = .ok (.aload_n 0, 1) := by decide +kernel
theorem d7_10 : decode prog_26_method_5_code 10 = .ok (.getfield 7, 3) := by decide +kernel
theorem d7_13 : decode prog_26_method_5_code 13 = .ok (.astore_n 1, 1) := by decide +kernel
theorem d7_14 : decode prog_26_method_5_code 14 = .ok (.aload_n 0, 1) := by decide +kernel
theorem d7_15 : decode prog_26_method_5_code 15 = .ok (.iconst 1, 1) := by decide +kernel
theorem d7_16 : decode prog_26_method_5_code 16 = .ok (.putfield 25, 3) := by decide +kernel
theorem d7_19 : decode prog_26_method_5_code 19 = .ok (.aload_n 1, 1) := by decide +kernel
theorem d7_20 : decode prog_26_method_5_code 20 = .ok (.areturn, 1) := by decide +kernel
theorem ef7_rm7_0 (m : MethodId) (x0 : Addr) : entryFrame m #[(.ref x0)] 2 = mkF m 0 #[.val (.ref x0), .unset] [] := by first | (simp [entryFrame, mkF, argsToLocals, Value.category]; done) | rfl
def Q7_0 (Z : State) (a : Addr) (pp : Addr) (h0 : Heap) (n0 : Nat) (v : Option Value) (h : Heap) (L : List Loc) : Prop := v = some (.ref pp) ∧ Fr n0 L ∧ Keep h0 h [a] ∧ (Fld Z h a "com/example/honest_ruler/honestruler/input/StillFrame" "picture" "Lcom/example/honest_ruler/honestruler/image/LumaPlane;" (.ref pp)) ∧ (Fld Z h a "com/example/honest_ruler/honestruler/input/StillFrame" "given" "Z" (.int 1))
set_option maxRecDepth 65536 in
set_option maxHeartbeats 40000000 in
theorem rm7_0 (l : Launch) (Z : State) (a0 : Array Value) (hw : ∀ d ∈ tables_1, d.before a0 Z = true) (ws : List Jvm.Cond) (a : Addr) (pp : Addr) (h0 : Heap) (n0 : Nat) (Z0 : n0 ≤ h0.size) (ga : n0 ≤ a) (Ea : Exa Z h0 a "com/example/honest_ruler/honestruler/input/StillFrame") (F0 : Fld Z h0 a "com/example/honest_ruler/honestruler/input/StillFrame" "picture" "Lcom/example/honest_ruler/honestruler/image/LumaPlane;" (.ref pp)) (F1 : Fld Z h0 a "com/example/honest_ruler/honestruler/input/StillFrame" "given" "Z" (.int 0)) :
    MetFree l (⟨"com/example/honest_ruler/honestruler/input/StillFrame", "next", "()Lcom/example/honest_ruler/honestruler/image/LumaPlane;"⟩ : MethodName) (head1 (Jvm.Cond.code (⟨"com/example/honest_ruler/honestruler/input/StillFrame", "next", "()Lcom/example/honest_ruler/honestruler/image/LumaPlane;"⟩ : MethodName) prog_26_method_5_code 2 (some (.object "com/example/honest_ruler/honestruler/image/LumaPlane")) :: ws) ({ frames := 0, cells := 0, slots := 0, locals := 0 } : Room)) (fun aa UU => aa = #[(.ref a)] ∧ Z.Warmed39 UU.vm ∧ UU.heap = h0) (fun _ _ _ _ _ => True) (fun _ UU oo UU' => ∃ vv LL, oo = .returned vv ∧ Q7_0 Z a pp h0 n0 vv UU'.heap LL ∧ FrameEnd UU oo UU' LL ({ frames := 0, cells := 0, slots := 0, locals := 0 } : Room).cells ({ frames := 0, cells := 0, slots := 0, locals := 0 } : Room).slots) := by
  refine MetFree.of_bodySF (plainFor_of_name pn1) hisR ?_
  intro p e s m args below meth c s₁ Bd hml0 hP hK
  obtain ⟨rfl, hZ, hh⟩ := hP
  have hx := Bd.exec
  have hby := Bd.bytes
  have hlk : meth.locks = false := BodyLoose.notSynchronized Bd
  have hret := Bd.returns
  have hml : c.maxLocals = 2 := hml0
  have hown : s.vm.findClass "com/example/honest_ruler/honestruler/input/StillFrame" = some m.cls := findClass_of_methodNamed Bd.named
  have hnm := (name_of_methodNamed Bd.named Bd.method).1
  have X0 : Stand p l e ({ frames := 0, cells := 0, slots := 0, locals := 0 } : Room) s m #[(.ref a)] below meth c s₁ [] 0 0 := Stand.of_body Bd
  have e0 : s₁.heap = h0 := by rw [← hh, Bd.state]; rfl
  have N0 := Fr.nil n0
  show Dn p e below s (Q7_0 Z a pp h0 n0) ({ frames := 0, cells := 0, slots := 0, locals := 0 } : Room).cells ({ frames := 0, cells := 0, slots := 0, locals := 0 } : Room).slots (s₁.setTop (entryFrame m #[(.ref a)] 2))
  refine Dn.st (fun _ kk => castTop (ef7_rm7_0 m a) kk) ?_
  show Dn p e below s _ _ _ (s₁.setTop (mkF m 0 #[.val (.ref a), .unset] []))
  refine Dn.st (fun _ kk => XS.aconstNull X0.here hx rfl (hb hby d7_0) (XS.astoreN X0.here hx rfl (hb hby d7_1) rfl rfl (l' := #[.val (.ref a), .val .null]) rfl (XS.aloadN X0.here hx rfl (hb hby d7_2) rfl rfl (kk)))) ?_
  show Dn p e below s _ _ _ (s₁.setTop (mkF m 3 #[.val (.ref a), .val .null] [(.ref a)]))
  obtain ⟨T3, X3, e3, st3⟩ := getF X0 hx hZ hown (host := "") (Or.inl (hw _ (List.mem_of_getElem? (i := 57) rfl))) Via.refl e0 F1 (g := (mkF m 3 #[.val (.ref a), .val .null] [(.ref a)])) rfl rfl (hb hby d7_3)
  refine Dn.st st3 ?_
  show Dn p e below s _ _ _ (T3.setTop (mkF m 6 #[.val (.ref a), .val .null] [(.int (0 : Int32))]))
  have hc6 : (0 : Int32) = (0 : Int32) := by decide
  refine Dn.st (fun _ kk => XS.ifNo X3.here hx rfl (hb hby d7_6) rfl ((if0 _ _).trans (teq hc6).2) (XS.aloadN X3.here hx rfl (hb hby d7_9) rfl rfl (kk))) ?_
  show Dn p e below s _ _ _ (T3.setTop (mkF m 10 #[.val (.ref a), .val .null] [(.ref a)]))
  obtain ⟨T10, X10, e10, st10⟩ := getF X3 hx hZ hown (host := "") (Or.inl (hw _ (List.mem_of_getElem? (i := 40) rfl))) Via.refl e3 F0 (g := (mkF m 10 #[.val (.ref a), .val .null] [(.ref a)])) rfl rfl (hb hby d7_10)
  refine Dn.st st10 ?_
  show Dn p e below s _ _ _ (T10.setTop (mkF m 13 #[.val (.ref a), .val .null] [(.ref pp)]))
  refine Dn.st (fun _ kk => XS.astoreN X10.here hx rfl (hb hby d7_13) rfl rfl (l' := #[.val (.ref a), .val (.ref pp)]) rfl (XS.aloadN X10.here hx rfl (hb hby d7_14) rfl rfl (XS.iconst X10.here hx rfl (hb hby d7_15) (kk)))) ?_
  show Dn p e below s _ _ _ (T10.setTop (mkF m 16 #[.val (.ref a), .val (.ref pp)] [(.int (1 : Int32)), (.ref a)]))
  obtain ⟨T16, h16, X16, e16, W16, st16⟩ := putF X10 hx hZ hown (host := "") (Or.inl (hw _ (List.mem_of_getElem? (i := 57) rfl))) Via.refl e10 F1 Ea (Or.inl (hw _ (List.mem_of_getElem? (i := 58) rfl))) (hw _ (List.mem_of_getElem? (i := 34) rfl)) (ty := .boolean) (by decide) rfl rfl (g := (mkF m 16 #[.val (.ref a), .val (.ref pp)] [(.int (1 : Int32)), (.ref a)])) rfl rfl (hb hby d7_16)
  have E_a_16 := Ea.wr W16
  have F_a_picture_16 := F0.other W16 (Or.inr (slot_ne (Or.inr (hw _ (List.mem_of_getElem? (i := 41) rfl))) (Or.inl (hw _ (List.mem_of_getElem? (i := 58) rfl))) (by decide) (t := (.object "com/example/honest_ruler/honestruler/image/LumaPlane")) (t' := .boolean) (by decide) (by decide)))
  have F_a_given_16 := F1.same W16
  have K16 := (Keep.refl h0 [a]).wr W16 (Or.inl (List.mem_of_getElem? (i := 0) rfl))
  have N16 := Fr.snoc X16 N0 ga
  have Z16 : n0 ≤ h16.size := Nat.le_trans Z0 (Keep.of_wr W16).1
  refine Dn.st st16 ?_
  show Dn p e below s _ _ _ (T16.setTop (mkF m 19 #[.val (.ref a), .val (.ref pp)] []))
  refine Dn.st (fun _ kk => XS.aloadN X16.here hx rfl (hb hby d7_19) rfl rfl (kk)) ?_
  show Dn p e below s _ _ _ (T16.setTop (mkF m 20 #[.val (.ref a), .val (.ref pp)] [(.ref pp)]))
  exact Dn.ret X16 hlk hx hret rfl (Or.inr (Or.inr (Or.inr (Or.inr ⟨rfl, rfl, rfl⟩)))) (hb hby d7_20) (by rw [e16]; exact ⟨rfl, N16, K16, F_a_picture_16, F_a_given_16⟩) (by decide) (by decide)

theorem ef7_rm7_1 (m : MethodId) (x0 : Addr) : entryFrame m #[(.ref x0)] 2 = mkF m 0 #[.val (.ref x0), .unset] [] := by first | (simp [entryFrame, mkF, argsToLocals, Value.category]; done) | rfl
def Q7_1 (Z : State) (a : Addr) (pp : Addr) (h0 : Heap) (n0 : Nat) (v : Option Value) (h : Heap) (L : List Loc) : Prop := v = some .null ∧ Fr n0 L ∧ h = h0
set_option maxRecDepth 65536 in
set_option maxHeartbeats 40000000 in
theorem rm7_1 (l : Launch) (Z : State) (a0 : Array Value) (hw : ∀ d ∈ tables_1, d.before a0 Z = true) (ws : List Jvm.Cond) (a : Addr) (pp : Addr) (h0 : Heap) (n0 : Nat) (Z0 : n0 ≤ h0.size) (ga : n0 ≤ a) (Ea : Exa Z h0 a "com/example/honest_ruler/honestruler/input/StillFrame") (F0 : Fld Z h0 a "com/example/honest_ruler/honestruler/input/StillFrame" "picture" "Lcom/example/honest_ruler/honestruler/image/LumaPlane;" (.ref pp)) (F1 : Fld Z h0 a "com/example/honest_ruler/honestruler/input/StillFrame" "given" "Z" (.int 1)) :
    MetFree l (⟨"com/example/honest_ruler/honestruler/input/StillFrame", "next", "()Lcom/example/honest_ruler/honestruler/image/LumaPlane;"⟩ : MethodName) (head1 (Jvm.Cond.code (⟨"com/example/honest_ruler/honestruler/input/StillFrame", "next", "()Lcom/example/honest_ruler/honestruler/image/LumaPlane;"⟩ : MethodName) prog_26_method_5_code 2 (some (.object "com/example/honest_ruler/honestruler/image/LumaPlane")) :: ws) ({ frames := 0, cells := 0, slots := 0, locals := 0 } : Room)) (fun aa UU => aa = #[(.ref a)] ∧ Z.Warmed39 UU.vm ∧ UU.heap = h0) (fun _ _ _ _ _ => True) (fun _ UU oo UU' => ∃ vv LL, oo = .returned vv ∧ Q7_1 Z a pp h0 n0 vv UU'.heap LL ∧ FrameEnd UU oo UU' LL ({ frames := 0, cells := 0, slots := 0, locals := 0 } : Room).cells ({ frames := 0, cells := 0, slots := 0, locals := 0 } : Room).slots) := by
  refine MetFree.of_bodySF (plainFor_of_name pn1) hisR ?_
  intro p e s m args below meth c s₁ Bd hml0 hP hK
  obtain ⟨rfl, hZ, hh⟩ := hP
  have hx := Bd.exec
  have hby := Bd.bytes
  have hlk : meth.locks = false := BodyLoose.notSynchronized Bd
  have hret := Bd.returns
  have hml : c.maxLocals = 2 := hml0
  have hown : s.vm.findClass "com/example/honest_ruler/honestruler/input/StillFrame" = some m.cls := findClass_of_methodNamed Bd.named
  have hnm := (name_of_methodNamed Bd.named Bd.method).1
  have X0 : Stand p l e ({ frames := 0, cells := 0, slots := 0, locals := 0 } : Room) s m #[(.ref a)] below meth c s₁ [] 0 0 := Stand.of_body Bd
  have e0 : s₁.heap = h0 := by rw [← hh, Bd.state]; rfl
  have N0 := Fr.nil n0
  show Dn p e below s (Q7_1 Z a pp h0 n0) ({ frames := 0, cells := 0, slots := 0, locals := 0 } : Room).cells ({ frames := 0, cells := 0, slots := 0, locals := 0 } : Room).slots (s₁.setTop (entryFrame m #[(.ref a)] 2))
  refine Dn.st (fun _ kk => castTop (ef7_rm7_1 m a) kk) ?_
  show Dn p e below s _ _ _ (s₁.setTop (mkF m 0 #[.val (.ref a), .unset] []))
  refine Dn.st (fun _ kk => XS.aconstNull X0.here hx rfl (hb hby d7_0) (XS.astoreN X0.here hx rfl (hb hby d7_1) rfl rfl (l' := #[.val (.ref a), .val .null]) rfl (XS.aloadN X0.here hx rfl (hb hby d7_2) rfl rfl (kk)))) ?_
  show Dn p e below s _ _ _ (s₁.setTop (mkF m 3 #[.val (.ref a), .val .null] [(.ref a)]))
  obtain ⟨T3, X3, e3, st3⟩ := getF X0 hx hZ hown (host := "") (Or.inl (hw _ (List.mem_of_getElem? (i := 57) rfl))) Via.refl e0 F1 (g := (mkF m 3 #[.val (.ref a), .val .null] [(.ref a)])) rfl rfl (hb hby d7_3)
  refine Dn.st st3 ?_
  show Dn p e below s _ _ _ (T3.setTop (mkF m 6 #[.val (.ref a), .val .null] [(.int (1 : Int32))]))
  have hc6 : ¬ ((1 : Int32) = (0 : Int32)) := by decide
  refine Dn.st (fun _ kk => XS.ifYes X3.here hx rfl (pc0 := 6) (pc' := 19) rfl (hb hby d7_6) rfl ((if0 _ _).trans (feq hc6).2) (by decide) (by decide) (XS.aloadN X3.here hx rfl (hb hby d7_19) rfl rfl (kk))) ?_
  show Dn p e below s _ _ _ (T3.setTop (mkF m 20 #[.val (.ref a), .val .null] [.null]))
  exact Dn.ret X3 hlk hx hret rfl (Or.inr (Or.inr (Or.inr (Or.inr ⟨rfl, rfl, rfl⟩)))) (hb hby d7_20) (by rw [e3]; exact ⟨rfl, N0, rfl⟩) (by decide) (by decide)

theorem pd2 : parseMethodDescriptor "(II[D)V" = some ⟨[.int, .int, (.array .double)], none⟩ := by decide +kernel
theorem pd3 : parseMethodDescriptor "(Lcom/example/honest_ruler/honestruler/image/LumaPlane;)V" = some ⟨[(.object "com/example/honest_ruler/honestruler/image/LumaPlane")], none⟩ := by decide +kernel
theorem pd4 : parseMethodDescriptor "()Lcom/example/honest_ruler/honestruler/image/LumaPlane;" = some ⟨[], some (.object "com/example/honest_ruler/honestruler/image/LumaPlane")⟩ := by decide +kernel
theorem pn2 : plainName "com/example/honest_ruler/honestruler/input/StillFrameNextPinLaw" = true := by first | (simp [plainName, overriddenIn]; done) | decide +kernel
theorem ef0_rm0 (m : MethodId) (x0 : Int32) (x1 : Int32) : entryFrame m #[(.int x0), (.int x1)] maxLocals = mkF m 0 #[.val (.int x0), .val (.int x1), .unset, .unset, .unset, .unset, .unset, .unset, .unset, .unset, .unset, .unset, .unset, .unset] [] := by first | (simp [entryFrame, mkF, argsToLocals, Value.category, maxLocals]; done) | rfl
def Q0 (Z : State) (p0 : Int32) (p1 : Int32) (h0 : Heap) (n0 : Nat) (v : Option Value) (h : Heap) (L : List Loc) : Prop := v = some (.int 1) ∧ Fr n0 L
set_option maxRecDepth 65536 in
set_option maxHeartbeats 40000000 in
theorem rm0 (l : Launch) (Z : State) (a0 : Array Value) (hw : ∀ d ∈ tables_1, d.before a0 Z = true) (ws : List Jvm.Cond) (p0 : Int32) (p1 : Int32) (h0 : Heap) (n0 : Nat) (Z0 : n0 ≤ h0.size) :
    MetFree l x (head1 (Jvm.Cond.code x code maxLocals ret :: ws) room_1) (fun aa UU => aa = #[(.int p0), (.int p1)] ∧ Z.Warmed39 UU.vm ∧ UU.heap = h0) (fun _ _ _ _ _ => True) (fun _ UU oo UU' => ∃ vv LL, oo = .returned vv ∧ Q0 Z p0 p1 h0 n0 vv UU'.heap LL ∧ FrameEnd UU oo UU' LL 16 128) := by
  refine MetFree.of_bodySF (plainFor_of_name pn2) hisR ?_
  intro p e s m args below meth c s₁ Bd hml0 hP hK
  obtain ⟨rfl, hZ, hh⟩ := hP
  have hx := Bd.exec
  have hby := Bd.bytes
  have hlk : meth.locks = false := BodyLoose.notSynchronized Bd
  have hret := Bd.returns
  have hml : c.maxLocals = 14 := hml0
  have hown : s.vm.findClass "com/example/honest_ruler/honestruler/input/StillFrameNextPinLaw" = some m.cls := findClass_of_methodNamed Bd.named
  have hnm := (name_of_methodNamed Bd.named Bd.method).1
  have X0 : Stand p l e room_1 s m #[(.int p0), (.int p1)] below meth c s₁ [] 0 0 := Stand.of_body Bd
  have e0 : s₁.heap = h0 := by rw [← hh, Bd.state]; rfl
  have N0 := Fr.nil n0
  show Dn p e below s (Q0 Z p0 p1 h0 n0) 16 128 (s₁.setTop (entryFrame m #[(.int p0), (.int p1)] maxLocals))
  refine Dn.st (fun _ kk => castTop (ef0_rm0 m p0 p1) kk) ?_
  show Dn p e below s _ _ _ (s₁.setTop (mkF m 0 #[.val (.int p0), .val (.int p1), .unset, .unset, .unset, .unset, .unset, .unset, .unset, .unset, .unset, .unset, .unset, .unset] []))
  obtain ⟨T0z, h0z, X0z, e0z, E0z, A0z, D0z, -, st0z⟩ := newO X0 hx hZ hown (hw _ (List.mem_of_getElem? (i := 0) rfl)) (hw _ (List.mem_of_getElem? (i := 1) rfl)) (hw _ (List.mem_of_getElem? (i := 2) rfl)) e0 (g := (mkF m 0 #[.val (.int p0), .val (.int p1), .unset, .unset, .unset, .unset, .unset, .unset, .unset, .unset, .unset, .unset, .unset, .unset] [])) rfl (hb hby at_0) (by decide) (by decide)
  obtain ⟨b0z, g0z⟩ : ∃ z, z = h0.size := ⟨_, rfl⟩
  rw [← g0z] at A0z D0z st0z
  have gn_b0z : n0 ≤ b0z := Nat.le_trans Z0 (Nat.le_of_eq g0z.symm)
  have Z0z : n0 ≤ h0z.size := Nat.le_trans Z0 E0z.1
  have F_b0z_width : Fld Z h0z b0z "com/example/honest_ruler/honestruler/image/LumaPlane" "width" "I" (.int (0 : Int32)) := D0z (Or.inr (hw _ (List.mem_of_getElem? (i := 14) rfl))) (ty := .int) (by decide)
  have F_b0z_height : Fld Z h0z b0z "com/example/honest_ruler/honestruler/image/LumaPlane" "height" "I" (.int (0 : Int32)) := D0z (Or.inr (hw _ (List.mem_of_getElem? (i := 16) rfl))) (ty := .int) (by decide)
  have F_b0z_samples : Fld Z h0z b0z "com/example/honest_ruler/honestruler/image/LumaPlane" "samples" "[D" .null := D0z (Or.inr (hw _ (List.mem_of_getElem? (i := 18) rfl))) (ty := (.array .double)) (by decide)
  have F_b0z_bits : Fld Z h0z b0z "com/example/honest_ruler/honestruler/image/LumaPlane" "bits" "I" (.int (0 : Int32)) := D0z (Or.inr (hw _ (List.mem_of_getElem? (i := 20) rfl))) (ty := .int) (by decide)
  have F_b0z_unit : Fld Z h0z b0z "com/example/honest_ruler/honestruler/image/LumaPlane" "unit" "D" (.double (0 : UInt64)) := D0z (Or.inr (hw _ (List.mem_of_getElem? (i := 22) rfl))) (ty := .double) (by decide)
  have F_b0z_bytes : Fld Z h0z b0z "com/example/honest_ruler/honestruler/image/LumaPlane" "bytes" "Ljava/nio/ByteBuffer;" .null := D0z (Or.inr (hw _ (List.mem_of_getElem? (i := 24) rfl))) (ty := (.object "java/nio/ByteBuffer")) (by decide)
  have F_b0z_words : Fld Z h0z b0z "com/example/honest_ruler/honestruler/image/LumaPlane" "words" "Ljava/nio/IntBuffer;" .null := D0z (Or.inr (hw _ (List.mem_of_getElem? (i := 26) rfl))) (ty := (.object "java/nio/IntBuffer")) (by decide)
  have F_b0z_wideSamples : Fld Z h0z b0z "com/example/honest_ruler/honestruler/image/LumaPlane" "wideSamples" "Ljava/nio/ShortBuffer;" .null := D0z (Or.inr (hw _ (List.mem_of_getElem? (i := 28) rfl))) (ty := (.object "java/nio/ShortBuffer")) (by decide)
  have F_b0z_file : Fld Z h0z b0z "com/example/honest_ruler/honestruler/image/LumaPlane" "file" "Lcom/example/honest_ruler/honestruler/image/ReadOnlyFile;" .null := D0z (Or.inr (hw _ (List.mem_of_getElem? (i := 30) rfl))) (ty := (.object "com/example/honest_ruler/honestruler/image/ReadOnlyFile")) (by decide)
  have F_b0z_fileStart : Fld Z h0z b0z "com/example/honest_ruler/honestruler/image/LumaPlane" "fileStart" "J" (.long (0 : Int64)) := D0z (Or.inr (hw _ (List.mem_of_getElem? (i := 32) rfl))) (ty := .long) (by decide)
  refine Dn.st st0z ?_
  show Dn p e below s _ _ _ (T0z.setTop (mkF m 3 #[.val (.int p0), .val (.int p1), .unset, .unset, .unset, .unset, .unset, .unset, .unset, .unset, .unset, .unset, .unset, .unset] [(.ref b0z)]))
  refine Dn.st (fun _ kk => XS.dup X0z.here hx rfl (hb hby at_3) rfl rfl (XS.iconst X0z.here hx rfl (hb hby at_4) (XS.iconst X0z.here hx rfl (hb hby at_5) (XS.iconst X0z.here hx rfl (hb hby at_6) (kk))))) ?_
  show Dn p e below s _ _ _ (T0z.setTop (mkF m 7 #[.val (.int p0), .val (.int p1), .unset, .unset, .unset, .unset, .unset, .unset, .unset, .unset, .unset, .unset, .unset, .unset] [(.int (1 : Int32)), (.int (1 : Int32)), (.int (1 : Int32)), (.ref b0z), (.ref b0z)]))
  obtain ⟨T7, h7, k7, X7, e7, E7, A7, st7⟩ := newP X0z hx hZ (hw _ (List.mem_of_getElem? (i := 3) rfl)) e0z (g := (mkF m 7 #[.val (.int p0), .val (.int p1), .unset, .unset, .unset, .unset, .unset, .unset, .unset, .unset, .unset, .unset, .unset, .unset] [(.int (1 : Int32)), (.int (1 : Int32)), (.int (1 : Int32)), (.ref b0z), (.ref b0z)])) rfl (hb hby at_7) rfl (by decide) (cap := 1) (by decide) (by decide) (by decide) (by decide)
  obtain ⟨b7, g7⟩ : ∃ z, z = h0z.size := ⟨_, rfl⟩
  rw [← g7] at A7 st7
  have ne_b0z_b7 : b0z ≠ b7 := Nat.ne_of_lt (Nat.lt_of_lt_of_le A0z.lt (Nat.le_of_eq g7.symm))
  have E_b0z_7 := A0z.ext E7
  have F_b0z_width_7 := F_b0z_width.ext E7
  have F_b0z_height_7 := F_b0z_height.ext E7
  have F_b0z_samples_7 := F_b0z_samples.ext E7
  have F_b0z_bits_7 := F_b0z_bits.ext E7
  have F_b0z_unit_7 := F_b0z_unit.ext E7
  have F_b0z_bytes_7 := F_b0z_bytes.ext E7
  have F_b0z_words_7 := F_b0z_words.ext E7
  have F_b0z_wideSamples_7 := F_b0z_wideSamples.ext E7
  have F_b0z_file_7 := F_b0z_file.ext E7
  have F_b0z_fileStart_7 := F_b0z_fileStart.ext E7
  have gn_b7 : n0 ≤ b7 := Nat.le_trans Z0z (Nat.le_of_eq g7.symm)
  have Z7 : n0 ≤ h7.size := Nat.le_trans Z0z E7.1
  have V_b7 : Arv Z h7 b7 k7 .double (1 : Int32) [(.double (0 : UInt64))] (.double (0 : UInt64)) := (Arv.new A7 (by decide)).pad (pad_rep [] (.double (0 : UInt64)) 1)
  refine Dn.st st7 ?_
  show Dn p e below s _ _ _ (T7.setTop (mkF m 9 #[.val (.int p0), .val (.int p1), .unset, .unset, .unset, .unset, .unset, .unset, .unset, .unset, .unset, .unset, .unset, .unset] [(.ref b7), (.int (1 : Int32)), (.int (1 : Int32)), (.ref b0z), (.ref b0z)]))
  refine Dn.st (fun _ kk => XS.dup X7.here hx rfl (hb hby at_9) rfl rfl (XS.iconst X7.here hx rfl (hb hby at_10) (XS.iloadN X7.here hx rfl (hb hby at_11) rfl  (XS.sipush X7.here hx rfl (hb hby at_12) (XS.iand X7.here hx rfl (hb hby at_15) rfl (kk)))))) ?_
  show Dn p e below s _ _ _ (T7.setTop (mkF m 16 #[.val (.int p0), .val (.int p1), .unset, .unset, .unset, .unset, .unset, .unset, .unset, .unset, .unset, .unset, .unset, .unset] [(.int (p0 &&& (255 : Int32))), (.int (0 : Int32)), (.ref b7), (.ref b7), (.int (1 : Int32)), (.int (1 : Int32)), (.ref b0z), (.ref b0z)]))
  generalize hv15 : ((p0 &&& (255 : Int32)) : Int32) = v15
  show Dn p e below s _ _ _ (T7.setTop (mkF m 16 #[.val (.int p0), .val (.int p1), .unset, .unset, .unset, .unset, .unset, .unset, .unset, .unset, .unset, .unset, .unset, .unset] [(.int v15), (.int (0 : Int32)), (.ref b7), (.ref b7), (.int (1 : Int32)), (.int (1 : Int32)), (.ref b0z), (.ref b0z)]))
  refine Dn.st (fun _ kk => XS.i2dS X7.here hx rfl (hb hby at_16) rfl rfl (kk)) ?_
  show Dn p e below s _ _ _ (T7.setTop (mkF m 17 #[.val (.int p0), .val (.int p1), .unset, .unset, .unset, .unset, .unset, .unset, .unset, .unset, .unset, .unset, .unset, .unset] [(.double (FP.i2d v15)), (.int (0 : Int32)), (.ref b7), (.ref b7), (.int (1 : Int32)), (.int (1 : Int32)), (.ref b0z), (.ref b0z)]))
  generalize hv16 : ((FP.i2d v15) : UInt64) = v16
  show Dn p e below s _ _ _ (T7.setTop (mkF m 17 #[.val (.int p0), .val (.int p1), .unset, .unset, .unset, .unset, .unset, .unset, .unset, .unset, .unset, .unset, .unset, .unset] [(.double v16), (.int (0 : Int32)), (.ref b7), (.ref b7), (.int (1 : Int32)), (.int (1 : Int32)), (.ref b0z), (.ref b0z)]))
  have Vc_b7_17 := V_b7
  obtain ⟨cl_b7_17, Ar_b7_17, q_b7_17, S_b7_17, N_b7_17, H_b7_17, G_b7_17⟩ := Vc_b7_17
  have hin17 : ¬ ((0 : Int32) < 0 ∨ cl_b7_17.slots.size ≤ ((0 : Int32)).toNatClampNeg) := inb_of S_b7_17 ⟨by decide, by decide⟩
  obtain ⟨T17, h17, X17, e17, W17, st17⟩ := stD X7 hx hZ e7 Ar_b7_17 (j := (0 : Int32)) hin17 (g := (mkF m 17 #[.val (.int p0), .val (.int p1), .unset, .unset, .unset, .unset, .unset, .unset, .unset, .unset, .unset, .unset, .unset, .unset] [(.double v16), (.int (0 : Int32)), (.ref b7), (.ref b7), (.int (1 : Int32)), (.int (1 : Int32)), (.ref b0z), (.ref b0z)])) rfl rfl (hb hby at_17)
  have E_b0z_17 := E_b0z_7.wr W17
  have F_b0z_width_17 := F_b0z_width_7.other W17 (Or.inl ne_b0z_b7)
  have F_b0z_height_17 := F_b0z_height_7.other W17 (Or.inl ne_b0z_b7)
  have F_b0z_samples_17 := F_b0z_samples_7.other W17 (Or.inl ne_b0z_b7)
  have F_b0z_bits_17 := F_b0z_bits_7.other W17 (Or.inl ne_b0z_b7)
  have F_b0z_unit_17 := F_b0z_unit_7.other W17 (Or.inl ne_b0z_b7)
  have F_b0z_bytes_17 := F_b0z_bytes_7.other W17 (Or.inl ne_b0z_b7)
  have F_b0z_words_17 := F_b0z_words_7.other W17 (Or.inl ne_b0z_b7)
  have F_b0z_wideSamples_17 := F_b0z_wideSamples_7.other W17 (Or.inl ne_b0z_b7)
  have F_b0z_file_17 := F_b0z_file_7.other W17 (Or.inl ne_b0z_b7)
  have F_b0z_fileStart_17 := F_b0z_fileStart_7.other W17 (Or.inl ne_b0z_b7)
  have V_b7_17 := Arv.set Ar_b7_17 q_b7_17 S_b7_17 N_b7_17 H_b7_17 G_b7_17 rfl W17 0 rfl (Nat.le_of_ble_eq_true rfl)
  have N17 := Fr.snoc X17 N0 gn_b7
  have Z17 : n0 ≤ h17.size := Nat.le_trans Z7 (Keep.of_wr W17).1
  refine Dn.st st17 ?_
  show Dn p e below s _ _ _ (T17.setTop (mkF m 18 #[.val (.int p0), .val (.int p1), .unset, .unset, .unset, .unset, .unset, .unset, .unset, .unset, .unset, .unset, .unset, .unset] [(.ref b7), (.int (1 : Int32)), (.int (1 : Int32)), (.ref b0z), (.ref b0z)]))
  obtain ⟨_, _, ⟨T18, L18, k18, n18⟩, -, X18, ⟨Lc18, hQ18, l18, y18, z18⟩, st18⟩ := X17.specialBack hx (y := (⟨"com/example/honest_ruler/honestruler/image/LumaPlane", "<init>", "(II[D)V"⟩ : MethodName)) rfl hown (mvT hZ (hw _ (List.mem_of_getElem? (i := 4) rfl))) (mvT hZ (hw _ (List.mem_of_getElem? (i := 5) rfl))) (mvT hZ (hw _ (List.mem_of_getElem? (i := 6) rfl))) (by decide) (backOf (W := 1) (rm1 l Z a0 hw []  b0z b7 k7 v16 h17 n0 Z17 gn_b0z E_b0z_17 F_b0z_width_17 F_b0z_height_17 F_b0z_samples_17 F_b0z_bits_17 F_b0z_unit_17 F_b0z_bytes_17 F_b0z_words_17 F_b0z_wideSamples_17 F_b0z_file_17 F_b0z_fileStart_17 V_b7_17 (Ne.symm ne_b0z_b7)) hZ (hw _ (List.mem_of_getElem? (i := 6) rfl)) (hw _ (List.mem_of_getElem? (i := 2) rfl)) (by decide) (by decide)) (g := (mkF m 18 #[.val (.int p0), .val (.int p1), .unset, .unset, .unset, .unset, .unset, .unset, .unset, .unset, .unset, .unset, .unset, .unset] [(.ref b7), (.int (1 : Int32)), (.int (1 : Int32)), (.ref b0z), (.ref b0z)])) rfl (by rw [hml]; rfl) (Steps.refl _) (a := b0z) (argsL := [(.int (1 : Int32)), (.int (1 : Int32)), (.ref b7)]) (rest := [(.ref b0z)]) (lenOf pd2 rfl) rfl (by show 2 * 0 + _ ≤ _; exact Nat.le_of_eq rfl) (hb hby at_18) (fun _ _ => ⟨rfl, e17, (by decide : 2 + 0 ≤ _), (by decide : 11 + 0 ≤ _)⟩)
  dsimp only [Pt.U, Pt.locs, Pt.cells, Pt.slots] at X18 l18 y18 z18 st18 hQ18
  subst l18 y18 z18
  obtain ⟨rfl, Nq18, K18, E_b0z_18, F_b0z_width_18⟩ := hQ18
  have N18 := Fr.app N17 Nq18
  refine Dn.tr st18 ?_
  have V_b7_18 := V_b7_17.keep K18 (ninS (Ne.symm ne_b0z_b7) nin0)
  have Z18 : n0 ≤ T18.heap.size := Nat.le_trans Z17 K18.1
  show Dn p e below s _ _ _ (T18.setTop (mkF m 21 #[.val (.int p0), .val (.int p1), .unset, .unset, .unset, .unset, .unset, .unset, .unset, .unset, .unset, .unset, .unset, .unset] [(.ref b0z)]))
  refine Dn.st (fun _ kk => XS.astoreN X18.here hx rfl (hb hby at_21) rfl rfl (l' := #[.val (.int p0), .val (.int p1), .val (.ref b0z), .unset, .unset, .unset, .unset, .unset, .unset, .unset, .unset, .unset, .unset, .unset]) rfl (kk)) ?_
  show Dn p e below s _ _ _ (T18.setTop (mkF m 22 #[.val (.int p0), .val (.int p1), .val (.ref b0z), .unset, .unset, .unset, .unset, .unset, .unset, .unset, .unset, .unset, .unset, .unset] []))
  obtain ⟨T22, h22, X22, e22, E22, A22, D22, -, st22⟩ := newO X18 hx hZ hown (hw _ (List.mem_of_getElem? (i := 33) rfl)) (hw _ (List.mem_of_getElem? (i := 34) rfl)) (hw _ (List.mem_of_getElem? (i := 35) rfl)) rfl (g := (mkF m 22 #[.val (.int p0), .val (.int p1), .val (.ref b0z), .unset, .unset, .unset, .unset, .unset, .unset, .unset, .unset, .unset, .unset, .unset] [])) rfl (hb hby at_22) (by decide) (by decide)
  obtain ⟨b22, g22⟩ : ∃ z, z = T18.heap.size := ⟨_, rfl⟩
  rw [← g22] at A22 D22 st22
  have ne_b7_b22 : b7 ≠ b22 := Nat.ne_of_lt (Nat.lt_of_lt_of_le V_b7_18.lt (Nat.le_of_eq g22.symm))
  have ne_b0z_b22 : b0z ≠ b22 := Nat.ne_of_lt (Nat.lt_of_lt_of_le E_b0z_18.lt (Nat.le_of_eq g22.symm))
  have V_b7_22 := V_b7_18.ext E22
  have E_b0z_22 := E_b0z_18.ext E22
  have F_b0z_width_22 := F_b0z_width_18.ext E22
  have gn_b22 : n0 ≤ b22 := Nat.le_trans Z18 (Nat.le_of_eq g22.symm)
  have Z22 : n0 ≤ h22.size := Nat.le_trans Z18 E22.1
  have F_b22_picture : Fld Z h22 b22 "com/example/honest_ruler/honestruler/input/StillFrame" "picture" "Lcom/example/honest_ruler/honestruler/image/LumaPlane;" .null := D22 (Or.inr (hw _ (List.mem_of_getElem? (i := 41) rfl))) (ty := (.object "com/example/honest_ruler/honestruler/image/LumaPlane")) (by decide)
  have F_b22_given : Fld Z h22 b22 "com/example/honest_ruler/honestruler/input/StillFrame" "given" "Z" (.int (0 : Int32)) := D22 (Or.inl (hw _ (List.mem_of_getElem? (i := 58) rfl))) (ty := .boolean) (by decide)
  refine Dn.st st22 ?_
  show Dn p e below s _ _ _ (T22.setTop (mkF m 25 #[.val (.int p0), .val (.int p1), .val (.ref b0z), .unset, .unset, .unset, .unset, .unset, .unset, .unset, .unset, .unset, .unset, .unset] [(.ref b22)]))
  refine Dn.st (fun _ kk => XS.dup X22.here hx rfl (hb hby at_25) rfl rfl (XS.aloadN X22.here hx rfl (hb hby at_26) rfl rfl (kk))) ?_
  show Dn p e below s _ _ _ (T22.setTop (mkF m 27 #[.val (.int p0), .val (.int p1), .val (.ref b0z), .unset, .unset, .unset, .unset, .unset, .unset, .unset, .unset, .unset, .unset, .unset] [(.ref b0z), (.ref b22), (.ref b22)]))
  obtain ⟨_, _, ⟨T27, L27, k27, n27⟩, -, X27, ⟨Lc27, hQ27, l27, y27, z27⟩, st27⟩ := X22.specialBack hx (y := (⟨"com/example/honest_ruler/honestruler/input/StillFrame", "<init>", "(Lcom/example/honest_ruler/honestruler/image/LumaPlane;)V"⟩ : MethodName)) rfl hown (mvT hZ (hw _ (List.mem_of_getElem? (i := 36) rfl))) (mvT hZ (hw _ (List.mem_of_getElem? (i := 37) rfl))) (mvT hZ (hw _ (List.mem_of_getElem? (i := 38) rfl))) (by decide) (backOf (W := 1) (rm4 l Z a0 hw [] b22 b0z  h22 n0 Z22 gn_b22 A22 F_b22_picture F_b22_given) hZ (hw _ (List.mem_of_getElem? (i := 38) rfl)) (hw _ (List.mem_of_getElem? (i := 35) rfl)) (by decide) (by decide)) (g := (mkF m 27 #[.val (.int p0), .val (.int p1), .val (.ref b0z), .unset, .unset, .unset, .unset, .unset, .unset, .unset, .unset, .unset, .unset, .unset] [(.ref b0z), (.ref b22), (.ref b22)])) rfl (by rw [hml]; rfl) (Steps.refl _) (a := b22) (argsL := [(.ref b0z)]) (rest := [(.ref b22)]) (lenOf pd3 rfl) rfl (by show 2 * 0 + _ ≤ _; exact Nat.le_of_eq rfl) (hb hby at_27) (fun _ _ => ⟨rfl, e22, (by decide : 3 + 0 ≤ _), (by decide : 13 + 0 ≤ _)⟩)
  dsimp only [Pt.U, Pt.locs, Pt.cells, Pt.slots] at X27 l27 y27 z27 st27 hQ27
  subst l27 y27 z27
  obtain ⟨rfl, Nq27, K27, E_b22_27, F_b22_picture_27, F_b22_given_27⟩ := hQ27
  have N27 := Fr.app N18 Nq27
  refine Dn.tr st27 ?_
  have V_b7_27 := V_b7_22.keep K27 (ninS ne_b7_b22 nin0)
  have E_b0z_27 := E_b0z_22.keep K27
  have F_b0z_width_27 := F_b0z_width_22.keep K27 (ninS ne_b0z_b22 nin0)
  have Z27 : n0 ≤ T27.heap.size := Nat.le_trans Z22 K27.1
  show Dn p e below s _ _ _ (T27.setTop (mkF m 30 #[.val (.int p0), .val (.int p1), .val (.ref b0z), .unset, .unset, .unset, .unset, .unset, .unset, .unset, .unset, .unset, .unset, .unset] [(.ref b22)]))
  refine Dn.st (fun _ kk => XS.astoreN X27.here hx rfl (hb hby at_30) rfl rfl (l' := #[.val (.int p0), .val (.int p1), .val (.ref b0z), .val (.ref b22), .unset, .unset, .unset, .unset, .unset, .unset, .unset, .unset, .unset, .unset]) rfl (kk)) ?_
  show Dn p e below s _ _ _ (T27.setTop (mkF m 31 #[.val (.int p0), .val (.int p1), .val (.ref b0z), .val (.ref b22), .unset, .unset, .unset, .unset, .unset, .unset, .unset, .unset, .unset, .unset] []))
  obtain ⟨T31, h31, X31, e31, E31, A31, D31, -, st31⟩ := newO X27 hx hZ hown (hw _ (List.mem_of_getElem? (i := 33) rfl)) (hw _ (List.mem_of_getElem? (i := 34) rfl)) (hw _ (List.mem_of_getElem? (i := 35) rfl)) rfl (g := (mkF m 31 #[.val (.int p0), .val (.int p1), .val (.ref b0z), .val (.ref b22), .unset, .unset, .unset, .unset, .unset, .unset, .unset, .unset, .unset, .unset] [])) rfl (hb hby at_31) (by decide) (by decide)
  obtain ⟨b31, g31⟩ : ∃ z, z = T27.heap.size := ⟨_, rfl⟩
  rw [← g31] at A31 D31 st31
  have ne_b7_b31 : b7 ≠ b31 := Nat.ne_of_lt (Nat.lt_of_lt_of_le V_b7_27.lt (Nat.le_of_eq g31.symm))
  have ne_b0z_b31 : b0z ≠ b31 := Nat.ne_of_lt (Nat.lt_of_lt_of_le E_b0z_27.lt (Nat.le_of_eq g31.symm))
  have ne_b22_b31 : b22 ≠ b31 := Nat.ne_of_lt (Nat.lt_of_lt_of_le E_b22_27.lt (Nat.le_of_eq g31.symm))
  have V_b7_31 := V_b7_27.ext E31
  have E_b0z_31 := E_b0z_27.ext E31
  have F_b0z_width_31 := F_b0z_width_27.ext E31
  have E_b22_31 := E_b22_27.ext E31
  have F_b22_picture_31 := F_b22_picture_27.ext E31
  have F_b22_given_31 := F_b22_given_27.ext E31
  have gn_b31 : n0 ≤ b31 := Nat.le_trans Z27 (Nat.le_of_eq g31.symm)
  have Z31 : n0 ≤ h31.size := Nat.le_trans Z27 E31.1
  have F_b31_picture : Fld Z h31 b31 "com/example/honest_ruler/honestruler/input/StillFrame" "picture" "Lcom/example/honest_ruler/honestruler/image/LumaPlane;" .null := D31 (Or.inr (hw _ (List.mem_of_getElem? (i := 41) rfl))) (ty := (.object "com/example/honest_ruler/honestruler/image/LumaPlane")) (by decide)
  have F_b31_given : Fld Z h31 b31 "com/example/honest_ruler/honestruler/input/StillFrame" "given" "Z" (.int (0 : Int32)) := D31 (Or.inl (hw _ (List.mem_of_getElem? (i := 58) rfl))) (ty := .boolean) (by decide)
  refine Dn.st st31 ?_
  show Dn p e below s _ _ _ (T31.setTop (mkF m 34 #[.val (.int p0), .val (.int p1), .val (.ref b0z), .val (.ref b22), .unset, .unset, .unset, .unset, .unset, .unset, .unset, .unset, .unset, .unset] [(.ref b31)]))
  refine Dn.st (fun _ kk => XS.dup X31.here hx rfl (hb hby at_34) rfl rfl (XS.aloadN X31.here hx rfl (hb hby at_35) rfl rfl (kk))) ?_
  show Dn p e below s _ _ _ (T31.setTop (mkF m 36 #[.val (.int p0), .val (.int p1), .val (.ref b0z), .val (.ref b22), .unset, .unset, .unset, .unset, .unset, .unset, .unset, .unset, .unset, .unset] [(.ref b0z), (.ref b31), (.ref b31)]))
  obtain ⟨_, _, ⟨T36, L36, k36, n36⟩, -, X36, ⟨Lc36, hQ36, l36, y36, z36⟩, st36⟩ := X31.specialBack hx (y := (⟨"com/example/honest_ruler/honestruler/input/StillFrame", "<init>", "(Lcom/example/honest_ruler/honestruler/image/LumaPlane;)V"⟩ : MethodName)) rfl hown (mvT hZ (hw _ (List.mem_of_getElem? (i := 36) rfl))) (mvT hZ (hw _ (List.mem_of_getElem? (i := 37) rfl))) (mvT hZ (hw _ (List.mem_of_getElem? (i := 38) rfl))) (by decide) (backOf (W := 1) (rm4 l Z a0 hw [] b31 b0z  h31 n0 Z31 gn_b31 A31 F_b31_picture F_b31_given) hZ (hw _ (List.mem_of_getElem? (i := 38) rfl)) (hw _ (List.mem_of_getElem? (i := 35) rfl)) (by decide) (by decide)) (g := (mkF m 36 #[.val (.int p0), .val (.int p1), .val (.ref b0z), .val (.ref b22), .unset, .unset, .unset, .unset, .unset, .unset, .unset, .unset, .unset, .unset] [(.ref b0z), (.ref b31), (.ref b31)])) rfl (by rw [hml]; rfl) (Steps.refl _) (a := b31) (argsL := [(.ref b0z)]) (rest := [(.ref b31)]) (lenOf pd3 rfl) rfl (by show 2 * 0 + _ ≤ _; exact Nat.le_of_eq rfl) (hb hby at_36) (fun _ _ => ⟨rfl, e31, (by decide : 4 + 0 ≤ _), (by decide : 15 + 0 ≤ _)⟩)
  dsimp only [Pt.U, Pt.locs, Pt.cells, Pt.slots] at X36 l36 y36 z36 st36 hQ36
  subst l36 y36 z36
  obtain ⟨rfl, Nq36, K36, E_b31_36, F_b31_picture_36, F_b31_given_36⟩ := hQ36
  have N36 := Fr.app N27 Nq36
  refine Dn.tr st36 ?_
  have V_b7_36 := V_b7_31.keep K36 (ninS ne_b7_b31 nin0)
  have E_b0z_36 := E_b0z_31.keep K36
  have F_b0z_width_36 := F_b0z_width_31.keep K36 (ninS ne_b0z_b31 nin0)
  have E_b22_36 := E_b22_31.keep K36
  have F_b22_picture_36 := F_b22_picture_31.keep K36 (ninS ne_b22_b31 nin0)
  have F_b22_given_36 := F_b22_given_31.keep K36 (ninS ne_b22_b31 nin0)
  have Z36 : n0 ≤ T36.heap.size := Nat.le_trans Z31 K36.1
  show Dn p e below s _ _ _ (T36.setTop (mkF m 39 #[.val (.int p0), .val (.int p1), .val (.ref b0z), .val (.ref b22), .unset, .unset, .unset, .unset, .unset, .unset, .unset, .unset, .unset, .unset] [(.ref b31)]))
  refine Dn.st (fun _ kk => XS.astore X36.here hx rfl (hb hby at_39) rfl rfl (l' := #[.val (.int p0), .val (.int p1), .val (.ref b0z), .val (.ref b22), .val (.ref b31), .unset, .unset, .unset, .unset, .unset, .unset, .unset, .unset, .unset]) rfl (XS.iloadN X36.here hx rfl (hb hby at_41) rfl  (XS.iconst X36.here hx rfl (hb hby at_42) (XS.iand X36.here hx rfl (hb hby at_43) rfl (kk))))) ?_
  show Dn p e below s _ _ _ (T36.setTop (mkF m 44 #[.val (.int p0), .val (.int p1), .val (.ref b0z), .val (.ref b22), .val (.ref b31), .unset, .unset, .unset, .unset, .unset, .unset, .unset, .unset, .unset] [(.int (p1 &&& (1 : Int32)))]))
  generalize hv43 : ((p1 &&& (1 : Int32)) : Int32) = v43
  show Dn p e below s _ _ _ (T36.setTop (mkF m 44 #[.val (.int p0), .val (.int p1), .val (.ref b0z), .val (.ref b22), .val (.ref b31), .unset, .unset, .unset, .unset, .unset, .unset, .unset, .unset, .unset] [(.int v43)]))
  by_cases hc44 : v43 = (0 : Int32)
  · refine Dn.st (fun _ kk => XS.ifYes X36.here hx rfl (pc0 := 44) (pc' := 51) rfl (hb hby at_44) rfl ((if0 _ _).trans (teq hc44).1) (by decide) (by decide) (XS.iconst X36.here hx rfl (hb hby at_51) (XS.istore X36.here hx rfl (hb hby at_52) rfl (l' := #[.val (.int p0), .val (.int p1), .val (.ref b0z), .val (.ref b22), .val (.ref b31), .val (.int (0 : Int32)), .unset, .unset, .unset, .unset, .unset, .unset, .unset, .unset]) rfl (XS.iloadN X36.here hx rfl (hb hby at_54) rfl  (XS.iconst X36.here hx rfl (hb hby at_55) (XS.iand X36.here hx rfl (hb hby at_56) rfl (kk))))))) ?_
    show Dn p e below s _ _ _ (T36.setTop (mkF m 57 #[.val (.int p0), .val (.int p1), .val (.ref b0z), .val (.ref b22), .val (.ref b31), .val (.int (0 : Int32)), .unset, .unset, .unset, .unset, .unset, .unset, .unset, .unset] [(.int (p1 &&& (2 : Int32)))]))
    generalize hv56 : ((p1 &&& (2 : Int32)) : Int32) = v56
    show Dn p e below s _ _ _ (T36.setTop (mkF m 57 #[.val (.int p0), .val (.int p1), .val (.ref b0z), .val (.ref b22), .val (.ref b31), .val (.int (0 : Int32)), .unset, .unset, .unset, .unset, .unset, .unset, .unset, .unset] [(.int v56)]))
    by_cases hc57 : v56 = (0 : Int32)
    · refine Dn.st (fun _ kk => XS.ifYes X36.here hx rfl (pc0 := 57) (pc' := 64) rfl (hb hby at_57) rfl ((if0 _ _).trans (teq hc57).1) (by decide) (by decide) (XS.iconst X36.here hx rfl (hb hby at_64) (XS.istore X36.here hx rfl (hb hby at_65) rfl (l' := #[.val (.int p0), .val (.int p1), .val (.ref b0z), .val (.ref b22), .val (.ref b31), .val (.int (0 : Int32)), .val (.int (0 : Int32)), .unset, .unset, .unset, .unset, .unset, .unset, .unset]) rfl (XS.iconst X36.here hx rfl (hb hby at_67) (XS.istore X36.here hx rfl (hb hby at_68) rfl (l' := #[.val (.int p0), .val (.int p1), .val (.ref b0z), .val (.ref b22), .val (.ref b31), .val (.int (0 : Int32)), .val (.int (0 : Int32)), .val (.int (1 : Int32)), .unset, .unset, .unset, .unset, .unset, .unset]) rfl (XS.iload X36.here hx rfl (hb hby at_70) rfl  (kk))))))) ?_
      show Dn p e below s _ _ _ (T36.setTop (mkF m 72 #[.val (.int p0), .val (.int p1), .val (.ref b0z), .val (.ref b22), .val (.ref b31), .val (.int (0 : Int32)), .val (.int (0 : Int32)), .val (.int (1 : Int32)), .unset, .unset, .unset, .unset, .unset, .unset] [(.int (0 : Int32))]))
      have hc72 : (0 : Int32) = (0 : Int32) := by decide
      refine Dn.st (fun _ kk => XS.ifYes X36.here hx rfl (pc0 := 72) (pc' := 81) rfl (hb hby at_72) rfl ((if0 _ _).trans (teq hc72).1) (by decide) (by decide) (XS.aconstNull X36.here hx rfl (hb hby at_81) (XS.astore X36.here hx rfl (hb hby at_82) rfl rfl (l' := #[.val (.int p0), .val (.int p1), .val (.ref b0z), .val (.ref b22), .val (.ref b31), .val (.int (0 : Int32)), .val (.int (0 : Int32)), .val (.int (1 : Int32)), .val .null, .unset, .unset, .unset, .unset, .unset]) rfl (XS.iload X36.here hx rfl (hb hby at_84) rfl  (kk))))) ?_
      show Dn p e below s _ _ _ (T36.setTop (mkF m 86 #[.val (.int p0), .val (.int p1), .val (.ref b0z), .val (.ref b22), .val (.ref b31), .val (.int (0 : Int32)), .val (.int (0 : Int32)), .val (.int (1 : Int32)), .val .null, .unset, .unset, .unset, .unset, .unset] [(.int (0 : Int32))]))
      have hc86 : (0 : Int32) = (0 : Int32) := by decide
      refine Dn.st (fun _ kk => XS.ifYes X36.here hx rfl (pc0 := 86) (pc' := 96) rfl (hb hby at_86) rfl ((if0 _ _).trans (teq hc86).1) (by decide) (by decide) (XS.aloadN X36.here hx rfl (hb hby at_96) rfl rfl (kk))) ?_
      show Dn p e below s _ _ _ (T36.setTop (mkF m 97 #[.val (.int p0), .val (.int p1), .val (.ref b0z), .val (.ref b22), .val (.ref b31), .val (.int (0 : Int32)), .val (.int (0 : Int32)), .val (.int (1 : Int32)), .val .null, .unset, .unset, .unset, .unset, .unset] [(.ref b22)]))
      obtain ⟨cq97, kq97, q97a, q97b, q97c⟩ := isOf hZ rfl E_b22_36
      obtain ⟨_, _, ⟨T97, L97, k97, n97⟩, -, X97, ⟨Lc97, hQ97, l97, y97, z97⟩, st97⟩ := X36.virtualBack hx (y := (⟨"com/example/honest_ruler/honestruler/input/StillFrame", "next", "()Lcom/example/honest_ruler/honestruler/image/LumaPlane;"⟩ : MethodName)) (z := (⟨"com/example/honest_ruler/honestruler/input/StillFrame", "next", "()Lcom/example/honest_ruler/honestruler/image/LumaPlane;"⟩ : MethodName)) hown (mvT hZ (hw _ (List.mem_of_getElem? (i := 52) rfl))) (mvT hZ (hw _ (List.mem_of_getElem? (i := 53) rfl))) (notFace_of_selects (args := #[]) (mvT hZ (hw _ (List.mem_of_getElem? (i := 55) rfl)))) (mvT hZ (hw _ (List.mem_of_getElem? (i := 55) rfl))) (mvT hZ (hw _ (List.mem_of_getElem? (i := 54) rfl))) (by decide) (backOf (W := 0) (rm7_0 l Z a0 hw [] b22 b0z T36.heap n0 Z36 gn_b22 E_b22_36 F_b22_picture_36 F_b22_given_36) hZ (hw _ (List.mem_of_getElem? (i := 56) rfl)) (hw _ (List.mem_of_getElem? (i := 35) rfl)) (by decide) (by decide)) q97a q97c (g := (mkF m 97 #[.val (.int p0), .val (.int p1), .val (.ref b0z), .val (.ref b22), .val (.ref b31), .val (.int (0 : Int32)), .val (.int (0 : Int32)), .val (.int (1 : Int32)), .val .null, .unset, .unset, .unset, .unset, .unset] [(.ref b22)])) rfl (by rw [hml]; rfl) (Steps.refl _) (argsL := []) (rest := []) (lenOf pd4 rfl) rfl (by show 2 * 0 + _ ≤ _; exact Nat.le_of_eq rfl) (hb hby at_97) (fun _ _ => ⟨rfl, rfl, (by decide : 4 + 0 ≤ _), (by decide : 15 + 0 ≤ _)⟩)
      dsimp only [Pt.U, Pt.locs, Pt.cells, Pt.slots] at X97 l97 y97 z97 st97 hQ97
      subst l97 y97 z97
      obtain ⟨rfl, Nq97, K97, F_b22_picture_97, F_b22_given_97⟩ := hQ97
      have N97 := Fr.app N36 Nq97
      refine Dn.tr st97 ?_
      have V_b7_97 := V_b7_36.keep K97 (ninS ne_b7_b22 nin0)
      have E_b0z_97 := E_b0z_36.keep K97
      have F_b0z_width_97 := F_b0z_width_36.keep K97 (ninS ne_b0z_b22 nin0)
      have E_b22_97 := E_b22_36.keep K97
      have E_b31_97 := E_b31_36.keep K97
      have F_b31_picture_97 := F_b31_picture_36.keep K97 (ninS (Ne.symm ne_b22_b31) nin0)
      have F_b31_given_97 := F_b31_given_36.keep K97 (ninS (Ne.symm ne_b22_b31) nin0)
      have Z97 : n0 ≤ T97.heap.size := Nat.le_trans Z36 K97.1
      show Dn p e below s _ _ _ (T97.setTop (mkF m 100 #[.val (.int p0), .val (.int p1), .val (.ref b0z), .val (.ref b22), .val (.ref b31), .val (.int (0 : Int32)), .val (.int (0 : Int32)), .val (.int (1 : Int32)), .val .null, .unset, .unset, .unset, .unset, .unset] [(.ref b0z)]))
      refine Dn.st (fun _ kk => XS.astore X97.here hx rfl (hb hby at_100) rfl rfl (l' := #[.val (.int p0), .val (.int p1), .val (.ref b0z), .val (.ref b22), .val (.ref b31), .val (.int (0 : Int32)), .val (.int (0 : Int32)), .val (.int (1 : Int32)), .val .null, .val (.ref b0z), .unset, .unset, .unset, .unset]) rfl (XS.aloadN X97.here hx rfl (hb hby at_102) rfl rfl (kk))) ?_
      show Dn p e below s _ _ _ (T97.setTop (mkF m 103 #[.val (.int p0), .val (.int p1), .val (.ref b0z), .val (.ref b22), .val (.ref b31), .val (.int (0 : Int32)), .val (.int (0 : Int32)), .val (.int (1 : Int32)), .val .null, .val (.ref b0z), .unset, .unset, .unset, .unset] [(.ref b22)]))
      obtain ⟨cq103, kq103, q103a, q103b, q103c⟩ := isOf hZ rfl E_b22_97
      obtain ⟨_, _, ⟨T103, L103, k103, n103⟩, -, X103, ⟨Lc103, hQ103, l103, y103, z103⟩, st103⟩ := X97.virtualBack hx (y := (⟨"com/example/honest_ruler/honestruler/input/StillFrame", "next", "()Lcom/example/honest_ruler/honestruler/image/LumaPlane;"⟩ : MethodName)) (z := (⟨"com/example/honest_ruler/honestruler/input/StillFrame", "next", "()Lcom/example/honest_ruler/honestruler/image/LumaPlane;"⟩ : MethodName)) hown (mvT hZ (hw _ (List.mem_of_getElem? (i := 52) rfl))) (mvT hZ (hw _ (List.mem_of_getElem? (i := 53) rfl))) (notFace_of_selects (args := #[]) (mvT hZ (hw _ (List.mem_of_getElem? (i := 55) rfl)))) (mvT hZ (hw _ (List.mem_of_getElem? (i := 55) rfl))) (mvT hZ (hw _ (List.mem_of_getElem? (i := 54) rfl))) (by decide) (backOf (W := 0) (rm7_1 l Z a0 hw [] b22 b0z T97.heap n0 Z97 gn_b22 E_b22_97 F_b22_picture_97 F_b22_given_97) hZ (hw _ (List.mem_of_getElem? (i := 56) rfl)) (hw _ (List.mem_of_getElem? (i := 35) rfl)) (by decide) (by decide)) q103a q103c (g := (mkF m 103 #[.val (.int p0), .val (.int p1), .val (.ref b0z), .val (.ref b22), .val (.ref b31), .val (.int (0 : Int32)), .val (.int (0 : Int32)), .val (.int (1 : Int32)), .val .null, .val (.ref b0z), .unset, .unset, .unset, .unset] [(.ref b22)])) rfl (by rw [hml]; rfl) (Steps.refl _) (argsL := []) (rest := []) (lenOf pd4 rfl) rfl (by show 2 * 0 + _ ≤ _; exact Nat.le_of_eq rfl) (hb hby at_103) (fun _ _ => ⟨rfl, rfl, (by decide : 4 + 0 ≤ _), (by decide : 15 + 0 ≤ _)⟩)
      dsimp only [Pt.U, Pt.locs, Pt.cells, Pt.slots] at X103 l103 y103 z103 st103 hQ103
      subst l103 y103 z103
      obtain ⟨rfl, Nq103, hh103⟩ := hQ103
      have N103 := Fr.app N97 Nq103
      refine Dn.tr st103 ?_
      show Dn p e below s _ _ _ (T103.setTop (mkF m 106 #[.val (.int p0), .val (.int p1), .val (.ref b0z), .val (.ref b22), .val (.ref b31), .val (.int (0 : Int32)), .val (.int (0 : Int32)), .val (.int (1 : Int32)), .val .null, .val (.ref b0z), .unset, .unset, .unset, .unset] [.null]))
      refine Dn.st (fun _ kk => XS.astore X103.here hx rfl (hb hby at_106) rfl rfl (l' := #[.val (.int p0), .val (.int p1), .val (.ref b0z), .val (.ref b22), .val (.ref b31), .val (.int (0 : Int32)), .val (.int (0 : Int32)), .val (.int (1 : Int32)), .val .null, .val (.ref b0z), .val .null, .unset, .unset, .unset]) rfl (XS.aloadN X103.here hx rfl (hb hby at_108) rfl rfl (kk))) ?_
      show Dn p e below s _ _ _ (T103.setTop (mkF m 109 #[.val (.int p0), .val (.int p1), .val (.ref b0z), .val (.ref b22), .val (.ref b31), .val (.int (0 : Int32)), .val (.int (0 : Int32)), .val (.int (1 : Int32)), .val .null, .val (.ref b0z), .val .null, .unset, .unset, .unset] [(.ref b22)]))
      obtain ⟨cq109, kq109, q109a, q109b, q109c⟩ := isOf hZ hh103 E_b22_97
      obtain ⟨_, _, ⟨T109, L109, k109, n109⟩, -, X109, ⟨Lc109, hQ109, l109, y109, z109⟩, st109⟩ := X103.virtualBack hx (y := (⟨"com/example/honest_ruler/honestruler/input/StillFrame", "next", "()Lcom/example/honest_ruler/honestruler/image/LumaPlane;"⟩ : MethodName)) (z := (⟨"com/example/honest_ruler/honestruler/input/StillFrame", "next", "()Lcom/example/honest_ruler/honestruler/image/LumaPlane;"⟩ : MethodName)) hown (mvT hZ (hw _ (List.mem_of_getElem? (i := 52) rfl))) (mvT hZ (hw _ (List.mem_of_getElem? (i := 53) rfl))) (notFace_of_selects (args := #[]) (mvT hZ (hw _ (List.mem_of_getElem? (i := 55) rfl)))) (mvT hZ (hw _ (List.mem_of_getElem? (i := 55) rfl))) (mvT hZ (hw _ (List.mem_of_getElem? (i := 54) rfl))) (by decide) (backOf (W := 0) (rm7_1 l Z a0 hw [] b22 b0z T97.heap n0 Z97 gn_b22 E_b22_97 F_b22_picture_97 F_b22_given_97) hZ (hw _ (List.mem_of_getElem? (i := 56) rfl)) (hw _ (List.mem_of_getElem? (i := 35) rfl)) (by decide) (by decide)) q109a q109c (g := (mkF m 109 #[.val (.int p0), .val (.int p1), .val (.ref b0z), .val (.ref b22), .val (.ref b31), .val (.int (0 : Int32)), .val (.int (0 : Int32)), .val (.int (1 : Int32)), .val .null, .val (.ref b0z), .val .null, .unset, .unset, .unset] [(.ref b22)])) rfl (by rw [hml]; rfl) (Steps.refl _) (argsL := []) (rest := []) (lenOf pd4 rfl) rfl (by show 2 * 0 + _ ≤ _; exact Nat.le_of_eq rfl) (hb hby at_109) (fun _ _ => ⟨rfl, hh103, (by decide : 4 + 0 ≤ _), (by decide : 15 + 0 ≤ _)⟩)
      dsimp only [Pt.U, Pt.locs, Pt.cells, Pt.slots] at X109 l109 y109 z109 st109 hQ109
      subst l109 y109 z109
      obtain ⟨rfl, Nq109, hh109⟩ := hQ109
      have N109 := Fr.app N103 Nq109
      refine Dn.tr st109 ?_
      show Dn p e below s _ _ _ (T109.setTop (mkF m 112 #[.val (.int p0), .val (.int p1), .val (.ref b0z), .val (.ref b22), .val (.ref b31), .val (.int (0 : Int32)), .val (.int (0 : Int32)), .val (.int (1 : Int32)), .val .null, .val (.ref b0z), .val .null, .unset, .unset, .unset] [.null]))
      refine Dn.st (fun _ kk => XS.astore X109.here hx rfl (hb hby at_112) rfl rfl (l' := #[.val (.int p0), .val (.int p1), .val (.ref b0z), .val (.ref b22), .val (.ref b31), .val (.int (0 : Int32)), .val (.int (0 : Int32)), .val (.int (1 : Int32)), .val .null, .val (.ref b0z), .val .null, .val .null, .unset, .unset]) rfl (XS.iload X109.here hx rfl (hb hby at_114) rfl  (kk))) ?_
      show Dn p e below s _ _ _ (T109.setTop (mkF m 116 #[.val (.int p0), .val (.int p1), .val (.ref b0z), .val (.ref b22), .val (.ref b31), .val (.int (0 : Int32)), .val (.int (0 : Int32)), .val (.int (1 : Int32)), .val .null, .val (.ref b0z), .val .null, .val .null, .unset, .unset] [(.int (0 : Int32))]))
      have hc116 : (0 : Int32) = (0 : Int32) := by decide
      refine Dn.st (fun _ kk => XS.ifNo X109.here hx rfl (hb hby at_116) rfl ((if0 _ _).trans (teq hc116).2) (XS.aload X109.here hx rfl (hb hby at_119) rfl rfl (kk))) ?_
      show Dn p e below s _ _ _ (T109.setTop (mkF m 121 #[.val (.int p0), .val (.int p1), .val (.ref b0z), .val (.ref b22), .val (.ref b31), .val (.int (0 : Int32)), .val (.int (0 : Int32)), .val (.int (1 : Int32)), .val .null, .val (.ref b0z), .val .null, .val .null, .unset, .unset] [(.ref b31)]))
      obtain ⟨cq121, kq121, q121a, q121b, q121c⟩ := isOf hZ hh109 E_b31_97
      obtain ⟨_, _, ⟨T121, L121, k121, n121⟩, -, X121, ⟨Lc121, hQ121, l121, y121, z121⟩, st121⟩ := X109.virtualBack hx (y := (⟨"com/example/honest_ruler/honestruler/input/StillFrame", "next", "()Lcom/example/honest_ruler/honestruler/image/LumaPlane;"⟩ : MethodName)) (z := (⟨"com/example/honest_ruler/honestruler/input/StillFrame", "next", "()Lcom/example/honest_ruler/honestruler/image/LumaPlane;"⟩ : MethodName)) hown (mvT hZ (hw _ (List.mem_of_getElem? (i := 52) rfl))) (mvT hZ (hw _ (List.mem_of_getElem? (i := 53) rfl))) (notFace_of_selects (args := #[]) (mvT hZ (hw _ (List.mem_of_getElem? (i := 55) rfl)))) (mvT hZ (hw _ (List.mem_of_getElem? (i := 55) rfl))) (mvT hZ (hw _ (List.mem_of_getElem? (i := 54) rfl))) (by decide) (backOf (W := 0) (rm7_0 l Z a0 hw [] b31 b0z T97.heap n0 Z97 gn_b31 E_b31_97 F_b31_picture_97 F_b31_given_97) hZ (hw _ (List.mem_of_getElem? (i := 56) rfl)) (hw _ (List.mem_of_getElem? (i := 35) rfl)) (by decide) (by decide)) q121a q121c (g := (mkF m 121 #[.val (.int p0), .val (.int p1), .val (.ref b0z), .val (.ref b22), .val (.ref b31), .val (.int (0 : Int32)), .val (.int (0 : Int32)), .val (.int (1 : Int32)), .val .null, .val (.ref b0z), .val .null, .val .null, .unset, .unset] [(.ref b31)])) rfl (by rw [hml]; rfl) (Steps.refl _) (argsL := []) (rest := []) (lenOf pd4 rfl) rfl (by show 2 * 0 + _ ≤ _; exact Nat.le_of_eq rfl) (hb hby at_121) (fun _ _ => ⟨rfl, hh109, (by decide : 4 + 0 ≤ _), (by decide : 15 + 0 ≤ _)⟩)
      dsimp only [Pt.U, Pt.locs, Pt.cells, Pt.slots] at X121 l121 y121 z121 st121 hQ121
      subst l121 y121 z121
      obtain ⟨rfl, Nq121, K121, F_b31_picture_121, F_b31_given_121⟩ := hQ121
      have N121 := Fr.app N109 Nq121
      refine Dn.tr st121 ?_
      have V_b7_121 := V_b7_97.keep K121 (ninS ne_b7_b31 nin0)
      have E_b0z_121 := E_b0z_97.keep K121
      have F_b0z_width_121 := F_b0z_width_97.keep K121 (ninS ne_b0z_b31 nin0)
      have E_b22_121 := E_b22_97.keep K121
      have E_b31_121 := E_b31_97.keep K121
      have F_b22_picture_121 := F_b22_picture_97.keep K121 (ninS ne_b22_b31 nin0)
      have F_b22_given_121 := F_b22_given_97.keep K121 (ninS ne_b22_b31 nin0)
      have Z121 : n0 ≤ T121.heap.size := Nat.le_trans Z97 K121.1
      show Dn p e below s _ _ _ (T121.setTop (mkF m 124 #[.val (.int p0), .val (.int p1), .val (.ref b0z), .val (.ref b22), .val (.ref b31), .val (.int (0 : Int32)), .val (.int (0 : Int32)), .val (.int (1 : Int32)), .val .null, .val (.ref b0z), .val .null, .val .null, .unset, .unset] [(.ref b0z)]))
      refine Dn.st (fun _ kk => XS.astore X121.here hx rfl (hb hby at_124) rfl rfl (l' := #[.val (.int p0), .val (.int p1), .val (.ref b0z), .val (.ref b22), .val (.ref b31), .val (.int (0 : Int32)), .val (.int (0 : Int32)), .val (.int (1 : Int32)), .val (.ref b0z), .val (.ref b0z), .val .null, .val .null, .unset, .unset]) rfl (XS.aload X121.here hx rfl (hb hby at_126) rfl rfl (kk))) ?_
      show Dn p e below s _ _ _ (T121.setTop (mkF m 128 #[.val (.int p0), .val (.int p1), .val (.ref b0z), .val (.ref b22), .val (.ref b31), .val (.int (0 : Int32)), .val (.int (0 : Int32)), .val (.int (1 : Int32)), .val (.ref b0z), .val (.ref b0z), .val .null, .val .null, .unset, .unset] [(.ref b31)]))
      obtain ⟨cq128, kq128, q128a, q128b, q128c⟩ := isOf hZ rfl E_b31_121
      obtain ⟨_, _, ⟨T128, L128, k128, n128⟩, -, X128, ⟨Lc128, hQ128, l128, y128, z128⟩, st128⟩ := X121.virtualBack hx (y := (⟨"com/example/honest_ruler/honestruler/input/StillFrame", "next", "()Lcom/example/honest_ruler/honestruler/image/LumaPlane;"⟩ : MethodName)) (z := (⟨"com/example/honest_ruler/honestruler/input/StillFrame", "next", "()Lcom/example/honest_ruler/honestruler/image/LumaPlane;"⟩ : MethodName)) hown (mvT hZ (hw _ (List.mem_of_getElem? (i := 52) rfl))) (mvT hZ (hw _ (List.mem_of_getElem? (i := 53) rfl))) (notFace_of_selects (args := #[]) (mvT hZ (hw _ (List.mem_of_getElem? (i := 55) rfl)))) (mvT hZ (hw _ (List.mem_of_getElem? (i := 55) rfl))) (mvT hZ (hw _ (List.mem_of_getElem? (i := 54) rfl))) (by decide) (backOf (W := 0) (rm7_1 l Z a0 hw [] b31 b0z T121.heap n0 Z121 gn_b31 E_b31_121 F_b31_picture_121 F_b31_given_121) hZ (hw _ (List.mem_of_getElem? (i := 56) rfl)) (hw _ (List.mem_of_getElem? (i := 35) rfl)) (by decide) (by decide)) q128a q128c (g := (mkF m 128 #[.val (.int p0), .val (.int p1), .val (.ref b0z), .val (.ref b22), .val (.ref b31), .val (.int (0 : Int32)), .val (.int (0 : Int32)), .val (.int (1 : Int32)), .val (.ref b0z), .val (.ref b0z), .val .null, .val .null, .unset, .unset] [(.ref b31)])) rfl (by rw [hml]; rfl) (Steps.refl _) (argsL := []) (rest := []) (lenOf pd4 rfl) rfl (by show 2 * 0 + _ ≤ _; exact Nat.le_of_eq rfl) (hb hby at_128) (fun _ _ => ⟨rfl, rfl, (by decide : 4 + 0 ≤ _), (by decide : 15 + 0 ≤ _)⟩)
      dsimp only [Pt.U, Pt.locs, Pt.cells, Pt.slots] at X128 l128 y128 z128 st128 hQ128
      subst l128 y128 z128
      obtain ⟨rfl, Nq128, hh128⟩ := hQ128
      have N128 := Fr.app N121 Nq128
      refine Dn.tr st128 ?_
      show Dn p e below s _ _ _ (T128.setTop (mkF m 131 #[.val (.int p0), .val (.int p1), .val (.ref b0z), .val (.ref b22), .val (.ref b31), .val (.int (0 : Int32)), .val (.int (0 : Int32)), .val (.int (1 : Int32)), .val (.ref b0z), .val (.ref b0z), .val .null, .val .null, .unset, .unset] [.null]))
      refine Dn.st (fun _ kk => XS.astore X128.here hx rfl (hb hby at_131) rfl rfl (l' := #[.val (.int p0), .val (.int p1), .val (.ref b0z), .val (.ref b22), .val (.ref b31), .val (.int (0 : Int32)), .val (.int (0 : Int32)), .val (.int (1 : Int32)), .val (.ref b0z), .val (.ref b0z), .val .null, .val .null, .val .null, .unset]) rfl (XS.aloadN X128.here hx rfl (hb hby at_133) rfl rfl (kk))) ?_
      show Dn p e below s _ _ _ (T128.setTop (mkF m 134 #[.val (.int p0), .val (.int p1), .val (.ref b0z), .val (.ref b22), .val (.ref b31), .val (.int (0 : Int32)), .val (.int (0 : Int32)), .val (.int (1 : Int32)), .val (.ref b0z), .val (.ref b0z), .val .null, .val .null, .val .null, .unset] [(.ref b22)]))
      obtain ⟨cq134, kq134, q134a, q134b, q134c⟩ := isOf hZ hh128 E_b22_121
      obtain ⟨_, _, ⟨T134, L134, k134, n134⟩, -, X134, ⟨Lc134, hQ134, l134, y134, z134⟩, st134⟩ := X128.virtualBack hx (y := (⟨"com/example/honest_ruler/honestruler/input/StillFrame", "next", "()Lcom/example/honest_ruler/honestruler/image/LumaPlane;"⟩ : MethodName)) (z := (⟨"com/example/honest_ruler/honestruler/input/StillFrame", "next", "()Lcom/example/honest_ruler/honestruler/image/LumaPlane;"⟩ : MethodName)) hown (mvT hZ (hw _ (List.mem_of_getElem? (i := 52) rfl))) (mvT hZ (hw _ (List.mem_of_getElem? (i := 53) rfl))) (notFace_of_selects (args := #[]) (mvT hZ (hw _ (List.mem_of_getElem? (i := 55) rfl)))) (mvT hZ (hw _ (List.mem_of_getElem? (i := 55) rfl))) (mvT hZ (hw _ (List.mem_of_getElem? (i := 54) rfl))) (by decide) (backOf (W := 0) (rm7_1 l Z a0 hw [] b22 b0z T121.heap n0 Z121 gn_b22 E_b22_121 F_b22_picture_121 F_b22_given_121) hZ (hw _ (List.mem_of_getElem? (i := 56) rfl)) (hw _ (List.mem_of_getElem? (i := 35) rfl)) (by decide) (by decide)) q134a q134c (g := (mkF m 134 #[.val (.int p0), .val (.int p1), .val (.ref b0z), .val (.ref b22), .val (.ref b31), .val (.int (0 : Int32)), .val (.int (0 : Int32)), .val (.int (1 : Int32)), .val (.ref b0z), .val (.ref b0z), .val .null, .val .null, .val .null, .unset] [(.ref b22)])) rfl (by rw [hml]; rfl) (Steps.refl _) (argsL := []) (rest := []) (lenOf pd4 rfl) rfl (by show 2 * 0 + _ ≤ _; exact Nat.le_of_eq rfl) (hb hby at_134) (fun _ _ => ⟨rfl, hh128, (by decide : 4 + 0 ≤ _), (by decide : 15 + 0 ≤ _)⟩)
      dsimp only [Pt.U, Pt.locs, Pt.cells, Pt.slots] at X134 l134 y134 z134 st134 hQ134
      subst l134 y134 z134
      obtain ⟨rfl, Nq134, hh134⟩ := hQ134
      have N134 := Fr.app N128 Nq134
      refine Dn.tr st134 ?_
      show Dn p e below s _ _ _ (T134.setTop (mkF m 137 #[.val (.int p0), .val (.int p1), .val (.ref b0z), .val (.ref b22), .val (.ref b31), .val (.int (0 : Int32)), .val (.int (0 : Int32)), .val (.int (1 : Int32)), .val (.ref b0z), .val (.ref b0z), .val .null, .val .null, .val .null, .unset] [.null]))
      refine Dn.st (fun _ kk => XS.astore X134.here hx rfl (hb hby at_137) rfl rfl (l' := #[.val (.int p0), .val (.int p1), .val (.ref b0z), .val (.ref b22), .val (.ref b31), .val (.int (0 : Int32)), .val (.int (0 : Int32)), .val (.int (1 : Int32)), .val (.ref b0z), .val (.ref b0z), .val .null, .val .null, .val .null, .val .null]) rfl (XS.iload X134.here hx rfl (hb hby at_139) rfl  (XS.iconst X134.here hx rfl (hb hby at_141) (kk)))) ?_
      show Dn p e below s _ _ _ (T134.setTop (mkF m 142 #[.val (.int p0), .val (.int p1), .val (.ref b0z), .val (.ref b22), .val (.ref b31), .val (.int (0 : Int32)), .val (.int (0 : Int32)), .val (.int (1 : Int32)), .val (.ref b0z), .val (.ref b0z), .val .null, .val .null, .val .null, .val .null] [(.int (1 : Int32)), (.int (1 : Int32))]))
      have hc142 : (1 : Int32) = (1 : Int32) := by decide
      refine Dn.st (fun _ kk => XS.icmpNo X134.here hx rfl (hb hby at_142) rfl (teq hc142).2 (XS.aload X134.here hx rfl (hb hby at_145) rfl rfl (XS.aloadN X134.here hx rfl (hb hby at_147) rfl rfl (Jvm.RoadKit.acmp (g := (mkF m 148 #[.val (.int p0), .val (.int p1), .val (.ref b0z), .val (.ref b22), .val (.ref b31), .val (.int (0 : Int32)), .val (.int (0 : Int32)), .val (.int (1 : Int32)), .val (.ref b0z), .val (.ref b0z), .val .null, .val .null, .val .null, .val .null] [(.ref b0z), (.ref b0z)])) X134 hx rfl rfl rfl (pc0 := 148) (pc' := 151) (same := true) rfl (hb hby at_148) rfl (decide_eq_true rfl) (by decide) (by decide) (XS.aload X134.here hx rfl (hb hby at_151) rfl rfl (XS.ifnonnullNo X134.here hx rfl (hb hby at_153) rfl (kk))))))) ?_
      show Dn p e below s _ _ _ (T134.setTop (mkF m 156 #[.val (.int p0), .val (.int p1), .val (.ref b0z), .val (.ref b22), .val (.ref b31), .val (.int (0 : Int32)), .val (.int (0 : Int32)), .val (.int (1 : Int32)), .val (.ref b0z), .val (.ref b0z), .val .null, .val .null, .val .null, .val .null] []))
      refine Dn.st (fun _ kk => XS.aload X134.here hx rfl (hb hby at_156) rfl rfl (XS.ifnonnullNo X134.here hx rfl (hb hby at_158) rfl (XS.aload X134.here hx rfl (hb hby at_161) rfl rfl (XS.ifnonnullNo X134.here hx rfl (hb hby at_163) rfl (XS.aload X134.here hx rfl (hb hby at_166) rfl rfl (XS.aloadN X134.here hx rfl (hb hby at_168) rfl rfl (kk))))))) ?_
      show Dn p e below s _ _ _ (T134.setTop (mkF m 169 #[.val (.int p0), .val (.int p1), .val (.ref b0z), .val (.ref b22), .val (.ref b31), .val (.int (0 : Int32)), .val (.int (0 : Int32)), .val (.int (1 : Int32)), .val (.ref b0z), .val (.ref b0z), .val .null, .val .null, .val .null, .val .null] [(.ref b0z), (.ref b0z)]))
      refine Dn.st (fun _ kk => Jvm.RoadKit.acmp (g := (mkF m 169 #[.val (.int p0), .val (.int p1), .val (.ref b0z), .val (.ref b22), .val (.ref b31), .val (.int (0 : Int32)), .val (.int (0 : Int32)), .val (.int (1 : Int32)), .val (.ref b0z), .val (.ref b0z), .val .null, .val .null, .val .null, .val .null] [(.ref b0z), (.ref b0z)])) X134 hx rfl rfl rfl (pc0 := 169) (pc' := 172) (same := true) rfl (hb hby at_169) rfl (decide_eq_true rfl) (by decide) (by decide) (XS.aload X134.here hx rfl (hb hby at_172) rfl rfl (XS.ifnonnullNo X134.here hx rfl (hb hby at_174) rfl (XS.iconst X134.here hx rfl (hb hby at_177) (XS.goto X134.here hx rfl (pc0 := 178) (pc' := 182) rfl (hb hby at_178) (by decide) (by decide) (kk)))))) ?_
      show Dn p e below s _ _ _ (T134.setTop (mkF m 182 #[.val (.int p0), .val (.int p1), .val (.ref b0z), .val (.ref b22), .val (.ref b31), .val (.int (0 : Int32)), .val (.int (0 : Int32)), .val (.int (1 : Int32)), .val (.ref b0z), .val (.ref b0z), .val .null, .val .null, .val .null, .val .null] [(.int (1 : Int32))]))
      exact Dn.ret X134 hlk hx hret rfl (Or.inl ⟨rfl, Or.inr (Or.inl rfl), _, rfl⟩) (hb hby at_182) (by rw [hh134]; exact ⟨rfl, N134⟩) (by decide) (by decide)
    · refine Dn.st (fun _ kk => XS.ifNo X36.here hx rfl (hb hby at_57) rfl ((if0 _ _).trans (feq hc57).1) (XS.iconst X36.here hx rfl (hb hby at_60) (XS.goto X36.here hx rfl (pc0 := 61) (pc' := 65) rfl (hb hby at_61) (by decide) (by decide) (XS.istore X36.here hx rfl (hb hby at_65) rfl (l' := #[.val (.int p0), .val (.int p1), .val (.ref b0z), .val (.ref b22), .val (.ref b31), .val (.int (0 : Int32)), .val (.int (1 : Int32)), .unset, .unset, .unset, .unset, .unset, .unset, .unset]) rfl (XS.iconst X36.here hx rfl (hb hby at_67) (XS.istore X36.here hx rfl (hb hby at_68) rfl (l' := #[.val (.int p0), .val (.int p1), .val (.ref b0z), .val (.ref b22), .val (.ref b31), .val (.int (0 : Int32)), .val (.int (1 : Int32)), .val (.int (1 : Int32)), .unset, .unset, .unset, .unset, .unset, .unset]) rfl (kk))))))) ?_
      show Dn p e below s _ _ _ (T36.setTop (mkF m 70 #[.val (.int p0), .val (.int p1), .val (.ref b0z), .val (.ref b22), .val (.ref b31), .val (.int (0 : Int32)), .val (.int (1 : Int32)), .val (.int (1 : Int32)), .unset, .unset, .unset, .unset, .unset, .unset] []))
      refine Dn.st (fun _ kk => XS.iload X36.here hx rfl (hb hby at_70) rfl  (kk)) ?_
      show Dn p e below s _ _ _ (T36.setTop (mkF m 72 #[.val (.int p0), .val (.int p1), .val (.ref b0z), .val (.ref b22), .val (.ref b31), .val (.int (0 : Int32)), .val (.int (1 : Int32)), .val (.int (1 : Int32)), .unset, .unset, .unset, .unset, .unset, .unset] [(.int (1 : Int32))]))
      have hc72 : ¬ ((1 : Int32) = (0 : Int32)) := by decide
      refine Dn.st (fun _ kk => XS.ifNo X36.here hx rfl (hb hby at_72) rfl ((if0 _ _).trans (feq hc72).1) (XS.aloadN X36.here hx rfl (hb hby at_75) rfl rfl (kk))) ?_
      show Dn p e below s _ _ _ (T36.setTop (mkF m 76 #[.val (.int p0), .val (.int p1), .val (.ref b0z), .val (.ref b22), .val (.ref b31), .val (.int (0 : Int32)), .val (.int (1 : Int32)), .val (.int (1 : Int32)), .unset, .unset, .unset, .unset, .unset, .unset] [(.ref b22)]))
      obtain ⟨cq76, kq76, q76a, q76b, q76c⟩ := isOf hZ rfl E_b22_36
      obtain ⟨_, _, ⟨T76, L76, k76, n76⟩, -, X76, ⟨Lc76, hQ76, l76, y76, z76⟩, st76⟩ := X36.virtualBack hx (y := (⟨"com/example/honest_ruler/honestruler/input/StillFrame", "getWidth", "()I"⟩ : MethodName)) (z := (⟨"com/example/honest_ruler/honestruler/input/StillFrame", "getWidth", "()I"⟩ : MethodName)) hown (mvT hZ (hw _ (List.mem_of_getElem? (i := 42) rfl))) (mvT hZ (hw _ (List.mem_of_getElem? (i := 43) rfl))) (notFace_of_selects (args := #[]) (mvT hZ (hw _ (List.mem_of_getElem? (i := 45) rfl)))) (mvT hZ (hw _ (List.mem_of_getElem? (i := 45) rfl))) (mvT hZ (hw _ (List.mem_of_getElem? (i := 44) rfl))) (by decide) (backOf (W := 0) (rm5 l Z a0 hw [] b22 b0z T36.heap n0 Z36 F_b22_picture_36 E_b0z_36 F_b0z_width_36) hZ (hw _ (List.mem_of_getElem? (i := 46) rfl)) (hw _ (List.mem_of_getElem? (i := 35) rfl)) (by decide) (by decide)) q76a q76c (g := (mkF m 76 #[.val (.int p0), .val (.int p1), .val (.ref b0z), .val (.ref b22), .val (.ref b31), .val (.int (0 : Int32)), .val (.int (1 : Int32)), .val (.int (1 : Int32)), .unset, .unset, .unset, .unset, .unset, .unset] [(.ref b22)])) rfl (by rw [hml]; rfl) (Steps.refl _) (argsL := []) (rest := []) (lenOf pd1 rfl) rfl (by show 2 * 0 + _ ≤ _; exact Nat.le_of_eq rfl) (hb hby at_76) (fun _ _ => ⟨rfl, rfl, (by decide : 4 + 0 ≤ _), (by decide : 15 + 0 ≤ _)⟩)
      dsimp only [Pt.U, Pt.locs, Pt.cells, Pt.slots] at X76 l76 y76 z76 st76 hQ76
      subst l76 y76 z76
      obtain ⟨rfl, Nq76, hh76⟩ := hQ76
      have N76 := Fr.app N36 Nq76
      refine Dn.tr st76 ?_
      show Dn p e below s _ _ _ (T76.setTop (mkF m 79 #[.val (.int p0), .val (.int p1), .val (.ref b0z), .val (.ref b22), .val (.ref b31), .val (.int (0 : Int32)), .val (.int (1 : Int32)), .val (.int (1 : Int32)), .unset, .unset, .unset, .unset, .unset, .unset] [(.int (1 : Int32))]))
      refine Dn.st (fun _ kk => XS.istore X76.here hx rfl (hb hby at_79) rfl (l' := #[.val (.int p0), .val (.int p1), .val (.ref b0z), .val (.ref b22), .val (.ref b31), .val (.int (0 : Int32)), .val (.int (1 : Int32)), .val (.int (1 : Int32)), .unset, .unset, .unset, .unset, .unset, .unset]) rfl (XS.aconstNull X76.here hx rfl (hb hby at_81) (XS.astore X76.here hx rfl (hb hby at_82) rfl rfl (l' := #[.val (.int p0), .val (.int p1), .val (.ref b0z), .val (.ref b22), .val (.ref b31), .val (.int (0 : Int32)), .val (.int (1 : Int32)), .val (.int (1 : Int32)), .val .null, .unset, .unset, .unset, .unset, .unset]) rfl (XS.iload X76.here hx rfl (hb hby at_84) rfl  (kk))))) ?_
      show Dn p e below s _ _ _ (T76.setTop (mkF m 86 #[.val (.int p0), .val (.int p1), .val (.ref b0z), .val (.ref b22), .val (.ref b31), .val (.int (0 : Int32)), .val (.int (1 : Int32)), .val (.int (1 : Int32)), .val .null, .unset, .unset, .unset, .unset, .unset] [(.int (0 : Int32))]))
      have hc86 : (0 : Int32) = (0 : Int32) := by decide
      refine Dn.st (fun _ kk => XS.ifYes X76.here hx rfl (pc0 := 86) (pc' := 96) rfl (hb hby at_86) rfl ((if0 _ _).trans (teq hc86).1) (by decide) (by decide) (XS.aloadN X76.here hx rfl (hb hby at_96) rfl rfl (kk))) ?_
      show Dn p e below s _ _ _ (T76.setTop (mkF m 97 #[.val (.int p0), .val (.int p1), .val (.ref b0z), .val (.ref b22), .val (.ref b31), .val (.int (0 : Int32)), .val (.int (1 : Int32)), .val (.int (1 : Int32)), .val .null, .unset, .unset, .unset, .unset, .unset] [(.ref b22)]))
      obtain ⟨cq97, kq97, q97a, q97b, q97c⟩ := isOf hZ hh76 E_b22_36
      obtain ⟨_, _, ⟨T97, L97, k97, n97⟩, -, X97, ⟨Lc97, hQ97, l97, y97, z97⟩, st97⟩ := X76.virtualBack hx (y := (⟨"com/example/honest_ruler/honestruler/input/StillFrame", "next", "()Lcom/example/honest_ruler/honestruler/image/LumaPlane;"⟩ : MethodName)) (z := (⟨"com/example/honest_ruler/honestruler/input/StillFrame", "next", "()Lcom/example/honest_ruler/honestruler/image/LumaPlane;"⟩ : MethodName)) hown (mvT hZ (hw _ (List.mem_of_getElem? (i := 52) rfl))) (mvT hZ (hw _ (List.mem_of_getElem? (i := 53) rfl))) (notFace_of_selects (args := #[]) (mvT hZ (hw _ (List.mem_of_getElem? (i := 55) rfl)))) (mvT hZ (hw _ (List.mem_of_getElem? (i := 55) rfl))) (mvT hZ (hw _ (List.mem_of_getElem? (i := 54) rfl))) (by decide) (backOf (W := 0) (rm7_0 l Z a0 hw [] b22 b0z T36.heap n0 Z36 gn_b22 E_b22_36 F_b22_picture_36 F_b22_given_36) hZ (hw _ (List.mem_of_getElem? (i := 56) rfl)) (hw _ (List.mem_of_getElem? (i := 35) rfl)) (by decide) (by decide)) q97a q97c (g := (mkF m 97 #[.val (.int p0), .val (.int p1), .val (.ref b0z), .val (.ref b22), .val (.ref b31), .val (.int (0 : Int32)), .val (.int (1 : Int32)), .val (.int (1 : Int32)), .val .null, .unset, .unset, .unset, .unset, .unset] [(.ref b22)])) rfl (by rw [hml]; rfl) (Steps.refl _) (argsL := []) (rest := []) (lenOf pd4 rfl) rfl (by show 2 * 0 + _ ≤ _; exact Nat.le_of_eq rfl) (hb hby at_97) (fun _ _ => ⟨rfl, hh76, (by decide : 4 + 0 ≤ _), (by decide : 15 + 0 ≤ _)⟩)
      dsimp only [Pt.U, Pt.locs, Pt.cells, Pt.slots] at X97 l97 y97 z97 st97 hQ97
      subst l97 y97 z97
      obtain ⟨rfl, Nq97, K97, F_b22_picture_97, F_b22_given_97⟩ := hQ97
      have N97 := Fr.app N76 Nq97
      refine Dn.tr st97 ?_
      have V_b7_97 := V_b7_36.keep K97 (ninS ne_b7_b22 nin0)
      have E_b0z_97 := E_b0z_36.keep K97
      have F_b0z_width_97 := F_b0z_width_36.keep K97 (ninS ne_b0z_b22 nin0)
      have E_b22_97 := E_b22_36.keep K97
      have E_b31_97 := E_b31_36.keep K97
      have F_b31_picture_97 := F_b31_picture_36.keep K97 (ninS (Ne.symm ne_b22_b31) nin0)
      have F_b31_given_97 := F_b31_given_36.keep K97 (ninS (Ne.symm ne_b22_b31) nin0)
      have Z97 : n0 ≤ T97.heap.size := Nat.le_trans Z36 K97.1
      show Dn p e below s _ _ _ (T97.setTop (mkF m 100 #[.val (.int p0), .val (.int p1), .val (.ref b0z), .val (.ref b22), .val (.ref b31), .val (.int (0 : Int32)), .val (.int (1 : Int32)), .val (.int (1 : Int32)), .val .null, .unset, .unset, .unset, .unset, .unset] [(.ref b0z)]))
      refine Dn.st (fun _ kk => XS.astore X97.here hx rfl (hb hby at_100) rfl rfl (l' := #[.val (.int p0), .val (.int p1), .val (.ref b0z), .val (.ref b22), .val (.ref b31), .val (.int (0 : Int32)), .val (.int (1 : Int32)), .val (.int (1 : Int32)), .val .null, .val (.ref b0z), .unset, .unset, .unset, .unset]) rfl (XS.aloadN X97.here hx rfl (hb hby at_102) rfl rfl (kk))) ?_
      show Dn p e below s _ _ _ (T97.setTop (mkF m 103 #[.val (.int p0), .val (.int p1), .val (.ref b0z), .val (.ref b22), .val (.ref b31), .val (.int (0 : Int32)), .val (.int (1 : Int32)), .val (.int (1 : Int32)), .val .null, .val (.ref b0z), .unset, .unset, .unset, .unset] [(.ref b22)]))
      obtain ⟨cq103, kq103, q103a, q103b, q103c⟩ := isOf hZ rfl E_b22_97
      obtain ⟨_, _, ⟨T103, L103, k103, n103⟩, -, X103, ⟨Lc103, hQ103, l103, y103, z103⟩, st103⟩ := X97.virtualBack hx (y := (⟨"com/example/honest_ruler/honestruler/input/StillFrame", "next", "()Lcom/example/honest_ruler/honestruler/image/LumaPlane;"⟩ : MethodName)) (z := (⟨"com/example/honest_ruler/honestruler/input/StillFrame", "next", "()Lcom/example/honest_ruler/honestruler/image/LumaPlane;"⟩ : MethodName)) hown (mvT hZ (hw _ (List.mem_of_getElem? (i := 52) rfl))) (mvT hZ (hw _ (List.mem_of_getElem? (i := 53) rfl))) (notFace_of_selects (args := #[]) (mvT hZ (hw _ (List.mem_of_getElem? (i := 55) rfl)))) (mvT hZ (hw _ (List.mem_of_getElem? (i := 55) rfl))) (mvT hZ (hw _ (List.mem_of_getElem? (i := 54) rfl))) (by decide) (backOf (W := 0) (rm7_1 l Z a0 hw [] b22 b0z T97.heap n0 Z97 gn_b22 E_b22_97 F_b22_picture_97 F_b22_given_97) hZ (hw _ (List.mem_of_getElem? (i := 56) rfl)) (hw _ (List.mem_of_getElem? (i := 35) rfl)) (by decide) (by decide)) q103a q103c (g := (mkF m 103 #[.val (.int p0), .val (.int p1), .val (.ref b0z), .val (.ref b22), .val (.ref b31), .val (.int (0 : Int32)), .val (.int (1 : Int32)), .val (.int (1 : Int32)), .val .null, .val (.ref b0z), .unset, .unset, .unset, .unset] [(.ref b22)])) rfl (by rw [hml]; rfl) (Steps.refl _) (argsL := []) (rest := []) (lenOf pd4 rfl) rfl (by show 2 * 0 + _ ≤ _; exact Nat.le_of_eq rfl) (hb hby at_103) (fun _ _ => ⟨rfl, rfl, (by decide : 4 + 0 ≤ _), (by decide : 15 + 0 ≤ _)⟩)
      dsimp only [Pt.U, Pt.locs, Pt.cells, Pt.slots] at X103 l103 y103 z103 st103 hQ103
      subst l103 y103 z103
      obtain ⟨rfl, Nq103, hh103⟩ := hQ103
      have N103 := Fr.app N97 Nq103
      refine Dn.tr st103 ?_
      show Dn p e below s _ _ _ (T103.setTop (mkF m 106 #[.val (.int p0), .val (.int p1), .val (.ref b0z), .val (.ref b22), .val (.ref b31), .val (.int (0 : Int32)), .val (.int (1 : Int32)), .val (.int (1 : Int32)), .val .null, .val (.ref b0z), .unset, .unset, .unset, .unset] [.null]))
      refine Dn.st (fun _ kk => XS.astore X103.here hx rfl (hb hby at_106) rfl rfl (l' := #[.val (.int p0), .val (.int p1), .val (.ref b0z), .val (.ref b22), .val (.ref b31), .val (.int (0 : Int32)), .val (.int (1 : Int32)), .val (.int (1 : Int32)), .val .null, .val (.ref b0z), .val .null, .unset, .unset, .unset]) rfl (XS.aloadN X103.here hx rfl (hb hby at_108) rfl rfl (kk))) ?_
      show Dn p e below s _ _ _ (T103.setTop (mkF m 109 #[.val (.int p0), .val (.int p1), .val (.ref b0z), .val (.ref b22), .val (.ref b31), .val (.int (0 : Int32)), .val (.int (1 : Int32)), .val (.int (1 : Int32)), .val .null, .val (.ref b0z), .val .null, .unset, .unset, .unset] [(.ref b22)]))
      obtain ⟨cq109, kq109, q109a, q109b, q109c⟩ := isOf hZ hh103 E_b22_97
      obtain ⟨_, _, ⟨T109, L109, k109, n109⟩, -, X109, ⟨Lc109, hQ109, l109, y109, z109⟩, st109⟩ := X103.virtualBack hx (y := (⟨"com/example/honest_ruler/honestruler/input/StillFrame", "next", "()Lcom/example/honest_ruler/honestruler/image/LumaPlane;"⟩ : MethodName)) (z := (⟨"com/example/honest_ruler/honestruler/input/StillFrame", "next", "()Lcom/example/honest_ruler/honestruler/image/LumaPlane;"⟩ : MethodName)) hown (mvT hZ (hw _ (List.mem_of_getElem? (i := 52) rfl))) (mvT hZ (hw _ (List.mem_of_getElem? (i := 53) rfl))) (notFace_of_selects (args := #[]) (mvT hZ (hw _ (List.mem_of_getElem? (i := 55) rfl)))) (mvT hZ (hw _ (List.mem_of_getElem? (i := 55) rfl))) (mvT hZ (hw _ (List.mem_of_getElem? (i := 54) rfl))) (by decide) (backOf (W := 0) (rm7_1 l Z a0 hw [] b22 b0z T97.heap n0 Z97 gn_b22 E_b22_97 F_b22_picture_97 F_b22_given_97) hZ (hw _ (List.mem_of_getElem? (i := 56) rfl)) (hw _ (List.mem_of_getElem? (i := 35) rfl)) (by decide) (by decide)) q109a q109c (g := (mkF m 109 #[.val (.int p0), .val (.int p1), .val (.ref b0z), .val (.ref b22), .val (.ref b31), .val (.int (0 : Int32)), .val (.int (1 : Int32)), .val (.int (1 : Int32)), .val .null, .val (.ref b0z), .val .null, .unset, .unset, .unset] [(.ref b22)])) rfl (by rw [hml]; rfl) (Steps.refl _) (argsL := []) (rest := []) (lenOf pd4 rfl) rfl (by show 2 * 0 + _ ≤ _; exact Nat.le_of_eq rfl) (hb hby at_109) (fun _ _ => ⟨rfl, hh103, (by decide : 4 + 0 ≤ _), (by decide : 15 + 0 ≤ _)⟩)
      dsimp only [Pt.U, Pt.locs, Pt.cells, Pt.slots] at X109 l109 y109 z109 st109 hQ109
      subst l109 y109 z109
      obtain ⟨rfl, Nq109, hh109⟩ := hQ109
      have N109 := Fr.app N103 Nq109
      refine Dn.tr st109 ?_
      show Dn p e below s _ _ _ (T109.setTop (mkF m 112 #[.val (.int p0), .val (.int p1), .val (.ref b0z), .val (.ref b22), .val (.ref b31), .val (.int (0 : Int32)), .val (.int (1 : Int32)), .val (.int (1 : Int32)), .val .null, .val (.ref b0z), .val .null, .unset, .unset, .unset] [.null]))
      refine Dn.st (fun _ kk => XS.astore X109.here hx rfl (hb hby at_112) rfl rfl (l' := #[.val (.int p0), .val (.int p1), .val (.ref b0z), .val (.ref b22), .val (.ref b31), .val (.int (0 : Int32)), .val (.int (1 : Int32)), .val (.int (1 : Int32)), .val .null, .val (.ref b0z), .val .null, .val .null, .unset, .unset]) rfl (XS.iload X109.here hx rfl (hb hby at_114) rfl  (kk))) ?_
      show Dn p e below s _ _ _ (T109.setTop (mkF m 116 #[.val (.int p0), .val (.int p1), .val (.ref b0z), .val (.ref b22), .val (.ref b31), .val (.int (0 : Int32)), .val (.int (1 : Int32)), .val (.int (1 : Int32)), .val .null, .val (.ref b0z), .val .null, .val .null, .unset, .unset] [(.int (0 : Int32))]))
      have hc116 : (0 : Int32) = (0 : Int32) := by decide
      refine Dn.st (fun _ kk => XS.ifNo X109.here hx rfl (hb hby at_116) rfl ((if0 _ _).trans (teq hc116).2) (XS.aload X109.here hx rfl (hb hby at_119) rfl rfl (kk))) ?_
      show Dn p e below s _ _ _ (T109.setTop (mkF m 121 #[.val (.int p0), .val (.int p1), .val (.ref b0z), .val (.ref b22), .val (.ref b31), .val (.int (0 : Int32)), .val (.int (1 : Int32)), .val (.int (1 : Int32)), .val .null, .val (.ref b0z), .val .null, .val .null, .unset, .unset] [(.ref b31)]))
      obtain ⟨cq121, kq121, q121a, q121b, q121c⟩ := isOf hZ hh109 E_b31_97
      obtain ⟨_, _, ⟨T121, L121, k121, n121⟩, -, X121, ⟨Lc121, hQ121, l121, y121, z121⟩, st121⟩ := X109.virtualBack hx (y := (⟨"com/example/honest_ruler/honestruler/input/StillFrame", "next", "()Lcom/example/honest_ruler/honestruler/image/LumaPlane;"⟩ : MethodName)) (z := (⟨"com/example/honest_ruler/honestruler/input/StillFrame", "next", "()Lcom/example/honest_ruler/honestruler/image/LumaPlane;"⟩ : MethodName)) hown (mvT hZ (hw _ (List.mem_of_getElem? (i := 52) rfl))) (mvT hZ (hw _ (List.mem_of_getElem? (i := 53) rfl))) (notFace_of_selects (args := #[]) (mvT hZ (hw _ (List.mem_of_getElem? (i := 55) rfl)))) (mvT hZ (hw _ (List.mem_of_getElem? (i := 55) rfl))) (mvT hZ (hw _ (List.mem_of_getElem? (i := 54) rfl))) (by decide) (backOf (W := 0) (rm7_0 l Z a0 hw [] b31 b0z T97.heap n0 Z97 gn_b31 E_b31_97 F_b31_picture_97 F_b31_given_97) hZ (hw _ (List.mem_of_getElem? (i := 56) rfl)) (hw _ (List.mem_of_getElem? (i := 35) rfl)) (by decide) (by decide)) q121a q121c (g := (mkF m 121 #[.val (.int p0), .val (.int p1), .val (.ref b0z), .val (.ref b22), .val (.ref b31), .val (.int (0 : Int32)), .val (.int (1 : Int32)), .val (.int (1 : Int32)), .val .null, .val (.ref b0z), .val .null, .val .null, .unset, .unset] [(.ref b31)])) rfl (by rw [hml]; rfl) (Steps.refl _) (argsL := []) (rest := []) (lenOf pd4 rfl) rfl (by show 2 * 0 + _ ≤ _; exact Nat.le_of_eq rfl) (hb hby at_121) (fun _ _ => ⟨rfl, hh109, (by decide : 4 + 0 ≤ _), (by decide : 15 + 0 ≤ _)⟩)
      dsimp only [Pt.U, Pt.locs, Pt.cells, Pt.slots] at X121 l121 y121 z121 st121 hQ121
      subst l121 y121 z121
      obtain ⟨rfl, Nq121, K121, F_b31_picture_121, F_b31_given_121⟩ := hQ121
      have N121 := Fr.app N109 Nq121
      refine Dn.tr st121 ?_
      have V_b7_121 := V_b7_97.keep K121 (ninS ne_b7_b31 nin0)
      have E_b0z_121 := E_b0z_97.keep K121
      have F_b0z_width_121 := F_b0z_width_97.keep K121 (ninS ne_b0z_b31 nin0)
      have E_b22_121 := E_b22_97.keep K121
      have E_b31_121 := E_b31_97.keep K121
      have F_b22_picture_121 := F_b22_picture_97.keep K121 (ninS ne_b22_b31 nin0)
      have F_b22_given_121 := F_b22_given_97.keep K121 (ninS ne_b22_b31 nin0)
      have Z121 : n0 ≤ T121.heap.size := Nat.le_trans Z97 K121.1
      show Dn p e below s _ _ _ (T121.setTop (mkF m 124 #[.val (.int p0), .val (.int p1), .val (.ref b0z), .val (.ref b22), .val (.ref b31), .val (.int (0 : Int32)), .val (.int (1 : Int32)), .val (.int (1 : Int32)), .val .null, .val (.ref b0z), .val .null, .val .null, .unset, .unset] [(.ref b0z)]))
      refine Dn.st (fun _ kk => XS.astore X121.here hx rfl (hb hby at_124) rfl rfl (l' := #[.val (.int p0), .val (.int p1), .val (.ref b0z), .val (.ref b22), .val (.ref b31), .val (.int (0 : Int32)), .val (.int (1 : Int32)), .val (.int (1 : Int32)), .val (.ref b0z), .val (.ref b0z), .val .null, .val .null, .unset, .unset]) rfl (XS.aload X121.here hx rfl (hb hby at_126) rfl rfl (kk))) ?_
      show Dn p e below s _ _ _ (T121.setTop (mkF m 128 #[.val (.int p0), .val (.int p1), .val (.ref b0z), .val (.ref b22), .val (.ref b31), .val (.int (0 : Int32)), .val (.int (1 : Int32)), .val (.int (1 : Int32)), .val (.ref b0z), .val (.ref b0z), .val .null, .val .null, .unset, .unset] [(.ref b31)]))
      obtain ⟨cq128, kq128, q128a, q128b, q128c⟩ := isOf hZ rfl E_b31_121
      obtain ⟨_, _, ⟨T128, L128, k128, n128⟩, -, X128, ⟨Lc128, hQ128, l128, y128, z128⟩, st128⟩ := X121.virtualBack hx (y := (⟨"com/example/honest_ruler/honestruler/input/StillFrame", "next", "()Lcom/example/honest_ruler/honestruler/image/LumaPlane;"⟩ : MethodName)) (z := (⟨"com/example/honest_ruler/honestruler/input/StillFrame", "next", "()Lcom/example/honest_ruler/honestruler/image/LumaPlane;"⟩ : MethodName)) hown (mvT hZ (hw _ (List.mem_of_getElem? (i := 52) rfl))) (mvT hZ (hw _ (List.mem_of_getElem? (i := 53) rfl))) (notFace_of_selects (args := #[]) (mvT hZ (hw _ (List.mem_of_getElem? (i := 55) rfl)))) (mvT hZ (hw _ (List.mem_of_getElem? (i := 55) rfl))) (mvT hZ (hw _ (List.mem_of_getElem? (i := 54) rfl))) (by decide) (backOf (W := 0) (rm7_1 l Z a0 hw [] b31 b0z T121.heap n0 Z121 gn_b31 E_b31_121 F_b31_picture_121 F_b31_given_121) hZ (hw _ (List.mem_of_getElem? (i := 56) rfl)) (hw _ (List.mem_of_getElem? (i := 35) rfl)) (by decide) (by decide)) q128a q128c (g := (mkF m 128 #[.val (.int p0), .val (.int p1), .val (.ref b0z), .val (.ref b22), .val (.ref b31), .val (.int (0 : Int32)), .val (.int (1 : Int32)), .val (.int (1 : Int32)), .val (.ref b0z), .val (.ref b0z), .val .null, .val .null, .unset, .unset] [(.ref b31)])) rfl (by rw [hml]; rfl) (Steps.refl _) (argsL := []) (rest := []) (lenOf pd4 rfl) rfl (by show 2 * 0 + _ ≤ _; exact Nat.le_of_eq rfl) (hb hby at_128) (fun _ _ => ⟨rfl, rfl, (by decide : 4 + 0 ≤ _), (by decide : 15 + 0 ≤ _)⟩)
      dsimp only [Pt.U, Pt.locs, Pt.cells, Pt.slots] at X128 l128 y128 z128 st128 hQ128
      subst l128 y128 z128
      obtain ⟨rfl, Nq128, hh128⟩ := hQ128
      have N128 := Fr.app N121 Nq128
      refine Dn.tr st128 ?_
      show Dn p e below s _ _ _ (T128.setTop (mkF m 131 #[.val (.int p0), .val (.int p1), .val (.ref b0z), .val (.ref b22), .val (.ref b31), .val (.int (0 : Int32)), .val (.int (1 : Int32)), .val (.int (1 : Int32)), .val (.ref b0z), .val (.ref b0z), .val .null, .val .null, .unset, .unset] [.null]))
      refine Dn.st (fun _ kk => XS.astore X128.here hx rfl (hb hby at_131) rfl rfl (l' := #[.val (.int p0), .val (.int p1), .val (.ref b0z), .val (.ref b22), .val (.ref b31), .val (.int (0 : Int32)), .val (.int (1 : Int32)), .val (.int (1 : Int32)), .val (.ref b0z), .val (.ref b0z), .val .null, .val .null, .val .null, .unset]) rfl (XS.aloadN X128.here hx rfl (hb hby at_133) rfl rfl (kk))) ?_
      show Dn p e below s _ _ _ (T128.setTop (mkF m 134 #[.val (.int p0), .val (.int p1), .val (.ref b0z), .val (.ref b22), .val (.ref b31), .val (.int (0 : Int32)), .val (.int (1 : Int32)), .val (.int (1 : Int32)), .val (.ref b0z), .val (.ref b0z), .val .null, .val .null, .val .null, .unset] [(.ref b22)]))
      obtain ⟨cq134, kq134, q134a, q134b, q134c⟩ := isOf hZ hh128 E_b22_121
      obtain ⟨_, _, ⟨T134, L134, k134, n134⟩, -, X134, ⟨Lc134, hQ134, l134, y134, z134⟩, st134⟩ := X128.virtualBack hx (y := (⟨"com/example/honest_ruler/honestruler/input/StillFrame", "next", "()Lcom/example/honest_ruler/honestruler/image/LumaPlane;"⟩ : MethodName)) (z := (⟨"com/example/honest_ruler/honestruler/input/StillFrame", "next", "()Lcom/example/honest_ruler/honestruler/image/LumaPlane;"⟩ : MethodName)) hown (mvT hZ (hw _ (List.mem_of_getElem? (i := 52) rfl))) (mvT hZ (hw _ (List.mem_of_getElem? (i := 53) rfl))) (notFace_of_selects (args := #[]) (mvT hZ (hw _ (List.mem_of_getElem? (i := 55) rfl)))) (mvT hZ (hw _ (List.mem_of_getElem? (i := 55) rfl))) (mvT hZ (hw _ (List.mem_of_getElem? (i := 54) rfl))) (by decide) (backOf (W := 0) (rm7_1 l Z a0 hw [] b22 b0z T121.heap n0 Z121 gn_b22 E_b22_121 F_b22_picture_121 F_b22_given_121) hZ (hw _ (List.mem_of_getElem? (i := 56) rfl)) (hw _ (List.mem_of_getElem? (i := 35) rfl)) (by decide) (by decide)) q134a q134c (g := (mkF m 134 #[.val (.int p0), .val (.int p1), .val (.ref b0z), .val (.ref b22), .val (.ref b31), .val (.int (0 : Int32)), .val (.int (1 : Int32)), .val (.int (1 : Int32)), .val (.ref b0z), .val (.ref b0z), .val .null, .val .null, .val .null, .unset] [(.ref b22)])) rfl (by rw [hml]; rfl) (Steps.refl _) (argsL := []) (rest := []) (lenOf pd4 rfl) rfl (by show 2 * 0 + _ ≤ _; exact Nat.le_of_eq rfl) (hb hby at_134) (fun _ _ => ⟨rfl, hh128, (by decide : 4 + 0 ≤ _), (by decide : 15 + 0 ≤ _)⟩)
      dsimp only [Pt.U, Pt.locs, Pt.cells, Pt.slots] at X134 l134 y134 z134 st134 hQ134
      subst l134 y134 z134
      obtain ⟨rfl, Nq134, hh134⟩ := hQ134
      have N134 := Fr.app N128 Nq134
      refine Dn.tr st134 ?_
      show Dn p e below s _ _ _ (T134.setTop (mkF m 137 #[.val (.int p0), .val (.int p1), .val (.ref b0z), .val (.ref b22), .val (.ref b31), .val (.int (0 : Int32)), .val (.int (1 : Int32)), .val (.int (1 : Int32)), .val (.ref b0z), .val (.ref b0z), .val .null, .val .null, .val .null, .unset] [.null]))
      refine Dn.st (fun _ kk => XS.astore X134.here hx rfl (hb hby at_137) rfl rfl (l' := #[.val (.int p0), .val (.int p1), .val (.ref b0z), .val (.ref b22), .val (.ref b31), .val (.int (0 : Int32)), .val (.int (1 : Int32)), .val (.int (1 : Int32)), .val (.ref b0z), .val (.ref b0z), .val .null, .val .null, .val .null, .val .null]) rfl (XS.iload X134.here hx rfl (hb hby at_139) rfl  (XS.iconst X134.here hx rfl (hb hby at_141) (kk)))) ?_
      show Dn p e below s _ _ _ (T134.setTop (mkF m 142 #[.val (.int p0), .val (.int p1), .val (.ref b0z), .val (.ref b22), .val (.ref b31), .val (.int (0 : Int32)), .val (.int (1 : Int32)), .val (.int (1 : Int32)), .val (.ref b0z), .val (.ref b0z), .val .null, .val .null, .val .null, .val .null] [(.int (1 : Int32)), (.int (1 : Int32))]))
      have hc142 : (1 : Int32) = (1 : Int32) := by decide
      refine Dn.st (fun _ kk => XS.icmpNo X134.here hx rfl (hb hby at_142) rfl (teq hc142).2 (XS.aload X134.here hx rfl (hb hby at_145) rfl rfl (XS.aloadN X134.here hx rfl (hb hby at_147) rfl rfl (Jvm.RoadKit.acmp (g := (mkF m 148 #[.val (.int p0), .val (.int p1), .val (.ref b0z), .val (.ref b22), .val (.ref b31), .val (.int (0 : Int32)), .val (.int (1 : Int32)), .val (.int (1 : Int32)), .val (.ref b0z), .val (.ref b0z), .val .null, .val .null, .val .null, .val .null] [(.ref b0z), (.ref b0z)])) X134 hx rfl rfl rfl (pc0 := 148) (pc' := 151) (same := true) rfl (hb hby at_148) rfl (decide_eq_true rfl) (by decide) (by decide) (XS.aload X134.here hx rfl (hb hby at_151) rfl rfl (XS.ifnonnullNo X134.here hx rfl (hb hby at_153) rfl (kk))))))) ?_
      show Dn p e below s _ _ _ (T134.setTop (mkF m 156 #[.val (.int p0), .val (.int p1), .val (.ref b0z), .val (.ref b22), .val (.ref b31), .val (.int (0 : Int32)), .val (.int (1 : Int32)), .val (.int (1 : Int32)), .val (.ref b0z), .val (.ref b0z), .val .null, .val .null, .val .null, .val .null] []))
      refine Dn.st (fun _ kk => XS.aload X134.here hx rfl (hb hby at_156) rfl rfl (XS.ifnonnullNo X134.here hx rfl (hb hby at_158) rfl (XS.aload X134.here hx rfl (hb hby at_161) rfl rfl (XS.ifnonnullNo X134.here hx rfl (hb hby at_163) rfl (XS.aload X134.here hx rfl (hb hby at_166) rfl rfl (XS.aloadN X134.here hx rfl (hb hby at_168) rfl rfl (kk))))))) ?_
      show Dn p e below s _ _ _ (T134.setTop (mkF m 169 #[.val (.int p0), .val (.int p1), .val (.ref b0z), .val (.ref b22), .val (.ref b31), .val (.int (0 : Int32)), .val (.int (1 : Int32)), .val (.int (1 : Int32)), .val (.ref b0z), .val (.ref b0z), .val .null, .val .null, .val .null, .val .null] [(.ref b0z), (.ref b0z)]))
      refine Dn.st (fun _ kk => Jvm.RoadKit.acmp (g := (mkF m 169 #[.val (.int p0), .val (.int p1), .val (.ref b0z), .val (.ref b22), .val (.ref b31), .val (.int (0 : Int32)), .val (.int (1 : Int32)), .val (.int (1 : Int32)), .val (.ref b0z), .val (.ref b0z), .val .null, .val .null, .val .null, .val .null] [(.ref b0z), (.ref b0z)])) X134 hx rfl rfl rfl (pc0 := 169) (pc' := 172) (same := true) rfl (hb hby at_169) rfl (decide_eq_true rfl) (by decide) (by decide) (XS.aload X134.here hx rfl (hb hby at_172) rfl rfl (XS.ifnonnullNo X134.here hx rfl (hb hby at_174) rfl (XS.iconst X134.here hx rfl (hb hby at_177) (XS.goto X134.here hx rfl (pc0 := 178) (pc' := 182) rfl (hb hby at_178) (by decide) (by decide) (kk)))))) ?_
      show Dn p e below s _ _ _ (T134.setTop (mkF m 182 #[.val (.int p0), .val (.int p1), .val (.ref b0z), .val (.ref b22), .val (.ref b31), .val (.int (0 : Int32)), .val (.int (1 : Int32)), .val (.int (1 : Int32)), .val (.ref b0z), .val (.ref b0z), .val .null, .val .null, .val .null, .val .null] [(.int (1 : Int32))]))
      exact Dn.ret X134 hlk hx hret rfl (Or.inl ⟨rfl, Or.inr (Or.inl rfl), _, rfl⟩) (hb hby at_182) (by rw [hh134]; exact ⟨rfl, N134⟩) (by decide) (by decide)
  · refine Dn.st (fun _ kk => XS.ifNo X36.here hx rfl (hb hby at_44) rfl ((if0 _ _).trans (feq hc44).1) (XS.iconst X36.here hx rfl (hb hby at_47) (XS.goto X36.here hx rfl (pc0 := 48) (pc' := 52) rfl (hb hby at_48) (by decide) (by decide) (XS.istore X36.here hx rfl (hb hby at_52) rfl (l' := #[.val (.int p0), .val (.int p1), .val (.ref b0z), .val (.ref b22), .val (.ref b31), .val (.int (1 : Int32)), .unset, .unset, .unset, .unset, .unset, .unset, .unset, .unset]) rfl (XS.iloadN X36.here hx rfl (hb hby at_54) rfl  (XS.iconst X36.here hx rfl (hb hby at_55) (kk))))))) ?_
    show Dn p e below s _ _ _ (T36.setTop (mkF m 56 #[.val (.int p0), .val (.int p1), .val (.ref b0z), .val (.ref b22), .val (.ref b31), .val (.int (1 : Int32)), .unset, .unset, .unset, .unset, .unset, .unset, .unset, .unset] [(.int (2 : Int32)), (.int p1)]))
    refine Dn.st (fun _ kk => XS.iand X36.here hx rfl (hb hby at_56) rfl (kk)) ?_
    show Dn p e below s _ _ _ (T36.setTop (mkF m 57 #[.val (.int p0), .val (.int p1), .val (.ref b0z), .val (.ref b22), .val (.ref b31), .val (.int (1 : Int32)), .unset, .unset, .unset, .unset, .unset, .unset, .unset, .unset] [(.int (p1 &&& (2 : Int32)))]))
    generalize hv56 : ((p1 &&& (2 : Int32)) : Int32) = v56
    show Dn p e below s _ _ _ (T36.setTop (mkF m 57 #[.val (.int p0), .val (.int p1), .val (.ref b0z), .val (.ref b22), .val (.ref b31), .val (.int (1 : Int32)), .unset, .unset, .unset, .unset, .unset, .unset, .unset, .unset] [(.int v56)]))
    by_cases hc57 : v56 = (0 : Int32)
    · refine Dn.st (fun _ kk => XS.ifYes X36.here hx rfl (pc0 := 57) (pc' := 64) rfl (hb hby at_57) rfl ((if0 _ _).trans (teq hc57).1) (by decide) (by decide) (XS.iconst X36.here hx rfl (hb hby at_64) (XS.istore X36.here hx rfl (hb hby at_65) rfl (l' := #[.val (.int p0), .val (.int p1), .val (.ref b0z), .val (.ref b22), .val (.ref b31), .val (.int (1 : Int32)), .val (.int (0 : Int32)), .unset, .unset, .unset, .unset, .unset, .unset, .unset]) rfl (XS.iconst X36.here hx rfl (hb hby at_67) (XS.istore X36.here hx rfl (hb hby at_68) rfl (l' := #[.val (.int p0), .val (.int p1), .val (.ref b0z), .val (.ref b22), .val (.ref b31), .val (.int (1 : Int32)), .val (.int (0 : Int32)), .val (.int (1 : Int32)), .unset, .unset, .unset, .unset, .unset, .unset]) rfl (XS.iload X36.here hx rfl (hb hby at_70) rfl  (kk))))))) ?_
      show Dn p e below s _ _ _ (T36.setTop (mkF m 72 #[.val (.int p0), .val (.int p1), .val (.ref b0z), .val (.ref b22), .val (.ref b31), .val (.int (1 : Int32)), .val (.int (0 : Int32)), .val (.int (1 : Int32)), .unset, .unset, .unset, .unset, .unset, .unset] [(.int (0 : Int32))]))
      have hc72 : (0 : Int32) = (0 : Int32) := by decide
      refine Dn.st (fun _ kk => XS.ifYes X36.here hx rfl (pc0 := 72) (pc' := 81) rfl (hb hby at_72) rfl ((if0 _ _).trans (teq hc72).1) (by decide) (by decide) (XS.aconstNull X36.here hx rfl (hb hby at_81) (XS.astore X36.here hx rfl (hb hby at_82) rfl rfl (l' := #[.val (.int p0), .val (.int p1), .val (.ref b0z), .val (.ref b22), .val (.ref b31), .val (.int (1 : Int32)), .val (.int (0 : Int32)), .val (.int (1 : Int32)), .val .null, .unset, .unset, .unset, .unset, .unset]) rfl (XS.iload X36.here hx rfl (hb hby at_84) rfl  (kk))))) ?_
      show Dn p e below s _ _ _ (T36.setTop (mkF m 86 #[.val (.int p0), .val (.int p1), .val (.ref b0z), .val (.ref b22), .val (.ref b31), .val (.int (1 : Int32)), .val (.int (0 : Int32)), .val (.int (1 : Int32)), .val .null, .unset, .unset, .unset, .unset, .unset] [(.int (1 : Int32))]))
      have hc86 : ¬ ((1 : Int32) = (0 : Int32)) := by decide
      refine Dn.st (fun _ kk => XS.ifNo X36.here hx rfl (hb hby at_86) rfl ((if0 _ _).trans (feq hc86).1) (XS.aload X36.here hx rfl (hb hby at_89) rfl rfl (kk))) ?_
      show Dn p e below s _ _ _ (T36.setTop (mkF m 91 #[.val (.int p0), .val (.int p1), .val (.ref b0z), .val (.ref b22), .val (.ref b31), .val (.int (1 : Int32)), .val (.int (0 : Int32)), .val (.int (1 : Int32)), .val .null, .unset, .unset, .unset, .unset, .unset] [(.ref b31)]))
      obtain ⟨cq91, kq91, q91a, q91b, q91c⟩ := isOf hZ rfl E_b31_36
      obtain ⟨_, _, ⟨T91, L91, k91, n91⟩, -, X91, ⟨Lc91, hQ91, l91, y91, z91⟩, st91⟩ := X36.virtualBack hx (y := (⟨"com/example/honest_ruler/honestruler/input/StillFrame", "next", "()Lcom/example/honest_ruler/honestruler/image/LumaPlane;"⟩ : MethodName)) (z := (⟨"com/example/honest_ruler/honestruler/input/StillFrame", "next", "()Lcom/example/honest_ruler/honestruler/image/LumaPlane;"⟩ : MethodName)) hown (mvT hZ (hw _ (List.mem_of_getElem? (i := 52) rfl))) (mvT hZ (hw _ (List.mem_of_getElem? (i := 53) rfl))) (notFace_of_selects (args := #[]) (mvT hZ (hw _ (List.mem_of_getElem? (i := 55) rfl)))) (mvT hZ (hw _ (List.mem_of_getElem? (i := 55) rfl))) (mvT hZ (hw _ (List.mem_of_getElem? (i := 54) rfl))) (by decide) (backOf (W := 0) (rm7_0 l Z a0 hw [] b31 b0z T36.heap n0 Z36 gn_b31 E_b31_36 F_b31_picture_36 F_b31_given_36) hZ (hw _ (List.mem_of_getElem? (i := 56) rfl)) (hw _ (List.mem_of_getElem? (i := 35) rfl)) (by decide) (by decide)) q91a q91c (g := (mkF m 91 #[.val (.int p0), .val (.int p1), .val (.ref b0z), .val (.ref b22), .val (.ref b31), .val (.int (1 : Int32)), .val (.int (0 : Int32)), .val (.int (1 : Int32)), .val .null, .unset, .unset, .unset, .unset, .unset] [(.ref b31)])) rfl (by rw [hml]; rfl) (Steps.refl _) (argsL := []) (rest := []) (lenOf pd4 rfl) rfl (by show 2 * 0 + _ ≤ _; exact Nat.le_of_eq rfl) (hb hby at_91) (fun _ _ => ⟨rfl, rfl, (by decide : 4 + 0 ≤ _), (by decide : 15 + 0 ≤ _)⟩)
      dsimp only [Pt.U, Pt.locs, Pt.cells, Pt.slots] at X91 l91 y91 z91 st91 hQ91
      subst l91 y91 z91
      obtain ⟨rfl, Nq91, K91, F_b31_picture_91, F_b31_given_91⟩ := hQ91
      have N91 := Fr.app N36 Nq91
      refine Dn.tr st91 ?_
      have V_b7_91 := V_b7_36.keep K91 (ninS ne_b7_b31 nin0)
      have E_b0z_91 := E_b0z_36.keep K91
      have F_b0z_width_91 := F_b0z_width_36.keep K91 (ninS ne_b0z_b31 nin0)
      have E_b22_91 := E_b22_36.keep K91
      have F_b22_picture_91 := F_b22_picture_36.keep K91 (ninS ne_b22_b31 nin0)
      have F_b22_given_91 := F_b22_given_36.keep K91 (ninS ne_b22_b31 nin0)
      have E_b31_91 := E_b31_36.keep K91
      have Z91 : n0 ≤ T91.heap.size := Nat.le_trans Z36 K91.1
      show Dn p e below s _ _ _ (T91.setTop (mkF m 94 #[.val (.int p0), .val (.int p1), .val (.ref b0z), .val (.ref b22), .val (.ref b31), .val (.int (1 : Int32)), .val (.int (0 : Int32)), .val (.int (1 : Int32)), .val .null, .unset, .unset, .unset, .unset, .unset] [(.ref b0z)]))
      refine Dn.st (fun _ kk => XS.astore X91.here hx rfl (hb hby at_94) rfl rfl (l' := #[.val (.int p0), .val (.int p1), .val (.ref b0z), .val (.ref b22), .val (.ref b31), .val (.int (1 : Int32)), .val (.int (0 : Int32)), .val (.int (1 : Int32)), .val (.ref b0z), .unset, .unset, .unset, .unset, .unset]) rfl (XS.aloadN X91.here hx rfl (hb hby at_96) rfl rfl (kk))) ?_
      show Dn p e below s _ _ _ (T91.setTop (mkF m 97 #[.val (.int p0), .val (.int p1), .val (.ref b0z), .val (.ref b22), .val (.ref b31), .val (.int (1 : Int32)), .val (.int (0 : Int32)), .val (.int (1 : Int32)), .val (.ref b0z), .unset, .unset, .unset, .unset, .unset] [(.ref b22)]))
      obtain ⟨cq97, kq97, q97a, q97b, q97c⟩ := isOf hZ rfl E_b22_91
      obtain ⟨_, _, ⟨T97, L97, k97, n97⟩, -, X97, ⟨Lc97, hQ97, l97, y97, z97⟩, st97⟩ := X91.virtualBack hx (y := (⟨"com/example/honest_ruler/honestruler/input/StillFrame", "next", "()Lcom/example/honest_ruler/honestruler/image/LumaPlane;"⟩ : MethodName)) (z := (⟨"com/example/honest_ruler/honestruler/input/StillFrame", "next", "()Lcom/example/honest_ruler/honestruler/image/LumaPlane;"⟩ : MethodName)) hown (mvT hZ (hw _ (List.mem_of_getElem? (i := 52) rfl))) (mvT hZ (hw _ (List.mem_of_getElem? (i := 53) rfl))) (notFace_of_selects (args := #[]) (mvT hZ (hw _ (List.mem_of_getElem? (i := 55) rfl)))) (mvT hZ (hw _ (List.mem_of_getElem? (i := 55) rfl))) (mvT hZ (hw _ (List.mem_of_getElem? (i := 54) rfl))) (by decide) (backOf (W := 0) (rm7_0 l Z a0 hw [] b22 b0z T91.heap n0 Z91 gn_b22 E_b22_91 F_b22_picture_91 F_b22_given_91) hZ (hw _ (List.mem_of_getElem? (i := 56) rfl)) (hw _ (List.mem_of_getElem? (i := 35) rfl)) (by decide) (by decide)) q97a q97c (g := (mkF m 97 #[.val (.int p0), .val (.int p1), .val (.ref b0z), .val (.ref b22), .val (.ref b31), .val (.int (1 : Int32)), .val (.int (0 : Int32)), .val (.int (1 : Int32)), .val (.ref b0z), .unset, .unset, .unset, .unset, .unset] [(.ref b22)])) rfl (by rw [hml]; rfl) (Steps.refl _) (argsL := []) (rest := []) (lenOf pd4 rfl) rfl (by show 2 * 0 + _ ≤ _; exact Nat.le_of_eq rfl) (hb hby at_97) (fun _ _ => ⟨rfl, rfl, (by decide : 4 + 0 ≤ _), (by decide : 15 + 0 ≤ _)⟩)
      dsimp only [Pt.U, Pt.locs, Pt.cells, Pt.slots] at X97 l97 y97 z97 st97 hQ97
      subst l97 y97 z97
      obtain ⟨rfl, Nq97, K97, F_b22_picture_97, F_b22_given_97⟩ := hQ97
      have N97 := Fr.app N91 Nq97
      refine Dn.tr st97 ?_
      have V_b7_97 := V_b7_91.keep K97 (ninS ne_b7_b22 nin0)
      have E_b0z_97 := E_b0z_91.keep K97
      have F_b0z_width_97 := F_b0z_width_91.keep K97 (ninS ne_b0z_b22 nin0)
      have E_b22_97 := E_b22_91.keep K97
      have E_b31_97 := E_b31_91.keep K97
      have F_b31_picture_97 := F_b31_picture_91.keep K97 (ninS (Ne.symm ne_b22_b31) nin0)
      have F_b31_given_97 := F_b31_given_91.keep K97 (ninS (Ne.symm ne_b22_b31) nin0)
      have Z97 : n0 ≤ T97.heap.size := Nat.le_trans Z91 K97.1
      show Dn p e below s _ _ _ (T97.setTop (mkF m 100 #[.val (.int p0), .val (.int p1), .val (.ref b0z), .val (.ref b22), .val (.ref b31), .val (.int (1 : Int32)), .val (.int (0 : Int32)), .val (.int (1 : Int32)), .val (.ref b0z), .unset, .unset, .unset, .unset, .unset] [(.ref b0z)]))
      refine Dn.st (fun _ kk => XS.astore X97.here hx rfl (hb hby at_100) rfl rfl (l' := #[.val (.int p0), .val (.int p1), .val (.ref b0z), .val (.ref b22), .val (.ref b31), .val (.int (1 : Int32)), .val (.int (0 : Int32)), .val (.int (1 : Int32)), .val (.ref b0z), .val (.ref b0z), .unset, .unset, .unset, .unset]) rfl (XS.aloadN X97.here hx rfl (hb hby at_102) rfl rfl (kk))) ?_
      show Dn p e below s _ _ _ (T97.setTop (mkF m 103 #[.val (.int p0), .val (.int p1), .val (.ref b0z), .val (.ref b22), .val (.ref b31), .val (.int (1 : Int32)), .val (.int (0 : Int32)), .val (.int (1 : Int32)), .val (.ref b0z), .val (.ref b0z), .unset, .unset, .unset, .unset] [(.ref b22)]))
      obtain ⟨cq103, kq103, q103a, q103b, q103c⟩ := isOf hZ rfl E_b22_97
      obtain ⟨_, _, ⟨T103, L103, k103, n103⟩, -, X103, ⟨Lc103, hQ103, l103, y103, z103⟩, st103⟩ := X97.virtualBack hx (y := (⟨"com/example/honest_ruler/honestruler/input/StillFrame", "next", "()Lcom/example/honest_ruler/honestruler/image/LumaPlane;"⟩ : MethodName)) (z := (⟨"com/example/honest_ruler/honestruler/input/StillFrame", "next", "()Lcom/example/honest_ruler/honestruler/image/LumaPlane;"⟩ : MethodName)) hown (mvT hZ (hw _ (List.mem_of_getElem? (i := 52) rfl))) (mvT hZ (hw _ (List.mem_of_getElem? (i := 53) rfl))) (notFace_of_selects (args := #[]) (mvT hZ (hw _ (List.mem_of_getElem? (i := 55) rfl)))) (mvT hZ (hw _ (List.mem_of_getElem? (i := 55) rfl))) (mvT hZ (hw _ (List.mem_of_getElem? (i := 54) rfl))) (by decide) (backOf (W := 0) (rm7_1 l Z a0 hw [] b22 b0z T97.heap n0 Z97 gn_b22 E_b22_97 F_b22_picture_97 F_b22_given_97) hZ (hw _ (List.mem_of_getElem? (i := 56) rfl)) (hw _ (List.mem_of_getElem? (i := 35) rfl)) (by decide) (by decide)) q103a q103c (g := (mkF m 103 #[.val (.int p0), .val (.int p1), .val (.ref b0z), .val (.ref b22), .val (.ref b31), .val (.int (1 : Int32)), .val (.int (0 : Int32)), .val (.int (1 : Int32)), .val (.ref b0z), .val (.ref b0z), .unset, .unset, .unset, .unset] [(.ref b22)])) rfl (by rw [hml]; rfl) (Steps.refl _) (argsL := []) (rest := []) (lenOf pd4 rfl) rfl (by show 2 * 0 + _ ≤ _; exact Nat.le_of_eq rfl) (hb hby at_103) (fun _ _ => ⟨rfl, rfl, (by decide : 4 + 0 ≤ _), (by decide : 15 + 0 ≤ _)⟩)
      dsimp only [Pt.U, Pt.locs, Pt.cells, Pt.slots] at X103 l103 y103 z103 st103 hQ103
      subst l103 y103 z103
      obtain ⟨rfl, Nq103, hh103⟩ := hQ103
      have N103 := Fr.app N97 Nq103
      refine Dn.tr st103 ?_
      show Dn p e below s _ _ _ (T103.setTop (mkF m 106 #[.val (.int p0), .val (.int p1), .val (.ref b0z), .val (.ref b22), .val (.ref b31), .val (.int (1 : Int32)), .val (.int (0 : Int32)), .val (.int (1 : Int32)), .val (.ref b0z), .val (.ref b0z), .unset, .unset, .unset, .unset] [.null]))
      refine Dn.st (fun _ kk => XS.astore X103.here hx rfl (hb hby at_106) rfl rfl (l' := #[.val (.int p0), .val (.int p1), .val (.ref b0z), .val (.ref b22), .val (.ref b31), .val (.int (1 : Int32)), .val (.int (0 : Int32)), .val (.int (1 : Int32)), .val (.ref b0z), .val (.ref b0z), .val .null, .unset, .unset, .unset]) rfl (XS.aloadN X103.here hx rfl (hb hby at_108) rfl rfl (kk))) ?_
      show Dn p e below s _ _ _ (T103.setTop (mkF m 109 #[.val (.int p0), .val (.int p1), .val (.ref b0z), .val (.ref b22), .val (.ref b31), .val (.int (1 : Int32)), .val (.int (0 : Int32)), .val (.int (1 : Int32)), .val (.ref b0z), .val (.ref b0z), .val .null, .unset, .unset, .unset] [(.ref b22)]))
      obtain ⟨cq109, kq109, q109a, q109b, q109c⟩ := isOf hZ hh103 E_b22_97
      obtain ⟨_, _, ⟨T109, L109, k109, n109⟩, -, X109, ⟨Lc109, hQ109, l109, y109, z109⟩, st109⟩ := X103.virtualBack hx (y := (⟨"com/example/honest_ruler/honestruler/input/StillFrame", "next", "()Lcom/example/honest_ruler/honestruler/image/LumaPlane;"⟩ : MethodName)) (z := (⟨"com/example/honest_ruler/honestruler/input/StillFrame", "next", "()Lcom/example/honest_ruler/honestruler/image/LumaPlane;"⟩ : MethodName)) hown (mvT hZ (hw _ (List.mem_of_getElem? (i := 52) rfl))) (mvT hZ (hw _ (List.mem_of_getElem? (i := 53) rfl))) (notFace_of_selects (args := #[]) (mvT hZ (hw _ (List.mem_of_getElem? (i := 55) rfl)))) (mvT hZ (hw _ (List.mem_of_getElem? (i := 55) rfl))) (mvT hZ (hw _ (List.mem_of_getElem? (i := 54) rfl))) (by decide) (backOf (W := 0) (rm7_1 l Z a0 hw [] b22 b0z T97.heap n0 Z97 gn_b22 E_b22_97 F_b22_picture_97 F_b22_given_97) hZ (hw _ (List.mem_of_getElem? (i := 56) rfl)) (hw _ (List.mem_of_getElem? (i := 35) rfl)) (by decide) (by decide)) q109a q109c (g := (mkF m 109 #[.val (.int p0), .val (.int p1), .val (.ref b0z), .val (.ref b22), .val (.ref b31), .val (.int (1 : Int32)), .val (.int (0 : Int32)), .val (.int (1 : Int32)), .val (.ref b0z), .val (.ref b0z), .val .null, .unset, .unset, .unset] [(.ref b22)])) rfl (by rw [hml]; rfl) (Steps.refl _) (argsL := []) (rest := []) (lenOf pd4 rfl) rfl (by show 2 * 0 + _ ≤ _; exact Nat.le_of_eq rfl) (hb hby at_109) (fun _ _ => ⟨rfl, hh103, (by decide : 4 + 0 ≤ _), (by decide : 15 + 0 ≤ _)⟩)
      dsimp only [Pt.U, Pt.locs, Pt.cells, Pt.slots] at X109 l109 y109 z109 st109 hQ109
      subst l109 y109 z109
      obtain ⟨rfl, Nq109, hh109⟩ := hQ109
      have N109 := Fr.app N103 Nq109
      refine Dn.tr st109 ?_
      show Dn p e below s _ _ _ (T109.setTop (mkF m 112 #[.val (.int p0), .val (.int p1), .val (.ref b0z), .val (.ref b22), .val (.ref b31), .val (.int (1 : Int32)), .val (.int (0 : Int32)), .val (.int (1 : Int32)), .val (.ref b0z), .val (.ref b0z), .val .null, .unset, .unset, .unset] [.null]))
      refine Dn.st (fun _ kk => XS.astore X109.here hx rfl (hb hby at_112) rfl rfl (l' := #[.val (.int p0), .val (.int p1), .val (.ref b0z), .val (.ref b22), .val (.ref b31), .val (.int (1 : Int32)), .val (.int (0 : Int32)), .val (.int (1 : Int32)), .val (.ref b0z), .val (.ref b0z), .val .null, .val .null, .unset, .unset]) rfl (XS.iload X109.here hx rfl (hb hby at_114) rfl  (kk))) ?_
      show Dn p e below s _ _ _ (T109.setTop (mkF m 116 #[.val (.int p0), .val (.int p1), .val (.ref b0z), .val (.ref b22), .val (.ref b31), .val (.int (1 : Int32)), .val (.int (0 : Int32)), .val (.int (1 : Int32)), .val (.ref b0z), .val (.ref b0z), .val .null, .val .null, .unset, .unset] [(.int (1 : Int32))]))
      have hc116 : ¬ ((1 : Int32) = (0 : Int32)) := by decide
      refine Dn.st (fun _ kk => XS.ifYes X109.here hx rfl (pc0 := 116) (pc' := 126) rfl (hb hby at_116) rfl ((if0 _ _).trans (feq hc116).2) (by decide) (by decide) (XS.aload X109.here hx rfl (hb hby at_126) rfl rfl (kk))) ?_
      show Dn p e below s _ _ _ (T109.setTop (mkF m 128 #[.val (.int p0), .val (.int p1), .val (.ref b0z), .val (.ref b22), .val (.ref b31), .val (.int (1 : Int32)), .val (.int (0 : Int32)), .val (.int (1 : Int32)), .val (.ref b0z), .val (.ref b0z), .val .null, .val .null, .unset, .unset] [(.ref b31)]))
      obtain ⟨cq128, kq128, q128a, q128b, q128c⟩ := isOf hZ hh109 E_b31_97
      obtain ⟨_, _, ⟨T128, L128, k128, n128⟩, -, X128, ⟨Lc128, hQ128, l128, y128, z128⟩, st128⟩ := X109.virtualBack hx (y := (⟨"com/example/honest_ruler/honestruler/input/StillFrame", "next", "()Lcom/example/honest_ruler/honestruler/image/LumaPlane;"⟩ : MethodName)) (z := (⟨"com/example/honest_ruler/honestruler/input/StillFrame", "next", "()Lcom/example/honest_ruler/honestruler/image/LumaPlane;"⟩ : MethodName)) hown (mvT hZ (hw _ (List.mem_of_getElem? (i := 52) rfl))) (mvT hZ (hw _ (List.mem_of_getElem? (i := 53) rfl))) (notFace_of_selects (args := #[]) (mvT hZ (hw _ (List.mem_of_getElem? (i := 55) rfl)))) (mvT hZ (hw _ (List.mem_of_getElem? (i := 55) rfl))) (mvT hZ (hw _ (List.mem_of_getElem? (i := 54) rfl))) (by decide) (backOf (W := 0) (rm7_1 l Z a0 hw [] b31 b0z T97.heap n0 Z97 gn_b31 E_b31_97 F_b31_picture_97 F_b31_given_97) hZ (hw _ (List.mem_of_getElem? (i := 56) rfl)) (hw _ (List.mem_of_getElem? (i := 35) rfl)) (by decide) (by decide)) q128a q128c (g := (mkF m 128 #[.val (.int p0), .val (.int p1), .val (.ref b0z), .val (.ref b22), .val (.ref b31), .val (.int (1 : Int32)), .val (.int (0 : Int32)), .val (.int (1 : Int32)), .val (.ref b0z), .val (.ref b0z), .val .null, .val .null, .unset, .unset] [(.ref b31)])) rfl (by rw [hml]; rfl) (Steps.refl _) (argsL := []) (rest := []) (lenOf pd4 rfl) rfl (by show 2 * 0 + _ ≤ _; exact Nat.le_of_eq rfl) (hb hby at_128) (fun _ _ => ⟨rfl, hh109, (by decide : 4 + 0 ≤ _), (by decide : 15 + 0 ≤ _)⟩)
      dsimp only [Pt.U, Pt.locs, Pt.cells, Pt.slots] at X128 l128 y128 z128 st128 hQ128
      subst l128 y128 z128
      obtain ⟨rfl, Nq128, hh128⟩ := hQ128
      have N128 := Fr.app N109 Nq128
      refine Dn.tr st128 ?_
      show Dn p e below s _ _ _ (T128.setTop (mkF m 131 #[.val (.int p0), .val (.int p1), .val (.ref b0z), .val (.ref b22), .val (.ref b31), .val (.int (1 : Int32)), .val (.int (0 : Int32)), .val (.int (1 : Int32)), .val (.ref b0z), .val (.ref b0z), .val .null, .val .null, .unset, .unset] [.null]))
      refine Dn.st (fun _ kk => XS.astore X128.here hx rfl (hb hby at_131) rfl rfl (l' := #[.val (.int p0), .val (.int p1), .val (.ref b0z), .val (.ref b22), .val (.ref b31), .val (.int (1 : Int32)), .val (.int (0 : Int32)), .val (.int (1 : Int32)), .val (.ref b0z), .val (.ref b0z), .val .null, .val .null, .val .null, .unset]) rfl (XS.aloadN X128.here hx rfl (hb hby at_133) rfl rfl (kk))) ?_
      show Dn p e below s _ _ _ (T128.setTop (mkF m 134 #[.val (.int p0), .val (.int p1), .val (.ref b0z), .val (.ref b22), .val (.ref b31), .val (.int (1 : Int32)), .val (.int (0 : Int32)), .val (.int (1 : Int32)), .val (.ref b0z), .val (.ref b0z), .val .null, .val .null, .val .null, .unset] [(.ref b22)]))
      obtain ⟨cq134, kq134, q134a, q134b, q134c⟩ := isOf hZ hh128 E_b22_97
      obtain ⟨_, _, ⟨T134, L134, k134, n134⟩, -, X134, ⟨Lc134, hQ134, l134, y134, z134⟩, st134⟩ := X128.virtualBack hx (y := (⟨"com/example/honest_ruler/honestruler/input/StillFrame", "next", "()Lcom/example/honest_ruler/honestruler/image/LumaPlane;"⟩ : MethodName)) (z := (⟨"com/example/honest_ruler/honestruler/input/StillFrame", "next", "()Lcom/example/honest_ruler/honestruler/image/LumaPlane;"⟩ : MethodName)) hown (mvT hZ (hw _ (List.mem_of_getElem? (i := 52) rfl))) (mvT hZ (hw _ (List.mem_of_getElem? (i := 53) rfl))) (notFace_of_selects (args := #[]) (mvT hZ (hw _ (List.mem_of_getElem? (i := 55) rfl)))) (mvT hZ (hw _ (List.mem_of_getElem? (i := 55) rfl))) (mvT hZ (hw _ (List.mem_of_getElem? (i := 54) rfl))) (by decide) (backOf (W := 0) (rm7_1 l Z a0 hw [] b22 b0z T97.heap n0 Z97 gn_b22 E_b22_97 F_b22_picture_97 F_b22_given_97) hZ (hw _ (List.mem_of_getElem? (i := 56) rfl)) (hw _ (List.mem_of_getElem? (i := 35) rfl)) (by decide) (by decide)) q134a q134c (g := (mkF m 134 #[.val (.int p0), .val (.int p1), .val (.ref b0z), .val (.ref b22), .val (.ref b31), .val (.int (1 : Int32)), .val (.int (0 : Int32)), .val (.int (1 : Int32)), .val (.ref b0z), .val (.ref b0z), .val .null, .val .null, .val .null, .unset] [(.ref b22)])) rfl (by rw [hml]; rfl) (Steps.refl _) (argsL := []) (rest := []) (lenOf pd4 rfl) rfl (by show 2 * 0 + _ ≤ _; exact Nat.le_of_eq rfl) (hb hby at_134) (fun _ _ => ⟨rfl, hh128, (by decide : 4 + 0 ≤ _), (by decide : 15 + 0 ≤ _)⟩)
      dsimp only [Pt.U, Pt.locs, Pt.cells, Pt.slots] at X134 l134 y134 z134 st134 hQ134
      subst l134 y134 z134
      obtain ⟨rfl, Nq134, hh134⟩ := hQ134
      have N134 := Fr.app N128 Nq134
      refine Dn.tr st134 ?_
      show Dn p e below s _ _ _ (T134.setTop (mkF m 137 #[.val (.int p0), .val (.int p1), .val (.ref b0z), .val (.ref b22), .val (.ref b31), .val (.int (1 : Int32)), .val (.int (0 : Int32)), .val (.int (1 : Int32)), .val (.ref b0z), .val (.ref b0z), .val .null, .val .null, .val .null, .unset] [.null]))
      refine Dn.st (fun _ kk => XS.astore X134.here hx rfl (hb hby at_137) rfl rfl (l' := #[.val (.int p0), .val (.int p1), .val (.ref b0z), .val (.ref b22), .val (.ref b31), .val (.int (1 : Int32)), .val (.int (0 : Int32)), .val (.int (1 : Int32)), .val (.ref b0z), .val (.ref b0z), .val .null, .val .null, .val .null, .val .null]) rfl (XS.iload X134.here hx rfl (hb hby at_139) rfl  (XS.iconst X134.here hx rfl (hb hby at_141) (kk)))) ?_
      show Dn p e below s _ _ _ (T134.setTop (mkF m 142 #[.val (.int p0), .val (.int p1), .val (.ref b0z), .val (.ref b22), .val (.ref b31), .val (.int (1 : Int32)), .val (.int (0 : Int32)), .val (.int (1 : Int32)), .val (.ref b0z), .val (.ref b0z), .val .null, .val .null, .val .null, .val .null] [(.int (1 : Int32)), (.int (1 : Int32))]))
      have hc142 : (1 : Int32) = (1 : Int32) := by decide
      refine Dn.st (fun _ kk => XS.icmpNo X134.here hx rfl (hb hby at_142) rfl (teq hc142).2 (XS.aload X134.here hx rfl (hb hby at_145) rfl rfl (XS.aloadN X134.here hx rfl (hb hby at_147) rfl rfl (Jvm.RoadKit.acmp (g := (mkF m 148 #[.val (.int p0), .val (.int p1), .val (.ref b0z), .val (.ref b22), .val (.ref b31), .val (.int (1 : Int32)), .val (.int (0 : Int32)), .val (.int (1 : Int32)), .val (.ref b0z), .val (.ref b0z), .val .null, .val .null, .val .null, .val .null] [(.ref b0z), (.ref b0z)])) X134 hx rfl rfl rfl (pc0 := 148) (pc' := 151) (same := true) rfl (hb hby at_148) rfl (decide_eq_true rfl) (by decide) (by decide) (XS.aload X134.here hx rfl (hb hby at_151) rfl rfl (XS.ifnonnullNo X134.here hx rfl (hb hby at_153) rfl (kk))))))) ?_
      show Dn p e below s _ _ _ (T134.setTop (mkF m 156 #[.val (.int p0), .val (.int p1), .val (.ref b0z), .val (.ref b22), .val (.ref b31), .val (.int (1 : Int32)), .val (.int (0 : Int32)), .val (.int (1 : Int32)), .val (.ref b0z), .val (.ref b0z), .val .null, .val .null, .val .null, .val .null] []))
      refine Dn.st (fun _ kk => XS.aload X134.here hx rfl (hb hby at_156) rfl rfl (XS.ifnonnullNo X134.here hx rfl (hb hby at_158) rfl (XS.aload X134.here hx rfl (hb hby at_161) rfl rfl (XS.ifnonnullNo X134.here hx rfl (hb hby at_163) rfl (XS.aload X134.here hx rfl (hb hby at_166) rfl rfl (XS.aloadN X134.here hx rfl (hb hby at_168) rfl rfl (kk))))))) ?_
      show Dn p e below s _ _ _ (T134.setTop (mkF m 169 #[.val (.int p0), .val (.int p1), .val (.ref b0z), .val (.ref b22), .val (.ref b31), .val (.int (1 : Int32)), .val (.int (0 : Int32)), .val (.int (1 : Int32)), .val (.ref b0z), .val (.ref b0z), .val .null, .val .null, .val .null, .val .null] [(.ref b0z), (.ref b0z)]))
      refine Dn.st (fun _ kk => Jvm.RoadKit.acmp (g := (mkF m 169 #[.val (.int p0), .val (.int p1), .val (.ref b0z), .val (.ref b22), .val (.ref b31), .val (.int (1 : Int32)), .val (.int (0 : Int32)), .val (.int (1 : Int32)), .val (.ref b0z), .val (.ref b0z), .val .null, .val .null, .val .null, .val .null] [(.ref b0z), (.ref b0z)])) X134 hx rfl rfl rfl (pc0 := 169) (pc' := 172) (same := true) rfl (hb hby at_169) rfl (decide_eq_true rfl) (by decide) (by decide) (XS.aload X134.here hx rfl (hb hby at_172) rfl rfl (XS.ifnonnullNo X134.here hx rfl (hb hby at_174) rfl (XS.iconst X134.here hx rfl (hb hby at_177) (XS.goto X134.here hx rfl (pc0 := 178) (pc' := 182) rfl (hb hby at_178) (by decide) (by decide) (kk)))))) ?_
      show Dn p e below s _ _ _ (T134.setTop (mkF m 182 #[.val (.int p0), .val (.int p1), .val (.ref b0z), .val (.ref b22), .val (.ref b31), .val (.int (1 : Int32)), .val (.int (0 : Int32)), .val (.int (1 : Int32)), .val (.ref b0z), .val (.ref b0z), .val .null, .val .null, .val .null, .val .null] [(.int (1 : Int32))]))
      exact Dn.ret X134 hlk hx hret rfl (Or.inl ⟨rfl, Or.inr (Or.inl rfl), _, rfl⟩) (hb hby at_182) (by rw [hh134]; exact ⟨rfl, N134⟩) (by decide) (by decide)
    · refine Dn.st (fun _ kk => XS.ifNo X36.here hx rfl (hb hby at_57) rfl ((if0 _ _).trans (feq hc57).1) (XS.iconst X36.here hx rfl (hb hby at_60) (XS.goto X36.here hx rfl (pc0 := 61) (pc' := 65) rfl (hb hby at_61) (by decide) (by decide) (XS.istore X36.here hx rfl (hb hby at_65) rfl (l' := #[.val (.int p0), .val (.int p1), .val (.ref b0z), .val (.ref b22), .val (.ref b31), .val (.int (1 : Int32)), .val (.int (1 : Int32)), .unset, .unset, .unset, .unset, .unset, .unset, .unset]) rfl (XS.iconst X36.here hx rfl (hb hby at_67) (XS.istore X36.here hx rfl (hb hby at_68) rfl (l' := #[.val (.int p0), .val (.int p1), .val (.ref b0z), .val (.ref b22), .val (.ref b31), .val (.int (1 : Int32)), .val (.int (1 : Int32)), .val (.int (1 : Int32)), .unset, .unset, .unset, .unset, .unset, .unset]) rfl (kk))))))) ?_
      show Dn p e below s _ _ _ (T36.setTop (mkF m 70 #[.val (.int p0), .val (.int p1), .val (.ref b0z), .val (.ref b22), .val (.ref b31), .val (.int (1 : Int32)), .val (.int (1 : Int32)), .val (.int (1 : Int32)), .unset, .unset, .unset, .unset, .unset, .unset] []))
      refine Dn.st (fun _ kk => XS.iload X36.here hx rfl (hb hby at_70) rfl  (kk)) ?_
      show Dn p e below s _ _ _ (T36.setTop (mkF m 72 #[.val (.int p0), .val (.int p1), .val (.ref b0z), .val (.ref b22), .val (.ref b31), .val (.int (1 : Int32)), .val (.int (1 : Int32)), .val (.int (1 : Int32)), .unset, .unset, .unset, .unset, .unset, .unset] [(.int (1 : Int32))]))
      have hc72 : ¬ ((1 : Int32) = (0 : Int32)) := by decide
      refine Dn.st (fun _ kk => XS.ifNo X36.here hx rfl (hb hby at_72) rfl ((if0 _ _).trans (feq hc72).1) (XS.aloadN X36.here hx rfl (hb hby at_75) rfl rfl (kk))) ?_
      show Dn p e below s _ _ _ (T36.setTop (mkF m 76 #[.val (.int p0), .val (.int p1), .val (.ref b0z), .val (.ref b22), .val (.ref b31), .val (.int (1 : Int32)), .val (.int (1 : Int32)), .val (.int (1 : Int32)), .unset, .unset, .unset, .unset, .unset, .unset] [(.ref b22)]))
      obtain ⟨cq76, kq76, q76a, q76b, q76c⟩ := isOf hZ rfl E_b22_36
      obtain ⟨_, _, ⟨T76, L76, k76, n76⟩, -, X76, ⟨Lc76, hQ76, l76, y76, z76⟩, st76⟩ := X36.virtualBack hx (y := (⟨"com/example/honest_ruler/honestruler/input/StillFrame", "getWidth", "()I"⟩ : MethodName)) (z := (⟨"com/example/honest_ruler/honestruler/input/StillFrame", "getWidth", "()I"⟩ : MethodName)) hown (mvT hZ (hw _ (List.mem_of_getElem? (i := 42) rfl))) (mvT hZ (hw _ (List.mem_of_getElem? (i := 43) rfl))) (notFace_of_selects (args := #[]) (mvT hZ (hw _ (List.mem_of_getElem? (i := 45) rfl)))) (mvT hZ (hw _ (List.mem_of_getElem? (i := 45) rfl))) (mvT hZ (hw _ (List.mem_of_getElem? (i := 44) rfl))) (by decide) (backOf (W := 0) (rm5 l Z a0 hw [] b22 b0z T36.heap n0 Z36 F_b22_picture_36 E_b0z_36 F_b0z_width_36) hZ (hw _ (List.mem_of_getElem? (i := 46) rfl)) (hw _ (List.mem_of_getElem? (i := 35) rfl)) (by decide) (by decide)) q76a q76c (g := (mkF m 76 #[.val (.int p0), .val (.int p1), .val (.ref b0z), .val (.ref b22), .val (.ref b31), .val (.int (1 : Int32)), .val (.int (1 : Int32)), .val (.int (1 : Int32)), .unset, .unset, .unset, .unset, .unset, .unset] [(.ref b22)])) rfl (by rw [hml]; rfl) (Steps.refl _) (argsL := []) (rest := []) (lenOf pd1 rfl) rfl (by show 2 * 0 + _ ≤ _; exact Nat.le_of_eq rfl) (hb hby at_76) (fun _ _ => ⟨rfl, rfl, (by decide : 4 + 0 ≤ _), (by decide : 15 + 0 ≤ _)⟩)
      dsimp only [Pt.U, Pt.locs, Pt.cells, Pt.slots] at X76 l76 y76 z76 st76 hQ76
      subst l76 y76 z76
      obtain ⟨rfl, Nq76, hh76⟩ := hQ76
      have N76 := Fr.app N36 Nq76
      refine Dn.tr st76 ?_
      show Dn p e below s _ _ _ (T76.setTop (mkF m 79 #[.val (.int p0), .val (.int p1), .val (.ref b0z), .val (.ref b22), .val (.ref b31), .val (.int (1 : Int32)), .val (.int (1 : Int32)), .val (.int (1 : Int32)), .unset, .unset, .unset, .unset, .unset, .unset] [(.int (1 : Int32))]))
      refine Dn.st (fun _ kk => XS.istore X76.here hx rfl (hb hby at_79) rfl (l' := #[.val (.int p0), .val (.int p1), .val (.ref b0z), .val (.ref b22), .val (.ref b31), .val (.int (1 : Int32)), .val (.int (1 : Int32)), .val (.int (1 : Int32)), .unset, .unset, .unset, .unset, .unset, .unset]) rfl (XS.aconstNull X76.here hx rfl (hb hby at_81) (XS.astore X76.here hx rfl (hb hby at_82) rfl rfl (l' := #[.val (.int p0), .val (.int p1), .val (.ref b0z), .val (.ref b22), .val (.ref b31), .val (.int (1 : Int32)), .val (.int (1 : Int32)), .val (.int (1 : Int32)), .val .null, .unset, .unset, .unset, .unset, .unset]) rfl (XS.iload X76.here hx rfl (hb hby at_84) rfl  (kk))))) ?_
      show Dn p e below s _ _ _ (T76.setTop (mkF m 86 #[.val (.int p0), .val (.int p1), .val (.ref b0z), .val (.ref b22), .val (.ref b31), .val (.int (1 : Int32)), .val (.int (1 : Int32)), .val (.int (1 : Int32)), .val .null, .unset, .unset, .unset, .unset, .unset] [(.int (1 : Int32))]))
      have hc86 : ¬ ((1 : Int32) = (0 : Int32)) := by decide
      refine Dn.st (fun _ kk => XS.ifNo X76.here hx rfl (hb hby at_86) rfl ((if0 _ _).trans (feq hc86).1) (XS.aload X76.here hx rfl (hb hby at_89) rfl rfl (kk))) ?_
      show Dn p e below s _ _ _ (T76.setTop (mkF m 91 #[.val (.int p0), .val (.int p1), .val (.ref b0z), .val (.ref b22), .val (.ref b31), .val (.int (1 : Int32)), .val (.int (1 : Int32)), .val (.int (1 : Int32)), .val .null, .unset, .unset, .unset, .unset, .unset] [(.ref b31)]))
      obtain ⟨cq91, kq91, q91a, q91b, q91c⟩ := isOf hZ hh76 E_b31_36
      obtain ⟨_, _, ⟨T91, L91, k91, n91⟩, -, X91, ⟨Lc91, hQ91, l91, y91, z91⟩, st91⟩ := X76.virtualBack hx (y := (⟨"com/example/honest_ruler/honestruler/input/StillFrame", "next", "()Lcom/example/honest_ruler/honestruler/image/LumaPlane;"⟩ : MethodName)) (z := (⟨"com/example/honest_ruler/honestruler/input/StillFrame", "next", "()Lcom/example/honest_ruler/honestruler/image/LumaPlane;"⟩ : MethodName)) hown (mvT hZ (hw _ (List.mem_of_getElem? (i := 52) rfl))) (mvT hZ (hw _ (List.mem_of_getElem? (i := 53) rfl))) (notFace_of_selects (args := #[]) (mvT hZ (hw _ (List.mem_of_getElem? (i := 55) rfl)))) (mvT hZ (hw _ (List.mem_of_getElem? (i := 55) rfl))) (mvT hZ (hw _ (List.mem_of_getElem? (i := 54) rfl))) (by decide) (backOf (W := 0) (rm7_0 l Z a0 hw [] b31 b0z T36.heap n0 Z36 gn_b31 E_b31_36 F_b31_picture_36 F_b31_given_36) hZ (hw _ (List.mem_of_getElem? (i := 56) rfl)) (hw _ (List.mem_of_getElem? (i := 35) rfl)) (by decide) (by decide)) q91a q91c (g := (mkF m 91 #[.val (.int p0), .val (.int p1), .val (.ref b0z), .val (.ref b22), .val (.ref b31), .val (.int (1 : Int32)), .val (.int (1 : Int32)), .val (.int (1 : Int32)), .val .null, .unset, .unset, .unset, .unset, .unset] [(.ref b31)])) rfl (by rw [hml]; rfl) (Steps.refl _) (argsL := []) (rest := []) (lenOf pd4 rfl) rfl (by show 2 * 0 + _ ≤ _; exact Nat.le_of_eq rfl) (hb hby at_91) (fun _ _ => ⟨rfl, hh76, (by decide : 4 + 0 ≤ _), (by decide : 15 + 0 ≤ _)⟩)
      dsimp only [Pt.U, Pt.locs, Pt.cells, Pt.slots] at X91 l91 y91 z91 st91 hQ91
      subst l91 y91 z91
      obtain ⟨rfl, Nq91, K91, F_b31_picture_91, F_b31_given_91⟩ := hQ91
      have N91 := Fr.app N76 Nq91
      refine Dn.tr st91 ?_
      have V_b7_91 := V_b7_36.keep K91 (ninS ne_b7_b31 nin0)
      have E_b0z_91 := E_b0z_36.keep K91
      have F_b0z_width_91 := F_b0z_width_36.keep K91 (ninS ne_b0z_b31 nin0)
      have E_b22_91 := E_b22_36.keep K91
      have F_b22_picture_91 := F_b22_picture_36.keep K91 (ninS ne_b22_b31 nin0)
      have F_b22_given_91 := F_b22_given_36.keep K91 (ninS ne_b22_b31 nin0)
      have E_b31_91 := E_b31_36.keep K91
      have Z91 : n0 ≤ T91.heap.size := Nat.le_trans Z36 K91.1
      show Dn p e below s _ _ _ (T91.setTop (mkF m 94 #[.val (.int p0), .val (.int p1), .val (.ref b0z), .val (.ref b22), .val (.ref b31), .val (.int (1 : Int32)), .val (.int (1 : Int32)), .val (.int (1 : Int32)), .val .null, .unset, .unset, .unset, .unset, .unset] [(.ref b0z)]))
      refine Dn.st (fun _ kk => XS.astore X91.here hx rfl (hb hby at_94) rfl rfl (l' := #[.val (.int p0), .val (.int p1), .val (.ref b0z), .val (.ref b22), .val (.ref b31), .val (.int (1 : Int32)), .val (.int (1 : Int32)), .val (.int (1 : Int32)), .val (.ref b0z), .unset, .unset, .unset, .unset, .unset]) rfl (XS.aloadN X91.here hx rfl (hb hby at_96) rfl rfl (kk))) ?_
      show Dn p e below s _ _ _ (T91.setTop (mkF m 97 #[.val (.int p0), .val (.int p1), .val (.ref b0z), .val (.ref b22), .val (.ref b31), .val (.int (1 : Int32)), .val (.int (1 : Int32)), .val (.int (1 : Int32)), .val (.ref b0z), .unset, .unset, .unset, .unset, .unset] [(.ref b22)]))
      obtain ⟨cq97, kq97, q97a, q97b, q97c⟩ := isOf hZ rfl E_b22_91
      obtain ⟨_, _, ⟨T97, L97, k97, n97⟩, -, X97, ⟨Lc97, hQ97, l97, y97, z97⟩, st97⟩ := X91.virtualBack hx (y := (⟨"com/example/honest_ruler/honestruler/input/StillFrame", "next", "()Lcom/example/honest_ruler/honestruler/image/LumaPlane;"⟩ : MethodName)) (z := (⟨"com/example/honest_ruler/honestruler/input/StillFrame", "next", "()Lcom/example/honest_ruler/honestruler/image/LumaPlane;"⟩ : MethodName)) hown (mvT hZ (hw _ (List.mem_of_getElem? (i := 52) rfl))) (mvT hZ (hw _ (List.mem_of_getElem? (i := 53) rfl))) (notFace_of_selects (args := #[]) (mvT hZ (hw _ (List.mem_of_getElem? (i := 55) rfl)))) (mvT hZ (hw _ (List.mem_of_getElem? (i := 55) rfl))) (mvT hZ (hw _ (List.mem_of_getElem? (i := 54) rfl))) (by decide) (backOf (W := 0) (rm7_0 l Z a0 hw [] b22 b0z T91.heap n0 Z91 gn_b22 E_b22_91 F_b22_picture_91 F_b22_given_91) hZ (hw _ (List.mem_of_getElem? (i := 56) rfl)) (hw _ (List.mem_of_getElem? (i := 35) rfl)) (by decide) (by decide)) q97a q97c (g := (mkF m 97 #[.val (.int p0), .val (.int p1), .val (.ref b0z), .val (.ref b22), .val (.ref b31), .val (.int (1 : Int32)), .val (.int (1 : Int32)), .val (.int (1 : Int32)), .val (.ref b0z), .unset, .unset, .unset, .unset, .unset] [(.ref b22)])) rfl (by rw [hml]; rfl) (Steps.refl _) (argsL := []) (rest := []) (lenOf pd4 rfl) rfl (by show 2 * 0 + _ ≤ _; exact Nat.le_of_eq rfl) (hb hby at_97) (fun _ _ => ⟨rfl, rfl, (by decide : 4 + 0 ≤ _), (by decide : 15 + 0 ≤ _)⟩)
      dsimp only [Pt.U, Pt.locs, Pt.cells, Pt.slots] at X97 l97 y97 z97 st97 hQ97
      subst l97 y97 z97
      obtain ⟨rfl, Nq97, K97, F_b22_picture_97, F_b22_given_97⟩ := hQ97
      have N97 := Fr.app N91 Nq97
      refine Dn.tr st97 ?_
      have V_b7_97 := V_b7_91.keep K97 (ninS ne_b7_b22 nin0)
      have E_b0z_97 := E_b0z_91.keep K97
      have F_b0z_width_97 := F_b0z_width_91.keep K97 (ninS ne_b0z_b22 nin0)
      have E_b22_97 := E_b22_91.keep K97
      have E_b31_97 := E_b31_91.keep K97
      have F_b31_picture_97 := F_b31_picture_91.keep K97 (ninS (Ne.symm ne_b22_b31) nin0)
      have F_b31_given_97 := F_b31_given_91.keep K97 (ninS (Ne.symm ne_b22_b31) nin0)
      have Z97 : n0 ≤ T97.heap.size := Nat.le_trans Z91 K97.1
      show Dn p e below s _ _ _ (T97.setTop (mkF m 100 #[.val (.int p0), .val (.int p1), .val (.ref b0z), .val (.ref b22), .val (.ref b31), .val (.int (1 : Int32)), .val (.int (1 : Int32)), .val (.int (1 : Int32)), .val (.ref b0z), .unset, .unset, .unset, .unset, .unset] [(.ref b0z)]))
      refine Dn.st (fun _ kk => XS.astore X97.here hx rfl (hb hby at_100) rfl rfl (l' := #[.val (.int p0), .val (.int p1), .val (.ref b0z), .val (.ref b22), .val (.ref b31), .val (.int (1 : Int32)), .val (.int (1 : Int32)), .val (.int (1 : Int32)), .val (.ref b0z), .val (.ref b0z), .unset, .unset, .unset, .unset]) rfl (XS.aloadN X97.here hx rfl (hb hby at_102) rfl rfl (kk))) ?_
      show Dn p e below s _ _ _ (T97.setTop (mkF m 103 #[.val (.int p0), .val (.int p1), .val (.ref b0z), .val (.ref b22), .val (.ref b31), .val (.int (1 : Int32)), .val (.int (1 : Int32)), .val (.int (1 : Int32)), .val (.ref b0z), .val (.ref b0z), .unset, .unset, .unset, .unset] [(.ref b22)]))
      obtain ⟨cq103, kq103, q103a, q103b, q103c⟩ := isOf hZ rfl E_b22_97
      obtain ⟨_, _, ⟨T103, L103, k103, n103⟩, -, X103, ⟨Lc103, hQ103, l103, y103, z103⟩, st103⟩ := X97.virtualBack hx (y := (⟨"com/example/honest_ruler/honestruler/input/StillFrame", "next", "()Lcom/example/honest_ruler/honestruler/image/LumaPlane;"⟩ : MethodName)) (z := (⟨"com/example/honest_ruler/honestruler/input/StillFrame", "next", "()Lcom/example/honest_ruler/honestruler/image/LumaPlane;"⟩ : MethodName)) hown (mvT hZ (hw _ (List.mem_of_getElem? (i := 52) rfl))) (mvT hZ (hw _ (List.mem_of_getElem? (i := 53) rfl))) (notFace_of_selects (args := #[]) (mvT hZ (hw _ (List.mem_of_getElem? (i := 55) rfl)))) (mvT hZ (hw _ (List.mem_of_getElem? (i := 55) rfl))) (mvT hZ (hw _ (List.mem_of_getElem? (i := 54) rfl))) (by decide) (backOf (W := 0) (rm7_1 l Z a0 hw [] b22 b0z T97.heap n0 Z97 gn_b22 E_b22_97 F_b22_picture_97 F_b22_given_97) hZ (hw _ (List.mem_of_getElem? (i := 56) rfl)) (hw _ (List.mem_of_getElem? (i := 35) rfl)) (by decide) (by decide)) q103a q103c (g := (mkF m 103 #[.val (.int p0), .val (.int p1), .val (.ref b0z), .val (.ref b22), .val (.ref b31), .val (.int (1 : Int32)), .val (.int (1 : Int32)), .val (.int (1 : Int32)), .val (.ref b0z), .val (.ref b0z), .unset, .unset, .unset, .unset] [(.ref b22)])) rfl (by rw [hml]; rfl) (Steps.refl _) (argsL := []) (rest := []) (lenOf pd4 rfl) rfl (by show 2 * 0 + _ ≤ _; exact Nat.le_of_eq rfl) (hb hby at_103) (fun _ _ => ⟨rfl, rfl, (by decide : 4 + 0 ≤ _), (by decide : 15 + 0 ≤ _)⟩)
      dsimp only [Pt.U, Pt.locs, Pt.cells, Pt.slots] at X103 l103 y103 z103 st103 hQ103
      subst l103 y103 z103
      obtain ⟨rfl, Nq103, hh103⟩ := hQ103
      have N103 := Fr.app N97 Nq103
      refine Dn.tr st103 ?_
      show Dn p e below s _ _ _ (T103.setTop (mkF m 106 #[.val (.int p0), .val (.int p1), .val (.ref b0z), .val (.ref b22), .val (.ref b31), .val (.int (1 : Int32)), .val (.int (1 : Int32)), .val (.int (1 : Int32)), .val (.ref b0z), .val (.ref b0z), .unset, .unset, .unset, .unset] [.null]))
      refine Dn.st (fun _ kk => XS.astore X103.here hx rfl (hb hby at_106) rfl rfl (l' := #[.val (.int p0), .val (.int p1), .val (.ref b0z), .val (.ref b22), .val (.ref b31), .val (.int (1 : Int32)), .val (.int (1 : Int32)), .val (.int (1 : Int32)), .val (.ref b0z), .val (.ref b0z), .val .null, .unset, .unset, .unset]) rfl (XS.aloadN X103.here hx rfl (hb hby at_108) rfl rfl (kk))) ?_
      show Dn p e below s _ _ _ (T103.setTop (mkF m 109 #[.val (.int p0), .val (.int p1), .val (.ref b0z), .val (.ref b22), .val (.ref b31), .val (.int (1 : Int32)), .val (.int (1 : Int32)), .val (.int (1 : Int32)), .val (.ref b0z), .val (.ref b0z), .val .null, .unset, .unset, .unset] [(.ref b22)]))
      obtain ⟨cq109, kq109, q109a, q109b, q109c⟩ := isOf hZ hh103 E_b22_97
      obtain ⟨_, _, ⟨T109, L109, k109, n109⟩, -, X109, ⟨Lc109, hQ109, l109, y109, z109⟩, st109⟩ := X103.virtualBack hx (y := (⟨"com/example/honest_ruler/honestruler/input/StillFrame", "next", "()Lcom/example/honest_ruler/honestruler/image/LumaPlane;"⟩ : MethodName)) (z := (⟨"com/example/honest_ruler/honestruler/input/StillFrame", "next", "()Lcom/example/honest_ruler/honestruler/image/LumaPlane;"⟩ : MethodName)) hown (mvT hZ (hw _ (List.mem_of_getElem? (i := 52) rfl))) (mvT hZ (hw _ (List.mem_of_getElem? (i := 53) rfl))) (notFace_of_selects (args := #[]) (mvT hZ (hw _ (List.mem_of_getElem? (i := 55) rfl)))) (mvT hZ (hw _ (List.mem_of_getElem? (i := 55) rfl))) (mvT hZ (hw _ (List.mem_of_getElem? (i := 54) rfl))) (by decide) (backOf (W := 0) (rm7_1 l Z a0 hw [] b22 b0z T97.heap n0 Z97 gn_b22 E_b22_97 F_b22_picture_97 F_b22_given_97) hZ (hw _ (List.mem_of_getElem? (i := 56) rfl)) (hw _ (List.mem_of_getElem? (i := 35) rfl)) (by decide) (by decide)) q109a q109c (g := (mkF m 109 #[.val (.int p0), .val (.int p1), .val (.ref b0z), .val (.ref b22), .val (.ref b31), .val (.int (1 : Int32)), .val (.int (1 : Int32)), .val (.int (1 : Int32)), .val (.ref b0z), .val (.ref b0z), .val .null, .unset, .unset, .unset] [(.ref b22)])) rfl (by rw [hml]; rfl) (Steps.refl _) (argsL := []) (rest := []) (lenOf pd4 rfl) rfl (by show 2 * 0 + _ ≤ _; exact Nat.le_of_eq rfl) (hb hby at_109) (fun _ _ => ⟨rfl, hh103, (by decide : 4 + 0 ≤ _), (by decide : 15 + 0 ≤ _)⟩)
      dsimp only [Pt.U, Pt.locs, Pt.cells, Pt.slots] at X109 l109 y109 z109 st109 hQ109
      subst l109 y109 z109
      obtain ⟨rfl, Nq109, hh109⟩ := hQ109
      have N109 := Fr.app N103 Nq109
      refine Dn.tr st109 ?_
      show Dn p e below s _ _ _ (T109.setTop (mkF m 112 #[.val (.int p0), .val (.int p1), .val (.ref b0z), .val (.ref b22), .val (.ref b31), .val (.int (1 : Int32)), .val (.int (1 : Int32)), .val (.int (1 : Int32)), .val (.ref b0z), .val (.ref b0z), .val .null, .unset, .unset, .unset] [.null]))
      refine Dn.st (fun _ kk => XS.astore X109.here hx rfl (hb hby at_112) rfl rfl (l' := #[.val (.int p0), .val (.int p1), .val (.ref b0z), .val (.ref b22), .val (.ref b31), .val (.int (1 : Int32)), .val (.int (1 : Int32)), .val (.int (1 : Int32)), .val (.ref b0z), .val (.ref b0z), .val .null, .val .null, .unset, .unset]) rfl (XS.iload X109.here hx rfl (hb hby at_114) rfl  (kk))) ?_
      show Dn p e below s _ _ _ (T109.setTop (mkF m 116 #[.val (.int p0), .val (.int p1), .val (.ref b0z), .val (.ref b22), .val (.ref b31), .val (.int (1 : Int32)), .val (.int (1 : Int32)), .val (.int (1 : Int32)), .val (.ref b0z), .val (.ref b0z), .val .null, .val .null, .unset, .unset] [(.int (1 : Int32))]))
      have hc116 : ¬ ((1 : Int32) = (0 : Int32)) := by decide
      refine Dn.st (fun _ kk => XS.ifYes X109.here hx rfl (pc0 := 116) (pc' := 126) rfl (hb hby at_116) rfl ((if0 _ _).trans (feq hc116).2) (by decide) (by decide) (XS.aload X109.here hx rfl (hb hby at_126) rfl rfl (kk))) ?_
      show Dn p e below s _ _ _ (T109.setTop (mkF m 128 #[.val (.int p0), .val (.int p1), .val (.ref b0z), .val (.ref b22), .val (.ref b31), .val (.int (1 : Int32)), .val (.int (1 : Int32)), .val (.int (1 : Int32)), .val (.ref b0z), .val (.ref b0z), .val .null, .val .null, .unset, .unset] [(.ref b31)]))
      obtain ⟨cq128, kq128, q128a, q128b, q128c⟩ := isOf hZ hh109 E_b31_97
      obtain ⟨_, _, ⟨T128, L128, k128, n128⟩, -, X128, ⟨Lc128, hQ128, l128, y128, z128⟩, st128⟩ := X109.virtualBack hx (y := (⟨"com/example/honest_ruler/honestruler/input/StillFrame", "next", "()Lcom/example/honest_ruler/honestruler/image/LumaPlane;"⟩ : MethodName)) (z := (⟨"com/example/honest_ruler/honestruler/input/StillFrame", "next", "()Lcom/example/honest_ruler/honestruler/image/LumaPlane;"⟩ : MethodName)) hown (mvT hZ (hw _ (List.mem_of_getElem? (i := 52) rfl))) (mvT hZ (hw _ (List.mem_of_getElem? (i := 53) rfl))) (notFace_of_selects (args := #[]) (mvT hZ (hw _ (List.mem_of_getElem? (i := 55) rfl)))) (mvT hZ (hw _ (List.mem_of_getElem? (i := 55) rfl))) (mvT hZ (hw _ (List.mem_of_getElem? (i := 54) rfl))) (by decide) (backOf (W := 0) (rm7_1 l Z a0 hw [] b31 b0z T97.heap n0 Z97 gn_b31 E_b31_97 F_b31_picture_97 F_b31_given_97) hZ (hw _ (List.mem_of_getElem? (i := 56) rfl)) (hw _ (List.mem_of_getElem? (i := 35) rfl)) (by decide) (by decide)) q128a q128c (g := (mkF m 128 #[.val (.int p0), .val (.int p1), .val (.ref b0z), .val (.ref b22), .val (.ref b31), .val (.int (1 : Int32)), .val (.int (1 : Int32)), .val (.int (1 : Int32)), .val (.ref b0z), .val (.ref b0z), .val .null, .val .null, .unset, .unset] [(.ref b31)])) rfl (by rw [hml]; rfl) (Steps.refl _) (argsL := []) (rest := []) (lenOf pd4 rfl) rfl (by show 2 * 0 + _ ≤ _; exact Nat.le_of_eq rfl) (hb hby at_128) (fun _ _ => ⟨rfl, hh109, (by decide : 4 + 0 ≤ _), (by decide : 15 + 0 ≤ _)⟩)
      dsimp only [Pt.U, Pt.locs, Pt.cells, Pt.slots] at X128 l128 y128 z128 st128 hQ128
      subst l128 y128 z128
      obtain ⟨rfl, Nq128, hh128⟩ := hQ128
      have N128 := Fr.app N109 Nq128
      refine Dn.tr st128 ?_
      show Dn p e below s _ _ _ (T128.setTop (mkF m 131 #[.val (.int p0), .val (.int p1), .val (.ref b0z), .val (.ref b22), .val (.ref b31), .val (.int (1 : Int32)), .val (.int (1 : Int32)), .val (.int (1 : Int32)), .val (.ref b0z), .val (.ref b0z), .val .null, .val .null, .unset, .unset] [.null]))
      refine Dn.st (fun _ kk => XS.astore X128.here hx rfl (hb hby at_131) rfl rfl (l' := #[.val (.int p0), .val (.int p1), .val (.ref b0z), .val (.ref b22), .val (.ref b31), .val (.int (1 : Int32)), .val (.int (1 : Int32)), .val (.int (1 : Int32)), .val (.ref b0z), .val (.ref b0z), .val .null, .val .null, .val .null, .unset]) rfl (XS.aloadN X128.here hx rfl (hb hby at_133) rfl rfl (kk))) ?_
      show Dn p e below s _ _ _ (T128.setTop (mkF m 134 #[.val (.int p0), .val (.int p1), .val (.ref b0z), .val (.ref b22), .val (.ref b31), .val (.int (1 : Int32)), .val (.int (1 : Int32)), .val (.int (1 : Int32)), .val (.ref b0z), .val (.ref b0z), .val .null, .val .null, .val .null, .unset] [(.ref b22)]))
      obtain ⟨cq134, kq134, q134a, q134b, q134c⟩ := isOf hZ hh128 E_b22_97
      obtain ⟨_, _, ⟨T134, L134, k134, n134⟩, -, X134, ⟨Lc134, hQ134, l134, y134, z134⟩, st134⟩ := X128.virtualBack hx (y := (⟨"com/example/honest_ruler/honestruler/input/StillFrame", "next", "()Lcom/example/honest_ruler/honestruler/image/LumaPlane;"⟩ : MethodName)) (z := (⟨"com/example/honest_ruler/honestruler/input/StillFrame", "next", "()Lcom/example/honest_ruler/honestruler/image/LumaPlane;"⟩ : MethodName)) hown (mvT hZ (hw _ (List.mem_of_getElem? (i := 52) rfl))) (mvT hZ (hw _ (List.mem_of_getElem? (i := 53) rfl))) (notFace_of_selects (args := #[]) (mvT hZ (hw _ (List.mem_of_getElem? (i := 55) rfl)))) (mvT hZ (hw _ (List.mem_of_getElem? (i := 55) rfl))) (mvT hZ (hw _ (List.mem_of_getElem? (i := 54) rfl))) (by decide) (backOf (W := 0) (rm7_1 l Z a0 hw [] b22 b0z T97.heap n0 Z97 gn_b22 E_b22_97 F_b22_picture_97 F_b22_given_97) hZ (hw _ (List.mem_of_getElem? (i := 56) rfl)) (hw _ (List.mem_of_getElem? (i := 35) rfl)) (by decide) (by decide)) q134a q134c (g := (mkF m 134 #[.val (.int p0), .val (.int p1), .val (.ref b0z), .val (.ref b22), .val (.ref b31), .val (.int (1 : Int32)), .val (.int (1 : Int32)), .val (.int (1 : Int32)), .val (.ref b0z), .val (.ref b0z), .val .null, .val .null, .val .null, .unset] [(.ref b22)])) rfl (by rw [hml]; rfl) (Steps.refl _) (argsL := []) (rest := []) (lenOf pd4 rfl) rfl (by show 2 * 0 + _ ≤ _; exact Nat.le_of_eq rfl) (hb hby at_134) (fun _ _ => ⟨rfl, hh128, (by decide : 4 + 0 ≤ _), (by decide : 15 + 0 ≤ _)⟩)
      dsimp only [Pt.U, Pt.locs, Pt.cells, Pt.slots] at X134 l134 y134 z134 st134 hQ134
      subst l134 y134 z134
      obtain ⟨rfl, Nq134, hh134⟩ := hQ134
      have N134 := Fr.app N128 Nq134
      refine Dn.tr st134 ?_
      show Dn p e below s _ _ _ (T134.setTop (mkF m 137 #[.val (.int p0), .val (.int p1), .val (.ref b0z), .val (.ref b22), .val (.ref b31), .val (.int (1 : Int32)), .val (.int (1 : Int32)), .val (.int (1 : Int32)), .val (.ref b0z), .val (.ref b0z), .val .null, .val .null, .val .null, .unset] [.null]))
      refine Dn.st (fun _ kk => XS.astore X134.here hx rfl (hb hby at_137) rfl rfl (l' := #[.val (.int p0), .val (.int p1), .val (.ref b0z), .val (.ref b22), .val (.ref b31), .val (.int (1 : Int32)), .val (.int (1 : Int32)), .val (.int (1 : Int32)), .val (.ref b0z), .val (.ref b0z), .val .null, .val .null, .val .null, .val .null]) rfl (XS.iload X134.here hx rfl (hb hby at_139) rfl  (XS.iconst X134.here hx rfl (hb hby at_141) (kk)))) ?_
      show Dn p e below s _ _ _ (T134.setTop (mkF m 142 #[.val (.int p0), .val (.int p1), .val (.ref b0z), .val (.ref b22), .val (.ref b31), .val (.int (1 : Int32)), .val (.int (1 : Int32)), .val (.int (1 : Int32)), .val (.ref b0z), .val (.ref b0z), .val .null, .val .null, .val .null, .val .null] [(.int (1 : Int32)), (.int (1 : Int32))]))
      have hc142 : (1 : Int32) = (1 : Int32) := by decide
      refine Dn.st (fun _ kk => XS.icmpNo X134.here hx rfl (hb hby at_142) rfl (teq hc142).2 (XS.aload X134.here hx rfl (hb hby at_145) rfl rfl (XS.aloadN X134.here hx rfl (hb hby at_147) rfl rfl (Jvm.RoadKit.acmp (g := (mkF m 148 #[.val (.int p0), .val (.int p1), .val (.ref b0z), .val (.ref b22), .val (.ref b31), .val (.int (1 : Int32)), .val (.int (1 : Int32)), .val (.int (1 : Int32)), .val (.ref b0z), .val (.ref b0z), .val .null, .val .null, .val .null, .val .null] [(.ref b0z), (.ref b0z)])) X134 hx rfl rfl rfl (pc0 := 148) (pc' := 151) (same := true) rfl (hb hby at_148) rfl (decide_eq_true rfl) (by decide) (by decide) (XS.aload X134.here hx rfl (hb hby at_151) rfl rfl (XS.ifnonnullNo X134.here hx rfl (hb hby at_153) rfl (kk))))))) ?_
      show Dn p e below s _ _ _ (T134.setTop (mkF m 156 #[.val (.int p0), .val (.int p1), .val (.ref b0z), .val (.ref b22), .val (.ref b31), .val (.int (1 : Int32)), .val (.int (1 : Int32)), .val (.int (1 : Int32)), .val (.ref b0z), .val (.ref b0z), .val .null, .val .null, .val .null, .val .null] []))
      refine Dn.st (fun _ kk => XS.aload X134.here hx rfl (hb hby at_156) rfl rfl (XS.ifnonnullNo X134.here hx rfl (hb hby at_158) rfl (XS.aload X134.here hx rfl (hb hby at_161) rfl rfl (XS.ifnonnullNo X134.here hx rfl (hb hby at_163) rfl (XS.aload X134.here hx rfl (hb hby at_166) rfl rfl (XS.aloadN X134.here hx rfl (hb hby at_168) rfl rfl (kk))))))) ?_
      show Dn p e below s _ _ _ (T134.setTop (mkF m 169 #[.val (.int p0), .val (.int p1), .val (.ref b0z), .val (.ref b22), .val (.ref b31), .val (.int (1 : Int32)), .val (.int (1 : Int32)), .val (.int (1 : Int32)), .val (.ref b0z), .val (.ref b0z), .val .null, .val .null, .val .null, .val .null] [(.ref b0z), (.ref b0z)]))
      refine Dn.st (fun _ kk => Jvm.RoadKit.acmp (g := (mkF m 169 #[.val (.int p0), .val (.int p1), .val (.ref b0z), .val (.ref b22), .val (.ref b31), .val (.int (1 : Int32)), .val (.int (1 : Int32)), .val (.int (1 : Int32)), .val (.ref b0z), .val (.ref b0z), .val .null, .val .null, .val .null, .val .null] [(.ref b0z), (.ref b0z)])) X134 hx rfl rfl rfl (pc0 := 169) (pc' := 172) (same := true) rfl (hb hby at_169) rfl (decide_eq_true rfl) (by decide) (by decide) (XS.aload X134.here hx rfl (hb hby at_172) rfl rfl (XS.ifnonnullNo X134.here hx rfl (hb hby at_174) rfl (XS.iconst X134.here hx rfl (hb hby at_177) (XS.goto X134.here hx rfl (pc0 := 178) (pc' := 182) rfl (hb hby at_178) (by decide) (by decide) (kk)))))) ?_
      show Dn p e below s _ _ _ (T134.setTop (mkF m 182 #[.val (.int p0), .val (.int p1), .val (.ref b0z), .val (.ref b22), .val (.ref b31), .val (.int (1 : Int32)), .val (.int (1 : Int32)), .val (.int (1 : Int32)), .val (.ref b0z), .val (.ref b0z), .val .null, .val .null, .val .null, .val .null] [(.int (1 : Int32))]))
      exact Dn.ret X134 hlk hx hret rfl (Or.inl ⟨rfl, Or.inr (Or.inl rfl), _, rfl⟩) (hb hby at_182) (by rw [hh134]; exact ⟨rfl, N134⟩) (by decide) (by decide)

set_option maxRecDepth 65536 in
set_option maxHeartbeats 40000000 in
theorem comes_1 {Post : Tables → Env → Array Value → State → Outcome → State → Prop} (hpost : ∀ tb e args s v u, (limb_1_1.after args s (.returned v) u = true ∧ limb_1_2.after args s (.returned v) u = true ∧ True) → FrameEnd s (.returned v) u (Jvm.fieldLocs frame_1_writes args s ++ Jvm.arrayLocs frame_1_arrays args s ++ Jvm.staticLocs frame_1_statics s) 16 128 → Post tb e args s (.returned v) u) :
    ArmFor flags0 classFile x code maxLocals ret World_1 tables_1 room_1 Calls_1 rest_1 Pre_1 Post := by
  intro l hfl _ _ p e ha hc hk s m args below hf hA hF happ hP
  obtain ⟨hcalls, hrest, hpre⟩ := hP
  obtain ⟨-, -, -, hnamed, -, -, -, hat⟩ := (Spec.applies_iff hf).mp happ
  obtain ⟨hg, hn⟩ := and_e (Cond.before_iff.mp (show (Jvm.Cond.and given_1 narrow_1).before args s = true from hpre))
  obtain ⟨g1a, g1b⟩ := and_e hg
  obtain ⟨g2a, g2b⟩ := and_e g1b
  obtain ⟨w0, w1, rfl⟩ : ∃ w0 w1 : Value, args = #[w0, w1] := by
    have hs : args.size = 2 := by simpa [Cond.value, given_1] using g1a
    obtain ⟨L⟩ := args
    match L, hs with
    | [w0, w1], _ => exact ⟨w0, w1, rfl⟩
  have hw := fun d (hd : d ∈ tables_1) => atoms_spec (ws := Jvm.Cond.code x code maxLocals ret :: tables_1) hat d (List.mem_cons_of_mem _ hd)
  have hfit : Fit s := fun {y c} hc i hi => by
    obtain ⟨ha, rfl⟩ := Array.getElem?_eq_some_iff.mp hc
    have q := List.all_eq_true.mp ((Array.all_eq_true_iff_forall_mem.mp hF) _ (Array.getElem_mem ha)) i (List.mem_range.mpr hi)
    simpa [Array.getElem?_eq_getElem hi] using q
  obtain ⟨i0, ei0⟩ := is_v g2a
  obtain rfl : w0 = (.int i0) := Option.some.inj ei0
  obtain ⟨i1, ei1⟩ := is_v g2b
  obtain rfl : w1 = (.int i1) := Option.some.inj ei1
  obtain ⟨n, o, h1, h2, h3, _, L, rfl, ⟨rfl, N⟩, hq⟩ := rm0 l s _ hw tables_1 i0 i1  s.heap s.heap.size (Nat.le_refl _)  p e ha hc hk s m _ below hf ((Spec.applies_iff_loose hf).mp happ).1 ⟨rfl, State.Warmed39.refl s, rfl⟩ trivial
  refine ⟨n, _, h1, h2, h3, hpost _ _ _ _ _ _ ⟨Cond.after_iff.mpr rfl, Cond.after_iff.mpr (eq_i res_at (Term.int_eval (1)) rfl), trivial⟩ ⟨hq.1, hq.2.1, (hq.2.2.sift fun y hy => Or.inr (N y hy)).mono (by decide) (by decide)⟩⟩
theorem main_1_1 : Claimed_1_1 := comes_1 fun _ _ _ _ _ _ h hF => ⟨h.1, hF⟩
theorem main_1_2 : Claimed_1_2 := comes_1 fun _ _ _ _ _ _ h hF => ⟨h.2.1, hF⟩
end Jvm.Pilot.@@N@@
namespace Jvm.Pilot.@@N@@
open Jvm Jvm.ClassFile Sem Op Lib Jvm.Free Jvm.Stand Jvm.Pilot.@@N@@.Jvm.D
/-! MADE BY PROGRAM (witnessworld.py) out of the Statement's table words and the real class files: 15 classes; the members and pool entries that the words name. The judged class is class 1, her method 1. -/
namespace start1
open Jvm.ClassFile
def u (s : String) : CpInfo := .utf8 (stringToUtf16 s)
/-- a pool by its gaps: so many unusable entries, then the entry; so many at the end -/
def gap : Nat → List CpInfo → List CpInfo
  | 0, r => r
  | n + 1, r => .unusable :: gap n r
def poolList (es : List (Nat × CpInfo)) (last : Nat) : List CpInfo := es.foldr (fun e r => gap e.1 (e.2 :: r)) (gap last [])
def pool (es : List (Nat × CpInfo)) (last : Nat) : Array CpInfo := ⟨poolList es last⟩
def fileOf (pool : Array CpInfo) (this : Nat) (attrs : Array Attribute := #[]) (ms : Array MethodInfo := #[]) (fl : Nat := 33) (sup : Nat := 0) (ifs : Array Nat := #[]) (fds : Array FieldInfo := #[]) : ClassFile where
  minorVersion := 0
  majorVersion := 65
  constantPool := pool
  accessFlags := fl
  thisClass := this
  superClass := sup
  interfaces := ifs
  fields := fds
  methods := ms
  attributes := attrs
def plain (name : String) (sup : Option ClassId) : Class where
  name := name
  kind := .ordinary
  loader := none
  accessFlags := 33
  super := sup
  interfaces := #[]
  cf := none
  fields := #[]
  methods := #[]
  instanceTypes := #[]
  staticTypes := #[]
  resolved := #[]
  callSites := []
  init := .initialized
  statics := none
  mirror := none

def pool0 : Array CpInfo := pool [(5, u "<init>"), (0, u "()V"), (1, .class_ 10), (1, u "java/lang/Object")] 113

def k0c0 : Code := { maxStack := 0, maxLocals := 1, code := object_method_1_code, exceptionTable := #[], attributes := #[] }
def k0m0 : Method := { name := "<init>", desc := "()V", sig := { parameters := [], returnType := none }, accessFlags := 1, code := some k0c0 }
/-- java/lang/Object -/
def k0 : Class := { plain "java/lang/Object" none with
  accessFlags := 33
  interfaces := #[]
  cf := some (fileOf pool0 8 #[] #[{ accessFlags := 1, nameIndex := 5, descriptorIndex := 6, attributes := #[] }] 33 0 #[] #[])
  fields := #[]
  methods := #[k0m0]
  instanceTypes := #[]
  staticTypes := #[]
  resolved := Array.replicate 124 none
  statics := none }

def pool1 : Array CpInfo := pool [(2, .class_ 4), (1, u "java/lang/Object"), (0, u "<init>"), (0, u "()V"), (0, .class_ 8), (0, u "com/example/honest_ruler/honestruler/image/LumaPlane"), (0, .methodref 7 10), (0, .nameAndType 5 11), (0, u "(II[D)V"), (0, .class_ 13), (0, u "com/example/honest_ruler/honestruler/input/StillFrame"), (0, .methodref 12 15), (0, .nameAndType 5 16), (0, u "(Lcom/example/honest_ruler/honestruler/image/LumaPlane;)V"), (0, .methodref 12 18), (0, .nameAndType 19 20), (0, u "getWidth"), (0, u "()I"), (0, .methodref 12 22), (0, .nameAndType 23 24), (0, u "next"), (0, u "()Lcom/example/honest_ruler/honestruler/image/LumaPlane;"), (0, .class_ 26), (0, u "com/example/honest_ruler/honestruler/input/StillFrameNextPinLaw"), (2, u "law"), (0, u "(II)Z")] 3

def k1m0 : Method := { name := "<init>", desc := "()V", sig := { parameters := [], returnType := none }, accessFlags := 2, code := none }
def k1c1 : Code := { maxStack := 9, maxLocals := 14, code := code, exceptionTable := #[], attributes := #[] }
def k1m1 : Method := { name := "law", desc := "(II)Z", sig := { parameters := [.int, .int], returnType := some .boolean }, accessFlags := 9, code := some k1c1 }
/-- com/example/honest_ruler/honestruler/input/StillFrameNextPinLaw -/
def k1 : Class := { plain "com/example/honest_ruler/honestruler/input/StillFrameNextPinLaw" (some 0) with
  accessFlags := 49
  interfaces := #[]
  cf := some (fileOf pool1 25 #[] #[{ accessFlags := 2, nameIndex := 5, descriptorIndex := 6, attributes := #[] }, { accessFlags := 9, nameIndex := 29, descriptorIndex := 30, attributes := #[] }] 49 2 #[] #[])
  fields := #[]
  methods := #[k1m0, k1m1]
  instanceTypes := #[]
  staticTypes := #[]
  resolved := Array.replicate 34 none
  statics := none }

def pool2 : Array CpInfo := pool [(1, .methodref 2 3), (0, .class_ 4), (0, .nameAndType 5 6), (0, u "com/example/honest_ruler/honestruler/image/LumaPlane"), (0, u "<init>"), (0, u "(IIJ[DLjava/nio/ByteBuffer;ILcom/example/honest_ruler/honestruler/image/ReadOnlyFile;J)V"), (12, u "()I"), (10, u "()V"), (0, .methodref 32 33), (0, .class_ 34), (0, .nameAndType 5 30), (0, u "java/lang/Object"), (21, .fieldref 2 57), (0, .nameAndType 58 59), (0, u "width"), (0, u "I"), (0, .fieldref 2 61), (0, .nameAndType 62 59), (0, u "height"), (0, .fieldref 2 64), (0, .nameAndType 65 66), (0, u "samples"), (0, u "[D"), (0, .fieldref 2 68), (0, .nameAndType 69 59), (0, u "bits"), (6, .fieldref 2 77), (0, .nameAndType 78 79), (0, u "unit"), (0, u "D"), (0, .fieldref 2 81), (0, .nameAndType 82 83), (0, u "bytes"), (0, u "Ljava/nio/ByteBuffer;"), (14, .fieldref 2 99), (0, .nameAndType 100 101), (0, u "words"), (0, u "Ljava/nio/IntBuffer;"), (4, .fieldref 2 107), (0, .nameAndType 108 109), (0, u "wideSamples"), (0, u "Ljava/nio/ShortBuffer;"), (0, .fieldref 2 111), (0, .nameAndType 112 113), (0, u "file"), (0, u "Lcom/example/honest_ruler/honestruler/image/ReadOnlyFile;"), (0, .fieldref 2 115), (0, .nameAndType 116 117), (0, u "fileStart"), (0, u "J"), (19, u "EIGHT_BIT_ROWS"), (0, u "Ljava/lang/ThreadLocal;"), (24, u "WIDE_ROWS"), (65, u "(II[D)V"), (76, u "getWidth")] 73

def k2c0 : Code := { maxStack := 11, maxLocals := 4, code := prog_10_method_1_code, exceptionTable := #[], attributes := #[] }
def k2m0 : Method := { name := "<init>", desc := "(II[D)V", sig := { parameters := [.int, .int, (.array .double)], returnType := none }, accessFlags := 1, code := some k2c0 }
def k2c1 : Code := { maxStack := 7, maxLocals := 14, code := prog_10_method_6_code, exceptionTable := #[], attributes := #[] }
def k2m1 : Method := { name := "<init>", desc := "(IIJ[DLjava/nio/ByteBuffer;ILcom/example/honest_ruler/honestruler/image/ReadOnlyFile;J)V", sig := { parameters := [.int, .int, .long, (.array .double), (.object "java/nio/ByteBuffer"), .int, (.object "com/example/honest_ruler/honestruler/image/ReadOnlyFile"), .long], returnType := none }, accessFlags := 2, code := some k2c1 }
def k2c2 : Code := { maxStack := 1, maxLocals := 1, code := prog_10_method_14_code, exceptionTable := #[], attributes := #[] }
def k2m2 : Method := { name := "getWidth", desc := "()I", sig := { parameters := [], returnType := some .int }, accessFlags := 1, code := some k2c2 }
/-- com/example/honest_ruler/honestruler/image/LumaPlane -/
def k2 : Class := { plain "com/example/honest_ruler/honestruler/image/LumaPlane" (some 0) with
  accessFlags := 33
  interfaces := #[]
  cf := some (fileOf pool2 2 #[] #[{ accessFlags := 1, nameIndex := 5, descriptorIndex := 229, attributes := #[] }, { accessFlags := 2, nameIndex := 5, descriptorIndex := 6, attributes := #[] }, { accessFlags := 1, nameIndex := 306, descriptorIndex := 19, attributes := #[] }] 33 32 #[] #[{ accessFlags := 26, nameIndex := 137, descriptorIndex := 138, attributes := #[] }, { accessFlags := 26, nameIndex := 163, descriptorIndex := 138, attributes := #[] }, { accessFlags := 18, nameIndex := 58, descriptorIndex := 59, attributes := #[] }, { accessFlags := 18, nameIndex := 62, descriptorIndex := 59, attributes := #[] }, { accessFlags := 18, nameIndex := 65, descriptorIndex := 66, attributes := #[] }, { accessFlags := 18, nameIndex := 69, descriptorIndex := 59, attributes := #[] }, { accessFlags := 18, nameIndex := 78, descriptorIndex := 79, attributes := #[] }, { accessFlags := 18, nameIndex := 82, descriptorIndex := 83, attributes := #[] }, { accessFlags := 18, nameIndex := 100, descriptorIndex := 101, attributes := #[] }, { accessFlags := 18, nameIndex := 108, descriptorIndex := 109, attributes := #[] }, { accessFlags := 18, nameIndex := 112, descriptorIndex := 113, attributes := #[] }, { accessFlags := 18, nameIndex := 116, descriptorIndex := 117, attributes := #[] }])
  fields := #[{ name := "EIGHT_BIT_ROWS", type := (.object "java/lang/ThreadLocal"), accessFlags := 26, slot := 0, constantValue := 0 }, { name := "WIDE_ROWS", type := (.object "java/lang/ThreadLocal"), accessFlags := 26, slot := 1, constantValue := 0 }, { name := "width", type := .int, accessFlags := 18, slot := 0, constantValue := 0 }, { name := "height", type := .int, accessFlags := 18, slot := 1, constantValue := 0 }, { name := "samples", type := (.array .double), accessFlags := 18, slot := 2, constantValue := 0 }, { name := "bits", type := .int, accessFlags := 18, slot := 3, constantValue := 0 }, { name := "unit", type := .double, accessFlags := 18, slot := 4, constantValue := 0 }, { name := "bytes", type := (.object "java/nio/ByteBuffer"), accessFlags := 18, slot := 5, constantValue := 0 }, { name := "words", type := (.object "java/nio/IntBuffer"), accessFlags := 18, slot := 6, constantValue := 0 }, { name := "wideSamples", type := (.object "java/nio/ShortBuffer"), accessFlags := 18, slot := 7, constantValue := 0 }, { name := "file", type := (.object "com/example/honest_ruler/honestruler/image/ReadOnlyFile"), accessFlags := 18, slot := 8, constantValue := 0 }, { name := "fileStart", type := .long, accessFlags := 18, slot := 9, constantValue := 0 }]
  methods := #[k2m0, k2m1, k2m2]
  instanceTypes := #[.int, .int, (.array .double), .int, .double, (.object "java/nio/ByteBuffer"), (.object "java/nio/IntBuffer"), (.object "java/nio/ShortBuffer"), (.object "com/example/honest_ruler/honestruler/image/ReadOnlyFile"), .long]
  staticTypes := #[(.object "java/lang/ThreadLocal"), (.object "java/lang/ThreadLocal")]
  resolved := Array.replicate 380 none
  statics := none }

def pool3 : Array CpInfo := pool [(1, .class_ 2), (0, u "java/lang/AutoCloseable"), (0, .class_ 4), (0, u "java/lang/Object")] 7

/-- java/lang/AutoCloseable -/
def k3 : Class := { plain "java/lang/AutoCloseable" (some 0) with
  accessFlags := 1537
  interfaces := #[]
  cf := some (fileOf pool3 1 #[] #[] 1537 3 #[] #[])
  fields := #[]
  methods := #[]
  instanceTypes := #[]
  staticTypes := #[]
  resolved := Array.replicate 12 none
  statics := none }

def pool4 : Array CpInfo := pool [(1, .class_ 2), (0, u "java/io/Closeable"), (0, .class_ 4), (0, u "java/lang/Object"), (0, .class_ 6), (0, u "java/lang/AutoCloseable")] 7

/-- java/io/Closeable -/
def k4 : Class := { plain "java/io/Closeable" (some 0) with
  accessFlags := 1537
  interfaces := #[3]
  cf := some (fileOf pool4 1 #[] #[] 1537 3 #[5] #[])
  fields := #[]
  methods := #[]
  instanceTypes := #[]
  staticTypes := #[]
  resolved := Array.replicate 14 none
  statics := none }

def pool5 : Array CpInfo := pool [(1, .class_ 2), (0, u "com/example/honest_ruler/honestruler/input/FrameSource"), (144, .class_ 148), (0, u "java/lang/Object"), (0, .class_ 150), (0, u "java/io/Closeable"), (0, u "DEFAULT_FFMPEG"), (0, u "Ljava/lang/String;")] 35

/-- com/example/honest_ruler/honestruler/input/FrameSource -/
def k5 : Class := { plain "com/example/honest_ruler/honestruler/input/FrameSource" (some 0) with
  accessFlags := 1537
  interfaces := #[4]
  cf := some (fileOf pool5 1 #[] #[] 1537 147 #[149] #[{ accessFlags := 25, nameIndex := 151, descriptorIndex := 152, attributes := #[] }])
  fields := #[{ name := "DEFAULT_FFMPEG", type := (.object "java/lang/String"), accessFlags := 25, slot := 0, constantValue := 0 }]
  methods := #[]
  instanceTypes := #[]
  staticTypes := #[(.object "java/lang/String")]
  resolved := Array.replicate 188 none
  statics := none }

def pool6 : Array CpInfo := pool [(1, .methodref 2 3), (0, .class_ 4), (0, .nameAndType 5 6), (0, u "java/lang/Object"), (0, u "<init>"), (0, u "()V"), (0, .fieldref 8 9), (0, .class_ 10), (0, .nameAndType 11 12), (0, u "com/example/honest_ruler/honestruler/input/StillFrame"), (0, u "picture"), (0, u "Lcom/example/honest_ruler/honestruler/image/LumaPlane;"), (0, .methodref 14 15), (0, .class_ 16), (0, .nameAndType 17 18), (0, u "com/example/honest_ruler/honestruler/image/LumaPlane"), (0, u "getWidth"), (0, u "()I"), (6, .fieldref 8 26), (0, .nameAndType 27 28), (0, u "given"), (0, u "Z"), (0, .class_ 30), (0, u "com/example/honest_ruler/honestruler/input/FrameSource"), (0, u "(Lcom/example/honest_ruler/honestruler/image/LumaPlane;)V"), (2, u "next"), (0, u "()Lcom/example/honest_ruler/honestruler/image/LumaPlane;")] 4

def k6c0 : Code := { maxStack := 2, maxLocals := 2, code := prog_26_method_1_code, exceptionTable := #[], attributes := #[] }
def k6m0 : Method := { name := "<init>", desc := "(Lcom/example/honest_ruler/honestruler/image/LumaPlane;)V", sig := { parameters := [(.object "com/example/honest_ruler/honestruler/image/LumaPlane")], returnType := none }, accessFlags := 0, code := some k6c0 }
def k6c1 : Code := { maxStack := 1, maxLocals := 1, code := prog_26_method_2_code, exceptionTable := #[], attributes := #[] }
def k6m1 : Method := { name := "getWidth", desc := "()I", sig := { parameters := [], returnType := some .int }, accessFlags := 1, code := some k6c1 }
def k6c2 : Code := { maxStack := 2, maxLocals := 2, code := prog_26_method_5_code, exceptionTable := #[], attributes := #[] }
def k6m2 : Method := { name := "next", desc := "()Lcom/example/honest_ruler/honestruler/image/LumaPlane;", sig := { parameters := [], returnType := some (.object "com/example/honest_ruler/honestruler/image/LumaPlane") }, accessFlags := 1, code := some k6c2 }
/-- com/example/honest_ruler/honestruler/input/StillFrame -/
def k6 : Class := { plain "com/example/honest_ruler/honestruler/input/StillFrame" (some 0) with
  accessFlags := 32
  interfaces := #[5]
  cf := some (fileOf pool6 8 #[] #[{ accessFlags := 0, nameIndex := 5, descriptorIndex := 31, attributes := #[] }, { accessFlags := 1, nameIndex := 17, descriptorIndex := 18, attributes := #[] }, { accessFlags := 1, nameIndex := 34, descriptorIndex := 35, attributes := #[] }] 32 2 #[29] #[{ accessFlags := 18, nameIndex := 11, descriptorIndex := 12, attributes := #[] }, { accessFlags := 2, nameIndex := 27, descriptorIndex := 28, attributes := #[] }])
  fields := #[{ name := "picture", type := (.object "com/example/honest_ruler/honestruler/image/LumaPlane"), accessFlags := 18, slot := 0, constantValue := 0 }, { name := "given", type := .boolean, accessFlags := 2, slot := 1, constantValue := 0 }]
  methods := #[k6m0, k6m1, k6m2]
  instanceTypes := #[(.object "com/example/honest_ruler/honestruler/image/LumaPlane"), .boolean]
  staticTypes := #[]
  resolved := Array.replicate 40 none
  statics := none }

def pool7 : Array CpInfo := pool [(1, u "java/lang/Cloneable"), (0, .class_ 1), (0, u "java/lang/Object"), (0, .class_ 3)] 3

/-- java/lang/Cloneable -/
def k7 : Class := { plain "java/lang/Cloneable" (some 0) with
  accessFlags := 1537
  interfaces := #[]
  cf := some (fileOf pool7 2 #[] #[] 1537 4 #[] #[])
  fields := #[]
  methods := #[]
  instanceTypes := #[]
  staticTypes := #[]
  resolved := Array.replicate 8 none
  statics := none }

def pool8 : Array CpInfo := pool [(1, u "java/io/Serializable"), (0, .class_ 1), (0, u "java/lang/Object"), (0, .class_ 3)] 3

/-- java/io/Serializable -/
def k8 : Class := { plain "java/io/Serializable" (some 0) with
  accessFlags := 1537
  interfaces := #[]
  cf := some (fileOf pool8 2 #[] #[] 1537 4 #[] #[])
  fields := #[]
  methods := #[]
  instanceTypes := #[]
  staticTypes := #[]
  resolved := Array.replicate 8 none
  statics := none }

/-- the primitive byte -/
def k9 : Class := { plain "byte" none with kind := .primitive 'B', accessFlags := 0x411 }
/-- [B -/
def k10 : Class := { plain "[B" (some 0) with kind := .array 9 .byte, interfaces := #[7, 8], accessFlags := 1041 }

/-- the primitive double -/
def k11 : Class := { plain "double" none with kind := .primitive 'D', accessFlags := 0x411 }
/-- [D -/
def k12 : Class := { plain "[D" (some 0) with kind := .array 11 .double, interfaces := #[7, 8], accessFlags := 1041 }

/-- the primitive int -/
def k13 : Class := { plain "int" none with kind := .primitive 'I', accessFlags := 0x411 }
/-- [I -/
def k14 : Class := { plain "[I" (some 0) with kind := .array 13 .int, interfaces := #[7, 8], accessFlags := 1041 }

def heap : Heap := #[]
def classes : Array Class := #[k0, k1, k2, k3, k4, k5, k6, k7, k8, k9, k10, k11, k12, k13, k14]
def interned : List (Array UInt16 × Addr) := []
def slotsUsed : Nat := 0
def theMethod : MethodId := ⟨1, 1⟩
def args0 : Array Value := #[.int 5, .int 6]
def aboutOver (below : List Frame) : State where
  vm := { classes := classes, interned := interned.toArray }
  heap := heap
  slotsUsed := slotsUsed
  threads := #[{ frames := .invoking theMethod args0 :: below }]
def below0 : List Frame := [.native { method := ⟨0, 0⟩, args := #[] }]
def about1 : State := aboutOver below0
def p0 : Program := .bare "" "" ""
def e0 : Env := launch0.env 0 0 0
theorem w_frames : about1.frames = Frame.invoking theMethod args0 :: below0 := rfl
set_option maxRecDepth 65536 in
theorem w_args : argsFit about1.vm theMethod args0 = true := by decide +kernel
set_option maxRecDepth 65536 in
theorem w_heap : heapFits about1 = true := by decide +kernel
set_option maxRecDepth 65536 in
theorem w_runnable : about1.curStatus? = some .runnable := by decide +kernel
set_option maxRecDepth 65536 in
theorem w_alone : about1.alone = true := by decide +kernel
set_option maxRecDepth 65536 in
theorem w_named : about1.methodNamed? x = some theMethod := by decide +kernel
set_option maxRecDepth 65536 in
theorem w_hears : about1.hears theMethod below0 = true := by decide +kernel
set_option maxRecDepth 65536 in
theorem w_ripe : about1.ripe theMethod args0 below0 = true := by decide +kernel
theorem w_running : about1.status = .running := rfl
set_option maxRecDepth 65536 in
theorem w_room : about1.hasRoom e0.platform room_1 = true :=
  launch0.hasRoom_least _ room_1 (by decide +kernel) (by decide +kernel) (by decide +kernel) (by decide +kernel) (by decide +kernel) (by decide +kernel)
theorem allAtoms_all (ts : List Jvm.Cond) (a : Array Jvm.Value) (st : Jvm.State) : (allAtoms ts).before a st = ts.all (fun c => c.before a st) := by
  induction ts with
  | nil => rfl
  | cons c t ih =>
    show (Jvm.Cond.and c (allAtoms t)).before a st = _
    rw [Jvm.Cond.before_and, ih, List.all_cons]
def words1 : List Jvm.Cond := Jvm.Cond.code x code maxLocals ret :: tables_1
/-- a 'code' word, met by the world's own term for the bytes: nothing is compared byte by byte -/
theorem code_word {y : MethodName} {bytes : ByteArray} {mx : Nat} {rt : Option FieldType} {a : Array Value} {s : State} {m : MethodId} {meth : Method} {c : Code} (h1 : s.methodNamed? y = some m) (h2 : s.vm.method? m = some meth) (h3 : meth.code = some c) (h4 : c.code = bytes)
    (h5 : (c.maxLocals == mx && c.exceptionTable.isEmpty && decide (c.maxStack ≤ mostOperands) && decide (meth.sig.returnType = rt) && !meth.locks && decide (parseMethodDescriptor y.desc = some meth.sig)) = true) : (Jvm.Cond.code y bytes mx rt).before a s = true := by
  simp only [Bool.and_eq_true, beq_iff_eq, Bool.not_eq_true', decide_eq_true_eq] at h5
  obtain ⟨⟨⟨⟨⟨g1, g2⟩, g3⟩, g4⟩, g5⟩, g6⟩ := h5
  simp [Cond.before, Cond.holds, Cond.value, h1, h2, h3, h4, g1, g2, g3, g4, g5, g6]
def isCode : Jvm.Cond → Bool
  | .code _ _ _ _ => true
  | _ => false
theorem all_split {L : List Jvm.Cond} {P : Jvm.Cond → Bool} (h1 : L.all (fun c => isCode c || P c) = true) (h2 : ∀ c ∈ L.filter isCode, P c = true) : L.all P = true := by
  refine List.all_eq_true.mpr fun c hc => ?_
  have h := List.all_eq_true.mp h1 c hc
  rcases Bool.eq_false_or_eq_true (isCode c) with hi | hi
  · exact h2 c (List.mem_filter.mpr ⟨hc, hi⟩)
  · simpa [hi] using h
set_option maxRecDepth 65536 in
theorem w_c0 : (Jvm.Cond.code x code maxLocals ret).before args0 about1 = true := code_word (m := ⟨1, 1⟩) (meth := k1m1) (c := k1c1) (by decide +kernel) rfl rfl rfl (by decide +kernel)
set_option maxRecDepth 65536 in
theorem w_c1 : (Jvm.Cond.code ({ cls := "com/example/honest_ruler/honestruler/image/LumaPlane", name := "<init>", desc := "(II[D)V" } : Jvm.MethodName) prog_10_method_1_code (4 : Nat) (Option.none : Option Jvm.ClassFile.FieldType)).before args0 about1 = true := code_word (m := ⟨2, 0⟩) (meth := k2m0) (c := k2c0) (by decide +kernel) rfl rfl rfl (by decide +kernel)
set_option maxRecDepth 65536 in
theorem w_c2 : (Jvm.Cond.code ({ cls := "com/example/honest_ruler/honestruler/image/LumaPlane", name := "<init>", desc := "(IIJ[DLjava/nio/ByteBuffer;ILcom/example/honest_ruler/honestruler/image/ReadOnlyFile;J)V" } : Jvm.MethodName) prog_10_method_6_code (14 : Nat) (Option.none : Option Jvm.ClassFile.FieldType)).before args0 about1 = true := code_word (m := ⟨2, 1⟩) (meth := k2m1) (c := k2c1) (by decide +kernel) rfl rfl rfl (by decide +kernel)
set_option maxRecDepth 65536 in
theorem w_c3 : (Jvm.Cond.code ({ cls := "java/lang/Object", name := "<init>", desc := "()V" } : Jvm.MethodName) object_method_1_code (1 : Nat) (Option.none : Option Jvm.ClassFile.FieldType)).before args0 about1 = true := code_word (m := ⟨0, 0⟩) (meth := k0m0) (c := k0c0) (by decide +kernel) rfl rfl rfl (by decide +kernel)
set_option maxRecDepth 65536 in
theorem w_c4 : (Jvm.Cond.code ({ cls := "com/example/honest_ruler/honestruler/input/StillFrame", name := "<init>", desc := "(Lcom/example/honest_ruler/honestruler/image/LumaPlane;)V" } : Jvm.MethodName) prog_26_method_1_code (2 : Nat) (Option.none : Option Jvm.ClassFile.FieldType)).before args0 about1 = true := code_word (m := ⟨6, 0⟩) (meth := k6m0) (c := k6c0) (by decide +kernel) rfl rfl rfl (by decide +kernel)
set_option maxRecDepth 65536 in
theorem w_c5 : (Jvm.Cond.code ({ cls := "com/example/honest_ruler/honestruler/input/StillFrame", name := "getWidth", desc := "()I" } : Jvm.MethodName) prog_26_method_2_code (1 : Nat) (Option.some Jvm.ClassFile.FieldType.int)).before args0 about1 = true := code_word (m := ⟨6, 1⟩) (meth := k6m1) (c := k6c1) (by decide +kernel) rfl rfl rfl (by decide +kernel)
set_option maxRecDepth 65536 in
theorem w_c6 : (Jvm.Cond.code ({ cls := "com/example/honest_ruler/honestruler/image/LumaPlane", name := "getWidth", desc := "()I" } : Jvm.MethodName) prog_10_method_14_code (1 : Nat) (Option.some Jvm.ClassFile.FieldType.int)).before args0 about1 = true := code_word (m := ⟨2, 2⟩) (meth := k2m2) (c := k2c2) (by decide +kernel) rfl rfl rfl (by decide +kernel)
set_option maxRecDepth 65536 in
theorem w_c7 : (Jvm.Cond.code ({ cls := "com/example/honest_ruler/honestruler/input/StillFrame", name := "next", desc := "()Lcom/example/honest_ruler/honestruler/image/LumaPlane;" } : Jvm.MethodName) prog_26_method_5_code (2 : Nat) (Option.some (Jvm.ClassFile.FieldType.object "com/example/honest_ruler/honestruler/image/LumaPlane"))).before args0 about1 = true := code_word (m := ⟨6, 2⟩) (meth := k6m2) (c := k6c2) (by decide +kernel) rfl rfl rfl (by decide +kernel)
def codes1 : List Jvm.Cond := [Jvm.Cond.code x code maxLocals ret, Jvm.Cond.code ({ cls := "com/example/honest_ruler/honestruler/image/LumaPlane", name := "<init>", desc := "(II[D)V" } : Jvm.MethodName) prog_10_method_1_code (4 : Nat) (Option.none : Option Jvm.ClassFile.FieldType), Jvm.Cond.code ({ cls := "com/example/honest_ruler/honestruler/image/LumaPlane", name := "<init>", desc := "(IIJ[DLjava/nio/ByteBuffer;ILcom/example/honest_ruler/honestruler/image/ReadOnlyFile;J)V" } : Jvm.MethodName) prog_10_method_6_code (14 : Nat) (Option.none : Option Jvm.ClassFile.FieldType), Jvm.Cond.code ({ cls := "java/lang/Object", name := "<init>", desc := "()V" } : Jvm.MethodName) object_method_1_code (1 : Nat) (Option.none : Option Jvm.ClassFile.FieldType), Jvm.Cond.code ({ cls := "com/example/honest_ruler/honestruler/input/StillFrame", name := "<init>", desc := "(Lcom/example/honest_ruler/honestruler/image/LumaPlane;)V" } : Jvm.MethodName) prog_26_method_1_code (2 : Nat) (Option.none : Option Jvm.ClassFile.FieldType), Jvm.Cond.code ({ cls := "com/example/honest_ruler/honestruler/input/StillFrame", name := "getWidth", desc := "()I" } : Jvm.MethodName) prog_26_method_2_code (1 : Nat) (Option.some Jvm.ClassFile.FieldType.int), Jvm.Cond.code ({ cls := "com/example/honest_ruler/honestruler/image/LumaPlane", name := "getWidth", desc := "()I" } : Jvm.MethodName) prog_10_method_14_code (1 : Nat) (Option.some Jvm.ClassFile.FieldType.int), Jvm.Cond.code ({ cls := "com/example/honest_ruler/honestruler/input/StillFrame", name := "next", desc := "()Lcom/example/honest_ruler/honestruler/image/LumaPlane;" } : Jvm.MethodName) prog_26_method_5_code (2 : Nat) (Option.some (Jvm.ClassFile.FieldType.object "com/example/honest_ruler/honestruler/image/LumaPlane"))]
set_option maxRecDepth 65536 in
theorem codes_eq : words1.filter isCode = codes1 := rfl
theorem w_codes : ∀ c ∈ words1.filter isCode, c.before args0 about1 = true := by
  rw [codes_eq]
  intro c hc
  simp only [codes1, List.mem_cons, List.not_mem_nil, or_false] at hc
  rcases hc with rfl | rfl | rfl | rfl | rfl | rfl | rfl | rfl
  · exact w_c0
  · exact w_c1
  · exact w_c2
  · exact w_c3
  · exact w_c4
  · exact w_c5
  · exact w_c6
  · exact w_c7
set_option maxRecDepth 65536 in
theorem w_t1 : (words1.take 24).all (fun c => isCode c || c.before args0 about1) = true := by decide +kernel
set_option maxRecDepth 65536 in
theorem w_t2 : ((words1.drop 24).take 24).all (fun c => isCode c || c.before args0 about1) = true := by decide +kernel
set_option maxRecDepth 65536 in
theorem w_t3 : ((words1.drop 24).drop 24).all (fun c => isCode c || c.before args0 about1) = true := by decide +kernel
theorem w_tables : (allAtoms (Jvm.Cond.code x code maxLocals ret :: tables_1)).before args0 about1 = true := by
  rw [allAtoms_all]
  show words1.all (fun c => c.before args0 about1) = true
  refine all_split ?_ w_codes
  rw [← List.take_append_drop 24 words1, List.all_append, w_t1, ← List.take_append_drop 24 (words1.drop 24), List.all_append, w_t2, w_t3]
  rfl
set_option maxRecDepth 65536 in
theorem w_case : (Jvm.Cond.and given_1 narrow_1).before args0 about1 = true := by decide +kernel
theorem w_applies : (headSpec (Jvm.Cond.code x code maxLocals ret :: tables_1) room_1).applies x e0.platform about1 = true :=
  (Spec.applies_iff w_frames).mpr ⟨w_running, w_runnable, w_alone, w_named, w_hears, w_ripe, w_room, w_tables⟩
theorem atStart : AtStart classFile x code maxLocals ret World_1 tables_1 room_1 Calls_1 rest_1 Pre_1 launch0 p0 e0 about1 theMethod args0 below0 :=
  ⟨lists_1, trivial, launch0.admits_env _ _ _, launch0.least_env, fairChoices_fair.cas, fairChoices_fair.clock, w_frames, w_args, w_heap, w_applies, trivial, trivial, w_case⟩
end start1
theorem witness_1 : WitnessClaimed_1 := ⟨start1.p0, start1.e0, start1.about1, start1.theMethod, start1.args0, start1.below0, start1.atStart⟩
end Jvm.Pilot.@@N@@
