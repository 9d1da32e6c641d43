import JvmDerived
import JvmDerived.Pilot.@@N@@Statement
import JvmDerived.Pilot.@@N@@Code
set_option linter.unusedVariables false
set_option linter.unusedSimpArgs false
namespace Jvm.Pilot.@@N@@
open Jvm Jvm.ClassFile Sem Op Lib Jvm.Free Jvm.Stand Jvm.LawKit Jvm.RoadKit Bundle Jvm.Pilot.@@N@@.Jvm.D
section Own
variable {p : Program} {l : Launch} {e : Env} {R : Room} {s : State} {m : MethodId} {args : Array Value} {below : List Frame} {meth : Method} {c : Code} {T : State} {locs : List Loc} {cells slots : Nat}
/-- the run from A ends, returns what Q says, and has made and written no more than told -/
def Dn (p : Program) (e : Env) (below : List Frame) (s : State) (Q : Option Value → Heap → List Loc → Prop) (rc rs : Nat) (A : State) : Prop :=
  ∃ s₂ o, Steps p.tables e below A s₂ ∧ s₂.status = .running ∧ Ended s₂ below o ∧ ∃ v L, o = .returned v ∧ Q v s₂.heap L ∧ FrameEnd s o s₂ L rc rs
theorem Dn.st {Q : Option Value → Heap → List Loc → Prop} {rc rs : Nat} {A B : State} (h : ∀ t, Steps p.tables e below B t → Steps p.tables e below A t) (k : Dn p e below s Q rc rs B) : Dn p e below s Q rc rs A := by
  obtain ⟨s2, o, h1, h2⟩ := k; exact ⟨s2, o, h _ h1, h2⟩
theorem Dn.tr {Q : Option Value → Heap → List Loc → Prop} {rc rs : Nat} {A B : State} (h : Steps p.tables e below A B) (k : Dn p e below s Q rc rs B) : Dn p e below s Q rc rs A := by
  obtain ⟨s2, o, h1, h2⟩ := k; exact ⟨s2, o, h.trans h1, h2⟩
theorem Dn.ret (X : Stand p l e R s m args below meth c T locs cells slots) (hlk : meth.locks = false) (hx : p.tables.exec = Jvm.exec) {pc : Nat} {Ls : Array Slot} {w : Value} {t : FieldType} {i : Instr} {rest : List Value} (hret : meth.sig.returnType = some t) (hn : narrow t w = w)
    (hi : (i = .ireturn ∧ (t = .int ∨ t = .boolean ∨ t = .byte ∨ t = .char ∨ t = .short) ∧ ∃ z, w = .int z) ∨ (i = .lreturn ∧ t = .long ∧ ∃ z, w = .long z) ∨ (i = .dreturn ∧ t = .double ∧ ∃ z, w = .double z) ∨ (i = .freturn ∧ t = .float ∧ ∃ z, w = .float z) ∨ (i = .areturn ∧ t.isReference = true ∧ w.isRef = true))
    (hd : decode c.code pc = .ok (i, 1)) {Q : Option Value → Heap → List Loc → Prop} {rc rs : Nat} (hq : Q (some w) T.heap locs) (hc : cells ≤ rc) (hs : slots ≤ rs) : Dn p e below s Q rc rs (T.setTop (mkF m pc Ls (w :: rest))) := by
  obtain ⟨fs, hr, hrun, hended, hW, hsame⟩ := X.leave (v := some w) (fun h => by rw [hret] at h; cases h) hlk
  exact ⟨_, _, retOut X hx hret hn hi hd hr, hrun, hended, _, _, rfl, hq, ⟨_, rfl⟩, hW, hsame.mono hc hs⟩
theorem Dn.ret0 (X : Stand p l e R s m args below meth c T locs cells slots) (hlk : meth.locks = false) (hx : p.tables.exec = Jvm.exec) {pc : Nat} {Ls : Array Slot} (hret : meth.sig.returnType = none)
    (hd : decode c.code pc = .ok (.return_, 1)) {Q : Option Value → Heap → List Loc → Prop} {rc rs : Nat} (hq : Q none T.heap locs) (hc : cells ≤ rc) (hs : slots ≤ rs) : Dn p e below s Q rc rs (T.setTop (mkF m pc Ls [])) := by
  obtain ⟨fs, hr, hrun, hended, hW, hsame⟩ := X.leave (v := none) (fun _ => rfl) hlk
  exact ⟨_, _, X.returnOut hx hret hd hr, hrun, hended, _, _, rfl, hq, ⟨_, rfl⟩, hW, hsame.mono hc hs⟩
theorem own_iincW {tb : Tables} [Ours tb] {target : State} {g : JFrame} (h : At T m c below) (hx : tb.exec = Jvm.exec) (hg : g.method = m) {k : Nat} {cst : Int} {x : Int32} {l' : Array Slot} (hd : decode c.code g.pc = .ok (.iinc k cst, 6)) (hl : g.locals[k]? = some (.val (.int x))) (hl' : storeLocals g.locals k (.int (x + Int32.ofInt cst)) = some l')
    (hr : Steps tb e below (T.setTop { g with pc := g.pc + 6, locals := l' }) target) : Steps tb e below (T.setTop g) target := by
  subst hg
  jvm_step h [h.top, hx, hd, hl, hl']
  exact hr
theorem own_dremS {tb : Tables} [Ours tb] {target : State} {g : JFrame} (h : At T m c below) (hx : tb.exec = Jvm.exec) (hg : g.method = m) {x y v : UInt64} {rest : List Value} (hd : decode c.code g.pc = .ok (.drem, 1)) (hs : g.stack = .double y :: .double x :: rest) (hn : Jvm.Free.Fl.NoNaN64 (FP.drem x y)) (hv : FP.drem x y = v)
    (hr : Steps tb e below (T.setTop { g with pc := g.pc + 1, stack := .double v :: rest }) target) : Steps tb e below (T.setTop g) target := by
  subst hg; subst hv
  obtain ⟨gm, gp, gl, gs, gk, ge, gr⟩ := g
  simp only at hs hd
  subst hs
  jvm_step h [h.top, hx, hd, Op.drem.at_number h.top hn]
  exact hr
end Own
set_option maxRecDepth 65536
set_option maxHeartbeats 40000000
abbrev on0 : MethodName := (⟨"java/lang/String", "length", "()I"⟩ : MethodName)
abbrev on1 : MethodName := (⟨"java/lang/StringUTF16", "putChar", "([BII)V"⟩ : MethodName)
abbrev on2 : MethodName := (⟨"java/lang/String", "charAt", "(I)C"⟩ : MethodName)
abbrev on3 : MethodName := (⟨"com/example/ermon/ermon/io/Line", "isWord", "(Ljava/lang/String;)Z"⟩ : MethodName)
abbrev on4 : MethodName := (⟨"java/lang/StringUTF16", "coderFromArrayLen", "([BI)B"⟩ : MethodName)
abbrev on5 : MethodName := (⟨"java/lang/StringUTF16", "getChar", "([BI)C"⟩ : MethodName)
abbrev on6 : MethodName := (⟨"java/lang/String", "isLatin1", "()Z"⟩ : MethodName)
abbrev on7 : MethodName := (⟨"java/lang/StringUTF16", "toBytes", "([CII)[B"⟩ : MethodName)
abbrev on8 : MethodName := (⟨"java/lang/String", "<init>", "([CIILjava/lang/Void;)V"⟩ : MethodName)
abbrev on9 : MethodName := (⟨"java/lang/String", "<init>", "([C)V"⟩ : MethodName)
abbrev on10 : MethodName := (⟨"java/lang/String", "isEmpty", "()Z"⟩ : MethodName)
abbrev on11 : MethodName := (⟨"java/lang/StringLatin1", "charAt", "([BI)C"⟩ : MethodName)
abbrev on12 : MethodName := (⟨"java/lang/StringUTF16", "compress", "([CII)[B"⟩ : MethodName)
abbrev on13 : MethodName := (⟨"java/lang/StringUTF16", "charAt", "([BI)C"⟩ : MethodName)
abbrev on14 : MethodName := (⟨"java/lang/StringUTF16", "newBytesFor", "(I)[B"⟩ : MethodName)
abbrev on15 : MethodName := (⟨"java/lang/StringUTF16", "newBytesLength", "(I)I"⟩ : MethodName)
abbrev on16 : MethodName := (⟨"com/example/ermon/ermon/io/Line", "isSeparator", "(C)Z"⟩ : MethodName)
abbrev on17 : MethodName := (⟨"com/example/ermon/ermon/io/LineIsWordPinLaw", "ok", "(C)Z"⟩ : MethodName)
abbrev on18 : MethodName := (⟨"java/lang/StringUTF16", "compress", "([CI[BII)I"⟩ : MethodName)
abbrev on19 : MethodName := (⟨"java/lang/String", "coder", "()B"⟩ : MethodName)
abbrev on20 : MethodName := (⟨"java/lang/String", "checkIndex", "(II)V"⟩ : MethodName)
abbrev on21 : MethodName := (⟨"java/lang/StringUTF16", "checkIndex", "(I[B)V"⟩ : MethodName)
abbrev on22 : MethodName := (⟨"jdk/internal/util/Preconditions", "checkIndex", "(IILjava/util/function/BiFunction;)I"⟩ : MethodName)
abbrev on23 : MethodName := (⟨"com/example/ermon/ermon/io/LineIsWordPinLaw", "pick", "(I)C"⟩ : MethodName)
abbrev on24 : MethodName := (⟨"java/lang/StringUTF16", "length", "([B)I"⟩ : MethodName)
abbrev orm25 : Room := ({ frames := 0, cells := 0, slots := 0, locals := 0 } : Room)
abbrev orm26 : Room := ({ frames := 2, cells := 0, slots := 0, locals := 33 } : Room)
abbrev orm27 : Room := ({ frames := 3, cells := 0, slots := 0, locals := 49 } : Room)
abbrev orm28 : Room := ({ frames := 4, cells := 0, slots := 0, locals := 65 } : Room)
abbrev orm29 : Room := ({ frames := 5, cells := 0, slots := 0, locals := 82 } : Room)
abbrev orm30 : Room := ({ frames := 2, cells := 2, slots := 4, locals := 35 } : Room)
abbrev orm31 : Room := ({ frames := 1, cells := 2, slots := 4, locals := 15 } : Room)
abbrev orm32 : Room := ({ frames := 3, cells := 2, slots := 6, locals := 49 } : Room)
abbrev orm33 : Room := ({ frames := 1, cells := 0, slots := 0, locals := 15 } : Room)
abbrev orm34 : Room := ({ frames := 3, cells := 2, slots := 12, locals := 49 } : Room)
abbrev orm35 : Room := ({ frames := 4, cells := 2, slots := 6, locals := 69 } : Room)
abbrev orm36 : Room := ({ frames := 1, cells := 1, slots := 2, locals := 15 } : Room)
abbrev orm37 : Room := ({ frames := 4, cells := 2, slots := 9, locals := 69 } : Room)
abbrev orm38 : Room := ({ frames := 1, cells := 1, slots := 4, locals := 15 } : Room)
abbrev orm39 : Room := ({ frames := 2, cells := 1, slots := 2, locals := 30 } : Room)
abbrev orm40 : Room := ({ frames := 3, cells := 2, slots := 9, locals := 49 } : Room)
abbrev orm41 : Room := ({ frames := 3, cells := 2, slots := 3, locals := 49 } : Room)
abbrev orm42 : Room := ({ frames := 5, cells := 2, slots := 6, locals := 89 } : Room)
abbrev orm43 : Room := ({ frames := 5, cells := 2, slots := 3, locals := 89 } : Room)
abbrev orm44 : Room := ({ frames := 5, cells := 2, slots := 9, locals := 89 } : Room)
abbrev orm45 : Room := ({ frames := 1, cells := 1, slots := 8, locals := 15 } : Room)
abbrev orm46 : Room := ({ frames := 4, cells := 2, slots := 12, locals := 69 } : Room)
abbrev orm47 : Room := ({ frames := 5, cells := 2, slots := 12, locals := 89 } : Room)
abbrev orm48 : Room := ({ frames := 1, cells := 1, slots := 6, locals := 15 } : Room)
abbrev orm49 : Room := ({ frames := 2, cells := 1, slots := 8, locals := 30 } : Room)
abbrev orm50 : Room := ({ frames := 4, cells := 2, slots := 3, locals := 69 } : Room)
abbrev orm51 : Room := ({ frames := 2, cells := 1, slots := 6, locals := 30 } : Room)
abbrev orm52 : Room := ({ frames := 2, cells := 0, slots := 0, locals := 31 } : Room)
abbrev orm53 : Room := ({ frames := 2, cells := 1, slots := 4, locals := 30 } : Room)
abbrev orm54 : Room := ({ frames := 1, cells := 0, slots := 0, locals := 17 } : Room)
theorem tw {L : List Jvm.Cond} {P : Jvm.Cond → Prop} (hw : ∀ d ∈ L, P d) (i : Nat) {d : Jvm.Cond} (e : L[i]? = some d) : P d := hw _ (List.mem_of_getElem? e)
abbrev vi (x : Int32) : Slot := .val (.int x)
abbrev vr (x : Addr) : Slot := .val (.ref x)
abbrev own_Met (l : Launch) (y : MethodName) (C : List Jvm.Cond) (rm : Room) (as' : Array Value) (Z : State) (h0 : Heap) (Q : Option Value → Heap → List Loc → Prop) : Prop := MetFree l y (head1 C rm) (fun aa UU => aa = as' ∧ Z.Warmed39 UU.vm ∧ UU.heap = h0) (fun _ _ _ _ _ => True) (fun _ UU oo UU' => ∃ vv LL, oo = .returned vv ∧ Q vv UU'.heap LL ∧ FrameEnd UU oo UU' LL rm.cells rm.slots)
section OwnW
variable {p : Program} {l : Launch} {e : Env} {R : Room} {s : State} {m : MethodId} {args : Array Value} {below : List Frame} {meth : Method} {c : Code} {T : State} {locs : List Loc} {cells slots : Nat}
/-- as Dn, where String constants may have been interned on the way -/
def Dw (p : Program) (e : Env) (below : List Frame) (s : State) (Q : Option Value → Heap → List Loc → Prop) (rc rs : Nat) (A : State) : Prop :=
  ∃ s₂ o, Steps p.tables e below A s₂ ∧ s₂.status = .running ∧ Ended s₂ below o ∧ ∃ v L, o = .returned v ∧ Q v s₂.heap L ∧ ReturnedEndW s o s₂ L rc rs
theorem Dw.st {Q : Option Value → Heap → List Loc → Prop} {rc rs : Nat} {A B : State} (h : ∀ t, Steps p.tables e below B t → Steps p.tables e below A t) (k : Dw p e below s Q rc rs B) : Dw p e below s Q rc rs A := by
  obtain ⟨s2, o, h1, h2⟩ := k; exact ⟨s2, o, h _ h1, h2⟩
theorem Dw.tr {Q : Option Value → Heap → List Loc → Prop} {rc rs : Nat} {A B : State} (h : Steps p.tables e below A B) (k : Dw p e below s Q rc rs B) : Dw p e below s Q rc rs A := by
  obtain ⟨s2, o, h1, h2⟩ := k; exact ⟨s2, o, h.trans h1, h2⟩
theorem Dw.of {Q : Option Value → Heap → List Loc → Prop} {rc rs : Nat} {A : State} {vm1 : Vm} {n : Nat} (hS : s.Since vm1 n) (k : Dn p e below (s.setVm vm1) (fun v h L => Q v h L ∧ n ≤ h.size) rc rs A) : Dw p e below s Q rc rs A := by
  obtain ⟨s2, o, h1, h2, h3, v, L, rfl, ⟨hq, hn⟩, hr, hW, hs⟩ := k
  obtain ⟨a, b, c'⟩ := hS.ended hW hn hs
  exact ⟨s2, _, h1, h2, h3, v, L, rfl, hq, hr, a, b, c'⟩
theorem Dw.ofN {Q : Option Value → Heap → List Loc → Prop} {rc rs : Nat} {A : State} (k : Dn p e below s Q rc rs A) : Dw p e below s Q rc rs A := by
  obtain ⟨s2, o, h1, h2, h3, v, L, rfl, hq, hr, hW, hs⟩ := k
  exact ⟨s2, _, h1, h2, h3, v, L, rfl, hq, ReturnedEndW.of_narrow hr hW hs⟩
end OwnW

section OwnS
variable {Z : State} {h h' : Heap} {n0 : Nat} {cs : Int32} {sf : Value} {a : Addr} {sl : Nat} {v : Value} {ws : List Addr}
theorem own_k0 : ∀ x ∈ ([] : List Addr), n0 ≤ x := fun x hx => absurd hx (by simp)
theorem own_k1 (g : n0 ≤ a) : ∀ x ∈ [a], n0 ≤ x := fun x hx => (List.mem_singleton.mp hx) ▸ g
/-- what is old stands as it was; and the statics -/
def own_W (Z : State) (h : Heap) (n0 : Nat) (cs : Int32) (sf : Value) : Prop :=
  (n0 = Z.heap.size ∧ Ext Z.heap h) ∧ (Sta Z Z.heap "java/lang/String" "COMPACT_STRINGS" "Z" (.int cs) ∧ cs ≠ 0) ∧ Sta Z Z.heap "java/lang/StringUTF16" "$assertionsDisabled" "Z" (.int 1) ∧ Sta Z Z.heap "java/lang/StringUTF16" "HI_BYTE_SHIFT" "I" (.int 0) ∧ Sta Z Z.heap "java/lang/StringUTF16" "LO_BYTE_SHIFT" "I" (.int 8) ∧ Sta Z Z.heap "jdk/internal/util/Preconditions" "SIOOBE_FORMATTER" "Ljava/util/function/BiFunction;" sf ∧ sf.isRef = true
theorem own_W.ext (W : own_W Z h n0 cs sf) (E : Ext h h') : own_W Z h' n0 cs sf := ⟨⟨W.1.1, Nat.le_trans W.1.2.1 E.1, fun a c q => E.2 a c (W.1.2.2 a c q)⟩, W.2⟩
theorem own_W.keep (W : own_W Z h n0 cs sf) (K : Keep h h' ws) (g : ∀ x ∈ ws, n0 ≤ x) : own_W Z h' n0 cs sf :=
  ⟨⟨W.1.1, Nat.le_trans W.1.2.1 K.1, fun a c q => K.2.1 a c (W.1.2.2 a c q) (fun hm => by
    have h1 := g a hm; have h2 := (Array.getElem?_eq_some_iff.mp q).1; have h3 := W.1.1; omega)⟩, W.2⟩
theorem own_W.wr (W : own_W Z h n0 cs sf) (w : Wr h h' a sl v) (g : n0 ≤ a) : own_W Z h' n0 cs sf := W.keep (Keep.of_wr w) (own_k1 g)
theorem own_W.cst (W : own_W Z h n0 cs sf) : Sta Z h "java/lang/String" "COMPACT_STRINGS" "Z" (.int cs) := Sta.ext W.1.2 W.2.1.1
theorem own_W.cne (W : own_W Z h n0 cs sf) : ¬ cs = 0 := W.2.1.2
theorem own_W.adt (W : own_W Z h n0 cs sf) : Sta Z h "java/lang/StringUTF16" "$assertionsDisabled" "Z" (.int 1) := Sta.ext W.1.2 W.2.2.1
theorem own_W.hit (W : own_W Z h n0 cs sf) : Sta Z h "java/lang/StringUTF16" "HI_BYTE_SHIFT" "I" (.int 0) := Sta.ext W.1.2 W.2.2.2.1
theorem own_W.lot (W : own_W Z h n0 cs sf) : Sta Z h "java/lang/StringUTF16" "LO_BYTE_SHIFT" "I" (.int 8) := Sta.ext W.1.2 W.2.2.2.2.1
theorem own_W.sft (W : own_W Z h n0 cs sf) : Sta Z h "jdk/internal/util/Preconditions" "SIOOBE_FORMATTER" "Ljava/util/function/BiFunction;" sf := Sta.ext W.1.2 W.2.2.2.2.2.1
theorem own_W.isr (W : own_W Z h n0 cs sf) : sf.isRef = true := W.2.2.2.2.2.2
end OwnS
/-- a char as a Latin-1 byte, and its two bytes -/
def own_b (y : Int32) : Int32 := nar .byte (y.toInt8.toInt32)
def own_lo (y : Int32) : Int32 := nar .byte ((y >>> ((0 : Int32) &&& 31)).toInt8.toInt32)
def own_hi (y : Int32) : Int32 := nar .byte ((y >>> ((8 : Int32) &&& 31)).toInt8.toInt32)
theorem own_lat {y : Int32} (h1 : 0 ≤ y.toInt) (h2 : y.toInt ≤ 255) : ((own_b y) &&& (255 : Int32)).toUInt32.toUInt16.toUInt32.toInt32 = y := by
  apply Int32.toInt_inj.mp
  have a := c_i2b y
  have b := c_i2b (y.toInt8.toInt32)
  have c := c_mask (own_b y) 255 8 (by decide) (by decide)
  have d := c_i2c (own_b y &&& 255)
  have e : (own_b y).toInt = (y.toInt8.toInt32).toInt8.toInt32.toInt := rfl
  omega
theorem own_u16 {y : Int32} (h1 : 0 ≤ y.toInt) (h2 : y.toInt ≤ 65535) : ((((own_lo y) &&& (255 : Int32)) <<< ((0 : Int32) &&& 31)) ||| (((own_hi y) &&& (255 : Int32)) <<< ((8 : Int32) &&& 31))).toUInt32.toUInt16.toUInt32.toInt32 = y := by
  apply Int32.toInt_inj.mp
  have s0 := c_ishr y (0 : Int32) 0 (by decide)
  have s8 := c_ishr y (8 : Int32) 8 (by decide)
  have a := c_i2b (y >>> ((0 : Int32) &&& 31))
  have b := c_i2b (y >>> ((8 : Int32) &&& 31))
  have a' := c_i2b (y >>> ((0 : Int32) &&& 31)).toInt8.toInt32
  have b' := c_i2b (y >>> ((8 : Int32) &&& 31)).toInt8.toInt32
  have ea : (own_lo y).toInt = ((y >>> ((0 : Int32) &&& 31)).toInt8.toInt32).toInt8.toInt32.toInt := rfl
  have eb : (own_hi y).toInt = ((y >>> ((8 : Int32) &&& 31)).toInt8.toInt32).toInt8.toInt32.toInt := rfl
  have c := c_mask (own_lo y) 255 8 (by decide) (by decide)
  have d := c_mask (own_hi y) 255 8 (by decide) (by decide)
  have f := c_ishl (own_lo y &&& 255) (0 : Int32) 0 (by decide)
  have g := c_ishl (own_hi y &&& 255) (8 : Int32) 8 (by decide)
  have r1 := rng32 ((own_lo y &&& 255) <<< ((0 : Int32) &&& 31))
  have r2 := rng32 ((own_hi y &&& 255) <<< ((8 : Int32) &&& 31))
  have p8 : ((2 ^ 8 : Nat) : Int) = 256 := rfl
  have p0 : ((2 ^ 0 : Nat) : Int) = 1 := rfl
  rw [p8] at s8 c d g
  rw [p0] at s0 f
  have o := c_or' ((own_lo y &&& 255) <<< ((0 : Int32) &&& 31)) ((own_hi y &&& 255) <<< ((8 : Int32) &&& 31)) 8 (by decide) 256 rfl (by omega) (by omega) (by omega)
  have i := c_i2c (((own_lo y &&& 255) <<< ((0 : Int32) &&& 31)) ||| ((own_hi y &&& 255) <<< ((8 : Int32) &&& 31)))
  omega
theorem own_c {y : Int32} (h1 : 0 ≤ y.toInt) (h2 : y.toInt ≤ 65535) : nar .char y = y := by
  apply Int32.toInt_inj.mp
  have d := c_i2c y
  show y.toUInt32.toUInt16.toUInt32.toInt32.toInt = y.toInt
  omega
theorem own_nc {y : Int32} (h1 : 0 ≤ y.toInt) (h2 : y.toInt ≤ 65535) : narrow .char (.int y) = .int y := congrArg Value.int (own_c h1 h2)
/-- a String: n chars, all Latin-1 (P), or UTF-16 -/
def own_Str (Z : State) (h : Heap) (a : Addr) (n m : Int32) (ls lu : List Value) (P : Prop) : Prop :=
  Exa Z h a "java/lang/String" ∧ ((∃ (b : Addr) (kb : ClassId), Fld Z h a "java/lang/String" "coder" "B" (.int 0) ∧ Fld Z h a "java/lang/String" "value" "[B" (.ref b) ∧ Arv Z h b kb .byte n ls (.int 0) ∧ P) ∨
    ∃ (b : Addr) (kb : ClassId), Fld Z h a "java/lang/String" "coder" "B" (.int 1) ∧ Fld Z h a "java/lang/String" "value" "[B" (.ref b) ∧ Arv Z h b kb .byte m lu (.int 0))

theorem own_backS {p : Program} {l : Launch} {e : Env} {R : Room} {s : State} {args : Array Value} {below : List Frame} {Z : State} {a0 : Array Value} {h : Heap} {y : MethodName} {bytes : ByteArray} {maxL : Nat} {ret : Option FieldType} {rm : Room} {len W : Nat} {as' : Array Value} {Q : Option Value → Heap → List Loc → Prop}
    (hM : MetFree l y (head1 [Cond.code y bytes maxL ret] rm) (fun a U => a = as' ∧ Z.Warmed39 U.vm ∧ U.heap = h ∧ IB Z U.vm []) (fun _ _ _ _ _ => True) (fun _ U o U' => ∃ v L, o = .returned v ∧ Q v U'.heap L ∧ ReturnedEndW U o U' L rm.cells rm.slots))
    (hZ : Z.Warmed39 s.vm) (hI : IB Z s.vm []) (wc : (Cond.code y bytes maxL ret).before a0 Z = true) (wz : (Cond.initialized y.cls).before a0 Z = true) (hf : rm.frames + 1 ≤ R.frames) (hl : W + (maxL + 11) + rm.locals ≤ R.locals) :
    BackS l R p e below s args y len W (fun A a => a = as' ∧ A.U.heap = h ∧ A.cells + rm.cells ≤ R.cells ∧ A.slots + rm.slots ≤ R.slots)
      (fun A _ v B => ∃ L, Q v B.U.heap L ∧ B.locs = A.locs ++ L ∧ B.cells = A.cells + rm.cells ∧ B.slots = A.slots + rm.slots) :=
  BackS.of_freeW (bytes := bytes) (maxL := maxL) (ret := ret) (E := fun _ _ o t L k n => k = rm.cells ∧ n = rm.slots ∧ ∃ v, o = .returned v ∧ Q v t.heap L) hM hf hl
    (fun m meth c A a Y hp => have hU : Z.Warmed39 A.U.vm := wtrans hZ Y.warmed
      ⟨by show (Cond.and _ .tt).before a A.U = true; rw [Cond.before_and, mv hU wc]; rfl, mv hU wc, mv hU wz, hp.2.2.1, hp.2.2.2⟩)
    (fun m meth c A a g mk Y hp => ⟨hp.1, wtrans hZ Y.warmed, hp.2.1, by obtain ⟨more, q1, q2⟩ := hI; exact ⟨more, Y.warmed.interned_eq.trans q1, q2⟩⟩) (fun _ _ _ _ _ _ _ _ _ => trivial)
    (fun _ _ _ _ ⟨v, L, h1, h2, h3⟩ => ⟨L, _, _, h3, rfl, rfl, v, h1, h2⟩)
    (fun m meth c A a g mk v t L k n Y hp _ _ ⟨e1, e2, v', e3, e4⟩ => by cases e3; subst e1 e2; exact ⟨L, e4, rfl, rfl, rfl⟩)

theorem own_wS {Z : State} {a0 : Array Value} (hw : ∀ d ∈ tables_1, d.before a0 Z = true) : ∀ d ∈ Bundle.stringAtoms, d.before a0 Z = true := by
  intro d hd
  simp only [Bundle.stringAtoms, List.mem_cons, List.not_mem_nil, or_false] at hd
  rcases hd with rfl | rfl | rfl | rfl | rfl | rfl | rfl
  · exact (tw hw 8 rfl)
  · exact (tw hw 7 rfl)
  · exact (tw hw 21 rfl)
  · exact (tw hw 22 rfl)
  · exact (tw hw 23 rfl)
  · exact (tw hw 24 rfl)
  · exact (tw hw 25 rfl)

def own_good (y : Int32) : Prop := ¬ (y = 32 ∨ y = 9) ∧ ¬ y = 35
theorem own_c5 {v : Int32} (h1 : 0 ≤ v.toInt) (h2 : v.toInt ≤ 4) : v = 0 ∨ v = 1 ∨ v = 2 ∨ v = 3 ∨ v = 4 := by
  have e : ∀ k : Int32, v.toInt = k.toInt → v = k := fun k h => Int32.toInt_inj.mp h
  rcases (show v.toInt = 0 ∨ v.toInt = 1 ∨ v.toInt = 2 ∨ v.toInt = 3 ∨ v.toInt = 4 by omega) with h | h | h | h | h
  · exact Or.inl (e 0 h)
  · exact Or.inr (Or.inl (e 1 h))
  · exact Or.inr (Or.inr (Or.inl (e 2 h)))
  · exact Or.inr (Or.inr (Or.inr (Or.inl (e 3 h))))
  · exact Or.inr (Or.inr (Or.inr (Or.inr (e 4 h))))

theorem d3_0 : decode jdk_42_method_149_code 0 = .ok (.aload_n 0, 1) := by decide +kernel
theorem d3_1 : decode jdk_42_method_149_code 1 = .ok (.invokespecial 1, 3) := by decide +kernel
theorem d3_4 : decode jdk_42_method_149_code 4 = .ok (.iload_n 3, 1) := by decide +kernel
theorem d3_5 : decode jdk_42_method_149_code 5 = .ok (.ifCond .ne 22, 3) := by decide +kernel
theorem d3_8 : decode jdk_42_method_149_code 8 = .ok (.aload_n 0, 1) := by decide +kernel
theorem d3_9 : decode jdk_42_method_149_code 9 = .ok (.ldc 7, 2) := by decide +kernel
theorem d3_11 : decode jdk_42_method_149_code 11 = .ok (.getfield 9, 3) := by decide +kernel
theorem d3_14 : decode jdk_42_method_149_code 14 = .ok (.putfield 9, 3) := by decide +kernel
theorem d3_17 : decode jdk_42_method_149_code 17 = .ok (.aload_n 0, 1) := by decide +kernel
theorem d3_18 : decode jdk_42_method_149_code 18 = .ok (.ldc 7, 2) := by decide +kernel
theorem d3_20 : decode jdk_42_method_149_code 20 = .ok (.getfield 15, 3) := by decide +kernel
theorem d3_23 : decode jdk_42_method_149_code 23 = .ok (.putfield 15, 3) := by decide +kernel
theorem d3_26 : decode jdk_42_method_149_code 26 = .ok (.return_, 1) := by decide +kernel
theorem pn0 : plainName "java/lang/String" = true := by first | (simp [plainName, overriddenIn]; done) | decide +kernel
theorem ef3_rmVc0 (m : MethodId) (x0 : Addr) (x1 : Addr) (x2 : Int32) (x3 : Int32) : entryFrame m #[(.ref x0), (.ref x1), (.int x2), (.int x3), .null] 6 = mkF m 0 #[vr x0, vr x1, vi x2, vi x3, .val .null, .unset] [] := by first | (simp [entryFrame, mkF, argsToLocals, Value.category]; done) | rfl
def QVc0 (Z : State) (a : Addr) (ar : Addr) (cs : Int32) (sf : Value) (h0 : Heap) (n0 : Nat) (v : Option Value) (h : Heap) (L : List Loc) : Prop := v = none ∧ Fr n0 L ∧ Keep h0 h [a] ∧ own_Str Z h a 0 0 [] [] (True)
theorem rmVc0 (l : Launch) (Z : State) (a0 : Array Value) (hw : ∀ d ∈ tables_1, d.before a0 Z = true) (ws : List Jvm.Cond) (a : Addr) (ar : Addr) (cs : Int32) (sf : Value) (h0 : Heap) (n0 : Nat) (Z0 : n0 ≤ h0.size) (hW : own_W Z h0 n0 cs sf) (ga : n0 ≤ a) (Ea : Exa Z h0 a "java/lang/String") (Fc : Fld Z h0 a "java/lang/String" "coder" "B" (.int 0)) (Fv : Fld Z h0 a "java/lang/String" "value" "[B" .null) (hH : Jvm.Lit.constHeld Z "java/lang/String" 7) (hcw : Jvm.Lit.compactW.before a0 Z = true) :
    MetFree l on8 (head1 (Jvm.Cond.code on8 jdk_42_method_149_code 6 none :: ws) orm31) (fun aa UU => aa = #[(.ref a), (.ref ar), (.int 0), (.int 0), .null] ∧ Z.Warmed39 UU.vm ∧ UU.heap = h0 ∧ IB Z UU.vm []) (fun _ _ _ _ _ => True) (fun _ UU oo UU' => ∃ vv LL, oo = .returned vv ∧ QVc0 Z a ar cs sf h0 n0 vv UU'.heap LL ∧ ReturnedEndW UU oo UU' LL orm31.cells orm31.slots) := by
  refine MetFree.of_bodySF (plainFor_of_name pn0) hisR ?_
  intro p e s m args below meth c s₁ Bd hml0 hP hK
  obtain ⟨rfl, hZ, hh, hI⟩ := hP
  have hx := Bd.exec
  have hby := Bd.bytes
  have hlk : meth.locks = false := BodyLoose.notSynchronized Bd
  have hret := Bd.returns
  have hml : c.maxLocals = 6 := hml0
  have hown : s.vm.findClass "java/lang/String" = some m.cls := findClass_of_methodNamed Bd.named
  have hnm := (name_of_methodNamed Bd.named Bd.method).1
  have X0 : Stand p l e orm31 s m #[(.ref a), (.ref ar), (.int 0), (.int 0), .null] below meth c s₁ [] 0 0 := Stand.of_body Bd
  have e0 : s₁.heap = h0 := by rw [← hh, Bd.state]; rfl
  have N0 := Fr.nil n0
  show Dw p e below s (QVc0 Z a ar cs sf h0 n0) orm31.cells orm31.slots (s₁.setTop (entryFrame m #[(.ref a), (.ref ar), (.int 0), (.int 0), .null] 6))
  refine Dw.st (fun _ kk => castTop (ef3_rmVc0 m a ar (0 : Int32) (0 : Int32)) kk) ?_
  show Dw p e below s _ _ _ (s₁.setTop (mkF m 0 #[vr a, vr ar, vi 0, vi 0, .val .null, .unset] []))
  refine Dw.st (fun _ kk => XS.aloadN X0.here hx rfl (hb hby d3_0) rfl rfl (kk)) ?_
  show Dw p e below s _ _ _ (s₁.setTop (mkF m 1 #[vr a, vr ar, vi 0, vi 0, .val .null, .unset] [(.ref a)]))
  obtain ⟨T1, X1, e1, st1⟩ := initO X0 hx hZ hown (tw hw 17 rfl) (tw hw 18 rfl) (tw hw 19 rfl) e0 (g := (mkF m 1 #[vr a, vr ar, vi 0, vi 0, .val .null, .unset] [(.ref a)])) rfl (by rw [hml]; rfl) rfl (hb hby d3_1) (by decide) (W := 0) (by show 2 * 0 + _ ≤ _; exact Nat.le_of_eq rfl) (by decide)
  refine Dw.st st1 ?_
  show Dw p e below s _ _ _ (T1.setTop (mkF m 4 #[vr a, vr ar, vi 0, vi 0, .val .null, .unset] []))
  refine Dw.st (fun _ kk => XS.iloadN X1.here hx rfl (hb hby d3_4) rfl (kk)) ?_
  show Dw p e below s _ _ _ (T1.setTop (mkF m 5 #[vr a, vr ar, vi 0, vi 0, .val .null, .unset] [(.int 0)]))
  have hc5 : (0 : Int32) = (0 : Int32) := by decide
  refine Dw.st (fun _ kk => XS.ifNo X1.here hx rfl (hb hby d3_5) rfl ((if0 _ _).trans (teq hc5).2) (XS.aloadN X1.here hx rfl (hb hby d3_8) rfl rfl (kk))) ?_
  show Dw p e below s _ _ _ (T1.setTop (mkF m 9 #[vr a, vr ar, vi 0, vi 0, .val .null, .unset] [(.ref a)]))
  have wS := own_wS hw
  obtain ⟨lt, T9, h9, k9, lb, kl, X9, e9, E9, hSw, hkw, hZ, hown, El, Flc, Flv, Vl, -, -, -, Ll, st9⟩ := ldcSVL (s := s) (vm0 := s.vm) (k0 := h0.size) (Ts := []) (vs := []) (z := 0) (text := "") X1 hx hZ hown (tw hw 20 rfl) wS e1 ((State.WarmedH.refl s).since _) (Nat.le_refl _) (Fr.nil _) (fun q cq hq => (congrArg (fun z => z[q]?) hh).trans (hW.1.2.2 q cq hq)) hI (by simp) hH hcw ⟨by intro c hc; simp at hc, rfl⟩ (by decide) rfl (g := (mkF m 9 #[vr a, vr ar, vi 0, vi 0, .val .null, .unset] [(.ref a)])) rfl (hb hby d3_9) (n := 0) (by decide) (by decide) (by decide) (by decide)
  have E_a_9 := Ea.ext E9
  have F_a_coder_9 := Fc.ext E9
  have F_a_value_9 := Fv.ext E9
  have K9 := (Keep.refl h0 [a]).ext E9
  have Wo9 := hW.ext E9
  have Z9 : n0 ≤ h9.size := Nat.le_trans Z0 E9.1
  have ne_lt : lt ≠ a := Flv.ne F_a_value_9 (by simp)
  have ne_lb : lb ≠ a := Ne.symm (E_a_9.neArv Vl (tw hw 7 rfl))
  refine Dw.st st9 ?_
  refine Dw.of hSw ?_
  show Dn p e below _ _ _ _ (T9.setTop (mkF m 11 #[vr a, vr ar, vi 0, vi 0, .val .null, .unset] [(.ref lt), (.ref a)]))
  obtain ⟨T11, X11, e11, st11⟩ := getF X9 hx hZ hown (host := "") (Or.inl (tw hw 26 rfl)) Via.refl e9 Flv (g := (mkF m 11 #[vr a, vr ar, vi 0, vi 0, .val .null, .unset] [(.ref lt), (.ref a)])) rfl rfl (hb hby d3_11)
  refine Dn.st st11 ?_
  show Dn p e below _ _ _ _ (T11.setTop (mkF m 14 #[vr a, vr ar, vi 0, vi 0, .val .null, .unset] [(.ref lb), (.ref a)]))
  obtain ⟨T14, h14, X14, e14, W14, st14⟩ := putF X11 hx hZ hown (host := "") (Or.inl (tw hw 26 rfl)) Via.refl e11 F_a_value_9 E_a_9 (Or.inr ⟨(tw hw 22 rfl), rfl, hnm⟩) (tw hw 7 rfl) (ty := (.array .byte)) (by decide) rfl rfl (g := (mkF m 14 #[vr a, vr ar, vi 0, vi 0, .val .null, .unset] [(.ref lb), (.ref a)])) rfl rfl (hb hby d3_14)
  have Wo14 := Wo9.wr W14 ga
  have E_a_14 := E_a_9.wr W14
  have F_a_coder_14 := F_a_coder_9.other W14 (Or.inr (slot_ne (Or.inr (tw hw 23 rfl)) (Or.inr (tw hw 22 rfl)) (by decide) (t := .byte) (t' := (.array .byte)) (by decide) (by decide)))
  have E_lt_14 := El.wr W14
  have F_lt_coder_14 := Flc.other W14 (Or.inl ne_lt)
  have F_lt_value_14 := Flv.other W14 (Or.inl ne_lt)
  have V_lb_14 := Vl.other W14 ne_lb
  have F_a_value_14 := F_a_value_9.same W14
  have K14 := K9.wr W14 (Or.inl (List.mem_of_getElem? (i := 0) rfl))
  have N14 := Fr.snoc X14 N0 ga
  have Z14 : n0 ≤ h14.size := Nat.le_trans Z9 (Keep.of_wr W14).1
  refine Dn.st st14 ?_
  show Dn p e below _ _ _ _ (T14.setTop (mkF m 17 #[vr a, vr ar, vi 0, vi 0, .val .null, .unset] []))
  refine Dn.st (fun _ kk => XS.aloadN X14.here hx rfl (hb hby d3_17) rfl rfl (kk)) ?_
  show Dn p e below _ _ _ _ (T14.setTop (mkF m 18 #[vr a, vr ar, vi 0, vi 0, .val .null, .unset] [(.ref a)]))
  refine Dn.st (ldcAgain (vm0 := T9.vm) (text := "") X14 hx hZ hown (tw hw 20 rfl) Ll (g := (mkF m 18 #[vr a, vr ar, vi 0, vi 0, .val .null, .unset] [(.ref a)])) rfl (hb hby d3_18)) ?_
  show Dn p e below _ _ _ _ (T14.setTop (mkF m 20 #[vr a, vr ar, vi 0, vi 0, .val .null, .unset] [(.ref lt), (.ref a)]))
  obtain ⟨T20, X20, e20, st20⟩ := getF X14 hx hZ hown (host := "") (Or.inl (tw hw 27 rfl)) Via.refl e14 F_lt_coder_14 (g := (mkF m 20 #[vr a, vr ar, vi 0, vi 0, .val .null, .unset] [(.ref lt), (.ref a)])) rfl rfl (hb hby d3_20)
  refine Dn.st st20 ?_
  show Dn p e below _ _ _ _ (T20.setTop (mkF m 23 #[vr a, vr ar, vi 0, vi 0, .val .null, .unset] [(.int 0), (.ref a)]))
  obtain ⟨T23, h23, X23, e23, W23, st23⟩ := putF X20 hx hZ hown (host := "") (Or.inl (tw hw 27 rfl)) Via.refl e20 F_a_coder_14 E_a_14 (Or.inr ⟨(tw hw 23 rfl), rfl, hnm⟩) (tw hw 7 rfl) (ty := .byte) (by decide) rfl rfl (g := (mkF m 23 #[vr a, vr ar, vi 0, vi 0, .val .null, .unset] [(.int 0), (.ref a)])) rfl rfl (hb hby d3_23)
  have Wo23 := Wo14.wr W23 ga
  have E_a_23 := E_a_14.wr W23
  have F_a_value_23 := F_a_value_14.other W23 (Or.inr (slot_ne (Or.inr (tw hw 22 rfl)) (Or.inr (tw hw 23 rfl)) (by decide) (t := (.array .byte)) (t' := .byte) (by decide) (by decide)))
  have E_lt_23 := E_lt_14.wr W23
  have F_lt_coder_23 := F_lt_coder_14.other W23 (Or.inl ne_lt)
  have F_lt_value_23 := F_lt_value_14.other W23 (Or.inl ne_lt)
  have V_lb_23 := V_lb_14.other W23 ne_lb
  have F_a_coder_23 := F_a_coder_14.same W23
  have K23 := K14.wr W23 (Or.inl (List.mem_of_getElem? (i := 0) rfl))
  have N23 := Fr.snoc X23 N14 ga
  have Z23 : n0 ≤ h23.size := Nat.le_trans Z14 (Keep.of_wr W23).1
  refine Dn.st st23 ?_
  show Dn p e below _ _ _ _ (T23.setTop (mkF m 26 #[vr a, vr ar, vi 0, vi 0, .val .null, .unset] []))
  exact Dn.ret0 X23 hlk hx hret (hb hby d3_26) (by rw [e23]; exact ⟨⟨rfl, N23, K23, E_a_23, Or.inl ⟨lb, kl, F_a_coder_23, F_a_value_23, V_lb_23, trivial⟩⟩, Nat.le_trans hkw (Nat.le_trans (Keep.of_wr W14).1 (Keep.of_wr W23).1)⟩) (by decide) (by decide)

theorem d2_0 : decode jdk_42_method_3_code 0 = .ok (.aload_n 0, 1) := by decide +kernel
theorem d2_1 : decode jdk_42_method_3_code 1 = .ok (.aload_n 1, 1) := by decide +kernel
theorem d2_2 : decode jdk_42_method_3_code 2 = .ok (.iconst 0, 1) := by decide +kernel
theorem d2_3 : decode jdk_42_method_3_code 3 = .ok (.aload_n 1, 1) := by decide +kernel
theorem d2_4 : decode jdk_42_method_3_code 4 = .ok (.arraylength, 1) := by decide +kernel
theorem d2_5 : decode jdk_42_method_3_code 5 = .ok (.aconst_null, 1) := by decide +kernel
theorem d2_6 : decode jdk_42_method_3_code 6 = .ok (.invokespecial 27, 3) := by decide +kernel
theorem d2_9 : decode jdk_42_method_3_code 9 = .ok (.return_, 1) := by decide +kernel
theorem pd0 : parseMethodDescriptor "([CIILjava/lang/Void;)V" = some ⟨[(.array .char), .int, .int, (.object "java/lang/Void")], none⟩ := by decide +kernel
theorem ef2_rmSc0 (m : MethodId) (x0 : Addr) (x1 : Addr) : entryFrame m #[(.ref x0), (.ref x1)] 2 = mkF m 0 #[vr x0, vr x1] [] := by first | (simp [entryFrame, mkF, argsToLocals, Value.category]; done) | rfl
def QSc0 (Z : State) (a : Addr) (ar : Addr) (cs : Int32) (sf : Value) (ka : ClassId) (h0 : Heap) (n0 : Nat) (v : Option Value) (h : Heap) (L : List Loc) : Prop := v = none ∧ Fr n0 L ∧ Keep h0 h [a] ∧ own_Str Z h a 0 0 [] [] (True)
theorem rmSc0 (l : Launch) (Z : State) (a0 : Array Value) (hw : ∀ d ∈ tables_1, d.before a0 Z = true) (ws : List Jvm.Cond) (a : Addr) (ar : Addr) (cs : Int32) (sf : Value) (ka : ClassId) (h0 : Heap) (n0 : Nat) (Z0 : n0 ≤ h0.size) (hW : own_W Z h0 n0 cs sf) (ga : n0 ≤ a) (Ea : Exa Z h0 a "java/lang/String") (Fc : Fld Z h0 a "java/lang/String" "coder" "B" (.int 0)) (Fv : Fld Z h0 a "java/lang/String" "value" "[B" .null) (hH : Jvm.Lit.constHeld Z "java/lang/String" 7) (hcw : Jvm.Lit.compactW.before a0 Z = true) (Vr : Arv Z h0 ar ka .char 0 [] (.int 0)) :
    MetFree l on9 (head1 (Jvm.Cond.code on9 jdk_42_method_3_code 2 none :: ws) orm30) (fun aa UU => aa = #[(.ref a), (.ref ar)] ∧ Z.Warmed39 UU.vm ∧ UU.heap = h0 ∧ IB Z UU.vm []) (fun _ _ _ _ _ => True) (fun _ UU oo UU' => ∃ vv LL, oo = .returned vv ∧ QSc0 Z a ar cs sf ka h0 n0 vv UU'.heap LL ∧ ReturnedEndW UU oo UU' LL orm30.cells orm30.slots) := by
  refine MetFree.of_bodySF (plainFor_of_name pn0) hisR ?_
  intro p e s m args below meth c s₁ Bd hml0 hP hK
  obtain ⟨rfl, hZ, hh, hI⟩ := hP
  have hx := Bd.exec
  have hby := Bd.bytes
  have hlk : meth.locks = false := BodyLoose.notSynchronized Bd
  have hret := Bd.returns
  have hml : c.maxLocals = 2 := hml0
  have hown : s.vm.findClass "java/lang/String" = some m.cls := findClass_of_methodNamed Bd.named
  have X0 : Stand p l e orm30 s m #[(.ref a), (.ref ar)] below meth c s₁ [] 0 0 := Stand.of_body Bd
  have e0 : s₁.heap = h0 := by rw [← hh, Bd.state]; rfl
  have N0 := Fr.nil n0
  show Dw p e below s (QSc0 Z a ar cs sf ka h0 n0) orm30.cells orm30.slots (s₁.setTop (entryFrame m #[(.ref a), (.ref ar)] 2))
  refine Dw.st (fun _ kk => castTop (ef2_rmSc0 m a ar) kk) ?_
  show Dw p e below s _ _ _ (s₁.setTop (mkF m 0 #[vr a, vr ar] []))
  refine Dw.st (fun _ kk => XS.aloadN X0.here hx rfl (hb hby d2_0) rfl rfl (XS.aloadN X0.here hx rfl (hb hby d2_1) rfl rfl (XS.iconst X0.here hx rfl (hb hby d2_2) (XS.aloadN X0.here hx rfl (hb hby d2_3) rfl rfl (kk))))) ?_
  show Dw p e below s _ _ _ (s₁.setTop (mkF m 4 #[vr a, vr ar] [(.ref ar), (.int 0), (.ref ar), (.ref a)]))
  have Vc_ar_4 := Vr
  obtain ⟨cl_ar_4, Ar_ar_4, q_ar_4, S_ar_4, N_ar_4, H_ar_4, G_ar_4⟩ := Vc_ar_4
  refine Dw.st (fun _ kk => X0.arraylength hx (by rw [e0]; exact Ar_ar_4.1) (State.isArrayOf_alike hZ.alike Ar_ar_4.2.1) (g := (mkF m 4 #[vr a, vr ar] [(.ref ar), (.int 0), (.ref ar), (.ref a)])) rfl rfl (hb hby d2_4) _ (kk)) ?_
  show Dw p e below s _ _ _ (s₁.setTop (mkF m 5 #[vr a, vr ar] [(.int cl_ar_4.slots.size.toInt32), (.int 0), (.ref ar), (.ref a)]))
  rw [len_of S_ar_4 N_ar_4]
  show Dw p e below s _ _ _ (s₁.setTop (mkF m 5 #[vr a, vr ar] [(.int 0), (.int 0), (.ref ar), (.ref a)]))
  refine Dw.st (fun _ kk => XS.aconstNull X0.here hx rfl (hb hby d2_5) (kk)) ?_
  show Dw p e below s _ _ _ (s₁.setTop (mkF m 6 #[vr a, vr ar] [.null, (.int 0), (.int 0), (.ref ar), (.ref a)]))
  obtain ⟨_, _, ⟨T6, L6, k6, n6⟩, -, X6, hSw, hgr6, ⟨Lc6, hQ6, l6, y6, z6⟩, st6⟩ := X0.specialBackS hx (y := on8) rfl hown (mvT hZ (tw hw 13 rfl)) (mvT hZ (tw hw 14 rfl)) (mvT hZ (tw hw 16 rfl)) (by decide) (own_backS (W := 0) (rmVc0 l Z a0 hw [] a ar cs sf  h0 n0 Z0 hW ga Ea Fc Fv hH hcw) hZ hI (tw hw 16 rfl) (tw hw 8 rfl) (by decide) (by decide)) (g := (mkF m 6 #[vr a, vr ar] [.null, (.int 0), (.int 0), (.ref ar), (.ref a)])) rfl (by rw [hml]; rfl) (Steps.refl _) (a := a) (argsL := [(.ref ar), (.int 0), (.int 0), .null]) (rest := []) (lenOf pd0 rfl) rfl (by show 2 * 0 + _ ≤ _; exact Nat.le_of_eq rfl) (hb hby d2_6) (fun _ _ => ⟨rfl, e0, (by decide : 0 + 2 ≤ _), (by decide : 0 + 4 ≤ _)⟩)
  dsimp only [Pt.U, Pt.locs, Pt.cells, Pt.slots] at X6 l6 y6 z6 st6 hQ6 hSw hgr6
  subst l6 y6 z6
  obtain ⟨rfl, Nq6, K6, S6⟩ := hQ6
  have N6 := Fr.app N0 Nq6
  have hZ := State.Warmed39.trans (t := s) hZ hSw.1
  have hown := (hSw.1.alike.findClass _ _).trans hown
  refine Dw.tr st6 ?_
  refine Dw.of hSw ?_
  show Dn p e below _ _ _ _ (T6.setTop (mkF m 9 #[vr a, vr ar] []))
  exact Dn.ret0 X6 hlk hx hret (hb hby d2_9) ⟨⟨rfl, N6, K6, S6⟩, Nat.le_refl _⟩ (by decide) (by decide)

theorem d17_0 : decode jdk_41_method_11_code 0 = .ok (.iload_n 0, 1) := by decide +kernel
theorem d17_1 : decode jdk_41_method_11_code 1 = .ok (.ifCond .lt 8, 3) := by decide +kernel
theorem d17_4 : decode jdk_41_method_11_code 4 = .ok (.iload_n 0, 1) := by decide +kernel
theorem d17_5 : decode jdk_41_method_11_code 5 = .ok (.iload_n 1, 1) := by decide +kernel
theorem d17_6 : decode jdk_41_method_11_code 6 = .ok (.if_icmp .lt 10, 3) := by decide +kernel
theorem d17_16 : decode jdk_41_method_11_code 16 = .ok (.iload_n 0, 1) := by decide +kernel
theorem d17_17 : decode jdk_41_method_11_code 17 = .ok (.ireturn, 1) := by decide +kernel
theorem pn1 : plainName "jdk/internal/util/Preconditions" = true := by first | (simp [plainName, overriddenIn]; done) | decide +kernel
theorem ef17_rmPc (m : MethodId) (x0 : Int32) (x1 : Int32) (x2 : Addr) : entryFrame m #[(.int x0), (.int x1), (.ref x2)] 3 = mkF m 0 #[vi x0, vi x1, vr x2] [] := by first | (simp [entryFrame, mkF, argsToLocals, Value.category]; done) | rfl
def QPc (Z : State) (ix : Int32) (nx : Int32) (fo : Addr) (h0 : Heap) (n0 : Nat) (v : Option Value) (h : Heap) (L : List Loc) : Prop := v = some (.int ix) ∧ Fr n0 L ∧ h = h0
theorem rmPc (l : Launch) (Z : State) (a0 : Array Value) (hw : ∀ d ∈ tables_1, d.before a0 Z = true) (ws : List Jvm.Cond) (ix : Int32) (nx : Int32) (fo : Addr) (h0 : Heap) (n0 : Nat) (Z0 : n0 ≤ h0.size) (hx1 : ¬ ix < 0) (hx2 : ix < nx) :
    own_Met l on22 (Jvm.Cond.code on22 jdk_41_method_11_code 3 (some .int) :: ws) orm25 #[(.int ix), (.int nx), (.ref fo)] Z h0 (QPc Z ix nx fo h0 n0) := by
  refine MetFree.of_bodySF (plainFor_of_name pn1) hisR ?_
  intro p e s m args below meth c s₁ Bd hml0 hP hK
  obtain ⟨rfl, hZ, hh⟩ := hP
  have hx := Bd.exec
  have hby := Bd.bytes
  have hlk : meth.locks = false := BodyLoose.notSynchronized Bd
  have hret := Bd.returns
  have hml : c.maxLocals = 3 := hml0
  have hown : s.vm.findClass "jdk/internal/util/Preconditions" = some m.cls := findClass_of_methodNamed Bd.named
  have X0 : Stand p l e orm25 s m #[(.int ix), (.int nx), (.ref fo)] below meth c s₁ [] 0 0 := Stand.of_body Bd
  have e0 : s₁.heap = h0 := by rw [← hh, Bd.state]; rfl
  have N0 := Fr.nil n0
  have r_ix := rng32 ix
  have r_nx := rng32 nx
  show Dn p e below s (QPc Z ix nx fo h0 n0) orm25.cells orm25.slots (s₁.setTop (entryFrame m #[(.int ix), (.int nx), (.ref fo)] 3))
  refine Dn.st (fun _ kk => castTop (ef17_rmPc m ix nx fo) kk) ?_
  show Dn p e below s _ _ _ (s₁.setTop (mkF m 0 #[vi ix, vi nx, vr fo] []))
  refine Dn.st (fun _ kk => XS.iloadN X0.here hx rfl (hb hby d17_0) rfl (kk)) ?_
  show Dn p e below s _ _ _ (s₁.setTop (mkF m 1 #[vi ix, vi nx, vr fo] [(.int ix)]))
  have hc1 : ¬ (ix < (0 : Int32)) := hx1
  refine Dn.st (fun _ kk => XS.ifNo X0.here hx rfl (hb hby d17_1) rfl ((if0 _ _).trans (flt hc1).1) (XS.iloadN X0.here hx rfl (hb hby d17_4) rfl (XS.iloadN X0.here hx rfl (hb hby d17_5) rfl (kk)))) ?_
  show Dn p e below s _ _ _ (s₁.setTop (mkF m 6 #[vi ix, vi nx, vr fo] [(.int nx), (.int ix)]))
  have hc6 : ix < nx := hx2
  refine Dn.st (fun _ kk => XS.icmpYes X0.here hx rfl (pc0 := 6) (pc' := 16) rfl (hb hby d17_6) rfl (tlt hc6).1 (by decide) (by decide) (XS.iloadN X0.here hx rfl (hb hby d17_16) rfl (kk))) ?_
  show Dn p e below s _ _ _ (s₁.setTop (mkF m 17 #[vi ix, vi nx, vr fo] [(.int ix)]))
  exact Dn.ret X0 hlk hx hret rfl (Or.inl ⟨rfl, Or.inl rfl, _, rfl⟩) (hb hby d17_17) (by rw [e0]; exact ⟨rfl, N0, rfl⟩) (by decide) (by decide)

theorem ef17_rmPcN (m : MethodId) (x0 : Int32) (x1 : Int32) : entryFrame m #[(.int x0), (.int x1), .null] 3 = mkF m 0 #[vi x0, vi x1, .val .null] [] := by first | (simp [entryFrame, mkF, argsToLocals, Value.category]; done) | rfl
def QPcN (Z : State) (ix : Int32) (nx : Int32) (h0 : Heap) (n0 : Nat) (v : Option Value) (h : Heap) (L : List Loc) : Prop := v = some (.int ix) ∧ Fr n0 L ∧ h = h0
theorem rmPcN (l : Launch) (Z : State) (a0 : Array Value) (hw : ∀ d ∈ tables_1, d.before a0 Z = true) (ws : List Jvm.Cond) (ix : Int32) (nx : Int32) (h0 : Heap) (n0 : Nat) (Z0 : n0 ≤ h0.size) (hx1 : ¬ ix < 0) (hx2 : ix < nx) :
    own_Met l on22 (Jvm.Cond.code on22 jdk_41_method_11_code 3 (some .int) :: ws) orm25 #[(.int ix), (.int nx), .null] Z h0 (QPcN Z ix nx h0 n0) := by
  refine MetFree.of_bodySF (plainFor_of_name pn1) hisR ?_
  intro p e s m args below meth c s₁ Bd hml0 hP hK
  obtain ⟨rfl, hZ, hh⟩ := hP
  have hx := Bd.exec
  have hby := Bd.bytes
  have hlk : meth.locks = false := BodyLoose.notSynchronized Bd
  have hret := Bd.returns
  have hml : c.maxLocals = 3 := hml0
  have hown : s.vm.findClass "jdk/internal/util/Preconditions" = some m.cls := findClass_of_methodNamed Bd.named
  have X0 : Stand p l e orm25 s m #[(.int ix), (.int nx), .null] below meth c s₁ [] 0 0 := Stand.of_body Bd
  have e0 : s₁.heap = h0 := by rw [← hh, Bd.state]; rfl
  have N0 := Fr.nil n0
  have r_ix := rng32 ix
  have r_nx := rng32 nx
  show Dn p e below s (QPcN Z ix nx h0 n0) orm25.cells orm25.slots (s₁.setTop (entryFrame m #[(.int ix), (.int nx), .null] 3))
  refine Dn.st (fun _ kk => castTop (ef17_rmPcN m ix nx) kk) ?_
  show Dn p e below s _ _ _ (s₁.setTop (mkF m 0 #[vi ix, vi nx, .val .null] []))
  refine Dn.st (fun _ kk => XS.iloadN X0.here hx rfl (hb hby d17_0) rfl (kk)) ?_
  show Dn p e below s _ _ _ (s₁.setTop (mkF m 1 #[vi ix, vi nx, .val .null] [(.int ix)]))
  have hc1 : ¬ (ix < (0 : Int32)) := hx1
  refine Dn.st (fun _ kk => XS.ifNo X0.here hx rfl (hb hby d17_1) rfl ((if0 _ _).trans (flt hc1).1) (XS.iloadN X0.here hx rfl (hb hby d17_4) rfl (XS.iloadN X0.here hx rfl (hb hby d17_5) rfl (kk)))) ?_
  show Dn p e below s _ _ _ (s₁.setTop (mkF m 6 #[vi ix, vi nx, .val .null] [(.int nx), (.int ix)]))
  have hc6 : ix < nx := hx2
  refine Dn.st (fun _ kk => XS.icmpYes X0.here hx rfl (pc0 := 6) (pc' := 16) rfl (hb hby d17_6) rfl (tlt hc6).1 (by decide) (by decide) (XS.iloadN X0.here hx rfl (hb hby d17_16) rfl (kk))) ?_
  show Dn p e below s _ _ _ (s₁.setTop (mkF m 17 #[vi ix, vi nx, .val .null] [(.int ix)]))
  exact Dn.ret X0 hlk hx hret rfl (Or.inl ⟨rfl, Or.inl rfl, _, rfl⟩) (hb hby d17_17) (by rw [e0]; exact ⟨rfl, N0, rfl⟩) (by decide) (by decide)

theorem d16_0 : decode jdk_42_method_155_code 0 = .ok (.iload_n 0, 1) := by decide +kernel
theorem d16_1 : decode jdk_42_method_155_code 1 = .ok (.iload_n 1, 1) := by decide +kernel
theorem d16_2 : decode jdk_42_method_155_code 2 = .ok (.getstatic 1053, 3) := by decide +kernel
theorem d16_5 : decode jdk_42_method_155_code 5 = .ok (.invokestatic 1059, 3) := by decide +kernel
theorem d16_8 : decode jdk_42_method_155_code 8 = .ok (.pop, 1) := by decide +kernel
theorem d16_9 : decode jdk_42_method_155_code 9 = .ok (.return_, 1) := by decide +kernel
theorem pd1 : parseMethodDescriptor "(IILjava/util/function/BiFunction;)I" = some ⟨[.int, .int, (.object "java/util/function/BiFunction")], some .int⟩ := by decide +kernel
theorem ef16_rmCi (m : MethodId) (x0 : Int32) (x1 : Int32) : entryFrame m #[(.int x0), (.int x1)] 2 = mkF m 0 #[vi x0, vi x1] [] := by first | (simp [entryFrame, mkF, argsToLocals, Value.category]; done) | rfl
def QCi (Z : State) (ix : Int32) (nx : Int32) (cs : Int32) (sf : Value) (h0 : Heap) (n0 : Nat) (v : Option Value) (h : Heap) (L : List Loc) : Prop := v = none ∧ Fr n0 L ∧ h = h0
theorem rmCi (l : Launch) (Z : State) (a0 : Array Value) (hw : ∀ d ∈ tables_1, d.before a0 Z = true) (ws : List Jvm.Cond) (ix : Int32) (nx : Int32) (cs : Int32) (sf : Value) (h0 : Heap) (n0 : Nat) (Z0 : n0 ≤ h0.size) (hW : own_W Z h0 n0 cs sf) (hx1 : ¬ ix < 0) (hx2 : ix < nx) :
    own_Met l on20 (Jvm.Cond.code on20 jdk_42_method_155_code 2 none :: ws) orm54 #[(.int ix), (.int nx)] Z h0 (QCi Z ix nx cs sf h0 n0) := by
  refine MetFree.of_bodySF (plainFor_of_name pn0) hisR ?_
  intro p e s m args below meth c s₁ Bd hml0 hP hK
  obtain ⟨rfl, hZ, hh⟩ := hP
  have hx := Bd.exec
  have hby := Bd.bytes
  have hlk : meth.locks = false := BodyLoose.notSynchronized Bd
  have hret := Bd.returns
  have hml : c.maxLocals = 2 := hml0
  have hown : s.vm.findClass "java/lang/String" = some m.cls := findClass_of_methodNamed Bd.named
  have X0 : Stand p l e orm54 s m #[(.int ix), (.int nx)] below meth c s₁ [] 0 0 := Stand.of_body Bd
  have e0 : s₁.heap = h0 := by rw [← hh, Bd.state]; rfl
  have N0 := Fr.nil n0
  have r_ix := rng32 ix
  have r_nx := rng32 nx
  show Dn p e below s (QCi Z ix nx cs sf h0 n0) orm54.cells orm54.slots (s₁.setTop (entryFrame m #[(.int ix), (.int nx)] 2))
  refine Dn.st (fun _ kk => castTop (ef16_rmCi m ix nx) kk) ?_
  show Dn p e below s _ _ _ (s₁.setTop (mkF m 0 #[vi ix, vi nx] []))
  rcases ref_cases hW.isr with rfl | ⟨fo, rfl⟩
  · show Dn p e below s _ _ _ (s₁.setTop (mkF m 0 #[vi ix, vi nx] []))
    refine Dn.st (fun _ kk => XS.iloadN X0.here hx rfl (hb hby d16_0) rfl (XS.iloadN X0.here hx rfl (hb hby d16_1) rfl (kk))) ?_
    show Dn p e below s _ _ _ (s₁.setTop (mkF m 2 #[vi ix, vi nx] [(.int nx), (.int ix)]))
    obtain ⟨T2, X2, e2, st2⟩ := getS2 X0 hx hZ hown (host := "") (Or.inl (tw hw 78 rfl)) Via.refl e0 hW.sft (g := (mkF m 2 #[vi ix, vi nx] [(.int nx), (.int ix)])) rfl (hb hby d16_2)
    refine Dn.st st2 ?_
    show Dn p e below s _ _ _ (T2.setTop (mkF m 5 #[vi ix, vi nx] [.null, (.int nx), (.int ix)]))
    obtain ⟨_, _, ⟨T5, L5, k5, n5⟩, -, X5, ⟨Lc5, hQ5, l5, y5, z5⟩, st5⟩ := Jvm.LawKit.callS X2 hx (y := on22) hown (mvT hZ (tw hw 80 rfl)) (mvT hZ (tw hw 81 rfl)) (mvT hZ (tw hw 79 rfl)) (mvT hZ (tw hw 82 rfl)) (by decide) (backOf (W := 0) (rmPcN l Z a0 hw [] ix nx  h0 n0 Z0 hx1 hx2) hZ (tw hw 82 rfl) (tw hw 79 rfl) (by decide) (by decide)) (g := (mkF m 5 #[vi ix, vi nx] [.null, (.int nx), (.int ix)])) rfl (by rw [hml]; rfl) (argsL := [(.int ix), (.int nx), .null]) (rest := []) (lenOf pd1 rfl) rfl (by show 2 * 0 + _ ≤ _; exact Nat.le_of_eq rfl) (hb hby d16_5) (fun _ _ => ⟨rfl, e2, (by decide : 0 + 0 ≤ _), (by decide : 0 + 0 ≤ _)⟩)
    dsimp only [Pt.U, Pt.locs, Pt.cells, Pt.slots] at X5 l5 y5 z5 st5 hQ5
    subst l5 y5 z5
    obtain ⟨rfl, Nq5, hh5⟩ := hQ5
    have N5 := Fr.app N0 Nq5
    refine Dn.st st5 ?_
    show Dn p e below s _ _ _ (T5.setTop (mkF m 8 #[vi ix, vi nx] [(.int ix)]))
    refine Dn.st (fun _ kk => XS.pop X5.here hx rfl (hb hby d16_8) rfl rfl (kk)) ?_
    show Dn p e below s _ _ _ (T5.setTop (mkF m 9 #[vi ix, vi nx] []))
    exact Dn.ret0 X5 hlk hx hret (hb hby d16_9) (by rw [hh5]; exact ⟨rfl, N5, rfl⟩) (by decide) (by decide)
  · show Dn p e below s _ _ _ (s₁.setTop (mkF m 0 #[vi ix, vi nx] []))
    refine Dn.st (fun _ kk => XS.iloadN X0.here hx rfl (hb hby d16_0) rfl (XS.iloadN X0.here hx rfl (hb hby d16_1) rfl (kk))) ?_
    show Dn p e below s _ _ _ (s₁.setTop (mkF m 2 #[vi ix, vi nx] [(.int nx), (.int ix)]))
    obtain ⟨T2, X2, e2, st2⟩ := getS2 X0 hx hZ hown (host := "") (Or.inl (tw hw 78 rfl)) Via.refl e0 hW.sft (g := (mkF m 2 #[vi ix, vi nx] [(.int nx), (.int ix)])) rfl (hb hby d16_2)
    refine Dn.st st2 ?_
    show Dn p e below s _ _ _ (T2.setTop (mkF m 5 #[vi ix, vi nx] [(.ref fo), (.int nx), (.int ix)]))
    obtain ⟨_, _, ⟨T5, L5, k5, n5⟩, -, X5, ⟨Lc5, hQ5, l5, y5, z5⟩, st5⟩ := Jvm.LawKit.callS X2 hx (y := on22) hown (mvT hZ (tw hw 80 rfl)) (mvT hZ (tw hw 81 rfl)) (mvT hZ (tw hw 79 rfl)) (mvT hZ (tw hw 82 rfl)) (by decide) (backOf (W := 0) (rmPc l Z a0 hw [] ix nx fo  h0 n0 Z0 hx1 hx2) hZ (tw hw 82 rfl) (tw hw 79 rfl) (by decide) (by decide)) (g := (mkF m 5 #[vi ix, vi nx] [(.ref fo), (.int nx), (.int ix)])) rfl (by rw [hml]; rfl) (argsL := [(.int ix), (.int nx), (.ref fo)]) (rest := []) (lenOf pd1 rfl) rfl (by show 2 * 0 + _ ≤ _; exact Nat.le_of_eq rfl) (hb hby d16_5) (fun _ _ => ⟨rfl, e2, (by decide : 0 + 0 ≤ _), (by decide : 0 + 0 ≤ _)⟩)
    dsimp only [Pt.U, Pt.locs, Pt.cells, Pt.slots] at X5 l5 y5 z5 st5 hQ5
    subst l5 y5 z5
    obtain ⟨rfl, Nq5, hh5⟩ := hQ5
    have N5 := Fr.app N0 Nq5
    refine Dn.st st5 ?_
    show Dn p e below s _ _ _ (T5.setTop (mkF m 8 #[vi ix, vi nx] [(.int ix)]))
    refine Dn.st (fun _ kk => XS.pop X5.here hx rfl (hb hby d16_8) rfl rfl (kk)) ?_
    show Dn p e below s _ _ _ (T5.setTop (mkF m 9 #[vi ix, vi nx] []))
    exact Dn.ret0 X5 hlk hx hret (hb hby d16_9) (by rw [hh5]; exact ⟨rfl, N5, rfl⟩) (by decide) (by decide)

theorem d14_0 : decode jdk_42_method_154_code 0 = .ok (.getstatic 38, 3) := by decide +kernel
theorem d14_3 : decode jdk_42_method_154_code 3 = .ok (.ifCond .eq 14, 3) := by decide +kernel
theorem d14_6 : decode jdk_42_method_154_code 6 = .ok (.aload_n 0, 1) := by decide +kernel
theorem d14_7 : decode jdk_42_method_154_code 7 = .ok (.getfield 15, 3) := by decide +kernel
theorem d14_10 : decode jdk_42_method_154_code 10 = .ok (.ifCond .ne 7, 3) := by decide +kernel
theorem d14_13 : decode jdk_42_method_154_code 13 = .ok (.iconst 1, 1) := by decide +kernel
theorem d14_14 : decode jdk_42_method_154_code 14 = .ok (.goto 4, 3) := by decide +kernel
theorem d14_18 : decode jdk_42_method_154_code 18 = .ok (.ireturn, 1) := by decide +kernel
theorem ef14_rmIl0 (m : MethodId) (x0 : Addr) : entryFrame m #[(.ref x0)] 1 = mkF m 0 #[vr x0] [] := by first | (simp [entryFrame, mkF, argsToLocals, Value.category]; done) | rfl
def QIl0 (Z : State) (a : Addr) (cs : Int32) (sf : Value) (h0 : Heap) (n0 : Nat) (v : Option Value) (h : Heap) (L : List Loc) : Prop := v = some (.int 1) ∧ Fr n0 L ∧ h = h0
theorem rmIl0 (l : Launch) (Z : State) (a0 : Array Value) (hw : ∀ d ∈ tables_1, d.before a0 Z = true) (ws : List Jvm.Cond) (a : Addr) (cs : Int32) (sf : Value) (h0 : Heap) (n0 : Nat) (Z0 : n0 ≤ h0.size) (hW : own_W Z h0 n0 cs sf) (Fc : Fld Z h0 a "java/lang/String" "coder" "B" (.int 0)) :
    own_Met l on6 (Jvm.Cond.code on6 jdk_42_method_154_code 1 (some .boolean) :: ws) orm25 #[(.ref a)] Z h0 (QIl0 Z a cs sf h0 n0) := by
  refine MetFree.of_bodySF (plainFor_of_name pn0) hisR ?_
  intro p e s m args below meth c s₁ Bd hml0 hP hK
  obtain ⟨rfl, hZ, hh⟩ := hP
  have hx := Bd.exec
  have hby := Bd.bytes
  have hlk : meth.locks = false := BodyLoose.notSynchronized Bd
  have hret := Bd.returns
  have hml : c.maxLocals = 1 := hml0
  have hown : s.vm.findClass "java/lang/String" = some m.cls := findClass_of_methodNamed Bd.named
  have X0 : Stand p l e orm25 s m #[(.ref a)] below meth c s₁ [] 0 0 := Stand.of_body Bd
  have e0 : s₁.heap = h0 := by rw [← hh, Bd.state]; rfl
  have N0 := Fr.nil n0
  show Dn p e below s (QIl0 Z a cs sf h0 n0) orm25.cells orm25.slots (s₁.setTop (entryFrame m #[(.ref a)] 1))
  refine Dn.st (fun _ kk => castTop (ef14_rmIl0 m a) kk) ?_
  show Dn p e below s _ _ _ (s₁.setTop (mkF m 0 #[vr a] []))
  obtain ⟨T0z, X0z, e0z, st0z⟩ := getS2 X0 hx hZ hown (host := "") (Or.inl (tw hw 47 rfl)) Via.refl e0 hW.cst (g := (mkF m 0 #[vr a] [])) rfl (hb hby d14_0)
  refine Dn.st st0z ?_
  show Dn p e below s _ _ _ (T0z.setTop (mkF m 3 #[vr a] [(.int cs)]))
  have hc3 : ¬ (cs = (0 : Int32)) := hW.cne
  refine Dn.st (fun _ kk => XS.ifNo X0z.here hx rfl (hb hby d14_3) rfl ((if0 _ _).trans (feq hc3).1) (XS.aloadN X0z.here hx rfl (hb hby d14_6) rfl rfl (kk))) ?_
  show Dn p e below s _ _ _ (T0z.setTop (mkF m 7 #[vr a] [(.ref a)]))
  obtain ⟨T7, X7, e7, st7⟩ := getF X0z hx hZ hown (host := "") (Or.inl (tw hw 27 rfl)) Via.refl e0z Fc (g := (mkF m 7 #[vr a] [(.ref a)])) rfl rfl (hb hby d14_7)
  refine Dn.st st7 ?_
  show Dn p e below s _ _ _ (T7.setTop (mkF m 10 #[vr a] [(.int 0)]))
  have hc10 : (0 : Int32) = (0 : Int32) := by decide
  refine Dn.st (fun _ kk => XS.ifNo X7.here hx rfl (hb hby d14_10) rfl ((if0 _ _).trans (teq hc10).2) (XS.iconst X7.here hx rfl (hb hby d14_13) (XS.goto X7.here hx rfl (pc0 := 14) (pc' := 18) rfl (hb hby d14_14) (by decide) (by decide) (kk)))) ?_
  show Dn p e below s _ _ _ (T7.setTop (mkF m 18 #[vr a] [(.int 1)]))
  exact Dn.ret X7 hlk hx hret rfl (Or.inl ⟨rfl, Or.inr (Or.inl rfl), _, rfl⟩) (hb hby d14_18) (by rw [e7]; exact ⟨rfl, N0, rfl⟩) (by decide) (by decide)

theorem d8_0 : decode jdk_42_method_152_code 0 = .ok (.getstatic 38, 3) := by decide +kernel
theorem d8_3 : decode jdk_42_method_152_code 3 = .ok (.ifCond .eq 10, 3) := by decide +kernel
theorem d8_6 : decode jdk_42_method_152_code 6 = .ok (.aload_n 0, 1) := by decide +kernel
theorem d8_7 : decode jdk_42_method_152_code 7 = .ok (.getfield 15, 3) := by decide +kernel
theorem d8_10 : decode jdk_42_method_152_code 10 = .ok (.goto 4, 3) := by decide +kernel
theorem d8_14 : decode jdk_42_method_152_code 14 = .ok (.ireturn, 1) := by decide +kernel
theorem ef8_rmCo0 (m : MethodId) (x0 : Addr) : entryFrame m #[(.ref x0)] 1 = mkF m 0 #[vr x0] [] := by first | (simp [entryFrame, mkF, argsToLocals, Value.category]; done) | rfl
def QCo0 (Z : State) (a : Addr) (cs : Int32) (sf : Value) (h0 : Heap) (n0 : Nat) (v : Option Value) (h : Heap) (L : List Loc) : Prop := v = some (.int 0) ∧ Fr n0 L ∧ h = h0
theorem rmCo0 (l : Launch) (Z : State) (a0 : Array Value) (hw : ∀ d ∈ tables_1, d.before a0 Z = true) (ws : List Jvm.Cond) (a : Addr) (cs : Int32) (sf : Value) (h0 : Heap) (n0 : Nat) (Z0 : n0 ≤ h0.size) (hW : own_W Z h0 n0 cs sf) (Fc : Fld Z h0 a "java/lang/String" "coder" "B" (.int 0)) :
    own_Met l on19 (Jvm.Cond.code on19 jdk_42_method_152_code 1 (some .byte) :: ws) orm25 #[(.ref a)] Z h0 (QCo0 Z a cs sf h0 n0) := by
  refine MetFree.of_bodySF (plainFor_of_name pn0) hisR ?_
  intro p e s m args below meth c s₁ Bd hml0 hP hK
  obtain ⟨rfl, hZ, hh⟩ := hP
  have hx := Bd.exec
  have hby := Bd.bytes
  have hlk : meth.locks = false := BodyLoose.notSynchronized Bd
  have hret := Bd.returns
  have hml : c.maxLocals = 1 := hml0
  have hown : s.vm.findClass "java/lang/String" = some m.cls := findClass_of_methodNamed Bd.named
  have X0 : Stand p l e orm25 s m #[(.ref a)] below meth c s₁ [] 0 0 := Stand.of_body Bd
  have e0 : s₁.heap = h0 := by rw [← hh, Bd.state]; rfl
  have N0 := Fr.nil n0
  show Dn p e below s (QCo0 Z a cs sf h0 n0) orm25.cells orm25.slots (s₁.setTop (entryFrame m #[(.ref a)] 1))
  refine Dn.st (fun _ kk => castTop (ef8_rmCo0 m a) kk) ?_
  show Dn p e below s _ _ _ (s₁.setTop (mkF m 0 #[vr a] []))
  obtain ⟨T0z, X0z, e0z, st0z⟩ := getS2 X0 hx hZ hown (host := "") (Or.inl (tw hw 47 rfl)) Via.refl e0 hW.cst (g := (mkF m 0 #[vr a] [])) rfl (hb hby d8_0)
  refine Dn.st st0z ?_
  show Dn p e below s _ _ _ (T0z.setTop (mkF m 3 #[vr a] [(.int cs)]))
  have hc3 : ¬ (cs = (0 : Int32)) := hW.cne
  refine Dn.st (fun _ kk => XS.ifNo X0z.here hx rfl (hb hby d8_3) rfl ((if0 _ _).trans (feq hc3).1) (XS.aloadN X0z.here hx rfl (hb hby d8_6) rfl rfl (kk))) ?_
  show Dn p e below s _ _ _ (T0z.setTop (mkF m 7 #[vr a] [(.ref a)]))
  obtain ⟨T7, X7, e7, st7⟩ := getF X0z hx hZ hown (host := "") (Or.inl (tw hw 27 rfl)) Via.refl e0z Fc (g := (mkF m 7 #[vr a] [(.ref a)])) rfl rfl (hb hby d8_7)
  refine Dn.st st7 ?_
  show Dn p e below s _ _ _ (T7.setTop (mkF m 10 #[vr a] [(.int 0)]))
  refine Dn.st (fun _ kk => XS.goto X7.here hx rfl (pc0 := 10) (pc' := 14) rfl (hb hby d8_10) (by decide) (by decide) (kk)) ?_
  show Dn p e below s _ _ _ (T7.setTop (mkF m 14 #[vr a] [(.int 0)]))
  exact Dn.ret X7 hlk hx hret rfl (Or.inl ⟨rfl, Or.inr (Or.inr (Or.inl rfl)), _, rfl⟩) (hb hby d8_14) (by rw [e7]; exact ⟨rfl, N0, rfl⟩) (by decide) (by decide)

theorem d14_17 : decode jdk_42_method_154_code 17 = .ok (.iconst 0, 1) := by decide +kernel
theorem ef14_rmIl1 (m : MethodId) (x0 : Addr) : entryFrame m #[(.ref x0)] 1 = mkF m 0 #[vr x0] [] := by first | (simp [entryFrame, mkF, argsToLocals, Value.category]; done) | rfl
def QIl1 (Z : State) (a : Addr) (cs : Int32) (sf : Value) (h0 : Heap) (n0 : Nat) (v : Option Value) (h : Heap) (L : List Loc) : Prop := v = some (.int 0) ∧ Fr n0 L ∧ h = h0
theorem rmIl1 (l : Launch) (Z : State) (a0 : Array Value) (hw : ∀ d ∈ tables_1, d.before a0 Z = true) (ws : List Jvm.Cond) (a : Addr) (cs : Int32) (sf : Value) (h0 : Heap) (n0 : Nat) (Z0 : n0 ≤ h0.size) (hW : own_W Z h0 n0 cs sf) (Fc : Fld Z h0 a "java/lang/String" "coder" "B" (.int 1)) :
    own_Met l on6 (Jvm.Cond.code on6 jdk_42_method_154_code 1 (some .boolean) :: ws) orm25 #[(.ref a)] Z h0 (QIl1 Z a cs sf h0 n0) := by
  refine MetFree.of_bodySF (plainFor_of_name pn0) hisR ?_
  intro p e s m args below meth c s₁ Bd hml0 hP hK
  obtain ⟨rfl, hZ, hh⟩ := hP
  have hx := Bd.exec
  have hby := Bd.bytes
  have hlk : meth.locks = false := BodyLoose.notSynchronized Bd
  have hret := Bd.returns
  have hml : c.maxLocals = 1 := hml0
  have hown : s.vm.findClass "java/lang/String" = some m.cls := findClass_of_methodNamed Bd.named
  have X0 : Stand p l e orm25 s m #[(.ref a)] below meth c s₁ [] 0 0 := Stand.of_body Bd
  have e0 : s₁.heap = h0 := by rw [← hh, Bd.state]; rfl
  have N0 := Fr.nil n0
  show Dn p e below s (QIl1 Z a cs sf h0 n0) orm25.cells orm25.slots (s₁.setTop (entryFrame m #[(.ref a)] 1))
  refine Dn.st (fun _ kk => castTop (ef14_rmIl1 m a) kk) ?_
  show Dn p e below s _ _ _ (s₁.setTop (mkF m 0 #[vr a] []))
  obtain ⟨T0z, X0z, e0z, st0z⟩ := getS2 X0 hx hZ hown (host := "") (Or.inl (tw hw 47 rfl)) Via.refl e0 hW.cst (g := (mkF m 0 #[vr a] [])) rfl (hb hby d14_0)
  refine Dn.st st0z ?_
  show Dn p e below s _ _ _ (T0z.setTop (mkF m 3 #[vr a] [(.int cs)]))
  have hc3 : ¬ (cs = (0 : Int32)) := hW.cne
  refine Dn.st (fun _ kk => XS.ifNo X0z.here hx rfl (hb hby d14_3) rfl ((if0 _ _).trans (feq hc3).1) (XS.aloadN X0z.here hx rfl (hb hby d14_6) rfl rfl (kk))) ?_
  show Dn p e below s _ _ _ (T0z.setTop (mkF m 7 #[vr a] [(.ref a)]))
  obtain ⟨T7, X7, e7, st7⟩ := getF X0z hx hZ hown (host := "") (Or.inl (tw hw 27 rfl)) Via.refl e0z Fc (g := (mkF m 7 #[vr a] [(.ref a)])) rfl rfl (hb hby d14_7)
  refine Dn.st st7 ?_
  show Dn p e below s _ _ _ (T7.setTop (mkF m 10 #[vr a] [(.int 1)]))
  have hc10 : ¬ ((1 : Int32) = (0 : Int32)) := by decide
  refine Dn.st (fun _ kk => XS.ifYes X7.here hx rfl (pc0 := 10) (pc' := 17) rfl (hb hby d14_10) rfl ((if0 _ _).trans (feq hc10).2) (by decide) (by decide) (XS.iconst X7.here hx rfl (hb hby d14_17) (kk))) ?_
  show Dn p e below s _ _ _ (T7.setTop (mkF m 18 #[vr a] [(.int 0)]))
  exact Dn.ret X7 hlk hx hret rfl (Or.inl ⟨rfl, Or.inr (Or.inl rfl), _, rfl⟩) (hb hby d14_18) (by rw [e7]; exact ⟨rfl, N0, rfl⟩) (by decide) (by decide)

theorem ef8_rmCo1 (m : MethodId) (x0 : Addr) : entryFrame m #[(.ref x0)] 1 = mkF m 0 #[vr x0] [] := by first | (simp [entryFrame, mkF, argsToLocals, Value.category]; done) | rfl
def QCo1 (Z : State) (a : Addr) (cs : Int32) (sf : Value) (h0 : Heap) (n0 : Nat) (v : Option Value) (h : Heap) (L : List Loc) : Prop := v = some (.int 1) ∧ Fr n0 L ∧ h = h0
theorem rmCo1 (l : Launch) (Z : State) (a0 : Array Value) (hw : ∀ d ∈ tables_1, d.before a0 Z = true) (ws : List Jvm.Cond) (a : Addr) (cs : Int32) (sf : Value) (h0 : Heap) (n0 : Nat) (Z0 : n0 ≤ h0.size) (hW : own_W Z h0 n0 cs sf) (Fc : Fld Z h0 a "java/lang/String" "coder" "B" (.int 1)) :
    own_Met l on19 (Jvm.Cond.code on19 jdk_42_method_152_code 1 (some .byte) :: ws) orm25 #[(.ref a)] Z h0 (QCo1 Z a cs sf h0 n0) := by
  refine MetFree.of_bodySF (plainFor_of_name pn0) hisR ?_
  intro p e s m args below meth c s₁ Bd hml0 hP hK
  obtain ⟨rfl, hZ, hh⟩ := hP
  have hx := Bd.exec
  have hby := Bd.bytes
  have hlk : meth.locks = false := BodyLoose.notSynchronized Bd
  have hret := Bd.returns
  have hml : c.maxLocals = 1 := hml0
  have hown : s.vm.findClass "java/lang/String" = some m.cls := findClass_of_methodNamed Bd.named
  have X0 : Stand p l e orm25 s m #[(.ref a)] below meth c s₁ [] 0 0 := Stand.of_body Bd
  have e0 : s₁.heap = h0 := by rw [← hh, Bd.state]; rfl
  have N0 := Fr.nil n0
  show Dn p e below s (QCo1 Z a cs sf h0 n0) orm25.cells orm25.slots (s₁.setTop (entryFrame m #[(.ref a)] 1))
  refine Dn.st (fun _ kk => castTop (ef8_rmCo1 m a) kk) ?_
  show Dn p e below s _ _ _ (s₁.setTop (mkF m 0 #[vr a] []))
  obtain ⟨T0z, X0z, e0z, st0z⟩ := getS2 X0 hx hZ hown (host := "") (Or.inl (tw hw 47 rfl)) Via.refl e0 hW.cst (g := (mkF m 0 #[vr a] [])) rfl (hb hby d8_0)
  refine Dn.st st0z ?_
  show Dn p e below s _ _ _ (T0z.setTop (mkF m 3 #[vr a] [(.int cs)]))
  have hc3 : ¬ (cs = (0 : Int32)) := hW.cne
  refine Dn.st (fun _ kk => XS.ifNo X0z.here hx rfl (hb hby d8_3) rfl ((if0 _ _).trans (feq hc3).1) (XS.aloadN X0z.here hx rfl (hb hby d8_6) rfl rfl (kk))) ?_
  show Dn p e below s _ _ _ (T0z.setTop (mkF m 7 #[vr a] [(.ref a)]))
  obtain ⟨T7, X7, e7, st7⟩ := getF X0z hx hZ hown (host := "") (Or.inl (tw hw 27 rfl)) Via.refl e0z Fc (g := (mkF m 7 #[vr a] [(.ref a)])) rfl rfl (hb hby d8_7)
  refine Dn.st st7 ?_
  show Dn p e below s _ _ _ (T7.setTop (mkF m 10 #[vr a] [(.int 1)]))
  refine Dn.st (fun _ kk => XS.goto X7.here hx rfl (pc0 := 10) (pc' := 14) rfl (hb hby d8_10) (by decide) (by decide) (kk)) ?_
  show Dn p e below s _ _ _ (T7.setTop (mkF m 14 #[vr a] [(.int 1)]))
  exact Dn.ret X7 hlk hx hret rfl (Or.inl ⟨rfl, Or.inr (Or.inr (Or.inl rfl)), _, rfl⟩) (hb hby d8_14) (by rw [e7]; exact ⟨rfl, N0, rfl⟩) (by decide) (by decide)

theorem d7_0 : decode jdk_42_method_54_code 0 = .ok (.aload_n 0, 1) := by decide +kernel
theorem d7_1 : decode jdk_42_method_54_code 1 = .ok (.getfield 9, 3) := by decide +kernel
theorem d7_4 : decode jdk_42_method_54_code 4 = .ok (.arraylength, 1) := by decide +kernel
theorem d7_5 : decode jdk_42_method_54_code 5 = .ok (.aload_n 0, 1) := by decide +kernel
theorem d7_6 : decode jdk_42_method_54_code 6 = .ok (.invokevirtual 335, 3) := by decide +kernel
theorem d7_9 : decode jdk_42_method_54_code 9 = .ok (.ishr, 1) := by decide +kernel
theorem d7_10 : decode jdk_42_method_54_code 10 = .ok (.ireturn, 1) := by decide +kernel
theorem pd2 : parseMethodDescriptor "()B" = some ⟨[], some .byte⟩ := by decide +kernel
theorem ef7_rmLn (m : MethodId) (x0 : Addr) : entryFrame m #[(.ref x0)] 1 = mkF m 0 #[vr x0] [] := by first | (simp [entryFrame, mkF, argsToLocals, Value.category]; done) | rfl
def QLn (Z : State) (a : Addr) (cs : Int32) (sf : Value) (nn mm : Int32) (ls lu : List Value) (PQ : Prop) (h0 : Heap) (n0 : Nat) (v : Option Value) (h : Heap) (L : List Loc) : Prop := v = some (.int nn) ∧ Fr n0 L ∧ h = h0
theorem rmLn (l : Launch) (Z : State) (a0 : Array Value) (hw : ∀ d ∈ tables_1, d.before a0 Z = true) (ws : List Jvm.Cond) (a : Addr) (cs : Int32) (sf : Value) (nn mm : Int32) (ls lu : List Value) (PQ : Prop) (h0 : Heap) (n0 : Nat) (Z0 : n0 ≤ h0.size) (hW : own_W Z h0 n0 cs sf) (hS : own_Str Z h0 a nn mm ls lu PQ) (hs0 : nn >>> ((0 : Int32) &&& 31) = nn) (hs1 : mm >>> ((1 : Int32) &&& 31) = nn) :
    own_Met l on0 (Jvm.Cond.code on0 jdk_42_method_54_code 1 (some .int) :: ws) orm33 #[(.ref a)] Z h0 (QLn Z a cs sf nn mm ls lu PQ h0 n0) := by
  refine MetFree.of_bodySF (plainFor_of_name pn0) hisR ?_
  intro p e s m args below meth c s₁ Bd hml0 hP hK
  obtain ⟨rfl, hZ, hh⟩ := hP
  have hx := Bd.exec
  have hby := Bd.bytes
  have hlk : meth.locks = false := BodyLoose.notSynchronized Bd
  have hret := Bd.returns
  have hml : c.maxLocals = 1 := hml0
  have hown : s.vm.findClass "java/lang/String" = some m.cls := findClass_of_methodNamed Bd.named
  have X0 : Stand p l e orm33 s m #[(.ref a)] below meth c s₁ [] 0 0 := Stand.of_body Bd
  have e0 : s₁.heap = h0 := by rw [← hh, Bd.state]; rfl
  have N0 := Fr.nil n0
  show Dn p e below s (QLn Z a cs sf nn mm ls lu PQ h0 n0) orm33.cells orm33.slots (s₁.setTop (entryFrame m #[(.ref a)] 1))
  refine Dn.st (fun _ kk => castTop (ef7_rmLn m a) kk) ?_
  show Dn p e below s _ _ _ (s₁.setTop (mkF m 0 #[vr a] []))
  rcases hS with ⟨Ea, ⟨bb, kb, Fc, Fv, Vb, hp⟩ | ⟨bb, kb, Fc, Fv, Vb⟩⟩
  · show Dn p e below s _ _ _ (s₁.setTop (mkF m 0 #[vr a] []))
    refine Dn.st (fun _ kk => XS.aloadN X0.here hx rfl (hb hby d7_0) rfl rfl (kk)) ?_
    show Dn p e below s _ _ _ (s₁.setTop (mkF m 1 #[vr a] [(.ref a)]))
    obtain ⟨T1, X1, e1, st1⟩ := getF X0 hx hZ hown (host := "") (Or.inl (tw hw 26 rfl)) Via.refl e0 Fv (g := (mkF m 1 #[vr a] [(.ref a)])) rfl rfl (hb hby d7_1)
    refine Dn.st st1 ?_
    show Dn p e below s _ _ _ (T1.setTop (mkF m 4 #[vr a] [(.ref bb)]))
    have Vc_bb_4 := Vb
    obtain ⟨cl_bb_4, Ar_bb_4, q_bb_4, S_bb_4, N_bb_4, H_bb_4, G_bb_4⟩ := Vc_bb_4
    refine Dn.st (fun _ kk => X1.arraylength hx (by rw [e1]; exact Ar_bb_4.1) (State.isArrayOf_alike hZ.alike Ar_bb_4.2.1) (g := (mkF m 4 #[vr a] [(.ref bb)])) rfl rfl (hb hby d7_4) _ (kk)) ?_
    show Dn p e below s _ _ _ (T1.setTop (mkF m 5 #[vr a] [(.int cl_bb_4.slots.size.toInt32)]))
    rw [len_of S_bb_4 N_bb_4]
    show Dn p e below s _ _ _ (T1.setTop (mkF m 5 #[vr a] [(.int nn)]))
    refine Dn.st (fun _ kk => XS.aloadN X1.here hx rfl (hb hby d7_5) rfl rfl (kk)) ?_
    show Dn p e below s _ _ _ (T1.setTop (mkF m 6 #[vr a] [(.ref a), (.int nn)]))
    obtain ⟨cq6, kq6, q6a, q6b, q6c⟩ := isOf hZ e1 Ea
    obtain ⟨_, _, ⟨T6, L6, k6, n6⟩, -, X6, ⟨Lc6, hQ6, l6, y6, z6⟩, st6⟩ := X1.virtualBack hx (y := on19) (z := on19) hown (mvT hZ (tw hw 42 rfl)) (mvT hZ (tw hw 43 rfl)) (notFace_of_selects (args := #[]) (mvT hZ (tw hw 45 rfl))) (mvT hZ (tw hw 45 rfl)) (mvT hZ (tw hw 44 rfl)) (by decide) (backOf (W := 1) (rmCo0 l Z a0 hw [] a cs sf  h0 n0 Z0 hW Fc) hZ (tw hw 46 rfl) (tw hw 8 rfl) (by decide) (by decide)) q6a q6c (g := (mkF m 6 #[vr a] [(.ref a), (.int nn)])) rfl (by rw [hml]; rfl) (Steps.refl _) (argsL := []) (rest := [(.int nn)]) (lenOf pd2 rfl) rfl (by show 2 * 0 + _ ≤ _; exact Nat.le_of_eq rfl) (hb hby d7_6) (fun _ _ => ⟨rfl, e1, (by decide : 0 + 0 ≤ _), (by decide : 0 + 0 ≤ _)⟩)
    dsimp only [Pt.U, Pt.locs, Pt.cells, Pt.slots] at X6 l6 y6 z6 st6 hQ6
    subst l6 y6 z6
    obtain ⟨rfl, Nq6, hh6⟩ := hQ6
    have N6 := Fr.app N0 Nq6
    refine Dn.tr st6 ?_
    show Dn p e below s _ _ _ (T6.setTop (mkF m 9 #[vr a] [(.int 0), (.int nn)]))
    refine Dn.st (fun _ kk => XS.ishr X6.here hx rfl (hb hby d7_9) rfl (kk)) ?_
    show Dn p e below s _ _ _ (T6.setTop (mkF m 10 #[vr a] [(.int (nn >>> ((0 : Int32) &&& 31)))]))
    rw [hs0]
    show Dn p e below s _ _ _ (T6.setTop (mkF m 10 #[vr a] [(.int nn)]))
    exact Dn.ret X6 hlk hx hret rfl (Or.inl ⟨rfl, Or.inl rfl, _, rfl⟩) (hb hby d7_10) (by rw [hh6]; exact ⟨rfl, N6, rfl⟩) (by decide) (by decide)
  · show Dn p e below s _ _ _ (s₁.setTop (mkF m 0 #[vr a] []))
    refine Dn.st (fun _ kk => XS.aloadN X0.here hx rfl (hb hby d7_0) rfl rfl (kk)) ?_
    show Dn p e below s _ _ _ (s₁.setTop (mkF m 1 #[vr a] [(.ref a)]))
    obtain ⟨T1, X1, e1, st1⟩ := getF X0 hx hZ hown (host := "") (Or.inl (tw hw 26 rfl)) Via.refl e0 Fv (g := (mkF m 1 #[vr a] [(.ref a)])) rfl rfl (hb hby d7_1)
    refine Dn.st st1 ?_
    show Dn p e below s _ _ _ (T1.setTop (mkF m 4 #[vr a] [(.ref bb)]))
    have Vc_bb_4 := Vb
    obtain ⟨cl_bb_4, Ar_bb_4, q_bb_4, S_bb_4, N_bb_4, H_bb_4, G_bb_4⟩ := Vc_bb_4
    refine Dn.st (fun _ kk => X1.arraylength hx (by rw [e1]; exact Ar_bb_4.1) (State.isArrayOf_alike hZ.alike Ar_bb_4.2.1) (g := (mkF m 4 #[vr a] [(.ref bb)])) rfl rfl (hb hby d7_4) _ (kk)) ?_
    show Dn p e below s _ _ _ (T1.setTop (mkF m 5 #[vr a] [(.int cl_bb_4.slots.size.toInt32)]))
    rw [len_of S_bb_4 N_bb_4]
    show Dn p e below s _ _ _ (T1.setTop (mkF m 5 #[vr a] [(.int mm)]))
    refine Dn.st (fun _ kk => XS.aloadN X1.here hx rfl (hb hby d7_5) rfl rfl (kk)) ?_
    show Dn p e below s _ _ _ (T1.setTop (mkF m 6 #[vr a] [(.ref a), (.int mm)]))
    obtain ⟨cq6, kq6, q6a, q6b, q6c⟩ := isOf hZ e1 Ea
    obtain ⟨_, _, ⟨T6, L6, k6, n6⟩, -, X6, ⟨Lc6, hQ6, l6, y6, z6⟩, st6⟩ := X1.virtualBack hx (y := on19) (z := on19) hown (mvT hZ (tw hw 42 rfl)) (mvT hZ (tw hw 43 rfl)) (notFace_of_selects (args := #[]) (mvT hZ (tw hw 45 rfl))) (mvT hZ (tw hw 45 rfl)) (mvT hZ (tw hw 44 rfl)) (by decide) (backOf (W := 1) (rmCo1 l Z a0 hw [] a cs sf  h0 n0 Z0 hW Fc) hZ (tw hw 46 rfl) (tw hw 8 rfl) (by decide) (by decide)) q6a q6c (g := (mkF m 6 #[vr a] [(.ref a), (.int mm)])) rfl (by rw [hml]; rfl) (Steps.refl _) (argsL := []) (rest := [(.int mm)]) (lenOf pd2 rfl) rfl (by show 2 * 0 + _ ≤ _; exact Nat.le_of_eq rfl) (hb hby d7_6) (fun _ _ => ⟨rfl, e1, (by decide : 0 + 0 ≤ _), (by decide : 0 + 0 ≤ _)⟩)
    dsimp only [Pt.U, Pt.locs, Pt.cells, Pt.slots] at X6 l6 y6 z6 st6 hQ6
    subst l6 y6 z6
    obtain ⟨rfl, Nq6, hh6⟩ := hQ6
    have N6 := Fr.app N0 Nq6
    refine Dn.tr st6 ?_
    show Dn p e below s _ _ _ (T6.setTop (mkF m 9 #[vr a] [(.int 1), (.int mm)]))
    refine Dn.st (fun _ kk => XS.ishr X6.here hx rfl (hb hby d7_9) rfl (kk)) ?_
    show Dn p e below s _ _ _ (T6.setTop (mkF m 10 #[vr a] [(.int (mm >>> ((1 : Int32) &&& 31)))]))
    rw [hs1]
    show Dn p e below s _ _ _ (T6.setTop (mkF m 10 #[vr a] [(.int nn)]))
    exact Dn.ret X6 hlk hx hret rfl (Or.inl ⟨rfl, Or.inl rfl, _, rfl⟩) (hb hby d7_10) (by rw [hh6]; exact ⟨rfl, N6, rfl⟩) (by decide) (by decide)

theorem d6_0 : decode jdk_42_method_55_code 0 = .ok (.aload_n 0, 1) := by decide +kernel
theorem d6_1 : decode jdk_42_method_55_code 1 = .ok (.getfield 9, 3) := by decide +kernel
theorem d6_4 : decode jdk_42_method_55_code 4 = .ok (.arraylength, 1) := by decide +kernel
theorem d6_5 : decode jdk_42_method_55_code 5 = .ok (.ifCond .ne 7, 3) := by decide +kernel
theorem d6_8 : decode jdk_42_method_55_code 8 = .ok (.iconst 1, 1) := by decide +kernel
theorem d6_9 : decode jdk_42_method_55_code 9 = .ok (.goto 4, 3) := by decide +kernel
theorem d6_13 : decode jdk_42_method_55_code 13 = .ok (.ireturn, 1) := by decide +kernel
theorem ef6_rmIe0 (m : MethodId) (x0 : Addr) : entryFrame m #[(.ref x0)] 1 = mkF m 0 #[vr x0] [] := by first | (simp [entryFrame, mkF, argsToLocals, Value.category]; done) | rfl
def QIe0 (Z : State) (a : Addr) (cs : Int32) (sf : Value) (nn mm : Int32) (ls lu : List Value) (PQ : Prop) (h0 : Heap) (n0 : Nat) (v : Option Value) (h : Heap) (L : List Loc) : Prop := v = some (.int 1) ∧ Fr n0 L ∧ h = h0
theorem rmIe0 (l : Launch) (Z : State) (a0 : Array Value) (hw : ∀ d ∈ tables_1, d.before a0 Z = true) (ws : List Jvm.Cond) (a : Addr) (cs : Int32) (sf : Value) (nn mm : Int32) (ls lu : List Value) (PQ : Prop) (h0 : Heap) (n0 : Nat) (Z0 : n0 ≤ h0.size) (hW : own_W Z h0 n0 cs sf) (hS : own_Str Z h0 a nn mm ls lu PQ) (hz : nn = 0 ∧ mm = 0) :
    own_Met l on10 (Jvm.Cond.code on10 jdk_42_method_55_code 1 (some .boolean) :: ws) orm25 #[(.ref a)] Z h0 (QIe0 Z a cs sf nn mm ls lu PQ h0 n0) := by
  refine MetFree.of_bodySF (plainFor_of_name pn0) hisR ?_
  intro p e s m args below meth c s₁ Bd hml0 hP hK
  obtain ⟨rfl, hZ, hh⟩ := hP
  have hx := Bd.exec
  have hby := Bd.bytes
  have hlk : meth.locks = false := BodyLoose.notSynchronized Bd
  have hret := Bd.returns
  have hml : c.maxLocals = 1 := hml0
  have hown : s.vm.findClass "java/lang/String" = some m.cls := findClass_of_methodNamed Bd.named
  have X0 : Stand p l e orm25 s m #[(.ref a)] below meth c s₁ [] 0 0 := Stand.of_body Bd
  have e0 : s₁.heap = h0 := by rw [← hh, Bd.state]; rfl
  have N0 := Fr.nil n0
  show Dn p e below s (QIe0 Z a cs sf nn mm ls lu PQ h0 n0) orm25.cells orm25.slots (s₁.setTop (entryFrame m #[(.ref a)] 1))
  refine Dn.st (fun _ kk => castTop (ef6_rmIe0 m a) kk) ?_
  show Dn p e below s _ _ _ (s₁.setTop (mkF m 0 #[vr a] []))
  rcases hS with ⟨Ea, ⟨bb, kb, Fc, Fv, Vb, hp⟩ | ⟨bb, kb, Fc, Fv, Vb⟩⟩
  · show Dn p e below s _ _ _ (s₁.setTop (mkF m 0 #[vr a] []))
    refine Dn.st (fun _ kk => XS.aloadN X0.here hx rfl (hb hby d6_0) rfl rfl (kk)) ?_
    show Dn p e below s _ _ _ (s₁.setTop (mkF m 1 #[vr a] [(.ref a)]))
    obtain ⟨T1, X1, e1, st1⟩ := getF X0 hx hZ hown (host := "") (Or.inl (tw hw 26 rfl)) Via.refl e0 Fv (g := (mkF m 1 #[vr a] [(.ref a)])) rfl rfl (hb hby d6_1)
    refine Dn.st st1 ?_
    show Dn p e below s _ _ _ (T1.setTop (mkF m 4 #[vr a] [(.ref bb)]))
    have Vc_bb_4 := Vb
    obtain ⟨cl_bb_4, Ar_bb_4, q_bb_4, S_bb_4, N_bb_4, H_bb_4, G_bb_4⟩ := Vc_bb_4
    refine Dn.st (fun _ kk => X1.arraylength hx (by rw [e1]; exact Ar_bb_4.1) (State.isArrayOf_alike hZ.alike Ar_bb_4.2.1) (g := (mkF m 4 #[vr a] [(.ref bb)])) rfl rfl (hb hby d6_4) _ (kk)) ?_
    show Dn p e below s _ _ _ (T1.setTop (mkF m 5 #[vr a] [(.int cl_bb_4.slots.size.toInt32)]))
    rw [len_of S_bb_4 N_bb_4]
    show Dn p e below s _ _ _ (T1.setTop (mkF m 5 #[vr a] [(.int nn)]))
    have hc5 : nn = (0 : Int32) := hz.1
    refine Dn.st (fun _ kk => XS.ifNo X1.here hx rfl (hb hby d6_5) rfl ((if0 _ _).trans (teq hc5).2) (XS.iconst X1.here hx rfl (hb hby d6_8) (XS.goto X1.here hx rfl (pc0 := 9) (pc' := 13) rfl (hb hby d6_9) (by decide) (by decide) (kk)))) ?_
    show Dn p e below s _ _ _ (T1.setTop (mkF m 13 #[vr a] [(.int 1)]))
    exact Dn.ret X1 hlk hx hret rfl (Or.inl ⟨rfl, Or.inr (Or.inl rfl), _, rfl⟩) (hb hby d6_13) (by rw [e1]; exact ⟨rfl, N0, rfl⟩) (by decide) (by decide)
  · show Dn p e below s _ _ _ (s₁.setTop (mkF m 0 #[vr a] []))
    refine Dn.st (fun _ kk => XS.aloadN X0.here hx rfl (hb hby d6_0) rfl rfl (kk)) ?_
    show Dn p e below s _ _ _ (s₁.setTop (mkF m 1 #[vr a] [(.ref a)]))
    obtain ⟨T1, X1, e1, st1⟩ := getF X0 hx hZ hown (host := "") (Or.inl (tw hw 26 rfl)) Via.refl e0 Fv (g := (mkF m 1 #[vr a] [(.ref a)])) rfl rfl (hb hby d6_1)
    refine Dn.st st1 ?_
    show Dn p e below s _ _ _ (T1.setTop (mkF m 4 #[vr a] [(.ref bb)]))
    have Vc_bb_4 := Vb
    obtain ⟨cl_bb_4, Ar_bb_4, q_bb_4, S_bb_4, N_bb_4, H_bb_4, G_bb_4⟩ := Vc_bb_4
    refine Dn.st (fun _ kk => X1.arraylength hx (by rw [e1]; exact Ar_bb_4.1) (State.isArrayOf_alike hZ.alike Ar_bb_4.2.1) (g := (mkF m 4 #[vr a] [(.ref bb)])) rfl rfl (hb hby d6_4) _ (kk)) ?_
    show Dn p e below s _ _ _ (T1.setTop (mkF m 5 #[vr a] [(.int cl_bb_4.slots.size.toInt32)]))
    rw [len_of S_bb_4 N_bb_4]
    show Dn p e below s _ _ _ (T1.setTop (mkF m 5 #[vr a] [(.int mm)]))
    have hc5 : mm = (0 : Int32) := hz.2
    refine Dn.st (fun _ kk => XS.ifNo X1.here hx rfl (hb hby d6_5) rfl ((if0 _ _).trans (teq hc5).2) (XS.iconst X1.here hx rfl (hb hby d6_8) (XS.goto X1.here hx rfl (pc0 := 9) (pc' := 13) rfl (hb hby d6_9) (by decide) (by decide) (kk)))) ?_
    show Dn p e below s _ _ _ (T1.setTop (mkF m 13 #[vr a] [(.int 1)]))
    exact Dn.ret X1 hlk hx hret rfl (Or.inl ⟨rfl, Or.inr (Or.inl rfl), _, rfl⟩) (hb hby d6_13) (by rw [e1]; exact ⟨rfl, N0, rfl⟩) (by decide) (by decide)

theorem d6_12 : decode jdk_42_method_55_code 12 = .ok (.iconst 0, 1) := by decide +kernel
theorem ef6_rmIe1 (m : MethodId) (x0 : Addr) : entryFrame m #[(.ref x0)] 1 = mkF m 0 #[vr x0] [] := by first | (simp [entryFrame, mkF, argsToLocals, Value.category]; done) | rfl
def QIe1 (Z : State) (a : Addr) (cs : Int32) (sf : Value) (nn mm : Int32) (ls lu : List Value) (PQ : Prop) (h0 : Heap) (n0 : Nat) (v : Option Value) (h : Heap) (L : List Loc) : Prop := v = some (.int 0) ∧ Fr n0 L ∧ h = h0
theorem rmIe1 (l : Launch) (Z : State) (a0 : Array Value) (hw : ∀ d ∈ tables_1, d.before a0 Z = true) (ws : List Jvm.Cond) (a : Addr) (cs : Int32) (sf : Value) (nn mm : Int32) (ls lu : List Value) (PQ : Prop) (h0 : Heap) (n0 : Nat) (Z0 : n0 ≤ h0.size) (hW : own_W Z h0 n0 cs sf) (hS : own_Str Z h0 a nn mm ls lu PQ) (hz : ¬ nn = 0 ∧ ¬ mm = 0) :
    own_Met l on10 (Jvm.Cond.code on10 jdk_42_method_55_code 1 (some .boolean) :: ws) orm25 #[(.ref a)] Z h0 (QIe1 Z a cs sf nn mm ls lu PQ h0 n0) := by
  refine MetFree.of_bodySF (plainFor_of_name pn0) hisR ?_
  intro p e s m args below meth c s₁ Bd hml0 hP hK
  obtain ⟨rfl, hZ, hh⟩ := hP
  have hx := Bd.exec
  have hby := Bd.bytes
  have hlk : meth.locks = false := BodyLoose.notSynchronized Bd
  have hret := Bd.returns
  have hml : c.maxLocals = 1 := hml0
  have hown : s.vm.findClass "java/lang/String" = some m.cls := findClass_of_methodNamed Bd.named
  have X0 : Stand p l e orm25 s m #[(.ref a)] below meth c s₁ [] 0 0 := Stand.of_body Bd
  have e0 : s₁.heap = h0 := by rw [← hh, Bd.state]; rfl
  have N0 := Fr.nil n0
  show Dn p e below s (QIe1 Z a cs sf nn mm ls lu PQ h0 n0) orm25.cells orm25.slots (s₁.setTop (entryFrame m #[(.ref a)] 1))
  refine Dn.st (fun _ kk => castTop (ef6_rmIe1 m a) kk) ?_
  show Dn p e below s _ _ _ (s₁.setTop (mkF m 0 #[vr a] []))
  rcases hS with ⟨Ea, ⟨bb, kb, Fc, Fv, Vb, hp⟩ | ⟨bb, kb, Fc, Fv, Vb⟩⟩
  · show Dn p e below s _ _ _ (s₁.setTop (mkF m 0 #[vr a] []))
    refine Dn.st (fun _ kk => XS.aloadN X0.here hx rfl (hb hby d6_0) rfl rfl (kk)) ?_
    show Dn p e below s _ _ _ (s₁.setTop (mkF m 1 #[vr a] [(.ref a)]))
    obtain ⟨T1, X1, e1, st1⟩ := getF X0 hx hZ hown (host := "") (Or.inl (tw hw 26 rfl)) Via.refl e0 Fv (g := (mkF m 1 #[vr a] [(.ref a)])) rfl rfl (hb hby d6_1)
    refine Dn.st st1 ?_
    show Dn p e below s _ _ _ (T1.setTop (mkF m 4 #[vr a] [(.ref bb)]))
    have Vc_bb_4 := Vb
    obtain ⟨cl_bb_4, Ar_bb_4, q_bb_4, S_bb_4, N_bb_4, H_bb_4, G_bb_4⟩ := Vc_bb_4
    refine Dn.st (fun _ kk => X1.arraylength hx (by rw [e1]; exact Ar_bb_4.1) (State.isArrayOf_alike hZ.alike Ar_bb_4.2.1) (g := (mkF m 4 #[vr a] [(.ref bb)])) rfl rfl (hb hby d6_4) _ (kk)) ?_
    show Dn p e below s _ _ _ (T1.setTop (mkF m 5 #[vr a] [(.int cl_bb_4.slots.size.toInt32)]))
    rw [len_of S_bb_4 N_bb_4]
    show Dn p e below s _ _ _ (T1.setTop (mkF m 5 #[vr a] [(.int nn)]))
    have hc5 : ¬ (nn = (0 : Int32)) := hz.1
    refine Dn.st (fun _ kk => XS.ifYes X1.here hx rfl (pc0 := 5) (pc' := 12) rfl (hb hby d6_5) rfl ((if0 _ _).trans (feq hc5).2) (by decide) (by decide) (XS.iconst X1.here hx rfl (hb hby d6_12) (kk))) ?_
    show Dn p e below s _ _ _ (T1.setTop (mkF m 13 #[vr a] [(.int 0)]))
    exact Dn.ret X1 hlk hx hret rfl (Or.inl ⟨rfl, Or.inr (Or.inl rfl), _, rfl⟩) (hb hby d6_13) (by rw [e1]; exact ⟨rfl, N0, rfl⟩) (by decide) (by decide)
  · show Dn p e below s _ _ _ (s₁.setTop (mkF m 0 #[vr a] []))
    refine Dn.st (fun _ kk => XS.aloadN X0.here hx rfl (hb hby d6_0) rfl rfl (kk)) ?_
    show Dn p e below s _ _ _ (s₁.setTop (mkF m 1 #[vr a] [(.ref a)]))
    obtain ⟨T1, X1, e1, st1⟩ := getF X0 hx hZ hown (host := "") (Or.inl (tw hw 26 rfl)) Via.refl e0 Fv (g := (mkF m 1 #[vr a] [(.ref a)])) rfl rfl (hb hby d6_1)
    refine Dn.st st1 ?_
    show Dn p e below s _ _ _ (T1.setTop (mkF m 4 #[vr a] [(.ref bb)]))
    have Vc_bb_4 := Vb
    obtain ⟨cl_bb_4, Ar_bb_4, q_bb_4, S_bb_4, N_bb_4, H_bb_4, G_bb_4⟩ := Vc_bb_4
    refine Dn.st (fun _ kk => X1.arraylength hx (by rw [e1]; exact Ar_bb_4.1) (State.isArrayOf_alike hZ.alike Ar_bb_4.2.1) (g := (mkF m 4 #[vr a] [(.ref bb)])) rfl rfl (hb hby d6_4) _ (kk)) ?_
    show Dn p e below s _ _ _ (T1.setTop (mkF m 5 #[vr a] [(.int cl_bb_4.slots.size.toInt32)]))
    rw [len_of S_bb_4 N_bb_4]
    show Dn p e below s _ _ _ (T1.setTop (mkF m 5 #[vr a] [(.int mm)]))
    have hc5 : ¬ (mm = (0 : Int32)) := hz.2
    refine Dn.st (fun _ kk => XS.ifYes X1.here hx rfl (pc0 := 5) (pc' := 12) rfl (hb hby d6_5) rfl ((if0 _ _).trans (feq hc5).2) (by decide) (by decide) (XS.iconst X1.here hx rfl (hb hby d6_12) (kk))) ?_
    show Dn p e below s _ _ _ (T1.setTop (mkF m 13 #[vr a] [(.int 0)]))
    exact Dn.ret X1 hlk hx hret rfl (Or.inl ⟨rfl, Or.inr (Or.inl rfl), _, rfl⟩) (hb hby d6_13) (by rw [e1]; exact ⟨rfl, N0, rfl⟩) (by decide) (by decide)

theorem d26_0 : decode jdk_52_method_6_code 0 = .ok (.aload_n 0, 1) := by decide +kernel
theorem d26_1 : decode jdk_52_method_6_code 1 = .ok (.arraylength, 1) := by decide +kernel
theorem d26_2 : decode jdk_52_method_6_code 2 = .ok (.iconst 1, 1) := by decide +kernel
theorem d26_3 : decode jdk_52_method_6_code 3 = .ok (.ishr, 1) := by decide +kernel
theorem d26_4 : decode jdk_52_method_6_code 4 = .ok (.ireturn, 1) := by decide +kernel
theorem pn2 : plainName "java/lang/StringUTF16" = true := by first | (simp [plainName, overriddenIn]; done) | decide +kernel
theorem ef26_rmUl (m : MethodId) (x0 : Addr) : entryFrame m #[(.ref x0)] 1 = mkF m 0 #[vr x0] [] := by first | (simp [entryFrame, mkF, argsToLocals, Value.category]; done) | rfl
def QUl (Z : State) (b : Addr) (kb : ClassId) (mm : Int32) (ls : List Value) (h0 : Heap) (n0 : Nat) (v : Option Value) (h : Heap) (L : List Loc) : Prop := v = some (.int (mm >>> ((1 : Int32) &&& 31))) ∧ Fr n0 L ∧ h = h0
theorem rmUl (l : Launch) (Z : State) (a0 : Array Value) (hw : ∀ d ∈ tables_1, d.before a0 Z = true) (ws : List Jvm.Cond) (b : Addr) (kb : ClassId) (mm : Int32) (ls : List Value) (h0 : Heap) (n0 : Nat) (Z0 : n0 ≤ h0.size) (Vb : Arv Z h0 b kb .byte mm ls (.int 0)) :
    own_Met l on24 (Jvm.Cond.code on24 jdk_52_method_6_code 1 (some .int) :: ws) orm25 #[(.ref b)] Z h0 (QUl Z b kb mm ls h0 n0) := by
  refine MetFree.of_bodySF (plainFor_of_name pn2) hisR ?_
  intro p e s m args below meth c s₁ Bd hml0 hP hK
  obtain ⟨rfl, hZ, hh⟩ := hP
  have hx := Bd.exec
  have hby := Bd.bytes
  have hlk : meth.locks = false := BodyLoose.notSynchronized Bd
  have hret := Bd.returns
  have hml : c.maxLocals = 1 := hml0
  have hown : s.vm.findClass "java/lang/StringUTF16" = some m.cls := findClass_of_methodNamed Bd.named
  have X0 : Stand p l e orm25 s m #[(.ref b)] below meth c s₁ [] 0 0 := Stand.of_body Bd
  have e0 : s₁.heap = h0 := by rw [← hh, Bd.state]; rfl
  have N0 := Fr.nil n0
  show Dn p e below s (QUl Z b kb mm ls h0 n0) orm25.cells orm25.slots (s₁.setTop (entryFrame m #[(.ref b)] 1))
  refine Dn.st (fun _ kk => castTop (ef26_rmUl m b) kk) ?_
  show Dn p e below s _ _ _ (s₁.setTop (mkF m 0 #[vr b] []))
  refine Dn.st (fun _ kk => XS.aloadN X0.here hx rfl (hb hby d26_0) rfl rfl (kk)) ?_
  show Dn p e below s _ _ _ (s₁.setTop (mkF m 1 #[vr b] [(.ref b)]))
  have Vc_b_1 := Vb
  obtain ⟨cl_b_1, Ar_b_1, q_b_1, S_b_1, N_b_1, H_b_1, G_b_1⟩ := Vc_b_1
  refine Dn.st (fun _ kk => X0.arraylength hx (by rw [e0]; exact Ar_b_1.1) (State.isArrayOf_alike hZ.alike Ar_b_1.2.1) (g := (mkF m 1 #[vr b] [(.ref b)])) rfl rfl (hb hby d26_1) _ (kk)) ?_
  show Dn p e below s _ _ _ (s₁.setTop (mkF m 2 #[vr b] [(.int cl_b_1.slots.size.toInt32)]))
  rw [len_of S_b_1 N_b_1]
  show Dn p e below s _ _ _ (s₁.setTop (mkF m 2 #[vr b] [(.int mm)]))
  refine Dn.st (fun _ kk => XS.iconst X0.here hx rfl (hb hby d26_2) (XS.ishr X0.here hx rfl (hb hby d26_3) rfl (kk))) ?_
  show Dn p e below s _ _ _ (s₁.setTop (mkF m 4 #[vr b] [(.int (mm >>> ((1 : Int32) &&& 31)))]))
  exact Dn.ret X0 hlk hx hret rfl (Or.inl ⟨rfl, Or.inl rfl, _, rfl⟩) (hb hby d26_4) (by rw [e0]; exact ⟨rfl, N0, rfl⟩) (by decide) (by decide)

theorem d25_0 : decode jdk_52_method_91_code 0 = .ok (.iload_n 0, 1) := by decide +kernel
theorem d25_1 : decode jdk_52_method_91_code 1 = .ok (.aload_n 1, 1) := by decide +kernel
theorem d25_2 : decode jdk_52_method_91_code 2 = .ok (.invokestatic 48, 3) := by decide +kernel
theorem d25_5 : decode jdk_52_method_91_code 5 = .ok (.invokestatic 414, 3) := by decide +kernel
theorem d25_8 : decode jdk_52_method_91_code 8 = .ok (.return_, 1) := by decide +kernel
theorem pd3 : parseMethodDescriptor "([B)I" = some ⟨[(.array .byte)], some .int⟩ := by decide +kernel
theorem pd4 : parseMethodDescriptor "(II)V" = some ⟨[.int, .int], none⟩ := by decide +kernel
theorem ef25_rmUc (m : MethodId) (x0 : Int32) (x1 : Addr) : entryFrame m #[(.int x0), (.ref x1)] 2 = mkF m 0 #[vi x0, vr x1] [] := by first | (simp [entryFrame, mkF, argsToLocals, Value.category]; done) | rfl
def QUc (Z : State) (ix : Int32) (b : Addr) (cs : Int32) (sf : Value) (kb : ClassId) (mm : Int32) (ls : List Value) (h0 : Heap) (n0 : Nat) (v : Option Value) (h : Heap) (L : List Loc) : Prop := v = none ∧ Fr n0 L ∧ h = h0
theorem rmUc (l : Launch) (Z : State) (a0 : Array Value) (hw : ∀ d ∈ tables_1, d.before a0 Z = true) (ws : List Jvm.Cond) (ix : Int32) (b : Addr) (cs : Int32) (sf : Value) (kb : ClassId) (mm : Int32) (ls : List Value) (h0 : Heap) (n0 : Nat) (Z0 : n0 ≤ h0.size) (hW : own_W Z h0 n0 cs sf) (Vb : Arv Z h0 b kb .byte mm ls (.int 0)) (hx1 : ¬ ix < 0) (hx2 : ix < mm >>> ((1 : Int32) &&& 31)) :
    own_Met l on21 (Jvm.Cond.code on21 jdk_52_method_91_code 2 none :: ws) orm26 #[(.int ix), (.ref b)] Z h0 (QUc Z ix b cs sf kb mm ls h0 n0) := by
  refine MetFree.of_bodySF (plainFor_of_name pn2) hisR ?_
  intro p e s m args below meth c s₁ Bd hml0 hP hK
  obtain ⟨rfl, hZ, hh⟩ := hP
  have hx := Bd.exec
  have hby := Bd.bytes
  have hlk : meth.locks = false := BodyLoose.notSynchronized Bd
  have hret := Bd.returns
  have hml : c.maxLocals = 2 := hml0
  have hown : s.vm.findClass "java/lang/StringUTF16" = some m.cls := findClass_of_methodNamed Bd.named
  have X0 : Stand p l e orm26 s m #[(.int ix), (.ref b)] below meth c s₁ [] 0 0 := Stand.of_body Bd
  have e0 : s₁.heap = h0 := by rw [← hh, Bd.state]; rfl
  have N0 := Fr.nil n0
  show Dn p e below s (QUc Z ix b cs sf kb mm ls h0 n0) orm26.cells orm26.slots (s₁.setTop (entryFrame m #[(.int ix), (.ref b)] 2))
  refine Dn.st (fun _ kk => castTop (ef25_rmUc m ix b) kk) ?_
  show Dn p e below s _ _ _ (s₁.setTop (mkF m 0 #[vi ix, vr b] []))
  refine Dn.st (fun _ kk => XS.iloadN X0.here hx rfl (hb hby d25_0) rfl (XS.aloadN X0.here hx rfl (hb hby d25_1) rfl rfl (kk))) ?_
  show Dn p e below s _ _ _ (s₁.setTop (mkF m 2 #[vi ix, vr b] [(.ref b), (.int ix)]))
  obtain ⟨_, _, ⟨T2, L2, k2, n2⟩, -, X2, ⟨Lc2, hQ2, l2, y2, z2⟩, st2⟩ := Jvm.LawKit.callS X0 hx (y := on24) hown (mvT hZ (tw hw 111 rfl)) (mvT hZ (tw hw 112 rfl)) (mvT hZ (tw hw 50 rfl)) (mvT hZ (tw hw 113 rfl)) (by decide) (backOf (W := 1) (rmUl l Z a0 hw [] b kb mm ls h0 n0 Z0 Vb) hZ (tw hw 113 rfl) (tw hw 50 rfl) (by decide) (by decide)) (g := (mkF m 2 #[vi ix, vr b] [(.ref b), (.int ix)])) rfl (by rw [hml]; rfl) (argsL := [(.ref b)]) (rest := [(.int ix)]) (lenOf pd3 rfl) rfl (by show 2 * 0 + _ ≤ _; exact Nat.le_of_eq rfl) (hb hby d25_2) (fun _ _ => ⟨rfl, e0, (by decide : 0 + 0 ≤ _), (by decide : 0 + 0 ≤ _)⟩)
  dsimp only [Pt.U, Pt.locs, Pt.cells, Pt.slots] at X2 l2 y2 z2 st2 hQ2
  subst l2 y2 z2
  obtain ⟨rfl, Nq2, hh2⟩ := hQ2
  have N2 := Fr.app N0 Nq2
  refine Dn.st st2 ?_
  show Dn p e below s _ _ _ (T2.setTop (mkF m 5 #[vi ix, vr b] [(.int (mm >>> ((1 : Int32) &&& 31))), (.int ix)]))
  obtain ⟨_, _, ⟨T5, L5, k5, n5⟩, -, X5, ⟨Lc5, hQ5, l5, y5, z5⟩, st5⟩ := Jvm.LawKit.callS X2 hx (y := on20) hown (mvT hZ (tw hw 114 rfl)) (mvT hZ (tw hw 76 rfl)) (mvT hZ (tw hw 8 rfl)) (mvT hZ (tw hw 77 rfl)) (by decide) (backOf (W := 0) (rmCi l Z a0 hw [] ix (mm >>> ((1 : Int32) &&& 31)) cs sf  h0 n0 Z0 hW hx1 hx2) hZ (tw hw 77 rfl) (tw hw 8 rfl) (by decide) (by decide)) (g := (mkF m 5 #[vi ix, vr b] [(.int (mm >>> ((1 : Int32) &&& 31))), (.int ix)])) rfl (by rw [hml]; rfl) (argsL := [(.int ix), (.int (mm >>> ((1 : Int32) &&& 31)))]) (rest := []) (lenOf pd4 rfl) rfl (by show 2 * 0 + _ ≤ _; exact Nat.le_of_eq rfl) (hb hby d25_5) (fun _ _ => ⟨rfl, hh2, (by decide : 0 + 0 ≤ _), (by decide : 0 + 0 ≤ _)⟩)
  dsimp only [Pt.U, Pt.locs, Pt.cells, Pt.slots] at X5 l5 y5 z5 st5 hQ5
  subst l5 y5 z5
  obtain ⟨rfl, Nq5, hh5⟩ := hQ5
  have N5 := Fr.app N2 Nq5
  refine Dn.st st5 ?_
  show Dn p e below s _ _ _ (T5.setTop (mkF m 8 #[vi ix, vr b] []))
  exact Dn.ret0 X5 hlk hx hret (hb hby d25_8) (by rw [hh5]; exact ⟨rfl, N5, rfl⟩) (by decide) (by decide)

theorem d23_0 : decode jdk_52_method_5_code 0 = .ok (.getstatic 44, 3) := by decide +kernel
theorem d23_3 : decode jdk_52_method_5_code 3 = .ok (.ifCond .ne 25, 3) := by decide +kernel
theorem d23_28 : decode jdk_52_method_5_code 28 = .ok (.iload_n 1, 1) := by decide +kernel
theorem d23_29 : decode jdk_52_method_5_code 29 = .ok (.iconst 1, 1) := by decide +kernel
theorem d23_30 : decode jdk_52_method_5_code 30 = .ok (.ishl, 1) := by decide +kernel
theorem d23_31 : decode jdk_52_method_5_code 31 = .ok (.istore_n 1, 1) := by decide +kernel
theorem d23_32 : decode jdk_52_method_5_code 32 = .ok (.aload_n 0, 1) := by decide +kernel
theorem d23_33 : decode jdk_52_method_5_code 33 = .ok (.iload_n 1, 1) := by decide +kernel
theorem d23_34 : decode jdk_52_method_5_code 34 = .ok (.iinc 1 1, 3) := by decide +kernel
theorem d23_37 : decode jdk_52_method_5_code 37 = .ok (.baload, 1) := by decide +kernel
theorem d23_38 : decode jdk_52_method_5_code 38 = .ok (.sipush 255, 3) := by decide +kernel
theorem d23_41 : decode jdk_52_method_5_code 41 = .ok (.iand, 1) := by decide +kernel
theorem d23_42 : decode jdk_52_method_5_code 42 = .ok (.getstatic 59, 3) := by decide +kernel
theorem d23_45 : decode jdk_52_method_5_code 45 = .ok (.ishl, 1) := by decide +kernel
theorem d23_46 : decode jdk_52_method_5_code 46 = .ok (.aload_n 0, 1) := by decide +kernel
theorem d23_47 : decode jdk_52_method_5_code 47 = .ok (.iload_n 1, 1) := by decide +kernel
theorem d23_48 : decode jdk_52_method_5_code 48 = .ok (.baload, 1) := by decide +kernel
theorem d23_49 : decode jdk_52_method_5_code 49 = .ok (.sipush 255, 3) := by decide +kernel
theorem d23_52 : decode jdk_52_method_5_code 52 = .ok (.iand, 1) := by decide +kernel
theorem d23_53 : decode jdk_52_method_5_code 53 = .ok (.getstatic 63, 3) := by decide +kernel
theorem d23_56 : decode jdk_52_method_5_code 56 = .ok (.ishl, 1) := by decide +kernel
theorem d23_57 : decode jdk_52_method_5_code 57 = .ok (.ior, 1) := by decide +kernel
theorem d23_58 : decode jdk_52_method_5_code 58 = .ok (.i2c, 1) := by decide +kernel
theorem d23_59 : decode jdk_52_method_5_code 59 = .ok (.ireturn, 1) := by decide +kernel
theorem ef23_rmGc0 (m : MethodId) (x0 : Addr) (x1 : Int32) : entryFrame m #[(.ref x0), (.int x1)] 2 = mkF m 0 #[vr x0, vi x1] [] := by first | (simp [entryFrame, mkF, argsToLocals, Value.category]; done) | rfl
def QGc0 (Z : State) (b : Addr) (cs : Int32) (sf : Value) (kb : ClassId) (mm : Int32) (ls : List Value) (yy : Int32) (h0 : Heap) (n0 : Nat) (v : Option Value) (h : Heap) (L : List Loc) : Prop := v = some (.int yy) ∧ Fr n0 L ∧ h = h0
theorem rmGc0 (l : Launch) (Z : State) (a0 : Array Value) (hw : ∀ d ∈ tables_1, d.before a0 Z = true) (ws : List Jvm.Cond) (b : Addr) (cs : Int32) (sf : Value) (kb : ClassId) (mm : Int32) (ls : List Value) (yy : Int32) (h0 : Heap) (n0 : Nat) (Z0 : n0 ≤ h0.size) (hW : own_W Z h0 n0 cs sf) (Vb : Arv Z h0 b kb .byte mm ls (.int 0)) (hm0 : (0 : Int32) < mm) (hm1 : (1 : Int32) < mm) (ge0 : ls.getD 0 (.int 0) = .int (own_lo yy)) (ge1 : ls.getD 1 (.int 0) = .int (own_hi yy)) (hy1 : 0 ≤ yy.toInt) (hy2 : yy.toInt ≤ 65535) :
    own_Met l on5 (Jvm.Cond.code on5 jdk_52_method_5_code 2 (some .char) :: ws) orm25 #[(.ref b), (.int 0)] Z h0 (QGc0 Z b cs sf kb mm ls yy h0 n0) := by
  refine MetFree.of_bodySF (plainFor_of_name pn2) hisR ?_
  intro p e s m args below meth c s₁ Bd hml0 hP hK
  obtain ⟨rfl, hZ, hh⟩ := hP
  have hx := Bd.exec
  have hby := Bd.bytes
  have hlk : meth.locks = false := BodyLoose.notSynchronized Bd
  have hret := Bd.returns
  have hml : c.maxLocals = 2 := hml0
  have hown : s.vm.findClass "java/lang/StringUTF16" = some m.cls := findClass_of_methodNamed Bd.named
  have X0 : Stand p l e orm25 s m #[(.ref b), (.int 0)] below meth c s₁ [] 0 0 := Stand.of_body Bd
  have e0 : s₁.heap = h0 := by rw [← hh, Bd.state]; rfl
  have N0 := Fr.nil n0
  show Dn p e below s (QGc0 Z b cs sf kb mm ls yy h0 n0) orm25.cells orm25.slots (s₁.setTop (entryFrame m #[(.ref b), (.int 0)] 2))
  refine Dn.st (fun _ kk => castTop (ef23_rmGc0 m b (0 : Int32)) kk) ?_
  show Dn p e below s _ _ _ (s₁.setTop (mkF m 0 #[vr b, vi 0] []))
  obtain ⟨T0z, X0z, e0z, st0z⟩ := getS2 X0 hx hZ hown (host := "") (Or.inl (tw hw 99 rfl)) Via.refl e0 hW.adt (g := (mkF m 0 #[vr b, vi 0] [])) rfl (hb hby d23_0)
  refine Dn.st st0z ?_
  show Dn p e below s _ _ _ (T0z.setTop (mkF m 3 #[vr b, vi 0] [(.int 1)]))
  have hc3 : ¬ ((1 : Int32) = (0 : Int32)) := by decide
  refine Dn.st (fun _ kk => XS.ifYes X0z.here hx rfl (pc0 := 3) (pc' := 28) rfl (hb hby d23_3) rfl ((if0 _ _).trans (feq hc3).2) (by decide) (by decide) (XS.iloadN X0z.here hx rfl (hb hby d23_28) rfl (XS.iconst X0z.here hx rfl (hb hby d23_29) (XS.ishl X0z.here hx rfl (hb hby d23_30) rfl (XS.istoreN X0z.here hx rfl (hb hby d23_31) rfl (l' := #[vr b, vi 0]) rfl (XS.aloadN X0z.here hx rfl (hb hby d23_32) rfl rfl (kk))))))) ?_
  show Dn p e below s _ _ _ (T0z.setTop (mkF m 33 #[vr b, vi 0] [(.ref b)]))
  refine Dn.st (fun _ kk => XS.iloadN X0z.here hx rfl (hb hby d23_33) rfl (XS.iinc X0z.here hx rfl (hb hby d23_34) rfl (l' := #[vr b, vi 1]) rfl (kk))) ?_
  show Dn p e below s _ _ _ (T0z.setTop (mkF m 37 #[vr b, vi 1] [(.int 0), (.ref b)]))
  have Vc_b_37 := Vb
  obtain ⟨cl_b_37, Ar_b_37, q_b_37, S_b_37, N_b_37, H_b_37, G_b_37⟩ := Vc_b_37
  have hin37 : ¬ ((0 : Int32) < 0 ∨ cl_b_37.slots.size ≤ ((0 : Int32)).toNatClampNeg) := inb_of S_b_37 ⟨by decide, hm0⟩
  have hat37 : cl_b_37.slots[((0 : Int32)).toNatClampNeg]? = some (.int (own_lo yy)) := H_b_37.at hin37 ge0
  refine Dn.st (fun _ kk => X0z.baloadBytes hx (j := (0 : Int32)) (v := (.int (own_lo yy))) (by rw [e0z]; exact Ar_b_37.1) (State.isArrayOf_alike hZ.alike Ar_b_37.2.1) Ar_b_37.2.2 hin37 hat37 (g := (mkF m 37 #[vr b, vi 1] [(.int 0), (.ref b)])) rfl rfl (hb hby d23_37) _ (XS.sipush X0z.here hx rfl (hb hby d23_38) (XS.iand X0z.here hx rfl (hb hby d23_41) rfl (kk)))) ?_
  show Dn p e below s _ _ _ (T0z.setTop (mkF m 42 #[vr b, vi 1] [(.int ((own_lo yy) &&& (255 : Int32)))]))
  obtain ⟨T42, X42, e42, st42⟩ := getS2 X0z hx hZ hown (host := "") (Or.inl (tw hw 100 rfl)) Via.refl e0z hW.hit (g := (mkF m 42 #[vr b, vi 1] [(.int ((own_lo yy) &&& (255 : Int32)))])) rfl (hb hby d23_42)
  refine Dn.st st42 ?_
  show Dn p e below s _ _ _ (T42.setTop (mkF m 45 #[vr b, vi 1] [(.int 0), (.int ((own_lo yy) &&& (255 : Int32)))]))
  refine Dn.st (fun _ kk => XS.ishl X42.here hx rfl (hb hby d23_45) rfl (XS.aloadN X42.here hx rfl (hb hby d23_46) rfl rfl (XS.iloadN X42.here hx rfl (hb hby d23_47) rfl (kk)))) ?_
  show Dn p e below s _ _ _ (T42.setTop (mkF m 48 #[vr b, vi 1] [(.int 1), (.ref b), (.int (((own_lo yy) &&& (255 : Int32)) <<< ((0 : Int32) &&& 31)))]))
  have Vc_b_48 := Vb
  obtain ⟨cl_b_48, Ar_b_48, q_b_48, S_b_48, N_b_48, H_b_48, G_b_48⟩ := Vc_b_48
  have hin48 : ¬ ((1 : Int32) < 0 ∨ cl_b_48.slots.size ≤ ((1 : Int32)).toNatClampNeg) := inb_of S_b_48 ⟨by decide, hm1⟩
  have hat48 : cl_b_48.slots[((1 : Int32)).toNatClampNeg]? = some (.int (own_hi yy)) := H_b_48.at hin48 ge1
  refine Dn.st (fun _ kk => X42.baloadBytes hx (j := (1 : Int32)) (v := (.int (own_hi yy))) (by rw [e42]; exact Ar_b_48.1) (State.isArrayOf_alike hZ.alike Ar_b_48.2.1) Ar_b_48.2.2 hin48 hat48 (g := (mkF m 48 #[vr b, vi 1] [(.int 1), (.ref b), (.int (((own_lo yy) &&& (255 : Int32)) <<< ((0 : Int32) &&& 31)))])) rfl rfl (hb hby d23_48) _ (XS.sipush X42.here hx rfl (hb hby d23_49) (XS.iand X42.here hx rfl (hb hby d23_52) rfl (kk)))) ?_
  show Dn p e below s _ _ _ (T42.setTop (mkF m 53 #[vr b, vi 1] [(.int ((own_hi yy) &&& (255 : Int32))), (.int (((own_lo yy) &&& (255 : Int32)) <<< ((0 : Int32) &&& 31)))]))
  obtain ⟨T53, X53, e53, st53⟩ := getS2 X42 hx hZ hown (host := "") (Or.inl (tw hw 101 rfl)) Via.refl e42 hW.lot (g := (mkF m 53 #[vr b, vi 1] [(.int ((own_hi yy) &&& (255 : Int32))), (.int (((own_lo yy) &&& (255 : Int32)) <<< ((0 : Int32) &&& 31)))])) rfl (hb hby d23_53)
  refine Dn.st st53 ?_
  show Dn p e below s _ _ _ (T53.setTop (mkF m 56 #[vr b, vi 1] [(.int 8), (.int ((own_hi yy) &&& (255 : Int32))), (.int (((own_lo yy) &&& (255 : Int32)) <<< ((0 : Int32) &&& 31)))]))
  refine Dn.st (fun _ kk => XS.ishl X53.here hx rfl (hb hby d23_56) rfl (XS.ior X53.here hx rfl (hb hby d23_57) rfl (XS.i2c X53.here hx rfl (hb hby d23_58) rfl (kk)))) ?_
  show Dn p e below s _ _ _ (T53.setTop (mkF m 59 #[vr b, vi 1] [(.int (((((own_lo yy) &&& (255 : Int32)) <<< ((0 : Int32) &&& 31)) ||| (((own_hi yy) &&& (255 : Int32)) <<< ((8 : Int32) &&& 31))).toUInt32.toUInt16.toUInt32.toInt32))]))
  rw [own_u16 hy1 hy2]
  show Dn p e below s _ _ _ (T53.setTop (mkF m 59 #[vr b, vi 1] [(.int yy)]))
  exact Dn.ret X53 hlk hx hret (own_nc (by omega) (by omega)) (Or.inl ⟨rfl, Or.inr (Or.inr (Or.inr (Or.inl rfl))), _, rfl⟩) (hb hby d23_59) (by rw [e53]; exact ⟨rfl, N0, rfl⟩) (by decide) (by decide)

theorem d24_0 : decode jdk_52_method_83_code 0 = .ok (.iload_n 1, 1) := by decide +kernel
theorem d24_1 : decode jdk_52_method_83_code 1 = .ok (.aload_n 0, 1) := by decide +kernel
theorem d24_2 : decode jdk_52_method_83_code 2 = .ok (.invokestatic 67, 3) := by decide +kernel
theorem d24_5 : decode jdk_52_method_83_code 5 = .ok (.aload_n 0, 1) := by decide +kernel
theorem d24_6 : decode jdk_52_method_83_code 6 = .ok (.iload_n 1, 1) := by decide +kernel
theorem d24_7 : decode jdk_52_method_83_code 7 = .ok (.invokestatic 71, 3) := by decide +kernel
theorem d24_10 : decode jdk_52_method_83_code 10 = .ok (.ireturn, 1) := by decide +kernel
theorem pd5 : parseMethodDescriptor "(I[B)V" = some ⟨[.int, (.array .byte)], none⟩ := by decide +kernel
theorem pd6 : parseMethodDescriptor "([BI)C" = some ⟨[(.array .byte), .int], some .char⟩ := by decide +kernel
theorem ef24_rmUch0 (m : MethodId) (x0 : Addr) (x1 : Int32) : entryFrame m #[(.ref x0), (.int x1)] 2 = mkF m 0 #[vr x0, vi x1] [] := by first | (simp [entryFrame, mkF, argsToLocals, Value.category]; done) | rfl
def QUch0 (Z : State) (b : Addr) (cs : Int32) (sf : Value) (kb : ClassId) (mm : Int32) (ls : List Value) (yy : Int32) (h0 : Heap) (n0 : Nat) (v : Option Value) (h : Heap) (L : List Loc) : Prop := v = some (.int yy) ∧ Fr n0 L ∧ h = h0
theorem rmUch0 (l : Launch) (Z : State) (a0 : Array Value) (hw : ∀ d ∈ tables_1, d.before a0 Z = true) (ws : List Jvm.Cond) (b : Addr) (cs : Int32) (sf : Value) (kb : ClassId) (mm : Int32) (ls : List Value) (yy : Int32) (h0 : Heap) (n0 : Nat) (Z0 : n0 ≤ h0.size) (hW : own_W Z h0 n0 cs sf) (Vb : Arv Z h0 b kb .byte mm ls (.int 0)) (hm0 : (0 : Int32) < mm) (hm1 : (1 : Int32) < mm) (ge0 : ls.getD 0 (.int 0) = .int (own_lo yy)) (ge1 : ls.getD 1 (.int 0) = .int (own_hi yy)) (hy1 : 0 ≤ yy.toInt) (hy2 : yy.toInt ≤ 65535) (hx2 : (0 : Int32) < mm >>> ((1 : Int32) &&& 31)) :
    own_Met l on13 (Jvm.Cond.code on13 jdk_52_method_83_code 2 (some .char) :: ws) orm27 #[(.ref b), (.int 0)] Z h0 (QUch0 Z b cs sf kb mm ls yy h0 n0) := by
  refine MetFree.of_bodySF (plainFor_of_name pn2) hisR ?_
  intro p e s m args below meth c s₁ Bd hml0 hP hK
  obtain ⟨rfl, hZ, hh⟩ := hP
  have hx := Bd.exec
  have hby := Bd.bytes
  have hlk : meth.locks = false := BodyLoose.notSynchronized Bd
  have hret := Bd.returns
  have hml : c.maxLocals = 2 := hml0
  have hown : s.vm.findClass "java/lang/StringUTF16" = some m.cls := findClass_of_methodNamed Bd.named
  have X0 : Stand p l e orm27 s m #[(.ref b), (.int 0)] below meth c s₁ [] 0 0 := Stand.of_body Bd
  have e0 : s₁.heap = h0 := by rw [← hh, Bd.state]; rfl
  have N0 := Fr.nil n0
  show Dn p e below s (QUch0 Z b cs sf kb mm ls yy h0 n0) orm27.cells orm27.slots (s₁.setTop (entryFrame m #[(.ref b), (.int 0)] 2))
  refine Dn.st (fun _ kk => castTop (ef24_rmUch0 m b (0 : Int32)) kk) ?_
  show Dn p e below s _ _ _ (s₁.setTop (mkF m 0 #[vr b, vi 0] []))
  refine Dn.st (fun _ kk => XS.iloadN X0.here hx rfl (hb hby d24_0) rfl (XS.aloadN X0.here hx rfl (hb hby d24_1) rfl rfl (kk))) ?_
  show Dn p e below s _ _ _ (s₁.setTop (mkF m 2 #[vr b, vi 0] [(.ref b), (.int 0)]))
  obtain ⟨_, _, ⟨T2, L2, k2, n2⟩, -, X2, ⟨Lc2, hQ2, l2, y2, z2⟩, st2⟩ := Jvm.LawKit.callS X0 hx (y := on21) hown (mvT hZ (tw hw 108 rfl)) (mvT hZ (tw hw 109 rfl)) (mvT hZ (tw hw 50 rfl)) (mvT hZ (tw hw 110 rfl)) (by decide) (backOf (W := 0) (rmUc l Z a0 hw [] (0 : Int32) b cs sf kb mm ls h0 n0 Z0 hW Vb (by decide) hx2) hZ (tw hw 110 rfl) (tw hw 50 rfl) (by decide) (by decide)) (g := (mkF m 2 #[vr b, vi 0] [(.ref b), (.int 0)])) rfl (by rw [hml]; rfl) (argsL := [(.int 0), (.ref b)]) (rest := []) (lenOf pd5 rfl) rfl (by show 2 * 0 + _ ≤ _; exact Nat.le_of_eq rfl) (hb hby d24_2) (fun _ _ => ⟨rfl, e0, (by decide : 0 + 0 ≤ _), (by decide : 0 + 0 ≤ _)⟩)
  dsimp only [Pt.U, Pt.locs, Pt.cells, Pt.slots] at X2 l2 y2 z2 st2 hQ2
  subst l2 y2 z2
  obtain ⟨rfl, Nq2, hh2⟩ := hQ2
  have N2 := Fr.app N0 Nq2
  refine Dn.st st2 ?_
  show Dn p e below s _ _ _ (T2.setTop (mkF m 5 #[vr b, vi 0] []))
  refine Dn.st (fun _ kk => XS.aloadN X2.here hx rfl (hb hby d24_5) rfl rfl (XS.iloadN X2.here hx rfl (hb hby d24_6) rfl (kk))) ?_
  show Dn p e below s _ _ _ (T2.setTop (mkF m 7 #[vr b, vi 0] [(.int 0), (.ref b)]))
  obtain ⟨_, _, ⟨T7, L7, k7, n7⟩, -, X7, ⟨Lc7, hQ7, l7, y7, z7⟩, st7⟩ := Jvm.LawKit.callS X2 hx (y := on5) hown (mvT hZ (tw hw 102 rfl)) (mvT hZ (tw hw 103 rfl)) (mvT hZ (tw hw 50 rfl)) (mvT hZ (tw hw 104 rfl)) (by decide) (backOf (W := 0) (rmGc0 l Z a0 hw [] b cs sf kb mm ls yy h0 n0 Z0 hW Vb hm0 hm1 ge0 ge1 hy1 hy2) hZ (tw hw 104 rfl) (tw hw 50 rfl) (by decide) (by decide)) (g := (mkF m 7 #[vr b, vi 0] [(.int 0), (.ref b)])) rfl (by rw [hml]; rfl) (argsL := [(.ref b), (.int 0)]) (rest := []) (lenOf pd6 rfl) rfl (by show 2 * 0 + _ ≤ _; exact Nat.le_of_eq rfl) (hb hby d24_7) (fun _ _ => ⟨rfl, hh2, (by decide : 0 + 0 ≤ _), (by decide : 0 + 0 ≤ _)⟩)
  dsimp only [Pt.U, Pt.locs, Pt.cells, Pt.slots] at X7 l7 y7 z7 st7 hQ7
  subst l7 y7 z7
  obtain ⟨rfl, Nq7, hh7⟩ := hQ7
  have N7 := Fr.app N2 Nq7
  refine Dn.st st7 ?_
  show Dn p e below s _ _ _ (T7.setTop (mkF m 10 #[vr b, vi 0] [(.int yy)]))
  exact Dn.ret X7 hlk hx hret (own_nc (by omega) (by omega)) (Or.inl ⟨rfl, Or.inr (Or.inr (Or.inr (Or.inl rfl))), _, rfl⟩) (hb hby d24_10) (by rw [hh7]; exact ⟨rfl, N7, rfl⟩) (by decide) (by decide)

theorem d15_0 : decode jdk_43_method_2_code 0 = .ok (.iload_n 1, 1) := by decide +kernel
theorem d15_1 : decode jdk_43_method_2_code 1 = .ok (.aload_n 0, 1) := by decide +kernel
theorem d15_2 : decode jdk_43_method_2_code 2 = .ok (.arraylength, 1) := by decide +kernel
theorem d15_3 : decode jdk_43_method_2_code 3 = .ok (.invokestatic 9, 3) := by decide +kernel
theorem d15_6 : decode jdk_43_method_2_code 6 = .ok (.aload_n 0, 1) := by decide +kernel
theorem d15_7 : decode jdk_43_method_2_code 7 = .ok (.iload_n 1, 1) := by decide +kernel
theorem d15_8 : decode jdk_43_method_2_code 8 = .ok (.baload, 1) := by decide +kernel
theorem d15_9 : decode jdk_43_method_2_code 9 = .ok (.sipush 255, 3) := by decide +kernel
theorem d15_12 : decode jdk_43_method_2_code 12 = .ok (.iand, 1) := by decide +kernel
theorem d15_13 : decode jdk_43_method_2_code 13 = .ok (.i2c, 1) := by decide +kernel
theorem d15_14 : decode jdk_43_method_2_code 14 = .ok (.ireturn, 1) := by decide +kernel
theorem pn3 : plainName "java/lang/StringLatin1" = true := by first | (simp [plainName, overriddenIn]; done) | decide +kernel
theorem ef15_rmLch0 (m : MethodId) (x0 : Addr) (x1 : Int32) : entryFrame m #[(.ref x0), (.int x1)] 2 = mkF m 0 #[vr x0, vi x1] [] := by first | (simp [entryFrame, mkF, argsToLocals, Value.category]; done) | rfl
def QLch0 (Z : State) (b : Addr) (cs : Int32) (sf : Value) (kb : ClassId) (mm : Int32) (ls : List Value) (yy : Int32) (h0 : Heap) (n0 : Nat) (v : Option Value) (h : Heap) (L : List Loc) : Prop := v = some (.int yy) ∧ Fr n0 L ∧ h = h0
theorem rmLch0 (l : Launch) (Z : State) (a0 : Array Value) (hw : ∀ d ∈ tables_1, d.before a0 Z = true) (ws : List Jvm.Cond) (b : Addr) (cs : Int32) (sf : Value) (kb : ClassId) (mm : Int32) (ls : List Value) (yy : Int32) (h0 : Heap) (n0 : Nat) (Z0 : n0 ≤ h0.size) (hW : own_W Z h0 n0 cs sf) (Vb : Arv Z h0 b kb .byte mm ls (.int 0)) (hm0 : (0 : Int32) < mm) (ge0 : ls.getD 0 (.int 0) = .int (own_b yy)) (hy1 : 0 ≤ yy.toInt) (hy2 : yy.toInt ≤ 255) :
    own_Met l on11 (Jvm.Cond.code on11 jdk_43_method_2_code 2 (some .char) :: ws) orm26 #[(.ref b), (.int 0)] Z h0 (QLch0 Z b cs sf kb mm ls yy h0 n0) := by
  refine MetFree.of_bodySF (plainFor_of_name pn3) hisR ?_
  intro p e s m args below meth c s₁ Bd hml0 hP hK
  obtain ⟨rfl, hZ, hh⟩ := hP
  have hx := Bd.exec
  have hby := Bd.bytes
  have hlk : meth.locks = false := BodyLoose.notSynchronized Bd
  have hret := Bd.returns
  have hml : c.maxLocals = 2 := hml0
  have hown : s.vm.findClass "java/lang/StringLatin1" = some m.cls := findClass_of_methodNamed Bd.named
  have X0 : Stand p l e orm26 s m #[(.ref b), (.int 0)] below meth c s₁ [] 0 0 := Stand.of_body Bd
  have e0 : s₁.heap = h0 := by rw [← hh, Bd.state]; rfl
  have N0 := Fr.nil n0
  show Dn p e below s (QLch0 Z b cs sf kb mm ls yy h0 n0) orm26.cells orm26.slots (s₁.setTop (entryFrame m #[(.ref b), (.int 0)] 2))
  refine Dn.st (fun _ kk => castTop (ef15_rmLch0 m b (0 : Int32)) kk) ?_
  show Dn p e below s _ _ _ (s₁.setTop (mkF m 0 #[vr b, vi 0] []))
  refine Dn.st (fun _ kk => XS.iloadN X0.here hx rfl (hb hby d15_0) rfl (XS.aloadN X0.here hx rfl (hb hby d15_1) rfl rfl (kk))) ?_
  show Dn p e below s _ _ _ (s₁.setTop (mkF m 2 #[vr b, vi 0] [(.ref b), (.int 0)]))
  have Vc_b_2 := Vb
  obtain ⟨cl_b_2, Ar_b_2, q_b_2, S_b_2, N_b_2, H_b_2, G_b_2⟩ := Vc_b_2
  refine Dn.st (fun _ kk => X0.arraylength hx (by rw [e0]; exact Ar_b_2.1) (State.isArrayOf_alike hZ.alike Ar_b_2.2.1) (g := (mkF m 2 #[vr b, vi 0] [(.ref b), (.int 0)])) rfl rfl (hb hby d15_2) _ (kk)) ?_
  show Dn p e below s _ _ _ (s₁.setTop (mkF m 3 #[vr b, vi 0] [(.int cl_b_2.slots.size.toInt32), (.int 0)]))
  rw [len_of S_b_2 N_b_2]
  show Dn p e below s _ _ _ (s₁.setTop (mkF m 3 #[vr b, vi 0] [(.int mm), (.int 0)]))
  obtain ⟨_, _, ⟨T3, L3, k3, n3⟩, -, X3, ⟨Lc3, hQ3, l3, y3, z3⟩, st3⟩ := Jvm.LawKit.callS X0 hx (y := on20) hown (mvT hZ (tw hw 75 rfl)) (mvT hZ (tw hw 76 rfl)) (mvT hZ (tw hw 8 rfl)) (mvT hZ (tw hw 77 rfl)) (by decide) (backOf (W := 0) (rmCi l Z a0 hw [] (0 : Int32) mm cs sf  h0 n0 Z0 hW (by decide) hm0) hZ (tw hw 77 rfl) (tw hw 8 rfl) (by decide) (by decide)) (g := (mkF m 3 #[vr b, vi 0] [(.int mm), (.int 0)])) rfl (by rw [hml]; rfl) (argsL := [(.int 0), (.int mm)]) (rest := []) (lenOf pd4 rfl) rfl (by show 2 * 0 + _ ≤ _; exact Nat.le_of_eq rfl) (hb hby d15_3) (fun _ _ => ⟨rfl, e0, (by decide : 0 + 0 ≤ _), (by decide : 0 + 0 ≤ _)⟩)
  dsimp only [Pt.U, Pt.locs, Pt.cells, Pt.slots] at X3 l3 y3 z3 st3 hQ3
  subst l3 y3 z3
  obtain ⟨rfl, Nq3, hh3⟩ := hQ3
  have N3 := Fr.app N0 Nq3
  refine Dn.st st3 ?_
  show Dn p e below s _ _ _ (T3.setTop (mkF m 6 #[vr b, vi 0] []))
  refine Dn.st (fun _ kk => XS.aloadN X3.here hx rfl (hb hby d15_6) rfl rfl (XS.iloadN X3.here hx rfl (hb hby d15_7) rfl (kk))) ?_
  show Dn p e below s _ _ _ (T3.setTop (mkF m 8 #[vr b, vi 0] [(.int 0), (.ref b)]))
  have Vc_b_8 := Vb
  obtain ⟨cl_b_8, Ar_b_8, q_b_8, S_b_8, N_b_8, H_b_8, G_b_8⟩ := Vc_b_8
  have hin8 : ¬ ((0 : Int32) < 0 ∨ cl_b_8.slots.size ≤ ((0 : Int32)).toNatClampNeg) := inb_of S_b_8 ⟨by decide, hm0⟩
  have hat8 : cl_b_8.slots[((0 : Int32)).toNatClampNeg]? = some (.int (own_b yy)) := H_b_8.at hin8 ge0
  refine Dn.st (fun _ kk => X3.baloadBytes hx (j := (0 : Int32)) (v := (.int (own_b yy))) (by rw [hh3]; exact Ar_b_8.1) (State.isArrayOf_alike hZ.alike Ar_b_8.2.1) Ar_b_8.2.2 hin8 hat8 (g := (mkF m 8 #[vr b, vi 0] [(.int 0), (.ref b)])) rfl rfl (hb hby d15_8) _ (XS.sipush X3.here hx rfl (hb hby d15_9) (XS.iand X3.here hx rfl (hb hby d15_12) rfl (XS.i2c X3.here hx rfl (hb hby d15_13) rfl (kk))))) ?_
  show Dn p e below s _ _ _ (T3.setTop (mkF m 14 #[vr b, vi 0] [(.int (((own_b yy) &&& (255 : Int32)).toUInt32.toUInt16.toUInt32.toInt32))]))
  rw [own_lat hy1 hy2]
  show Dn p e below s _ _ _ (T3.setTop (mkF m 14 #[vr b, vi 0] [(.int yy)]))
  exact Dn.ret X3 hlk hx hret (own_nc (by omega) (by omega)) (Or.inl ⟨rfl, Or.inr (Or.inr (Or.inr (Or.inl rfl))), _, rfl⟩) (hb hby d15_14) (by rw [hh3]; exact ⟨rfl, N3, rfl⟩) (by decide) (by decide)

theorem d13_0 : decode jdk_42_method_56_code 0 = .ok (.aload_n 0, 1) := by decide +kernel
theorem d13_1 : decode jdk_42_method_56_code 1 = .ok (.invokevirtual 492, 3) := by decide +kernel
theorem d13_4 : decode jdk_42_method_56_code 4 = .ok (.ifCond .eq 12, 3) := by decide +kernel
theorem d13_7 : decode jdk_42_method_56_code 7 = .ok (.aload_n 0, 1) := by decide +kernel
theorem d13_8 : decode jdk_42_method_56_code 8 = .ok (.getfield 9, 3) := by decide +kernel
theorem d13_11 : decode jdk_42_method_56_code 11 = .ok (.iload_n 1, 1) := by decide +kernel
theorem d13_12 : decode jdk_42_method_56_code 12 = .ok (.invokestatic 495, 3) := by decide +kernel
theorem d13_15 : decode jdk_42_method_56_code 15 = .ok (.ireturn, 1) := by decide +kernel
theorem d13_16 : decode jdk_42_method_56_code 16 = .ok (.aload_n 0, 1) := by decide +kernel
theorem d13_17 : decode jdk_42_method_56_code 17 = .ok (.getfield 9, 3) := by decide +kernel
theorem d13_20 : decode jdk_42_method_56_code 20 = .ok (.iload_n 1, 1) := by decide +kernel
theorem d13_21 : decode jdk_42_method_56_code 21 = .ok (.invokestatic 498, 3) := by decide +kernel
theorem d13_24 : decode jdk_42_method_56_code 24 = .ok (.ireturn, 1) := by decide +kernel
theorem pd7 : parseMethodDescriptor "()Z" = some ⟨[], some .boolean⟩ := by decide +kernel
theorem ef13_rmCh0 (m : MethodId) (x0 : Addr) (x1 : Int32) : entryFrame m #[(.ref x0), (.int x1)] 2 = mkF m 0 #[vr x0, vi x1] [] := by first | (simp [entryFrame, mkF, argsToLocals, Value.category]; done) | rfl
def QCh0 (Z : State) (a : Addr) (cs : Int32) (sf : Value) (nn mm : Int32) (ls lu : List Value) (PQ : Prop) (yy : Int32) (h0 : Heap) (n0 : Nat) (v : Option Value) (h : Heap) (L : List Loc) : Prop := v = some (.int yy) ∧ Fr n0 L ∧ h = h0
theorem rmCh0 (l : Launch) (Z : State) (a0 : Array Value) (hw : ∀ d ∈ tables_1, d.before a0 Z = true) (ws : List Jvm.Cond) (a : Addr) (cs : Int32) (sf : Value) (nn mm : Int32) (ls lu : List Value) (PQ : Prop) (yy : Int32) (h0 : Heap) (n0 : Nat) (Z0 : n0 ≤ h0.size) (hW : own_W Z h0 n0 cs sf) (hS : own_Str Z h0 a nn mm ls lu PQ) (hn : (0 : Int32) < nn) (el : ls.getD 0 (.int 0) = .int (own_b yy)) (hP : PQ → yy.toInt ≤ 255) (hm0 : (0 : Int32) < mm) (hm1 : (1 : Int32) < mm) (ge0 : lu.getD 0 (.int 0) = .int (own_lo yy)) (ge1 : lu.getD 1 (.int 0) = .int (own_hi yy)) (hx2 : (0 : Int32) < mm >>> ((1 : Int32) &&& 31)) (hr : 0 ≤ yy.toInt ∧ yy.toInt ≤ 65535) :
    own_Met l on2 (Jvm.Cond.code on2 jdk_42_method_56_code 2 (some .char) :: ws) orm28 #[(.ref a), (.int 0)] Z h0 (QCh0 Z a cs sf nn mm ls lu PQ yy h0 n0) := by
  refine MetFree.of_bodySF (plainFor_of_name pn0) hisR ?_
  intro p e s m args below meth c s₁ Bd hml0 hP hK
  obtain ⟨rfl, hZ, hh⟩ := hP
  have hx := Bd.exec
  have hby := Bd.bytes
  have hlk : meth.locks = false := BodyLoose.notSynchronized Bd
  have hret := Bd.returns
  have hml : c.maxLocals = 2 := hml0
  have hown : s.vm.findClass "java/lang/String" = some m.cls := findClass_of_methodNamed Bd.named
  have X0 : Stand p l e orm28 s m #[(.ref a), (.int 0)] below meth c s₁ [] 0 0 := Stand.of_body Bd
  have e0 : s₁.heap = h0 := by rw [← hh, Bd.state]; rfl
  have N0 := Fr.nil n0
  show Dn p e below s (QCh0 Z a cs sf nn mm ls lu PQ yy h0 n0) orm28.cells orm28.slots (s₁.setTop (entryFrame m #[(.ref a), (.int 0)] 2))
  refine Dn.st (fun _ kk => castTop (ef13_rmCh0 m a (0 : Int32)) kk) ?_
  show Dn p e below s _ _ _ (s₁.setTop (mkF m 0 #[vr a, vi 0] []))
  rcases hS with ⟨Ea, ⟨bb, kb, Fc, Fv, Vb, hp⟩ | ⟨bb, kb, Fc, Fv, Vb⟩⟩
  · show Dn p e below s _ _ _ (s₁.setTop (mkF m 0 #[vr a, vi 0] []))
    refine Dn.st (fun _ kk => XS.aloadN X0.here hx rfl (hb hby d13_0) rfl rfl (kk)) ?_
    show Dn p e below s _ _ _ (s₁.setTop (mkF m 1 #[vr a, vi 0] [(.ref a)]))
    obtain ⟨cq1, kq1, q1a, q1b, q1c⟩ := isOf hZ e0 Ea
    obtain ⟨_, _, ⟨T1, L1, k1, n1⟩, -, X1, ⟨Lc1, hQ1, l1, y1, z1⟩, st1⟩ := X0.virtualBack hx (y := on6) (z := on6) hown (mvT hZ (tw hw 66 rfl)) (mvT hZ (tw hw 67 rfl)) (notFace_of_selects (args := #[]) (mvT hZ (tw hw 69 rfl))) (mvT hZ (tw hw 69 rfl)) (mvT hZ (tw hw 68 rfl)) (by decide) (backOf (W := 0) (rmIl0 l Z a0 hw [] a cs sf  h0 n0 Z0 hW Fc) hZ (tw hw 70 rfl) (tw hw 8 rfl) (by decide) (by decide)) q1a q1c (g := (mkF m 1 #[vr a, vi 0] [(.ref a)])) rfl (by rw [hml]; rfl) (Steps.refl _) (argsL := []) (rest := []) (lenOf pd7 rfl) rfl (by show 2 * 0 + _ ≤ _; exact Nat.le_of_eq rfl) (hb hby d13_1) (fun _ _ => ⟨rfl, e0, (by decide : 0 + 0 ≤ _), (by decide : 0 + 0 ≤ _)⟩)
    dsimp only [Pt.U, Pt.locs, Pt.cells, Pt.slots] at X1 l1 y1 z1 st1 hQ1
    subst l1 y1 z1
    obtain ⟨rfl, Nq1, hh1⟩ := hQ1
    have N1 := Fr.app N0 Nq1
    refine Dn.tr st1 ?_
    show Dn p e below s _ _ _ (T1.setTop (mkF m 4 #[vr a, vi 0] [(.int 1)]))
    have hc4 : ¬ ((1 : Int32) = (0 : Int32)) := by decide
    refine Dn.st (fun _ kk => XS.ifNo X1.here hx rfl (hb hby d13_4) rfl ((if0 _ _).trans (feq hc4).1) (XS.aloadN X1.here hx rfl (hb hby d13_7) rfl rfl (kk))) ?_
    show Dn p e below s _ _ _ (T1.setTop (mkF m 8 #[vr a, vi 0] [(.ref a)]))
    obtain ⟨T8, X8, e8, st8⟩ := getF X1 hx hZ hown (host := "") (Or.inl (tw hw 26 rfl)) Via.refl hh1 Fv (g := (mkF m 8 #[vr a, vi 0] [(.ref a)])) rfl rfl (hb hby d13_8)
    refine Dn.st st8 ?_
    show Dn p e below s _ _ _ (T8.setTop (mkF m 11 #[vr a, vi 0] [(.ref bb)]))
    refine Dn.st (fun _ kk => XS.iloadN X8.here hx rfl (hb hby d13_11) rfl (kk)) ?_
    show Dn p e below s _ _ _ (T8.setTop (mkF m 12 #[vr a, vi 0] [(.int 0), (.ref bb)]))
    obtain ⟨_, _, ⟨T12, L12, k12, n12⟩, -, X12, ⟨Lc12, hQ12, l12, y12, z12⟩, st12⟩ := Jvm.LawKit.callS X8 hx (y := on11) hown (mvT hZ (tw hw 71 rfl)) (mvT hZ (tw hw 72 rfl)) (mvT hZ (tw hw 73 rfl)) (mvT hZ (tw hw 74 rfl)) (by decide) (backOf (W := 0) (rmLch0 l Z a0 hw [] bb cs sf kb nn ls yy h0 n0 Z0 hW Vb hn el hr.1 (hP hp)) hZ (tw hw 74 rfl) (tw hw 73 rfl) (by decide) (by decide)) (g := (mkF m 12 #[vr a, vi 0] [(.int 0), (.ref bb)])) rfl (by rw [hml]; rfl) (argsL := [(.ref bb), (.int 0)]) (rest := []) (lenOf pd6 rfl) rfl (by show 2 * 0 + _ ≤ _; exact Nat.le_of_eq rfl) (hb hby d13_12) (fun _ _ => ⟨rfl, e8, (by decide : 0 + 0 ≤ _), (by decide : 0 + 0 ≤ _)⟩)
    dsimp only [Pt.U, Pt.locs, Pt.cells, Pt.slots] at X12 l12 y12 z12 st12 hQ12
    subst l12 y12 z12
    obtain ⟨rfl, Nq12, hh12⟩ := hQ12
    have N12 := Fr.app N1 Nq12
    refine Dn.st st12 ?_
    show Dn p e below s _ _ _ (T12.setTop (mkF m 15 #[vr a, vi 0] [(.int yy)]))
    exact Dn.ret X12 hlk hx hret (own_nc (by omega) (by omega)) (Or.inl ⟨rfl, Or.inr (Or.inr (Or.inr (Or.inl rfl))), _, rfl⟩) (hb hby d13_15) (by rw [hh12]; exact ⟨rfl, N12, rfl⟩) (by decide) (by decide)
  · show Dn p e below s _ _ _ (s₁.setTop (mkF m 0 #[vr a, vi 0] []))
    refine Dn.st (fun _ kk => XS.aloadN X0.here hx rfl (hb hby d13_0) rfl rfl (kk)) ?_
    show Dn p e below s _ _ _ (s₁.setTop (mkF m 1 #[vr a, vi 0] [(.ref a)]))
    obtain ⟨cq1, kq1, q1a, q1b, q1c⟩ := isOf hZ e0 Ea
    obtain ⟨_, _, ⟨T1, L1, k1, n1⟩, -, X1, ⟨Lc1, hQ1, l1, y1, z1⟩, st1⟩ := X0.virtualBack hx (y := on6) (z := on6) hown (mvT hZ (tw hw 66 rfl)) (mvT hZ (tw hw 67 rfl)) (notFace_of_selects (args := #[]) (mvT hZ (tw hw 69 rfl))) (mvT hZ (tw hw 69 rfl)) (mvT hZ (tw hw 68 rfl)) (by decide) (backOf (W := 0) (rmIl1 l Z a0 hw [] a cs sf  h0 n0 Z0 hW Fc) hZ (tw hw 70 rfl) (tw hw 8 rfl) (by decide) (by decide)) q1a q1c (g := (mkF m 1 #[vr a, vi 0] [(.ref a)])) rfl (by rw [hml]; rfl) (Steps.refl _) (argsL := []) (rest := []) (lenOf pd7 rfl) rfl (by show 2 * 0 + _ ≤ _; exact Nat.le_of_eq rfl) (hb hby d13_1) (fun _ _ => ⟨rfl, e0, (by decide : 0 + 0 ≤ _), (by decide : 0 + 0 ≤ _)⟩)
    dsimp only [Pt.U, Pt.locs, Pt.cells, Pt.slots] at X1 l1 y1 z1 st1 hQ1
    subst l1 y1 z1
    obtain ⟨rfl, Nq1, hh1⟩ := hQ1
    have N1 := Fr.app N0 Nq1
    refine Dn.tr st1 ?_
    show Dn p e below s _ _ _ (T1.setTop (mkF m 4 #[vr a, vi 0] [(.int 0)]))
    have hc4 : (0 : Int32) = (0 : Int32) := by decide
    refine Dn.st (fun _ kk => XS.ifYes X1.here hx rfl (pc0 := 4) (pc' := 16) rfl (hb hby d13_4) rfl ((if0 _ _).trans (teq hc4).1) (by decide) (by decide) (XS.aloadN X1.here hx rfl (hb hby d13_16) rfl rfl (kk))) ?_
    show Dn p e below s _ _ _ (T1.setTop (mkF m 17 #[vr a, vi 0] [(.ref a)]))
    obtain ⟨T17, X17, e17, st17⟩ := getF X1 hx hZ hown (host := "") (Or.inl (tw hw 26 rfl)) Via.refl hh1 Fv (g := (mkF m 17 #[vr a, vi 0] [(.ref a)])) rfl rfl (hb hby d13_17)
    refine Dn.st st17 ?_
    show Dn p e below s _ _ _ (T17.setTop (mkF m 20 #[vr a, vi 0] [(.ref bb)]))
    refine Dn.st (fun _ kk => XS.iloadN X17.here hx rfl (hb hby d13_20) rfl (kk)) ?_
    show Dn p e below s _ _ _ (T17.setTop (mkF m 21 #[vr a, vi 0] [(.int 0), (.ref bb)]))
    obtain ⟨_, _, ⟨T21, L21, k21, n21⟩, -, X21, ⟨Lc21, hQ21, l21, y21, z21⟩, st21⟩ := Jvm.LawKit.callS X17 hx (y := on13) hown (mvT hZ (tw hw 105 rfl)) (mvT hZ (tw hw 106 rfl)) (mvT hZ (tw hw 50 rfl)) (mvT hZ (tw hw 107 rfl)) (by decide) (backOf (W := 0) (rmUch0 l Z a0 hw [] bb cs sf kb mm lu yy h0 n0 Z0 hW Vb hm0 hm1 ge0 ge1 hr.1 hr.2 hx2) hZ (tw hw 107 rfl) (tw hw 50 rfl) (by decide) (by decide)) (g := (mkF m 21 #[vr a, vi 0] [(.int 0), (.ref bb)])) rfl (by rw [hml]; rfl) (argsL := [(.ref bb), (.int 0)]) (rest := []) (lenOf pd6 rfl) rfl (by show 2 * 0 + _ ≤ _; exact Nat.le_of_eq rfl) (hb hby d13_21) (fun _ _ => ⟨rfl, e17, (by decide : 0 + 0 ≤ _), (by decide : 0 + 0 ≤ _)⟩)
    dsimp only [Pt.U, Pt.locs, Pt.cells, Pt.slots] at X21 l21 y21 z21 st21 hQ21
    subst l21 y21 z21
    obtain ⟨rfl, Nq21, hh21⟩ := hQ21
    have N21 := Fr.app N1 Nq21
    refine Dn.st st21 ?_
    show Dn p e below s _ _ _ (T21.setTop (mkF m 24 #[vr a, vi 0] [(.int yy)]))
    exact Dn.ret X21 hlk hx hret (own_nc (by omega) (by omega)) (Or.inl ⟨rfl, Or.inr (Or.inr (Or.inr (Or.inl rfl))), _, rfl⟩) (hb hby d13_24) (by rw [hh21]; exact ⟨rfl, N21, rfl⟩) (by decide) (by decide)

theorem ef23_rmGc1 (m : MethodId) (x0 : Addr) (x1 : Int32) : entryFrame m #[(.ref x0), (.int x1)] 2 = mkF m 0 #[vr x0, vi x1] [] := by first | (simp [entryFrame, mkF, argsToLocals, Value.category]; done) | rfl
def QGc1 (Z : State) (b : Addr) (cs : Int32) (sf : Value) (kb : ClassId) (mm : Int32) (ls : List Value) (yy : Int32) (h0 : Heap) (n0 : Nat) (v : Option Value) (h : Heap) (L : List Loc) : Prop := v = some (.int yy) ∧ Fr n0 L ∧ h = h0
theorem rmGc1 (l : Launch) (Z : State) (a0 : Array Value) (hw : ∀ d ∈ tables_1, d.before a0 Z = true) (ws : List Jvm.Cond) (b : Addr) (cs : Int32) (sf : Value) (kb : ClassId) (mm : Int32) (ls : List Value) (yy : Int32) (h0 : Heap) (n0 : Nat) (Z0 : n0 ≤ h0.size) (hW : own_W Z h0 n0 cs sf) (Vb : Arv Z h0 b kb .byte mm ls (.int 0)) (hm0 : (2 : Int32) < mm) (hm1 : (3 : Int32) < mm) (ge0 : ls.getD 2 (.int 0) = .int (own_lo yy)) (ge1 : ls.getD 3 (.int 0) = .int (own_hi yy)) (hy1 : 0 ≤ yy.toInt) (hy2 : yy.toInt ≤ 65535) :
    own_Met l on5 (Jvm.Cond.code on5 jdk_52_method_5_code 2 (some .char) :: ws) orm25 #[(.ref b), (.int 1)] Z h0 (QGc1 Z b cs sf kb mm ls yy h0 n0) := by
  refine MetFree.of_bodySF (plainFor_of_name pn2) hisR ?_
  intro p e s m args below meth c s₁ Bd hml0 hP hK
  obtain ⟨rfl, hZ, hh⟩ := hP
  have hx := Bd.exec
  have hby := Bd.bytes
  have hlk : meth.locks = false := BodyLoose.notSynchronized Bd
  have hret := Bd.returns
  have hml : c.maxLocals = 2 := hml0
  have hown : s.vm.findClass "java/lang/StringUTF16" = some m.cls := findClass_of_methodNamed Bd.named
  have X0 : Stand p l e orm25 s m #[(.ref b), (.int 1)] below meth c s₁ [] 0 0 := Stand.of_body Bd
  have e0 : s₁.heap = h0 := by rw [← hh, Bd.state]; rfl
  have N0 := Fr.nil n0
  show Dn p e below s (QGc1 Z b cs sf kb mm ls yy h0 n0) orm25.cells orm25.slots (s₁.setTop (entryFrame m #[(.ref b), (.int 1)] 2))
  refine Dn.st (fun _ kk => castTop (ef23_rmGc1 m b (1 : Int32)) kk) ?_
  show Dn p e below s _ _ _ (s₁.setTop (mkF m 0 #[vr b, vi 1] []))
  obtain ⟨T0z, X0z, e0z, st0z⟩ := getS2 X0 hx hZ hown (host := "") (Or.inl (tw hw 99 rfl)) Via.refl e0 hW.adt (g := (mkF m 0 #[vr b, vi 1] [])) rfl (hb hby d23_0)
  refine Dn.st st0z ?_
  show Dn p e below s _ _ _ (T0z.setTop (mkF m 3 #[vr b, vi 1] [(.int 1)]))
  have hc3 : ¬ ((1 : Int32) = (0 : Int32)) := by decide
  refine Dn.st (fun _ kk => XS.ifYes X0z.here hx rfl (pc0 := 3) (pc' := 28) rfl (hb hby d23_3) rfl ((if0 _ _).trans (feq hc3).2) (by decide) (by decide) (XS.iloadN X0z.here hx rfl (hb hby d23_28) rfl (XS.iconst X0z.here hx rfl (hb hby d23_29) (XS.ishl X0z.here hx rfl (hb hby d23_30) rfl (XS.istoreN X0z.here hx rfl (hb hby d23_31) rfl (l' := #[vr b, vi 2]) rfl (XS.aloadN X0z.here hx rfl (hb hby d23_32) rfl rfl (kk))))))) ?_
  show Dn p e below s _ _ _ (T0z.setTop (mkF m 33 #[vr b, vi 2] [(.ref b)]))
  refine Dn.st (fun _ kk => XS.iloadN X0z.here hx rfl (hb hby d23_33) rfl (XS.iinc X0z.here hx rfl (hb hby d23_34) rfl (l' := #[vr b, vi 3]) rfl (kk))) ?_
  show Dn p e below s _ _ _ (T0z.setTop (mkF m 37 #[vr b, vi 3] [(.int 2), (.ref b)]))
  have Vc_b_37 := Vb
  obtain ⟨cl_b_37, Ar_b_37, q_b_37, S_b_37, N_b_37, H_b_37, G_b_37⟩ := Vc_b_37
  have hin37 : ¬ ((2 : Int32) < 0 ∨ cl_b_37.slots.size ≤ ((2 : Int32)).toNatClampNeg) := inb_of S_b_37 ⟨by decide, hm0⟩
  have hat37 : cl_b_37.slots[((2 : Int32)).toNatClampNeg]? = some (.int (own_lo yy)) := H_b_37.at hin37 ge0
  refine Dn.st (fun _ kk => X0z.baloadBytes hx (j := (2 : Int32)) (v := (.int (own_lo yy))) (by rw [e0z]; exact Ar_b_37.1) (State.isArrayOf_alike hZ.alike Ar_b_37.2.1) Ar_b_37.2.2 hin37 hat37 (g := (mkF m 37 #[vr b, vi 3] [(.int 2), (.ref b)])) rfl rfl (hb hby d23_37) _ (XS.sipush X0z.here hx rfl (hb hby d23_38) (XS.iand X0z.here hx rfl (hb hby d23_41) rfl (kk)))) ?_
  show Dn p e below s _ _ _ (T0z.setTop (mkF m 42 #[vr b, vi 3] [(.int ((own_lo yy) &&& (255 : Int32)))]))
  obtain ⟨T42, X42, e42, st42⟩ := getS2 X0z hx hZ hown (host := "") (Or.inl (tw hw 100 rfl)) Via.refl e0z hW.hit (g := (mkF m 42 #[vr b, vi 3] [(.int ((own_lo yy) &&& (255 : Int32)))])) rfl (hb hby d23_42)
  refine Dn.st st42 ?_
  show Dn p e below s _ _ _ (T42.setTop (mkF m 45 #[vr b, vi 3] [(.int 0), (.int ((own_lo yy) &&& (255 : Int32)))]))
  refine Dn.st (fun _ kk => XS.ishl X42.here hx rfl (hb hby d23_45) rfl (XS.aloadN X42.here hx rfl (hb hby d23_46) rfl rfl (XS.iloadN X42.here hx rfl (hb hby d23_47) rfl (kk)))) ?_
  show Dn p e below s _ _ _ (T42.setTop (mkF m 48 #[vr b, vi 3] [(.int 3), (.ref b), (.int (((own_lo yy) &&& (255 : Int32)) <<< ((0 : Int32) &&& 31)))]))
  have Vc_b_48 := Vb
  obtain ⟨cl_b_48, Ar_b_48, q_b_48, S_b_48, N_b_48, H_b_48, G_b_48⟩ := Vc_b_48
  have hin48 : ¬ ((3 : Int32) < 0 ∨ cl_b_48.slots.size ≤ ((3 : Int32)).toNatClampNeg) := inb_of S_b_48 ⟨by decide, hm1⟩
  have hat48 : cl_b_48.slots[((3 : Int32)).toNatClampNeg]? = some (.int (own_hi yy)) := H_b_48.at hin48 ge1
  refine Dn.st (fun _ kk => X42.baloadBytes hx (j := (3 : Int32)) (v := (.int (own_hi yy))) (by rw [e42]; exact Ar_b_48.1) (State.isArrayOf_alike hZ.alike Ar_b_48.2.1) Ar_b_48.2.2 hin48 hat48 (g := (mkF m 48 #[vr b, vi 3] [(.int 3), (.ref b), (.int (((own_lo yy) &&& (255 : Int32)) <<< ((0 : Int32) &&& 31)))])) rfl rfl (hb hby d23_48) _ (XS.sipush X42.here hx rfl (hb hby d23_49) (XS.iand X42.here hx rfl (hb hby d23_52) rfl (kk)))) ?_
  show Dn p e below s _ _ _ (T42.setTop (mkF m 53 #[vr b, vi 3] [(.int ((own_hi yy) &&& (255 : Int32))), (.int (((own_lo yy) &&& (255 : Int32)) <<< ((0 : Int32) &&& 31)))]))
  obtain ⟨T53, X53, e53, st53⟩ := getS2 X42 hx hZ hown (host := "") (Or.inl (tw hw 101 rfl)) Via.refl e42 hW.lot (g := (mkF m 53 #[vr b, vi 3] [(.int ((own_hi yy) &&& (255 : Int32))), (.int (((own_lo yy) &&& (255 : Int32)) <<< ((0 : Int32) &&& 31)))])) rfl (hb hby d23_53)
  refine Dn.st st53 ?_
  show Dn p e below s _ _ _ (T53.setTop (mkF m 56 #[vr b, vi 3] [(.int 8), (.int ((own_hi yy) &&& (255 : Int32))), (.int (((own_lo yy) &&& (255 : Int32)) <<< ((0 : Int32) &&& 31)))]))
  refine Dn.st (fun _ kk => XS.ishl X53.here hx rfl (hb hby d23_56) rfl (XS.ior X53.here hx rfl (hb hby d23_57) rfl (XS.i2c X53.here hx rfl (hb hby d23_58) rfl (kk)))) ?_
  show Dn p e below s _ _ _ (T53.setTop (mkF m 59 #[vr b, vi 3] [(.int (((((own_lo yy) &&& (255 : Int32)) <<< ((0 : Int32) &&& 31)) ||| (((own_hi yy) &&& (255 : Int32)) <<< ((8 : Int32) &&& 31))).toUInt32.toUInt16.toUInt32.toInt32))]))
  rw [own_u16 hy1 hy2]
  show Dn p e below s _ _ _ (T53.setTop (mkF m 59 #[vr b, vi 3] [(.int yy)]))
  exact Dn.ret X53 hlk hx hret (own_nc (by omega) (by omega)) (Or.inl ⟨rfl, Or.inr (Or.inr (Or.inr (Or.inl rfl))), _, rfl⟩) (hb hby d23_59) (by rw [e53]; exact ⟨rfl, N0, rfl⟩) (by decide) (by decide)

theorem ef24_rmUch1 (m : MethodId) (x0 : Addr) (x1 : Int32) : entryFrame m #[(.ref x0), (.int x1)] 2 = mkF m 0 #[vr x0, vi x1] [] := by first | (simp [entryFrame, mkF, argsToLocals, Value.category]; done) | rfl
def QUch1 (Z : State) (b : Addr) (cs : Int32) (sf : Value) (kb : ClassId) (mm : Int32) (ls : List Value) (yy : Int32) (h0 : Heap) (n0 : Nat) (v : Option Value) (h : Heap) (L : List Loc) : Prop := v = some (.int yy) ∧ Fr n0 L ∧ h = h0
theorem rmUch1 (l : Launch) (Z : State) (a0 : Array Value) (hw : ∀ d ∈ tables_1, d.before a0 Z = true) (ws : List Jvm.Cond) (b : Addr) (cs : Int32) (sf : Value) (kb : ClassId) (mm : Int32) (ls : List Value) (yy : Int32) (h0 : Heap) (n0 : Nat) (Z0 : n0 ≤ h0.size) (hW : own_W Z h0 n0 cs sf) (Vb : Arv Z h0 b kb .byte mm ls (.int 0)) (hm0 : (2 : Int32) < mm) (hm1 : (3 : Int32) < mm) (ge0 : ls.getD 2 (.int 0) = .int (own_lo yy)) (ge1 : ls.getD 3 (.int 0) = .int (own_hi yy)) (hy1 : 0 ≤ yy.toInt) (hy2 : yy.toInt ≤ 65535) (hx2 : (1 : Int32) < mm >>> ((1 : Int32) &&& 31)) :
    own_Met l on13 (Jvm.Cond.code on13 jdk_52_method_83_code 2 (some .char) :: ws) orm27 #[(.ref b), (.int 1)] Z h0 (QUch1 Z b cs sf kb mm ls yy h0 n0) := by
  refine MetFree.of_bodySF (plainFor_of_name pn2) hisR ?_
  intro p e s m args below meth c s₁ Bd hml0 hP hK
  obtain ⟨rfl, hZ, hh⟩ := hP
  have hx := Bd.exec
  have hby := Bd.bytes
  have hlk : meth.locks = false := BodyLoose.notSynchronized Bd
  have hret := Bd.returns
  have hml : c.maxLocals = 2 := hml0
  have hown : s.vm.findClass "java/lang/StringUTF16" = some m.cls := findClass_of_methodNamed Bd.named
  have X0 : Stand p l e orm27 s m #[(.ref b), (.int 1)] below meth c s₁ [] 0 0 := Stand.of_body Bd
  have e0 : s₁.heap = h0 := by rw [← hh, Bd.state]; rfl
  have N0 := Fr.nil n0
  show Dn p e below s (QUch1 Z b cs sf kb mm ls yy h0 n0) orm27.cells orm27.slots (s₁.setTop (entryFrame m #[(.ref b), (.int 1)] 2))
  refine Dn.st (fun _ kk => castTop (ef24_rmUch1 m b (1 : Int32)) kk) ?_
  show Dn p e below s _ _ _ (s₁.setTop (mkF m 0 #[vr b, vi 1] []))
  refine Dn.st (fun _ kk => XS.iloadN X0.here hx rfl (hb hby d24_0) rfl (XS.aloadN X0.here hx rfl (hb hby d24_1) rfl rfl (kk))) ?_
  show Dn p e below s _ _ _ (s₁.setTop (mkF m 2 #[vr b, vi 1] [(.ref b), (.int 1)]))
  obtain ⟨_, _, ⟨T2, L2, k2, n2⟩, -, X2, ⟨Lc2, hQ2, l2, y2, z2⟩, st2⟩ := Jvm.LawKit.callS X0 hx (y := on21) hown (mvT hZ (tw hw 108 rfl)) (mvT hZ (tw hw 109 rfl)) (mvT hZ (tw hw 50 rfl)) (mvT hZ (tw hw 110 rfl)) (by decide) (backOf (W := 0) (rmUc l Z a0 hw [] (1 : Int32) b cs sf kb mm ls h0 n0 Z0 hW Vb (by decide) hx2) hZ (tw hw 110 rfl) (tw hw 50 rfl) (by decide) (by decide)) (g := (mkF m 2 #[vr b, vi 1] [(.ref b), (.int 1)])) rfl (by rw [hml]; rfl) (argsL := [(.int 1), (.ref b)]) (rest := []) (lenOf pd5 rfl) rfl (by show 2 * 0 + _ ≤ _; exact Nat.le_of_eq rfl) (hb hby d24_2) (fun _ _ => ⟨rfl, e0, (by decide : 0 + 0 ≤ _), (by decide : 0 + 0 ≤ _)⟩)
  dsimp only [Pt.U, Pt.locs, Pt.cells, Pt.slots] at X2 l2 y2 z2 st2 hQ2
  subst l2 y2 z2
  obtain ⟨rfl, Nq2, hh2⟩ := hQ2
  have N2 := Fr.app N0 Nq2
  refine Dn.st st2 ?_
  show Dn p e below s _ _ _ (T2.setTop (mkF m 5 #[vr b, vi 1] []))
  refine Dn.st (fun _ kk => XS.aloadN X2.here hx rfl (hb hby d24_5) rfl rfl (XS.iloadN X2.here hx rfl (hb hby d24_6) rfl (kk))) ?_
  show Dn p e below s _ _ _ (T2.setTop (mkF m 7 #[vr b, vi 1] [(.int 1), (.ref b)]))
  obtain ⟨_, _, ⟨T7, L7, k7, n7⟩, -, X7, ⟨Lc7, hQ7, l7, y7, z7⟩, st7⟩ := Jvm.LawKit.callS X2 hx (y := on5) hown (mvT hZ (tw hw 102 rfl)) (mvT hZ (tw hw 103 rfl)) (mvT hZ (tw hw 50 rfl)) (mvT hZ (tw hw 104 rfl)) (by decide) (backOf (W := 0) (rmGc1 l Z a0 hw [] b cs sf kb mm ls yy h0 n0 Z0 hW Vb hm0 hm1 ge0 ge1 hy1 hy2) hZ (tw hw 104 rfl) (tw hw 50 rfl) (by decide) (by decide)) (g := (mkF m 7 #[vr b, vi 1] [(.int 1), (.ref b)])) rfl (by rw [hml]; rfl) (argsL := [(.ref b), (.int 1)]) (rest := []) (lenOf pd6 rfl) rfl (by show 2 * 0 + _ ≤ _; exact Nat.le_of_eq rfl) (hb hby d24_7) (fun _ _ => ⟨rfl, hh2, (by decide : 0 + 0 ≤ _), (by decide : 0 + 0 ≤ _)⟩)
  dsimp only [Pt.U, Pt.locs, Pt.cells, Pt.slots] at X7 l7 y7 z7 st7 hQ7
  subst l7 y7 z7
  obtain ⟨rfl, Nq7, hh7⟩ := hQ7
  have N7 := Fr.app N2 Nq7
  refine Dn.st st7 ?_
  show Dn p e below s _ _ _ (T7.setTop (mkF m 10 #[vr b, vi 1] [(.int yy)]))
  exact Dn.ret X7 hlk hx hret (own_nc (by omega) (by omega)) (Or.inl ⟨rfl, Or.inr (Or.inr (Or.inr (Or.inl rfl))), _, rfl⟩) (hb hby d24_10) (by rw [hh7]; exact ⟨rfl, N7, rfl⟩) (by decide) (by decide)

theorem ef15_rmLch1 (m : MethodId) (x0 : Addr) (x1 : Int32) : entryFrame m #[(.ref x0), (.int x1)] 2 = mkF m 0 #[vr x0, vi x1] [] := by first | (simp [entryFrame, mkF, argsToLocals, Value.category]; done) | rfl
def QLch1 (Z : State) (b : Addr) (cs : Int32) (sf : Value) (kb : ClassId) (mm : Int32) (ls : List Value) (yy : Int32) (h0 : Heap) (n0 : Nat) (v : Option Value) (h : Heap) (L : List Loc) : Prop := v = some (.int yy) ∧ Fr n0 L ∧ h = h0
theorem rmLch1 (l : Launch) (Z : State) (a0 : Array Value) (hw : ∀ d ∈ tables_1, d.before a0 Z = true) (ws : List Jvm.Cond) (b : Addr) (cs : Int32) (sf : Value) (kb : ClassId) (mm : Int32) (ls : List Value) (yy : Int32) (h0 : Heap) (n0 : Nat) (Z0 : n0 ≤ h0.size) (hW : own_W Z h0 n0 cs sf) (Vb : Arv Z h0 b kb .byte mm ls (.int 0)) (hm0 : (1 : Int32) < mm) (ge0 : ls.getD 1 (.int 0) = .int (own_b yy)) (hy1 : 0 ≤ yy.toInt) (hy2 : yy.toInt ≤ 255) :
    own_Met l on11 (Jvm.Cond.code on11 jdk_43_method_2_code 2 (some .char) :: ws) orm26 #[(.ref b), (.int 1)] Z h0 (QLch1 Z b cs sf kb mm ls yy h0 n0) := by
  refine MetFree.of_bodySF (plainFor_of_name pn3) hisR ?_
  intro p e s m args below meth c s₁ Bd hml0 hP hK
  obtain ⟨rfl, hZ, hh⟩ := hP
  have hx := Bd.exec
  have hby := Bd.bytes
  have hlk : meth.locks = false := BodyLoose.notSynchronized Bd
  have hret := Bd.returns
  have hml : c.maxLocals = 2 := hml0
  have hown : s.vm.findClass "java/lang/StringLatin1" = some m.cls := findClass_of_methodNamed Bd.named
  have X0 : Stand p l e orm26 s m #[(.ref b), (.int 1)] below meth c s₁ [] 0 0 := Stand.of_body Bd
  have e0 : s₁.heap = h0 := by rw [← hh, Bd.state]; rfl
  have N0 := Fr.nil n0
  show Dn p e below s (QLch1 Z b cs sf kb mm ls yy h0 n0) orm26.cells orm26.slots (s₁.setTop (entryFrame m #[(.ref b), (.int 1)] 2))
  refine Dn.st (fun _ kk => castTop (ef15_rmLch1 m b (1 : Int32)) kk) ?_
  show Dn p e below s _ _ _ (s₁.setTop (mkF m 0 #[vr b, vi 1] []))
  refine Dn.st (fun _ kk => XS.iloadN X0.here hx rfl (hb hby d15_0) rfl (XS.aloadN X0.here hx rfl (hb hby d15_1) rfl rfl (kk))) ?_
  show Dn p e below s _ _ _ (s₁.setTop (mkF m 2 #[vr b, vi 1] [(.ref b), (.int 1)]))
  have Vc_b_2 := Vb
  obtain ⟨cl_b_2, Ar_b_2, q_b_2, S_b_2, N_b_2, H_b_2, G_b_2⟩ := Vc_b_2
  refine Dn.st (fun _ kk => X0.arraylength hx (by rw [e0]; exact Ar_b_2.1) (State.isArrayOf_alike hZ.alike Ar_b_2.2.1) (g := (mkF m 2 #[vr b, vi 1] [(.ref b), (.int 1)])) rfl rfl (hb hby d15_2) _ (kk)) ?_
  show Dn p e below s _ _ _ (s₁.setTop (mkF m 3 #[vr b, vi 1] [(.int cl_b_2.slots.size.toInt32), (.int 1)]))
  rw [len_of S_b_2 N_b_2]
  show Dn p e below s _ _ _ (s₁.setTop (mkF m 3 #[vr b, vi 1] [(.int mm), (.int 1)]))
  obtain ⟨_, _, ⟨T3, L3, k3, n3⟩, -, X3, ⟨Lc3, hQ3, l3, y3, z3⟩, st3⟩ := Jvm.LawKit.callS X0 hx (y := on20) hown (mvT hZ (tw hw 75 rfl)) (mvT hZ (tw hw 76 rfl)) (mvT hZ (tw hw 8 rfl)) (mvT hZ (tw hw 77 rfl)) (by decide) (backOf (W := 0) (rmCi l Z a0 hw [] (1 : Int32) mm cs sf  h0 n0 Z0 hW (by decide) hm0) hZ (tw hw 77 rfl) (tw hw 8 rfl) (by decide) (by decide)) (g := (mkF m 3 #[vr b, vi 1] [(.int mm), (.int 1)])) rfl (by rw [hml]; rfl) (argsL := [(.int 1), (.int mm)]) (rest := []) (lenOf pd4 rfl) rfl (by show 2 * 0 + _ ≤ _; exact Nat.le_of_eq rfl) (hb hby d15_3) (fun _ _ => ⟨rfl, e0, (by decide : 0 + 0 ≤ _), (by decide : 0 + 0 ≤ _)⟩)
  dsimp only [Pt.U, Pt.locs, Pt.cells, Pt.slots] at X3 l3 y3 z3 st3 hQ3
  subst l3 y3 z3
  obtain ⟨rfl, Nq3, hh3⟩ := hQ3
  have N3 := Fr.app N0 Nq3
  refine Dn.st st3 ?_
  show Dn p e below s _ _ _ (T3.setTop (mkF m 6 #[vr b, vi 1] []))
  refine Dn.st (fun _ kk => XS.aloadN X3.here hx rfl (hb hby d15_6) rfl rfl (XS.iloadN X3.here hx rfl (hb hby d15_7) rfl (kk))) ?_
  show Dn p e below s _ _ _ (T3.setTop (mkF m 8 #[vr b, vi 1] [(.int 1), (.ref b)]))
  have Vc_b_8 := Vb
  obtain ⟨cl_b_8, Ar_b_8, q_b_8, S_b_8, N_b_8, H_b_8, G_b_8⟩ := Vc_b_8
  have hin8 : ¬ ((1 : Int32) < 0 ∨ cl_b_8.slots.size ≤ ((1 : Int32)).toNatClampNeg) := inb_of S_b_8 ⟨by decide, hm0⟩
  have hat8 : cl_b_8.slots[((1 : Int32)).toNatClampNeg]? = some (.int (own_b yy)) := H_b_8.at hin8 ge0
  refine Dn.st (fun _ kk => X3.baloadBytes hx (j := (1 : Int32)) (v := (.int (own_b yy))) (by rw [hh3]; exact Ar_b_8.1) (State.isArrayOf_alike hZ.alike Ar_b_8.2.1) Ar_b_8.2.2 hin8 hat8 (g := (mkF m 8 #[vr b, vi 1] [(.int 1), (.ref b)])) rfl rfl (hb hby d15_8) _ (XS.sipush X3.here hx rfl (hb hby d15_9) (XS.iand X3.here hx rfl (hb hby d15_12) rfl (XS.i2c X3.here hx rfl (hb hby d15_13) rfl (kk))))) ?_
  show Dn p e below s _ _ _ (T3.setTop (mkF m 14 #[vr b, vi 1] [(.int (((own_b yy) &&& (255 : Int32)).toUInt32.toUInt16.toUInt32.toInt32))]))
  rw [own_lat hy1 hy2]
  show Dn p e below s _ _ _ (T3.setTop (mkF m 14 #[vr b, vi 1] [(.int yy)]))
  exact Dn.ret X3 hlk hx hret (own_nc (by omega) (by omega)) (Or.inl ⟨rfl, Or.inr (Or.inr (Or.inr (Or.inl rfl))), _, rfl⟩) (hb hby d15_14) (by rw [hh3]; exact ⟨rfl, N3, rfl⟩) (by decide) (by decide)

theorem ef13_rmCh1 (m : MethodId) (x0 : Addr) (x1 : Int32) : entryFrame m #[(.ref x0), (.int x1)] 2 = mkF m 0 #[vr x0, vi x1] [] := by first | (simp [entryFrame, mkF, argsToLocals, Value.category]; done) | rfl
def QCh1 (Z : State) (a : Addr) (cs : Int32) (sf : Value) (nn mm : Int32) (ls lu : List Value) (PQ : Prop) (yy : Int32) (h0 : Heap) (n0 : Nat) (v : Option Value) (h : Heap) (L : List Loc) : Prop := v = some (.int yy) ∧ Fr n0 L ∧ h = h0
theorem rmCh1 (l : Launch) (Z : State) (a0 : Array Value) (hw : ∀ d ∈ tables_1, d.before a0 Z = true) (ws : List Jvm.Cond) (a : Addr) (cs : Int32) (sf : Value) (nn mm : Int32) (ls lu : List Value) (PQ : Prop) (yy : Int32) (h0 : Heap) (n0 : Nat) (Z0 : n0 ≤ h0.size) (hW : own_W Z h0 n0 cs sf) (hS : own_Str Z h0 a nn mm ls lu PQ) (hn : (1 : Int32) < nn) (el : ls.getD 1 (.int 0) = .int (own_b yy)) (hP : PQ → yy.toInt ≤ 255) (hm0 : (2 : Int32) < mm) (hm1 : (3 : Int32) < mm) (ge0 : lu.getD 2 (.int 0) = .int (own_lo yy)) (ge1 : lu.getD 3 (.int 0) = .int (own_hi yy)) (hx2 : (1 : Int32) < mm >>> ((1 : Int32) &&& 31)) (hr : 0 ≤ yy.toInt ∧ yy.toInt ≤ 65535) :
    own_Met l on2 (Jvm.Cond.code on2 jdk_42_method_56_code 2 (some .char) :: ws) orm28 #[(.ref a), (.int 1)] Z h0 (QCh1 Z a cs sf nn mm ls lu PQ yy h0 n0) := by
  refine MetFree.of_bodySF (plainFor_of_name pn0) hisR ?_
  intro p e s m args below meth c s₁ Bd hml0 hP hK
  obtain ⟨rfl, hZ, hh⟩ := hP
  have hx := Bd.exec
  have hby := Bd.bytes
  have hlk : meth.locks = false := BodyLoose.notSynchronized Bd
  have hret := Bd.returns
  have hml : c.maxLocals = 2 := hml0
  have hown : s.vm.findClass "java/lang/String" = some m.cls := findClass_of_methodNamed Bd.named
  have X0 : Stand p l e orm28 s m #[(.ref a), (.int 1)] below meth c s₁ [] 0 0 := Stand.of_body Bd
  have e0 : s₁.heap = h0 := by rw [← hh, Bd.state]; rfl
  have N0 := Fr.nil n0
  show Dn p e below s (QCh1 Z a cs sf nn mm ls lu PQ yy h0 n0) orm28.cells orm28.slots (s₁.setTop (entryFrame m #[(.ref a), (.int 1)] 2))
  refine Dn.st (fun _ kk => castTop (ef13_rmCh1 m a (1 : Int32)) kk) ?_
  show Dn p e below s _ _ _ (s₁.setTop (mkF m 0 #[vr a, vi 1] []))
  rcases hS with ⟨Ea, ⟨bb, kb, Fc, Fv, Vb, hp⟩ | ⟨bb, kb, Fc, Fv, Vb⟩⟩
  · show Dn p e below s _ _ _ (s₁.setTop (mkF m 0 #[vr a, vi 1] []))
    refine Dn.st (fun _ kk => XS.aloadN X0.here hx rfl (hb hby d13_0) rfl rfl (kk)) ?_
    show Dn p e below s _ _ _ (s₁.setTop (mkF m 1 #[vr a, vi 1] [(.ref a)]))
    obtain ⟨cq1, kq1, q1a, q1b, q1c⟩ := isOf hZ e0 Ea
    obtain ⟨_, _, ⟨T1, L1, k1, n1⟩, -, X1, ⟨Lc1, hQ1, l1, y1, z1⟩, st1⟩ := X0.virtualBack hx (y := on6) (z := on6) hown (mvT hZ (tw hw 66 rfl)) (mvT hZ (tw hw 67 rfl)) (notFace_of_selects (args := #[]) (mvT hZ (tw hw 69 rfl))) (mvT hZ (tw hw 69 rfl)) (mvT hZ (tw hw 68 rfl)) (by decide) (backOf (W := 0) (rmIl0 l Z a0 hw [] a cs sf  h0 n0 Z0 hW Fc) hZ (tw hw 70 rfl) (tw hw 8 rfl) (by decide) (by decide)) q1a q1c (g := (mkF m 1 #[vr a, vi 1] [(.ref a)])) rfl (by rw [hml]; rfl) (Steps.refl _) (argsL := []) (rest := []) (lenOf pd7 rfl) rfl (by show 2 * 0 + _ ≤ _; exact Nat.le_of_eq rfl) (hb hby d13_1) (fun _ _ => ⟨rfl, e0, (by decide : 0 + 0 ≤ _), (by decide : 0 + 0 ≤ _)⟩)
    dsimp only [Pt.U, Pt.locs, Pt.cells, Pt.slots] at X1 l1 y1 z1 st1 hQ1
    subst l1 y1 z1
    obtain ⟨rfl, Nq1, hh1⟩ := hQ1
    have N1 := Fr.app N0 Nq1
    refine Dn.tr st1 ?_
    show Dn p e below s _ _ _ (T1.setTop (mkF m 4 #[vr a, vi 1] [(.int 1)]))
    have hc4 : ¬ ((1 : Int32) = (0 : Int32)) := by decide
    refine Dn.st (fun _ kk => XS.ifNo X1.here hx rfl (hb hby d13_4) rfl ((if0 _ _).trans (feq hc4).1) (XS.aloadN X1.here hx rfl (hb hby d13_7) rfl rfl (kk))) ?_
    show Dn p e below s _ _ _ (T1.setTop (mkF m 8 #[vr a, vi 1] [(.ref a)]))
    obtain ⟨T8, X8, e8, st8⟩ := getF X1 hx hZ hown (host := "") (Or.inl (tw hw 26 rfl)) Via.refl hh1 Fv (g := (mkF m 8 #[vr a, vi 1] [(.ref a)])) rfl rfl (hb hby d13_8)
    refine Dn.st st8 ?_
    show Dn p e below s _ _ _ (T8.setTop (mkF m 11 #[vr a, vi 1] [(.ref bb)]))
    refine Dn.st (fun _ kk => XS.iloadN X8.here hx rfl (hb hby d13_11) rfl (kk)) ?_
    show Dn p e below s _ _ _ (T8.setTop (mkF m 12 #[vr a, vi 1] [(.int 1), (.ref bb)]))
    obtain ⟨_, _, ⟨T12, L12, k12, n12⟩, -, X12, ⟨Lc12, hQ12, l12, y12, z12⟩, st12⟩ := Jvm.LawKit.callS X8 hx (y := on11) hown (mvT hZ (tw hw 71 rfl)) (mvT hZ (tw hw 72 rfl)) (mvT hZ (tw hw 73 rfl)) (mvT hZ (tw hw 74 rfl)) (by decide) (backOf (W := 0) (rmLch1 l Z a0 hw [] bb cs sf kb nn ls yy h0 n0 Z0 hW Vb hn el hr.1 (hP hp)) hZ (tw hw 74 rfl) (tw hw 73 rfl) (by decide) (by decide)) (g := (mkF m 12 #[vr a, vi 1] [(.int 1), (.ref bb)])) rfl (by rw [hml]; rfl) (argsL := [(.ref bb), (.int 1)]) (rest := []) (lenOf pd6 rfl) rfl (by show 2 * 0 + _ ≤ _; exact Nat.le_of_eq rfl) (hb hby d13_12) (fun _ _ => ⟨rfl, e8, (by decide : 0 + 0 ≤ _), (by decide : 0 + 0 ≤ _)⟩)
    dsimp only [Pt.U, Pt.locs, Pt.cells, Pt.slots] at X12 l12 y12 z12 st12 hQ12
    subst l12 y12 z12
    obtain ⟨rfl, Nq12, hh12⟩ := hQ12
    have N12 := Fr.app N1 Nq12
    refine Dn.st st12 ?_
    show Dn p e below s _ _ _ (T12.setTop (mkF m 15 #[vr a, vi 1] [(.int yy)]))
    exact Dn.ret X12 hlk hx hret (own_nc (by omega) (by omega)) (Or.inl ⟨rfl, Or.inr (Or.inr (Or.inr (Or.inl rfl))), _, rfl⟩) (hb hby d13_15) (by rw [hh12]; exact ⟨rfl, N12, rfl⟩) (by decide) (by decide)
  · show Dn p e below s _ _ _ (s₁.setTop (mkF m 0 #[vr a, vi 1] []))
    refine Dn.st (fun _ kk => XS.aloadN X0.here hx rfl (hb hby d13_0) rfl rfl (kk)) ?_
    show Dn p e below s _ _ _ (s₁.setTop (mkF m 1 #[vr a, vi 1] [(.ref a)]))
    obtain ⟨cq1, kq1, q1a, q1b, q1c⟩ := isOf hZ e0 Ea
    obtain ⟨_, _, ⟨T1, L1, k1, n1⟩, -, X1, ⟨Lc1, hQ1, l1, y1, z1⟩, st1⟩ := X0.virtualBack hx (y := on6) (z := on6) hown (mvT hZ (tw hw 66 rfl)) (mvT hZ (tw hw 67 rfl)) (notFace_of_selects (args := #[]) (mvT hZ (tw hw 69 rfl))) (mvT hZ (tw hw 69 rfl)) (mvT hZ (tw hw 68 rfl)) (by decide) (backOf (W := 0) (rmIl1 l Z a0 hw [] a cs sf  h0 n0 Z0 hW Fc) hZ (tw hw 70 rfl) (tw hw 8 rfl) (by decide) (by decide)) q1a q1c (g := (mkF m 1 #[vr a, vi 1] [(.ref a)])) rfl (by rw [hml]; rfl) (Steps.refl _) (argsL := []) (rest := []) (lenOf pd7 rfl) rfl (by show 2 * 0 + _ ≤ _; exact Nat.le_of_eq rfl) (hb hby d13_1) (fun _ _ => ⟨rfl, e0, (by decide : 0 + 0 ≤ _), (by decide : 0 + 0 ≤ _)⟩)
    dsimp only [Pt.U, Pt.locs, Pt.cells, Pt.slots] at X1 l1 y1 z1 st1 hQ1
    subst l1 y1 z1
    obtain ⟨rfl, Nq1, hh1⟩ := hQ1
    have N1 := Fr.app N0 Nq1
    refine Dn.tr st1 ?_
    show Dn p e below s _ _ _ (T1.setTop (mkF m 4 #[vr a, vi 1] [(.int 0)]))
    have hc4 : (0 : Int32) = (0 : Int32) := by decide
    refine Dn.st (fun _ kk => XS.ifYes X1.here hx rfl (pc0 := 4) (pc' := 16) rfl (hb hby d13_4) rfl ((if0 _ _).trans (teq hc4).1) (by decide) (by decide) (XS.aloadN X1.here hx rfl (hb hby d13_16) rfl rfl (kk))) ?_
    show Dn p e below s _ _ _ (T1.setTop (mkF m 17 #[vr a, vi 1] [(.ref a)]))
    obtain ⟨T17, X17, e17, st17⟩ := getF X1 hx hZ hown (host := "") (Or.inl (tw hw 26 rfl)) Via.refl hh1 Fv (g := (mkF m 17 #[vr a, vi 1] [(.ref a)])) rfl rfl (hb hby d13_17)
    refine Dn.st st17 ?_
    show Dn p e below s _ _ _ (T17.setTop (mkF m 20 #[vr a, vi 1] [(.ref bb)]))
    refine Dn.st (fun _ kk => XS.iloadN X17.here hx rfl (hb hby d13_20) rfl (kk)) ?_
    show Dn p e below s _ _ _ (T17.setTop (mkF m 21 #[vr a, vi 1] [(.int 1), (.ref bb)]))
    obtain ⟨_, _, ⟨T21, L21, k21, n21⟩, -, X21, ⟨Lc21, hQ21, l21, y21, z21⟩, st21⟩ := Jvm.LawKit.callS X17 hx (y := on13) hown (mvT hZ (tw hw 105 rfl)) (mvT hZ (tw hw 106 rfl)) (mvT hZ (tw hw 50 rfl)) (mvT hZ (tw hw 107 rfl)) (by decide) (backOf (W := 0) (rmUch1 l Z a0 hw [] bb cs sf kb mm lu yy h0 n0 Z0 hW Vb hm0 hm1 ge0 ge1 hr.1 hr.2 hx2) hZ (tw hw 107 rfl) (tw hw 50 rfl) (by decide) (by decide)) (g := (mkF m 21 #[vr a, vi 1] [(.int 1), (.ref bb)])) rfl (by rw [hml]; rfl) (argsL := [(.ref bb), (.int 1)]) (rest := []) (lenOf pd6 rfl) rfl (by show 2 * 0 + _ ≤ _; exact Nat.le_of_eq rfl) (hb hby d13_21) (fun _ _ => ⟨rfl, e17, (by decide : 0 + 0 ≤ _), (by decide : 0 + 0 ≤ _)⟩)
    dsimp only [Pt.U, Pt.locs, Pt.cells, Pt.slots] at X21 l21 y21 z21 st21 hQ21
    subst l21 y21 z21
    obtain ⟨rfl, Nq21, hh21⟩ := hQ21
    have N21 := Fr.app N1 Nq21
    refine Dn.st st21 ?_
    show Dn p e below s _ _ _ (T21.setTop (mkF m 24 #[vr a, vi 1] [(.int yy)]))
    exact Dn.ret X21 hlk hx hret (own_nc (by omega) (by omega)) (Or.inl ⟨rfl, Or.inr (Or.inr (Or.inr (Or.inl rfl))), _, rfl⟩) (hb hby d13_24) (by rw [hh21]; exact ⟨rfl, N21, rfl⟩) (by decide) (by decide)

theorem ef23_rmGc2 (m : MethodId) (x0 : Addr) (x1 : Int32) : entryFrame m #[(.ref x0), (.int x1)] 2 = mkF m 0 #[vr x0, vi x1] [] := by first | (simp [entryFrame, mkF, argsToLocals, Value.category]; done) | rfl
def QGc2 (Z : State) (b : Addr) (cs : Int32) (sf : Value) (kb : ClassId) (mm : Int32) (ls : List Value) (yy : Int32) (h0 : Heap) (n0 : Nat) (v : Option Value) (h : Heap) (L : List Loc) : Prop := v = some (.int yy) ∧ Fr n0 L ∧ h = h0
theorem rmGc2 (l : Launch) (Z : State) (a0 : Array Value) (hw : ∀ d ∈ tables_1, d.before a0 Z = true) (ws : List Jvm.Cond) (b : Addr) (cs : Int32) (sf : Value) (kb : ClassId) (mm : Int32) (ls : List Value) (yy : Int32) (h0 : Heap) (n0 : Nat) (Z0 : n0 ≤ h0.size) (hW : own_W Z h0 n0 cs sf) (Vb : Arv Z h0 b kb .byte mm ls (.int 0)) (hm0 : (4 : Int32) < mm) (hm1 : (5 : Int32) < mm) (ge0 : ls.getD 4 (.int 0) = .int (own_lo yy)) (ge1 : ls.getD 5 (.int 0) = .int (own_hi yy)) (hy1 : 0 ≤ yy.toInt) (hy2 : yy.toInt ≤ 65535) :
    own_Met l on5 (Jvm.Cond.code on5 jdk_52_method_5_code 2 (some .char) :: ws) orm25 #[(.ref b), (.int 2)] Z h0 (QGc2 Z b cs sf kb mm ls yy h0 n0) := by
  refine MetFree.of_bodySF (plainFor_of_name pn2) hisR ?_
  intro p e s m args below meth c s₁ Bd hml0 hP hK
  obtain ⟨rfl, hZ, hh⟩ := hP
  have hx := Bd.exec
  have hby := Bd.bytes
  have hlk : meth.locks = false := BodyLoose.notSynchronized Bd
  have hret := Bd.returns
  have hml : c.maxLocals = 2 := hml0
  have hown : s.vm.findClass "java/lang/StringUTF16" = some m.cls := findClass_of_methodNamed Bd.named
  have X0 : Stand p l e orm25 s m #[(.ref b), (.int 2)] below meth c s₁ [] 0 0 := Stand.of_body Bd
  have e0 : s₁.heap = h0 := by rw [← hh, Bd.state]; rfl
  have N0 := Fr.nil n0
  show Dn p e below s (QGc2 Z b cs sf kb mm ls yy h0 n0) orm25.cells orm25.slots (s₁.setTop (entryFrame m #[(.ref b), (.int 2)] 2))
  refine Dn.st (fun _ kk => castTop (ef23_rmGc2 m b (2 : Int32)) kk) ?_
  show Dn p e below s _ _ _ (s₁.setTop (mkF m 0 #[vr b, vi 2] []))
  obtain ⟨T0z, X0z, e0z, st0z⟩ := getS2 X0 hx hZ hown (host := "") (Or.inl (tw hw 99 rfl)) Via.refl e0 hW.adt (g := (mkF m 0 #[vr b, vi 2] [])) rfl (hb hby d23_0)
  refine Dn.st st0z ?_
  show Dn p e below s _ _ _ (T0z.setTop (mkF m 3 #[vr b, vi 2] [(.int 1)]))
  have hc3 : ¬ ((1 : Int32) = (0 : Int32)) := by decide
  refine Dn.st (fun _ kk => XS.ifYes X0z.here hx rfl (pc0 := 3) (pc' := 28) rfl (hb hby d23_3) rfl ((if0 _ _).trans (feq hc3).2) (by decide) (by decide) (XS.iloadN X0z.here hx rfl (hb hby d23_28) rfl (XS.iconst X0z.here hx rfl (hb hby d23_29) (XS.ishl X0z.here hx rfl (hb hby d23_30) rfl (XS.istoreN X0z.here hx rfl (hb hby d23_31) rfl (l' := #[vr b, vi 4]) rfl (XS.aloadN X0z.here hx rfl (hb hby d23_32) rfl rfl (kk))))))) ?_
  show Dn p e below s _ _ _ (T0z.setTop (mkF m 33 #[vr b, vi 4] [(.ref b)]))
  refine Dn.st (fun _ kk => XS.iloadN X0z.here hx rfl (hb hby d23_33) rfl (XS.iinc X0z.here hx rfl (hb hby d23_34) rfl (l' := #[vr b, vi 5]) rfl (kk))) ?_
  show Dn p e below s _ _ _ (T0z.setTop (mkF m 37 #[vr b, vi 5] [(.int 4), (.ref b)]))
  have Vc_b_37 := Vb
  obtain ⟨cl_b_37, Ar_b_37, q_b_37, S_b_37, N_b_37, H_b_37, G_b_37⟩ := Vc_b_37
  have hin37 : ¬ ((4 : Int32) < 0 ∨ cl_b_37.slots.size ≤ ((4 : Int32)).toNatClampNeg) := inb_of S_b_37 ⟨by decide, hm0⟩
  have hat37 : cl_b_37.slots[((4 : Int32)).toNatClampNeg]? = some (.int (own_lo yy)) := H_b_37.at hin37 ge0
  refine Dn.st (fun _ kk => X0z.baloadBytes hx (j := (4 : Int32)) (v := (.int (own_lo yy))) (by rw [e0z]; exact Ar_b_37.1) (State.isArrayOf_alike hZ.alike Ar_b_37.2.1) Ar_b_37.2.2 hin37 hat37 (g := (mkF m 37 #[vr b, vi 5] [(.int 4), (.ref b)])) rfl rfl (hb hby d23_37) _ (XS.sipush X0z.here hx rfl (hb hby d23_38) (XS.iand X0z.here hx rfl (hb hby d23_41) rfl (kk)))) ?_
  show Dn p e below s _ _ _ (T0z.setTop (mkF m 42 #[vr b, vi 5] [(.int ((own_lo yy) &&& (255 : Int32)))]))
  obtain ⟨T42, X42, e42, st42⟩ := getS2 X0z hx hZ hown (host := "") (Or.inl (tw hw 100 rfl)) Via.refl e0z hW.hit (g := (mkF m 42 #[vr b, vi 5] [(.int ((own_lo yy) &&& (255 : Int32)))])) rfl (hb hby d23_42)
  refine Dn.st st42 ?_
  show Dn p e below s _ _ _ (T42.setTop (mkF m 45 #[vr b, vi 5] [(.int 0), (.int ((own_lo yy) &&& (255 : Int32)))]))
  refine Dn.st (fun _ kk => XS.ishl X42.here hx rfl (hb hby d23_45) rfl (XS.aloadN X42.here hx rfl (hb hby d23_46) rfl rfl (XS.iloadN X42.here hx rfl (hb hby d23_47) rfl (kk)))) ?_
  show Dn p e below s _ _ _ (T42.setTop (mkF m 48 #[vr b, vi 5] [(.int 5), (.ref b), (.int (((own_lo yy) &&& (255 : Int32)) <<< ((0 : Int32) &&& 31)))]))
  have Vc_b_48 := Vb
  obtain ⟨cl_b_48, Ar_b_48, q_b_48, S_b_48, N_b_48, H_b_48, G_b_48⟩ := Vc_b_48
  have hin48 : ¬ ((5 : Int32) < 0 ∨ cl_b_48.slots.size ≤ ((5 : Int32)).toNatClampNeg) := inb_of S_b_48 ⟨by decide, hm1⟩
  have hat48 : cl_b_48.slots[((5 : Int32)).toNatClampNeg]? = some (.int (own_hi yy)) := H_b_48.at hin48 ge1
  refine Dn.st (fun _ kk => X42.baloadBytes hx (j := (5 : Int32)) (v := (.int (own_hi yy))) (by rw [e42]; exact Ar_b_48.1) (State.isArrayOf_alike hZ.alike Ar_b_48.2.1) Ar_b_48.2.2 hin48 hat48 (g := (mkF m 48 #[vr b, vi 5] [(.int 5), (.ref b), (.int (((own_lo yy) &&& (255 : Int32)) <<< ((0 : Int32) &&& 31)))])) rfl rfl (hb hby d23_48) _ (XS.sipush X42.here hx rfl (hb hby d23_49) (XS.iand X42.here hx rfl (hb hby d23_52) rfl (kk)))) ?_
  show Dn p e below s _ _ _ (T42.setTop (mkF m 53 #[vr b, vi 5] [(.int ((own_hi yy) &&& (255 : Int32))), (.int (((own_lo yy) &&& (255 : Int32)) <<< ((0 : Int32) &&& 31)))]))
  obtain ⟨T53, X53, e53, st53⟩ := getS2 X42 hx hZ hown (host := "") (Or.inl (tw hw 101 rfl)) Via.refl e42 hW.lot (g := (mkF m 53 #[vr b, vi 5] [(.int ((own_hi yy) &&& (255 : Int32))), (.int (((own_lo yy) &&& (255 : Int32)) <<< ((0 : Int32) &&& 31)))])) rfl (hb hby d23_53)
  refine Dn.st st53 ?_
  show Dn p e below s _ _ _ (T53.setTop (mkF m 56 #[vr b, vi 5] [(.int 8), (.int ((own_hi yy) &&& (255 : Int32))), (.int (((own_lo yy) &&& (255 : Int32)) <<< ((0 : Int32) &&& 31)))]))
  refine Dn.st (fun _ kk => XS.ishl X53.here hx rfl (hb hby d23_56) rfl (XS.ior X53.here hx rfl (hb hby d23_57) rfl (XS.i2c X53.here hx rfl (hb hby d23_58) rfl (kk)))) ?_
  show Dn p e below s _ _ _ (T53.setTop (mkF m 59 #[vr b, vi 5] [(.int (((((own_lo yy) &&& (255 : Int32)) <<< ((0 : Int32) &&& 31)) ||| (((own_hi yy) &&& (255 : Int32)) <<< ((8 : Int32) &&& 31))).toUInt32.toUInt16.toUInt32.toInt32))]))
  rw [own_u16 hy1 hy2]
  show Dn p e below s _ _ _ (T53.setTop (mkF m 59 #[vr b, vi 5] [(.int yy)]))
  exact Dn.ret X53 hlk hx hret (own_nc (by omega) (by omega)) (Or.inl ⟨rfl, Or.inr (Or.inr (Or.inr (Or.inl rfl))), _, rfl⟩) (hb hby d23_59) (by rw [e53]; exact ⟨rfl, N0, rfl⟩) (by decide) (by decide)

theorem ef24_rmUch2 (m : MethodId) (x0 : Addr) (x1 : Int32) : entryFrame m #[(.ref x0), (.int x1)] 2 = mkF m 0 #[vr x0, vi x1] [] := by first | (simp [entryFrame, mkF, argsToLocals, Value.category]; done) | rfl
def QUch2 (Z : State) (b : Addr) (cs : Int32) (sf : Value) (kb : ClassId) (mm : Int32) (ls : List Value) (yy : Int32) (h0 : Heap) (n0 : Nat) (v : Option Value) (h : Heap) (L : List Loc) : Prop := v = some (.int yy) ∧ Fr n0 L ∧ h = h0
theorem rmUch2 (l : Launch) (Z : State) (a0 : Array Value) (hw : ∀ d ∈ tables_1, d.before a0 Z = true) (ws : List Jvm.Cond) (b : Addr) (cs : Int32) (sf : Value) (kb : ClassId) (mm : Int32) (ls : List Value) (yy : Int32) (h0 : Heap) (n0 : Nat) (Z0 : n0 ≤ h0.size) (hW : own_W Z h0 n0 cs sf) (Vb : Arv Z h0 b kb .byte mm ls (.int 0)) (hm0 : (4 : Int32) < mm) (hm1 : (5 : Int32) < mm) (ge0 : ls.getD 4 (.int 0) = .int (own_lo yy)) (ge1 : ls.getD 5 (.int 0) = .int (own_hi yy)) (hy1 : 0 ≤ yy.toInt) (hy2 : yy.toInt ≤ 65535) (hx2 : (2 : Int32) < mm >>> ((1 : Int32) &&& 31)) :
    own_Met l on13 (Jvm.Cond.code on13 jdk_52_method_83_code 2 (some .char) :: ws) orm27 #[(.ref b), (.int 2)] Z h0 (QUch2 Z b cs sf kb mm ls yy h0 n0) := by
  refine MetFree.of_bodySF (plainFor_of_name pn2) hisR ?_
  intro p e s m args below meth c s₁ Bd hml0 hP hK
  obtain ⟨rfl, hZ, hh⟩ := hP
  have hx := Bd.exec
  have hby := Bd.bytes
  have hlk : meth.locks = false := BodyLoose.notSynchronized Bd
  have hret := Bd.returns
  have hml : c.maxLocals = 2 := hml0
  have hown : s.vm.findClass "java/lang/StringUTF16" = some m.cls := findClass_of_methodNamed Bd.named
  have X0 : Stand p l e orm27 s m #[(.ref b), (.int 2)] below meth c s₁ [] 0 0 := Stand.of_body Bd
  have e0 : s₁.heap = h0 := by rw [← hh, Bd.state]; rfl
  have N0 := Fr.nil n0
  show Dn p e below s (QUch2 Z b cs sf kb mm ls yy h0 n0) orm27.cells orm27.slots (s₁.setTop (entryFrame m #[(.ref b), (.int 2)] 2))
  refine Dn.st (fun _ kk => castTop (ef24_rmUch2 m b (2 : Int32)) kk) ?_
  show Dn p e below s _ _ _ (s₁.setTop (mkF m 0 #[vr b, vi 2] []))
  refine Dn.st (fun _ kk => XS.iloadN X0.here hx rfl (hb hby d24_0) rfl (XS.aloadN X0.here hx rfl (hb hby d24_1) rfl rfl (kk))) ?_
  show Dn p e below s _ _ _ (s₁.setTop (mkF m 2 #[vr b, vi 2] [(.ref b), (.int 2)]))
  obtain ⟨_, _, ⟨T2, L2, k2, n2⟩, -, X2, ⟨Lc2, hQ2, l2, y2, z2⟩, st2⟩ := Jvm.LawKit.callS X0 hx (y := on21) hown (mvT hZ (tw hw 108 rfl)) (mvT hZ (tw hw 109 rfl)) (mvT hZ (tw hw 50 rfl)) (mvT hZ (tw hw 110 rfl)) (by decide) (backOf (W := 0) (rmUc l Z a0 hw [] (2 : Int32) b cs sf kb mm ls h0 n0 Z0 hW Vb (by decide) hx2) hZ (tw hw 110 rfl) (tw hw 50 rfl) (by decide) (by decide)) (g := (mkF m 2 #[vr b, vi 2] [(.ref b), (.int 2)])) rfl (by rw [hml]; rfl) (argsL := [(.int 2), (.ref b)]) (rest := []) (lenOf pd5 rfl) rfl (by show 2 * 0 + _ ≤ _; exact Nat.le_of_eq rfl) (hb hby d24_2) (fun _ _ => ⟨rfl, e0, (by decide : 0 + 0 ≤ _), (by decide : 0 + 0 ≤ _)⟩)
  dsimp only [Pt.U, Pt.locs, Pt.cells, Pt.slots] at X2 l2 y2 z2 st2 hQ2
  subst l2 y2 z2
  obtain ⟨rfl, Nq2, hh2⟩ := hQ2
  have N2 := Fr.app N0 Nq2
  refine Dn.st st2 ?_
  show Dn p e below s _ _ _ (T2.setTop (mkF m 5 #[vr b, vi 2] []))
  refine Dn.st (fun _ kk => XS.aloadN X2.here hx rfl (hb hby d24_5) rfl rfl (XS.iloadN X2.here hx rfl (hb hby d24_6) rfl (kk))) ?_
  show Dn p e below s _ _ _ (T2.setTop (mkF m 7 #[vr b, vi 2] [(.int 2), (.ref b)]))
  obtain ⟨_, _, ⟨T7, L7, k7, n7⟩, -, X7, ⟨Lc7, hQ7, l7, y7, z7⟩, st7⟩ := Jvm.LawKit.callS X2 hx (y := on5) hown (mvT hZ (tw hw 102 rfl)) (mvT hZ (tw hw 103 rfl)) (mvT hZ (tw hw 50 rfl)) (mvT hZ (tw hw 104 rfl)) (by decide) (backOf (W := 0) (rmGc2 l Z a0 hw [] b cs sf kb mm ls yy h0 n0 Z0 hW Vb hm0 hm1 ge0 ge1 hy1 hy2) hZ (tw hw 104 rfl) (tw hw 50 rfl) (by decide) (by decide)) (g := (mkF m 7 #[vr b, vi 2] [(.int 2), (.ref b)])) rfl (by rw [hml]; rfl) (argsL := [(.ref b), (.int 2)]) (rest := []) (lenOf pd6 rfl) rfl (by show 2 * 0 + _ ≤ _; exact Nat.le_of_eq rfl) (hb hby d24_7) (fun _ _ => ⟨rfl, hh2, (by decide : 0 + 0 ≤ _), (by decide : 0 + 0 ≤ _)⟩)
  dsimp only [Pt.U, Pt.locs, Pt.cells, Pt.slots] at X7 l7 y7 z7 st7 hQ7
  subst l7 y7 z7
  obtain ⟨rfl, Nq7, hh7⟩ := hQ7
  have N7 := Fr.app N2 Nq7
  refine Dn.st st7 ?_
  show Dn p e below s _ _ _ (T7.setTop (mkF m 10 #[vr b, vi 2] [(.int yy)]))
  exact Dn.ret X7 hlk hx hret (own_nc (by omega) (by omega)) (Or.inl ⟨rfl, Or.inr (Or.inr (Or.inr (Or.inl rfl))), _, rfl⟩) (hb hby d24_10) (by rw [hh7]; exact ⟨rfl, N7, rfl⟩) (by decide) (by decide)

theorem ef15_rmLch2 (m : MethodId) (x0 : Addr) (x1 : Int32) : entryFrame m #[(.ref x0), (.int x1)] 2 = mkF m 0 #[vr x0, vi x1] [] := by first | (simp [entryFrame, mkF, argsToLocals, Value.category]; done) | rfl
def QLch2 (Z : State) (b : Addr) (cs : Int32) (sf : Value) (kb : ClassId) (mm : Int32) (ls : List Value) (yy : Int32) (h0 : Heap) (n0 : Nat) (v : Option Value) (h : Heap) (L : List Loc) : Prop := v = some (.int yy) ∧ Fr n0 L ∧ h = h0
theorem rmLch2 (l : Launch) (Z : State) (a0 : Array Value) (hw : ∀ d ∈ tables_1, d.before a0 Z = true) (ws : List Jvm.Cond) (b : Addr) (cs : Int32) (sf : Value) (kb : ClassId) (mm : Int32) (ls : List Value) (yy : Int32) (h0 : Heap) (n0 : Nat) (Z0 : n0 ≤ h0.size) (hW : own_W Z h0 n0 cs sf) (Vb : Arv Z h0 b kb .byte mm ls (.int 0)) (hm0 : (2 : Int32) < mm) (ge0 : ls.getD 2 (.int 0) = .int (own_b yy)) (hy1 : 0 ≤ yy.toInt) (hy2 : yy.toInt ≤ 255) :
    own_Met l on11 (Jvm.Cond.code on11 jdk_43_method_2_code 2 (some .char) :: ws) orm26 #[(.ref b), (.int 2)] Z h0 (QLch2 Z b cs sf kb mm ls yy h0 n0) := by
  refine MetFree.of_bodySF (plainFor_of_name pn3) hisR ?_
  intro p e s m args below meth c s₁ Bd hml0 hP hK
  obtain ⟨rfl, hZ, hh⟩ := hP
  have hx := Bd.exec
  have hby := Bd.bytes
  have hlk : meth.locks = false := BodyLoose.notSynchronized Bd
  have hret := Bd.returns
  have hml : c.maxLocals = 2 := hml0
  have hown : s.vm.findClass "java/lang/StringLatin1" = some m.cls := findClass_of_methodNamed Bd.named
  have X0 : Stand p l e orm26 s m #[(.ref b), (.int 2)] below meth c s₁ [] 0 0 := Stand.of_body Bd
  have e0 : s₁.heap = h0 := by rw [← hh, Bd.state]; rfl
  have N0 := Fr.nil n0
  show Dn p e below s (QLch2 Z b cs sf kb mm ls yy h0 n0) orm26.cells orm26.slots (s₁.setTop (entryFrame m #[(.ref b), (.int 2)] 2))
  refine Dn.st (fun _ kk => castTop (ef15_rmLch2 m b (2 : Int32)) kk) ?_
  show Dn p e below s _ _ _ (s₁.setTop (mkF m 0 #[vr b, vi 2] []))
  refine Dn.st (fun _ kk => XS.iloadN X0.here hx rfl (hb hby d15_0) rfl (XS.aloadN X0.here hx rfl (hb hby d15_1) rfl rfl (kk))) ?_
  show Dn p e below s _ _ _ (s₁.setTop (mkF m 2 #[vr b, vi 2] [(.ref b), (.int 2)]))
  have Vc_b_2 := Vb
  obtain ⟨cl_b_2, Ar_b_2, q_b_2, S_b_2, N_b_2, H_b_2, G_b_2⟩ := Vc_b_2
  refine Dn.st (fun _ kk => X0.arraylength hx (by rw [e0]; exact Ar_b_2.1) (State.isArrayOf_alike hZ.alike Ar_b_2.2.1) (g := (mkF m 2 #[vr b, vi 2] [(.ref b), (.int 2)])) rfl rfl (hb hby d15_2) _ (kk)) ?_
  show Dn p e below s _ _ _ (s₁.setTop (mkF m 3 #[vr b, vi 2] [(.int cl_b_2.slots.size.toInt32), (.int 2)]))
  rw [len_of S_b_2 N_b_2]
  show Dn p e below s _ _ _ (s₁.setTop (mkF m 3 #[vr b, vi 2] [(.int mm), (.int 2)]))
  obtain ⟨_, _, ⟨T3, L3, k3, n3⟩, -, X3, ⟨Lc3, hQ3, l3, y3, z3⟩, st3⟩ := Jvm.LawKit.callS X0 hx (y := on20) hown (mvT hZ (tw hw 75 rfl)) (mvT hZ (tw hw 76 rfl)) (mvT hZ (tw hw 8 rfl)) (mvT hZ (tw hw 77 rfl)) (by decide) (backOf (W := 0) (rmCi l Z a0 hw [] (2 : Int32) mm cs sf  h0 n0 Z0 hW (by decide) hm0) hZ (tw hw 77 rfl) (tw hw 8 rfl) (by decide) (by decide)) (g := (mkF m 3 #[vr b, vi 2] [(.int mm), (.int 2)])) rfl (by rw [hml]; rfl) (argsL := [(.int 2), (.int mm)]) (rest := []) (lenOf pd4 rfl) rfl (by show 2 * 0 + _ ≤ _; exact Nat.le_of_eq rfl) (hb hby d15_3) (fun _ _ => ⟨rfl, e0, (by decide : 0 + 0 ≤ _), (by decide : 0 + 0 ≤ _)⟩)
  dsimp only [Pt.U, Pt.locs, Pt.cells, Pt.slots] at X3 l3 y3 z3 st3 hQ3
  subst l3 y3 z3
  obtain ⟨rfl, Nq3, hh3⟩ := hQ3
  have N3 := Fr.app N0 Nq3
  refine Dn.st st3 ?_
  show Dn p e below s _ _ _ (T3.setTop (mkF m 6 #[vr b, vi 2] []))
  refine Dn.st (fun _ kk => XS.aloadN X3.here hx rfl (hb hby d15_6) rfl rfl (XS.iloadN X3.here hx rfl (hb hby d15_7) rfl (kk))) ?_
  show Dn p e below s _ _ _ (T3.setTop (mkF m 8 #[vr b, vi 2] [(.int 2), (.ref b)]))
  have Vc_b_8 := Vb
  obtain ⟨cl_b_8, Ar_b_8, q_b_8, S_b_8, N_b_8, H_b_8, G_b_8⟩ := Vc_b_8
  have hin8 : ¬ ((2 : Int32) < 0 ∨ cl_b_8.slots.size ≤ ((2 : Int32)).toNatClampNeg) := inb_of S_b_8 ⟨by decide, hm0⟩
  have hat8 : cl_b_8.slots[((2 : Int32)).toNatClampNeg]? = some (.int (own_b yy)) := H_b_8.at hin8 ge0
  refine Dn.st (fun _ kk => X3.baloadBytes hx (j := (2 : Int32)) (v := (.int (own_b yy))) (by rw [hh3]; exact Ar_b_8.1) (State.isArrayOf_alike hZ.alike Ar_b_8.2.1) Ar_b_8.2.2 hin8 hat8 (g := (mkF m 8 #[vr b, vi 2] [(.int 2), (.ref b)])) rfl rfl (hb hby d15_8) _ (XS.sipush X3.here hx rfl (hb hby d15_9) (XS.iand X3.here hx rfl (hb hby d15_12) rfl (XS.i2c X3.here hx rfl (hb hby d15_13) rfl (kk))))) ?_
  show Dn p e below s _ _ _ (T3.setTop (mkF m 14 #[vr b, vi 2] [(.int (((own_b yy) &&& (255 : Int32)).toUInt32.toUInt16.toUInt32.toInt32))]))
  rw [own_lat hy1 hy2]
  show Dn p e below s _ _ _ (T3.setTop (mkF m 14 #[vr b, vi 2] [(.int yy)]))
  exact Dn.ret X3 hlk hx hret (own_nc (by omega) (by omega)) (Or.inl ⟨rfl, Or.inr (Or.inr (Or.inr (Or.inl rfl))), _, rfl⟩) (hb hby d15_14) (by rw [hh3]; exact ⟨rfl, N3, rfl⟩) (by decide) (by decide)

theorem ef13_rmCh2 (m : MethodId) (x0 : Addr) (x1 : Int32) : entryFrame m #[(.ref x0), (.int x1)] 2 = mkF m 0 #[vr x0, vi x1] [] := by first | (simp [entryFrame, mkF, argsToLocals, Value.category]; done) | rfl
def QCh2 (Z : State) (a : Addr) (cs : Int32) (sf : Value) (nn mm : Int32) (ls lu : List Value) (PQ : Prop) (yy : Int32) (h0 : Heap) (n0 : Nat) (v : Option Value) (h : Heap) (L : List Loc) : Prop := v = some (.int yy) ∧ Fr n0 L ∧ h = h0
theorem rmCh2 (l : Launch) (Z : State) (a0 : Array Value) (hw : ∀ d ∈ tables_1, d.before a0 Z = true) (ws : List Jvm.Cond) (a : Addr) (cs : Int32) (sf : Value) (nn mm : Int32) (ls lu : List Value) (PQ : Prop) (yy : Int32) (h0 : Heap) (n0 : Nat) (Z0 : n0 ≤ h0.size) (hW : own_W Z h0 n0 cs sf) (hS : own_Str Z h0 a nn mm ls lu PQ) (hn : (2 : Int32) < nn) (el : ls.getD 2 (.int 0) = .int (own_b yy)) (hP : PQ → yy.toInt ≤ 255) (hm0 : (4 : Int32) < mm) (hm1 : (5 : Int32) < mm) (ge0 : lu.getD 4 (.int 0) = .int (own_lo yy)) (ge1 : lu.getD 5 (.int 0) = .int (own_hi yy)) (hx2 : (2 : Int32) < mm >>> ((1 : Int32) &&& 31)) (hr : 0 ≤ yy.toInt ∧ yy.toInt ≤ 65535) :
    own_Met l on2 (Jvm.Cond.code on2 jdk_42_method_56_code 2 (some .char) :: ws) orm28 #[(.ref a), (.int 2)] Z h0 (QCh2 Z a cs sf nn mm ls lu PQ yy h0 n0) := by
  refine MetFree.of_bodySF (plainFor_of_name pn0) hisR ?_
  intro p e s m args below meth c s₁ Bd hml0 hP hK
  obtain ⟨rfl, hZ, hh⟩ := hP
  have hx := Bd.exec
  have hby := Bd.bytes
  have hlk : meth.locks = false := BodyLoose.notSynchronized Bd
  have hret := Bd.returns
  have hml : c.maxLocals = 2 := hml0
  have hown : s.vm.findClass "java/lang/String" = some m.cls := findClass_of_methodNamed Bd.named
  have X0 : Stand p l e orm28 s m #[(.ref a), (.int 2)] below meth c s₁ [] 0 0 := Stand.of_body Bd
  have e0 : s₁.heap = h0 := by rw [← hh, Bd.state]; rfl
  have N0 := Fr.nil n0
  show Dn p e below s (QCh2 Z a cs sf nn mm ls lu PQ yy h0 n0) orm28.cells orm28.slots (s₁.setTop (entryFrame m #[(.ref a), (.int 2)] 2))
  refine Dn.st (fun _ kk => castTop (ef13_rmCh2 m a (2 : Int32)) kk) ?_
  show Dn p e below s _ _ _ (s₁.setTop (mkF m 0 #[vr a, vi 2] []))
  rcases hS with ⟨Ea, ⟨bb, kb, Fc, Fv, Vb, hp⟩ | ⟨bb, kb, Fc, Fv, Vb⟩⟩
  · show Dn p e below s _ _ _ (s₁.setTop (mkF m 0 #[vr a, vi 2] []))
    refine Dn.st (fun _ kk => XS.aloadN X0.here hx rfl (hb hby d13_0) rfl rfl (kk)) ?_
    show Dn p e below s _ _ _ (s₁.setTop (mkF m 1 #[vr a, vi 2] [(.ref a)]))
    obtain ⟨cq1, kq1, q1a, q1b, q1c⟩ := isOf hZ e0 Ea
    obtain ⟨_, _, ⟨T1, L1, k1, n1⟩, -, X1, ⟨Lc1, hQ1, l1, y1, z1⟩, st1⟩ := X0.virtualBack hx (y := on6) (z := on6) hown (mvT hZ (tw hw 66 rfl)) (mvT hZ (tw hw 67 rfl)) (notFace_of_selects (args := #[]) (mvT hZ (tw hw 69 rfl))) (mvT hZ (tw hw 69 rfl)) (mvT hZ (tw hw 68 rfl)) (by decide) (backOf (W := 0) (rmIl0 l Z a0 hw [] a cs sf  h0 n0 Z0 hW Fc) hZ (tw hw 70 rfl) (tw hw 8 rfl) (by decide) (by decide)) q1a q1c (g := (mkF m 1 #[vr a, vi 2] [(.ref a)])) rfl (by rw [hml]; rfl) (Steps.refl _) (argsL := []) (rest := []) (lenOf pd7 rfl) rfl (by show 2 * 0 + _ ≤ _; exact Nat.le_of_eq rfl) (hb hby d13_1) (fun _ _ => ⟨rfl, e0, (by decide : 0 + 0 ≤ _), (by decide : 0 + 0 ≤ _)⟩)
    dsimp only [Pt.U, Pt.locs, Pt.cells, Pt.slots] at X1 l1 y1 z1 st1 hQ1
    subst l1 y1 z1
    obtain ⟨rfl, Nq1, hh1⟩ := hQ1
    have N1 := Fr.app N0 Nq1
    refine Dn.tr st1 ?_
    show Dn p e below s _ _ _ (T1.setTop (mkF m 4 #[vr a, vi 2] [(.int 1)]))
    have hc4 : ¬ ((1 : Int32) = (0 : Int32)) := by decide
    refine Dn.st (fun _ kk => XS.ifNo X1.here hx rfl (hb hby d13_4) rfl ((if0 _ _).trans (feq hc4).1) (XS.aloadN X1.here hx rfl (hb hby d13_7) rfl rfl (kk))) ?_
    show Dn p e below s _ _ _ (T1.setTop (mkF m 8 #[vr a, vi 2] [(.ref a)]))
    obtain ⟨T8, X8, e8, st8⟩ := getF X1 hx hZ hown (host := "") (Or.inl (tw hw 26 rfl)) Via.refl hh1 Fv (g := (mkF m 8 #[vr a, vi 2] [(.ref a)])) rfl rfl (hb hby d13_8)
    refine Dn.st st8 ?_
    show Dn p e below s _ _ _ (T8.setTop (mkF m 11 #[vr a, vi 2] [(.ref bb)]))
    refine Dn.st (fun _ kk => XS.iloadN X8.here hx rfl (hb hby d13_11) rfl (kk)) ?_
    show Dn p e below s _ _ _ (T8.setTop (mkF m 12 #[vr a, vi 2] [(.int 2), (.ref bb)]))
    obtain ⟨_, _, ⟨T12, L12, k12, n12⟩, -, X12, ⟨Lc12, hQ12, l12, y12, z12⟩, st12⟩ := Jvm.LawKit.callS X8 hx (y := on11) hown (mvT hZ (tw hw 71 rfl)) (mvT hZ (tw hw 72 rfl)) (mvT hZ (tw hw 73 rfl)) (mvT hZ (tw hw 74 rfl)) (by decide) (backOf (W := 0) (rmLch2 l Z a0 hw [] bb cs sf kb nn ls yy h0 n0 Z0 hW Vb hn el hr.1 (hP hp)) hZ (tw hw 74 rfl) (tw hw 73 rfl) (by decide) (by decide)) (g := (mkF m 12 #[vr a, vi 2] [(.int 2), (.ref bb)])) rfl (by rw [hml]; rfl) (argsL := [(.ref bb), (.int 2)]) (rest := []) (lenOf pd6 rfl) rfl (by show 2 * 0 + _ ≤ _; exact Nat.le_of_eq rfl) (hb hby d13_12) (fun _ _ => ⟨rfl, e8, (by decide : 0 + 0 ≤ _), (by decide : 0 + 0 ≤ _)⟩)
    dsimp only [Pt.U, Pt.locs, Pt.cells, Pt.slots] at X12 l12 y12 z12 st12 hQ12
    subst l12 y12 z12
    obtain ⟨rfl, Nq12, hh12⟩ := hQ12
    have N12 := Fr.app N1 Nq12
    refine Dn.st st12 ?_
    show Dn p e below s _ _ _ (T12.setTop (mkF m 15 #[vr a, vi 2] [(.int yy)]))
    exact Dn.ret X12 hlk hx hret (own_nc (by omega) (by omega)) (Or.inl ⟨rfl, Or.inr (Or.inr (Or.inr (Or.inl rfl))), _, rfl⟩) (hb hby d13_15) (by rw [hh12]; exact ⟨rfl, N12, rfl⟩) (by decide) (by decide)
  · show Dn p e below s _ _ _ (s₁.setTop (mkF m 0 #[vr a, vi 2] []))
    refine Dn.st (fun _ kk => XS.aloadN X0.here hx rfl (hb hby d13_0) rfl rfl (kk)) ?_
    show Dn p e below s _ _ _ (s₁.setTop (mkF m 1 #[vr a, vi 2] [(.ref a)]))
    obtain ⟨cq1, kq1, q1a, q1b, q1c⟩ := isOf hZ e0 Ea
    obtain ⟨_, _, ⟨T1, L1, k1, n1⟩, -, X1, ⟨Lc1, hQ1, l1, y1, z1⟩, st1⟩ := X0.virtualBack hx (y := on6) (z := on6) hown (mvT hZ (tw hw 66 rfl)) (mvT hZ (tw hw 67 rfl)) (notFace_of_selects (args := #[]) (mvT hZ (tw hw 69 rfl))) (mvT hZ (tw hw 69 rfl)) (mvT hZ (tw hw 68 rfl)) (by decide) (backOf (W := 0) (rmIl1 l Z a0 hw [] a cs sf  h0 n0 Z0 hW Fc) hZ (tw hw 70 rfl) (tw hw 8 rfl) (by decide) (by decide)) q1a q1c (g := (mkF m 1 #[vr a, vi 2] [(.ref a)])) rfl (by rw [hml]; rfl) (Steps.refl _) (argsL := []) (rest := []) (lenOf pd7 rfl) rfl (by show 2 * 0 + _ ≤ _; exact Nat.le_of_eq rfl) (hb hby d13_1) (fun _ _ => ⟨rfl, e0, (by decide : 0 + 0 ≤ _), (by decide : 0 + 0 ≤ _)⟩)
    dsimp only [Pt.U, Pt.locs, Pt.cells, Pt.slots] at X1 l1 y1 z1 st1 hQ1
    subst l1 y1 z1
    obtain ⟨rfl, Nq1, hh1⟩ := hQ1
    have N1 := Fr.app N0 Nq1
    refine Dn.tr st1 ?_
    show Dn p e below s _ _ _ (T1.setTop (mkF m 4 #[vr a, vi 2] [(.int 0)]))
    have hc4 : (0 : Int32) = (0 : Int32) := by decide
    refine Dn.st (fun _ kk => XS.ifYes X1.here hx rfl (pc0 := 4) (pc' := 16) rfl (hb hby d13_4) rfl ((if0 _ _).trans (teq hc4).1) (by decide) (by decide) (XS.aloadN X1.here hx rfl (hb hby d13_16) rfl rfl (kk))) ?_
    show Dn p e below s _ _ _ (T1.setTop (mkF m 17 #[vr a, vi 2] [(.ref a)]))
    obtain ⟨T17, X17, e17, st17⟩ := getF X1 hx hZ hown (host := "") (Or.inl (tw hw 26 rfl)) Via.refl hh1 Fv (g := (mkF m 17 #[vr a, vi 2] [(.ref a)])) rfl rfl (hb hby d13_17)
    refine Dn.st st17 ?_
    show Dn p e below s _ _ _ (T17.setTop (mkF m 20 #[vr a, vi 2] [(.ref bb)]))
    refine Dn.st (fun _ kk => XS.iloadN X17.here hx rfl (hb hby d13_20) rfl (kk)) ?_
    show Dn p e below s _ _ _ (T17.setTop (mkF m 21 #[vr a, vi 2] [(.int 2), (.ref bb)]))
    obtain ⟨_, _, ⟨T21, L21, k21, n21⟩, -, X21, ⟨Lc21, hQ21, l21, y21, z21⟩, st21⟩ := Jvm.LawKit.callS X17 hx (y := on13) hown (mvT hZ (tw hw 105 rfl)) (mvT hZ (tw hw 106 rfl)) (mvT hZ (tw hw 50 rfl)) (mvT hZ (tw hw 107 rfl)) (by decide) (backOf (W := 0) (rmUch2 l Z a0 hw [] bb cs sf kb mm lu yy h0 n0 Z0 hW Vb hm0 hm1 ge0 ge1 hr.1 hr.2 hx2) hZ (tw hw 107 rfl) (tw hw 50 rfl) (by decide) (by decide)) (g := (mkF m 21 #[vr a, vi 2] [(.int 2), (.ref bb)])) rfl (by rw [hml]; rfl) (argsL := [(.ref bb), (.int 2)]) (rest := []) (lenOf pd6 rfl) rfl (by show 2 * 0 + _ ≤ _; exact Nat.le_of_eq rfl) (hb hby d13_21) (fun _ _ => ⟨rfl, e17, (by decide : 0 + 0 ≤ _), (by decide : 0 + 0 ≤ _)⟩)
    dsimp only [Pt.U, Pt.locs, Pt.cells, Pt.slots] at X21 l21 y21 z21 st21 hQ21
    subst l21 y21 z21
    obtain ⟨rfl, Nq21, hh21⟩ := hQ21
    have N21 := Fr.app N1 Nq21
    refine Dn.st st21 ?_
    show Dn p e below s _ _ _ (T21.setTop (mkF m 24 #[vr a, vi 2] [(.int yy)]))
    exact Dn.ret X21 hlk hx hret (own_nc (by omega) (by omega)) (Or.inl ⟨rfl, Or.inr (Or.inr (Or.inr (Or.inl rfl))), _, rfl⟩) (hb hby d13_24) (by rw [hh21]; exact ⟨rfl, N21, rfl⟩) (by decide) (by decide)

theorem ef23_rmGc3 (m : MethodId) (x0 : Addr) (x1 : Int32) : entryFrame m #[(.ref x0), (.int x1)] 2 = mkF m 0 #[vr x0, vi x1] [] := by first | (simp [entryFrame, mkF, argsToLocals, Value.category]; done) | rfl
def QGc3 (Z : State) (b : Addr) (cs : Int32) (sf : Value) (kb : ClassId) (mm : Int32) (ls : List Value) (yy : Int32) (h0 : Heap) (n0 : Nat) (v : Option Value) (h : Heap) (L : List Loc) : Prop := v = some (.int yy) ∧ Fr n0 L ∧ h = h0
theorem rmGc3 (l : Launch) (Z : State) (a0 : Array Value) (hw : ∀ d ∈ tables_1, d.before a0 Z = true) (ws : List Jvm.Cond) (b : Addr) (cs : Int32) (sf : Value) (kb : ClassId) (mm : Int32) (ls : List Value) (yy : Int32) (h0 : Heap) (n0 : Nat) (Z0 : n0 ≤ h0.size) (hW : own_W Z h0 n0 cs sf) (Vb : Arv Z h0 b kb .byte mm ls (.int 0)) (hm0 : (6 : Int32) < mm) (hm1 : (7 : Int32) < mm) (ge0 : ls.getD 6 (.int 0) = .int (own_lo yy)) (ge1 : ls.getD 7 (.int 0) = .int (own_hi yy)) (hy1 : 0 ≤ yy.toInt) (hy2 : yy.toInt ≤ 65535) :
    own_Met l on5 (Jvm.Cond.code on5 jdk_52_method_5_code 2 (some .char) :: ws) orm25 #[(.ref b), (.int 3)] Z h0 (QGc3 Z b cs sf kb mm ls yy h0 n0) := by
  refine MetFree.of_bodySF (plainFor_of_name pn2) hisR ?_
  intro p e s m args below meth c s₁ Bd hml0 hP hK
  obtain ⟨rfl, hZ, hh⟩ := hP
  have hx := Bd.exec
  have hby := Bd.bytes
  have hlk : meth.locks = false := BodyLoose.notSynchronized Bd
  have hret := Bd.returns
  have hml : c.maxLocals = 2 := hml0
  have hown : s.vm.findClass "java/lang/StringUTF16" = some m.cls := findClass_of_methodNamed Bd.named
  have X0 : Stand p l e orm25 s m #[(.ref b), (.int 3)] below meth c s₁ [] 0 0 := Stand.of_body Bd
  have e0 : s₁.heap = h0 := by rw [← hh, Bd.state]; rfl
  have N0 := Fr.nil n0
  show Dn p e below s (QGc3 Z b cs sf kb mm ls yy h0 n0) orm25.cells orm25.slots (s₁.setTop (entryFrame m #[(.ref b), (.int 3)] 2))
  refine Dn.st (fun _ kk => castTop (ef23_rmGc3 m b (3 : Int32)) kk) ?_
  show Dn p e below s _ _ _ (s₁.setTop (mkF m 0 #[vr b, vi 3] []))
  obtain ⟨T0z, X0z, e0z, st0z⟩ := getS2 X0 hx hZ hown (host := "") (Or.inl (tw hw 99 rfl)) Via.refl e0 hW.adt (g := (mkF m 0 #[vr b, vi 3] [])) rfl (hb hby d23_0)
  refine Dn.st st0z ?_
  show Dn p e below s _ _ _ (T0z.setTop (mkF m 3 #[vr b, vi 3] [(.int 1)]))
  have hc3 : ¬ ((1 : Int32) = (0 : Int32)) := by decide
  refine Dn.st (fun _ kk => XS.ifYes X0z.here hx rfl (pc0 := 3) (pc' := 28) rfl (hb hby d23_3) rfl ((if0 _ _).trans (feq hc3).2) (by decide) (by decide) (XS.iloadN X0z.here hx rfl (hb hby d23_28) rfl (XS.iconst X0z.here hx rfl (hb hby d23_29) (XS.ishl X0z.here hx rfl (hb hby d23_30) rfl (XS.istoreN X0z.here hx rfl (hb hby d23_31) rfl (l' := #[vr b, vi 6]) rfl (XS.aloadN X0z.here hx rfl (hb hby d23_32) rfl rfl (kk))))))) ?_
  show Dn p e below s _ _ _ (T0z.setTop (mkF m 33 #[vr b, vi 6] [(.ref b)]))
  refine Dn.st (fun _ kk => XS.iloadN X0z.here hx rfl (hb hby d23_33) rfl (XS.iinc X0z.here hx rfl (hb hby d23_34) rfl (l' := #[vr b, vi 7]) rfl (kk))) ?_
  show Dn p e below s _ _ _ (T0z.setTop (mkF m 37 #[vr b, vi 7] [(.int 6), (.ref b)]))
  have Vc_b_37 := Vb
  obtain ⟨cl_b_37, Ar_b_37, q_b_37, S_b_37, N_b_37, H_b_37, G_b_37⟩ := Vc_b_37
  have hin37 : ¬ ((6 : Int32) < 0 ∨ cl_b_37.slots.size ≤ ((6 : Int32)).toNatClampNeg) := inb_of S_b_37 ⟨by decide, hm0⟩
  have hat37 : cl_b_37.slots[((6 : Int32)).toNatClampNeg]? = some (.int (own_lo yy)) := H_b_37.at hin37 ge0
  refine Dn.st (fun _ kk => X0z.baloadBytes hx (j := (6 : Int32)) (v := (.int (own_lo yy))) (by rw [e0z]; exact Ar_b_37.1) (State.isArrayOf_alike hZ.alike Ar_b_37.2.1) Ar_b_37.2.2 hin37 hat37 (g := (mkF m 37 #[vr b, vi 7] [(.int 6), (.ref b)])) rfl rfl (hb hby d23_37) _ (XS.sipush X0z.here hx rfl (hb hby d23_38) (XS.iand X0z.here hx rfl (hb hby d23_41) rfl (kk)))) ?_
  show Dn p e below s _ _ _ (T0z.setTop (mkF m 42 #[vr b, vi 7] [(.int ((own_lo yy) &&& (255 : Int32)))]))
  obtain ⟨T42, X42, e42, st42⟩ := getS2 X0z hx hZ hown (host := "") (Or.inl (tw hw 100 rfl)) Via.refl e0z hW.hit (g := (mkF m 42 #[vr b, vi 7] [(.int ((own_lo yy) &&& (255 : Int32)))])) rfl (hb hby d23_42)
  refine Dn.st st42 ?_
  show Dn p e below s _ _ _ (T42.setTop (mkF m 45 #[vr b, vi 7] [(.int 0), (.int ((own_lo yy) &&& (255 : Int32)))]))
  refine Dn.st (fun _ kk => XS.ishl X42.here hx rfl (hb hby d23_45) rfl (XS.aloadN X42.here hx rfl (hb hby d23_46) rfl rfl (XS.iloadN X42.here hx rfl (hb hby d23_47) rfl (kk)))) ?_
  show Dn p e below s _ _ _ (T42.setTop (mkF m 48 #[vr b, vi 7] [(.int 7), (.ref b), (.int (((own_lo yy) &&& (255 : Int32)) <<< ((0 : Int32) &&& 31)))]))
  have Vc_b_48 := Vb
  obtain ⟨cl_b_48, Ar_b_48, q_b_48, S_b_48, N_b_48, H_b_48, G_b_48⟩ := Vc_b_48
  have hin48 : ¬ ((7 : Int32) < 0 ∨ cl_b_48.slots.size ≤ ((7 : Int32)).toNatClampNeg) := inb_of S_b_48 ⟨by decide, hm1⟩
  have hat48 : cl_b_48.slots[((7 : Int32)).toNatClampNeg]? = some (.int (own_hi yy)) := H_b_48.at hin48 ge1
  refine Dn.st (fun _ kk => X42.baloadBytes hx (j := (7 : Int32)) (v := (.int (own_hi yy))) (by rw [e42]; exact Ar_b_48.1) (State.isArrayOf_alike hZ.alike Ar_b_48.2.1) Ar_b_48.2.2 hin48 hat48 (g := (mkF m 48 #[vr b, vi 7] [(.int 7), (.ref b), (.int (((own_lo yy) &&& (255 : Int32)) <<< ((0 : Int32) &&& 31)))])) rfl rfl (hb hby d23_48) _ (XS.sipush X42.here hx rfl (hb hby d23_49) (XS.iand X42.here hx rfl (hb hby d23_52) rfl (kk)))) ?_
  show Dn p e below s _ _ _ (T42.setTop (mkF m 53 #[vr b, vi 7] [(.int ((own_hi yy) &&& (255 : Int32))), (.int (((own_lo yy) &&& (255 : Int32)) <<< ((0 : Int32) &&& 31)))]))
  obtain ⟨T53, X53, e53, st53⟩ := getS2 X42 hx hZ hown (host := "") (Or.inl (tw hw 101 rfl)) Via.refl e42 hW.lot (g := (mkF m 53 #[vr b, vi 7] [(.int ((own_hi yy) &&& (255 : Int32))), (.int (((own_lo yy) &&& (255 : Int32)) <<< ((0 : Int32) &&& 31)))])) rfl (hb hby d23_53)
  refine Dn.st st53 ?_
  show Dn p e below s _ _ _ (T53.setTop (mkF m 56 #[vr b, vi 7] [(.int 8), (.int ((own_hi yy) &&& (255 : Int32))), (.int (((own_lo yy) &&& (255 : Int32)) <<< ((0 : Int32) &&& 31)))]))
  refine Dn.st (fun _ kk => XS.ishl X53.here hx rfl (hb hby d23_56) rfl (XS.ior X53.here hx rfl (hb hby d23_57) rfl (XS.i2c X53.here hx rfl (hb hby d23_58) rfl (kk)))) ?_
  show Dn p e below s _ _ _ (T53.setTop (mkF m 59 #[vr b, vi 7] [(.int (((((own_lo yy) &&& (255 : Int32)) <<< ((0 : Int32) &&& 31)) ||| (((own_hi yy) &&& (255 : Int32)) <<< ((8 : Int32) &&& 31))).toUInt32.toUInt16.toUInt32.toInt32))]))
  rw [own_u16 hy1 hy2]
  show Dn p e below s _ _ _ (T53.setTop (mkF m 59 #[vr b, vi 7] [(.int yy)]))
  exact Dn.ret X53 hlk hx hret (own_nc (by omega) (by omega)) (Or.inl ⟨rfl, Or.inr (Or.inr (Or.inr (Or.inl rfl))), _, rfl⟩) (hb hby d23_59) (by rw [e53]; exact ⟨rfl, N0, rfl⟩) (by decide) (by decide)

theorem ef24_rmUch3 (m : MethodId) (x0 : Addr) (x1 : Int32) : entryFrame m #[(.ref x0), (.int x1)] 2 = mkF m 0 #[vr x0, vi x1] [] := by first | (simp [entryFrame, mkF, argsToLocals, Value.category]; done) | rfl
def QUch3 (Z : State) (b : Addr) (cs : Int32) (sf : Value) (kb : ClassId) (mm : Int32) (ls : List Value) (yy : Int32) (h0 : Heap) (n0 : Nat) (v : Option Value) (h : Heap) (L : List Loc) : Prop := v = some (.int yy) ∧ Fr n0 L ∧ h = h0
theorem rmUch3 (l : Launch) (Z : State) (a0 : Array Value) (hw : ∀ d ∈ tables_1, d.before a0 Z = true) (ws : List Jvm.Cond) (b : Addr) (cs : Int32) (sf : Value) (kb : ClassId) (mm : Int32) (ls : List Value) (yy : Int32) (h0 : Heap) (n0 : Nat) (Z0 : n0 ≤ h0.size) (hW : own_W Z h0 n0 cs sf) (Vb : Arv Z h0 b kb .byte mm ls (.int 0)) (hm0 : (6 : Int32) < mm) (hm1 : (7 : Int32) < mm) (ge0 : ls.getD 6 (.int 0) = .int (own_lo yy)) (ge1 : ls.getD 7 (.int 0) = .int (own_hi yy)) (hy1 : 0 ≤ yy.toInt) (hy2 : yy.toInt ≤ 65535) (hx2 : (3 : Int32) < mm >>> ((1 : Int32) &&& 31)) :
    own_Met l on13 (Jvm.Cond.code on13 jdk_52_method_83_code 2 (some .char) :: ws) orm27 #[(.ref b), (.int 3)] Z h0 (QUch3 Z b cs sf kb mm ls yy h0 n0) := by
  refine MetFree.of_bodySF (plainFor_of_name pn2) hisR ?_
  intro p e s m args below meth c s₁ Bd hml0 hP hK
  obtain ⟨rfl, hZ, hh⟩ := hP
  have hx := Bd.exec
  have hby := Bd.bytes
  have hlk : meth.locks = false := BodyLoose.notSynchronized Bd
  have hret := Bd.returns
  have hml : c.maxLocals = 2 := hml0
  have hown : s.vm.findClass "java/lang/StringUTF16" = some m.cls := findClass_of_methodNamed Bd.named
  have X0 : Stand p l e orm27 s m #[(.ref b), (.int 3)] below meth c s₁ [] 0 0 := Stand.of_body Bd
  have e0 : s₁.heap = h0 := by rw [← hh, Bd.state]; rfl
  have N0 := Fr.nil n0
  show Dn p e below s (QUch3 Z b cs sf kb mm ls yy h0 n0) orm27.cells orm27.slots (s₁.setTop (entryFrame m #[(.ref b), (.int 3)] 2))
  refine Dn.st (fun _ kk => castTop (ef24_rmUch3 m b (3 : Int32)) kk) ?_
  show Dn p e below s _ _ _ (s₁.setTop (mkF m 0 #[vr b, vi 3] []))
  refine Dn.st (fun _ kk => XS.iloadN X0.here hx rfl (hb hby d24_0) rfl (XS.aloadN X0.here hx rfl (hb hby d24_1) rfl rfl (kk))) ?_
  show Dn p e below s _ _ _ (s₁.setTop (mkF m 2 #[vr b, vi 3] [(.ref b), (.int 3)]))
  obtain ⟨_, _, ⟨T2, L2, k2, n2⟩, -, X2, ⟨Lc2, hQ2, l2, y2, z2⟩, st2⟩ := Jvm.LawKit.callS X0 hx (y := on21) hown (mvT hZ (tw hw 108 rfl)) (mvT hZ (tw hw 109 rfl)) (mvT hZ (tw hw 50 rfl)) (mvT hZ (tw hw 110 rfl)) (by decide) (backOf (W := 0) (rmUc l Z a0 hw [] (3 : Int32) b cs sf kb mm ls h0 n0 Z0 hW Vb (by decide) hx2) hZ (tw hw 110 rfl) (tw hw 50 rfl) (by decide) (by decide)) (g := (mkF m 2 #[vr b, vi 3] [(.ref b), (.int 3)])) rfl (by rw [hml]; rfl) (argsL := [(.int 3), (.ref b)]) (rest := []) (lenOf pd5 rfl) rfl (by show 2 * 0 + _ ≤ _; exact Nat.le_of_eq rfl) (hb hby d24_2) (fun _ _ => ⟨rfl, e0, (by decide : 0 + 0 ≤ _), (by decide : 0 + 0 ≤ _)⟩)
  dsimp only [Pt.U, Pt.locs, Pt.cells, Pt.slots] at X2 l2 y2 z2 st2 hQ2
  subst l2 y2 z2
  obtain ⟨rfl, Nq2, hh2⟩ := hQ2
  have N2 := Fr.app N0 Nq2
  refine Dn.st st2 ?_
  show Dn p e below s _ _ _ (T2.setTop (mkF m 5 #[vr b, vi 3] []))
  refine Dn.st (fun _ kk => XS.aloadN X2.here hx rfl (hb hby d24_5) rfl rfl (XS.iloadN X2.here hx rfl (hb hby d24_6) rfl (kk))) ?_
  show Dn p e below s _ _ _ (T2.setTop (mkF m 7 #[vr b, vi 3] [(.int 3), (.ref b)]))
  obtain ⟨_, _, ⟨T7, L7, k7, n7⟩, -, X7, ⟨Lc7, hQ7, l7, y7, z7⟩, st7⟩ := Jvm.LawKit.callS X2 hx (y := on5) hown (mvT hZ (tw hw 102 rfl)) (mvT hZ (tw hw 103 rfl)) (mvT hZ (tw hw 50 rfl)) (mvT hZ (tw hw 104 rfl)) (by decide) (backOf (W := 0) (rmGc3 l Z a0 hw [] b cs sf kb mm ls yy h0 n0 Z0 hW Vb hm0 hm1 ge0 ge1 hy1 hy2) hZ (tw hw 104 rfl) (tw hw 50 rfl) (by decide) (by decide)) (g := (mkF m 7 #[vr b, vi 3] [(.int 3), (.ref b)])) rfl (by rw [hml]; rfl) (argsL := [(.ref b), (.int 3)]) (rest := []) (lenOf pd6 rfl) rfl (by show 2 * 0 + _ ≤ _; exact Nat.le_of_eq rfl) (hb hby d24_7) (fun _ _ => ⟨rfl, hh2, (by decide : 0 + 0 ≤ _), (by decide : 0 + 0 ≤ _)⟩)
  dsimp only [Pt.U, Pt.locs, Pt.cells, Pt.slots] at X7 l7 y7 z7 st7 hQ7
  subst l7 y7 z7
  obtain ⟨rfl, Nq7, hh7⟩ := hQ7
  have N7 := Fr.app N2 Nq7
  refine Dn.st st7 ?_
  show Dn p e below s _ _ _ (T7.setTop (mkF m 10 #[vr b, vi 3] [(.int yy)]))
  exact Dn.ret X7 hlk hx hret (own_nc (by omega) (by omega)) (Or.inl ⟨rfl, Or.inr (Or.inr (Or.inr (Or.inl rfl))), _, rfl⟩) (hb hby d24_10) (by rw [hh7]; exact ⟨rfl, N7, rfl⟩) (by decide) (by decide)

theorem ef15_rmLch3 (m : MethodId) (x0 : Addr) (x1 : Int32) : entryFrame m #[(.ref x0), (.int x1)] 2 = mkF m 0 #[vr x0, vi x1] [] := by first | (simp [entryFrame, mkF, argsToLocals, Value.category]; done) | rfl
def QLch3 (Z : State) (b : Addr) (cs : Int32) (sf : Value) (kb : ClassId) (mm : Int32) (ls : List Value) (yy : Int32) (h0 : Heap) (n0 : Nat) (v : Option Value) (h : Heap) (L : List Loc) : Prop := v = some (.int yy) ∧ Fr n0 L ∧ h = h0
theorem rmLch3 (l : Launch) (Z : State) (a0 : Array Value) (hw : ∀ d ∈ tables_1, d.before a0 Z = true) (ws : List Jvm.Cond) (b : Addr) (cs : Int32) (sf : Value) (kb : ClassId) (mm : Int32) (ls : List Value) (yy : Int32) (h0 : Heap) (n0 : Nat) (Z0 : n0 ≤ h0.size) (hW : own_W Z h0 n0 cs sf) (Vb : Arv Z h0 b kb .byte mm ls (.int 0)) (hm0 : (3 : Int32) < mm) (ge0 : ls.getD 3 (.int 0) = .int (own_b yy)) (hy1 : 0 ≤ yy.toInt) (hy2 : yy.toInt ≤ 255) :
    own_Met l on11 (Jvm.Cond.code on11 jdk_43_method_2_code 2 (some .char) :: ws) orm26 #[(.ref b), (.int 3)] Z h0 (QLch3 Z b cs sf kb mm ls yy h0 n0) := by
  refine MetFree.of_bodySF (plainFor_of_name pn3) hisR ?_
  intro p e s m args below meth c s₁ Bd hml0 hP hK
  obtain ⟨rfl, hZ, hh⟩ := hP
  have hx := Bd.exec
  have hby := Bd.bytes
  have hlk : meth.locks = false := BodyLoose.notSynchronized Bd
  have hret := Bd.returns
  have hml : c.maxLocals = 2 := hml0
  have hown : s.vm.findClass "java/lang/StringLatin1" = some m.cls := findClass_of_methodNamed Bd.named
  have X0 : Stand p l e orm26 s m #[(.ref b), (.int 3)] below meth c s₁ [] 0 0 := Stand.of_body Bd
  have e0 : s₁.heap = h0 := by rw [← hh, Bd.state]; rfl
  have N0 := Fr.nil n0
  show Dn p e below s (QLch3 Z b cs sf kb mm ls yy h0 n0) orm26.cells orm26.slots (s₁.setTop (entryFrame m #[(.ref b), (.int 3)] 2))
  refine Dn.st (fun _ kk => castTop (ef15_rmLch3 m b (3 : Int32)) kk) ?_
  show Dn p e below s _ _ _ (s₁.setTop (mkF m 0 #[vr b, vi 3] []))
  refine Dn.st (fun _ kk => XS.iloadN X0.here hx rfl (hb hby d15_0) rfl (XS.aloadN X0.here hx rfl (hb hby d15_1) rfl rfl (kk))) ?_
  show Dn p e below s _ _ _ (s₁.setTop (mkF m 2 #[vr b, vi 3] [(.ref b), (.int 3)]))
  have Vc_b_2 := Vb
  obtain ⟨cl_b_2, Ar_b_2, q_b_2, S_b_2, N_b_2, H_b_2, G_b_2⟩ := Vc_b_2
  refine Dn.st (fun _ kk => X0.arraylength hx (by rw [e0]; exact Ar_b_2.1) (State.isArrayOf_alike hZ.alike Ar_b_2.2.1) (g := (mkF m 2 #[vr b, vi 3] [(.ref b), (.int 3)])) rfl rfl (hb hby d15_2) _ (kk)) ?_
  show Dn p e below s _ _ _ (s₁.setTop (mkF m 3 #[vr b, vi 3] [(.int cl_b_2.slots.size.toInt32), (.int 3)]))
  rw [len_of S_b_2 N_b_2]
  show Dn p e below s _ _ _ (s₁.setTop (mkF m 3 #[vr b, vi 3] [(.int mm), (.int 3)]))
  obtain ⟨_, _, ⟨T3, L3, k3, n3⟩, -, X3, ⟨Lc3, hQ3, l3, y3, z3⟩, st3⟩ := Jvm.LawKit.callS X0 hx (y := on20) hown (mvT hZ (tw hw 75 rfl)) (mvT hZ (tw hw 76 rfl)) (mvT hZ (tw hw 8 rfl)) (mvT hZ (tw hw 77 rfl)) (by decide) (backOf (W := 0) (rmCi l Z a0 hw [] (3 : Int32) mm cs sf  h0 n0 Z0 hW (by decide) hm0) hZ (tw hw 77 rfl) (tw hw 8 rfl) (by decide) (by decide)) (g := (mkF m 3 #[vr b, vi 3] [(.int mm), (.int 3)])) rfl (by rw [hml]; rfl) (argsL := [(.int 3), (.int mm)]) (rest := []) (lenOf pd4 rfl) rfl (by show 2 * 0 + _ ≤ _; exact Nat.le_of_eq rfl) (hb hby d15_3) (fun _ _ => ⟨rfl, e0, (by decide : 0 + 0 ≤ _), (by decide : 0 + 0 ≤ _)⟩)
  dsimp only [Pt.U, Pt.locs, Pt.cells, Pt.slots] at X3 l3 y3 z3 st3 hQ3
  subst l3 y3 z3
  obtain ⟨rfl, Nq3, hh3⟩ := hQ3
  have N3 := Fr.app N0 Nq3
  refine Dn.st st3 ?_
  show Dn p e below s _ _ _ (T3.setTop (mkF m 6 #[vr b, vi 3] []))
  refine Dn.st (fun _ kk => XS.aloadN X3.here hx rfl (hb hby d15_6) rfl rfl (XS.iloadN X3.here hx rfl (hb hby d15_7) rfl (kk))) ?_
  show Dn p e below s _ _ _ (T3.setTop (mkF m 8 #[vr b, vi 3] [(.int 3), (.ref b)]))
  have Vc_b_8 := Vb
  obtain ⟨cl_b_8, Ar_b_8, q_b_8, S_b_8, N_b_8, H_b_8, G_b_8⟩ := Vc_b_8
  have hin8 : ¬ ((3 : Int32) < 0 ∨ cl_b_8.slots.size ≤ ((3 : Int32)).toNatClampNeg) := inb_of S_b_8 ⟨by decide, hm0⟩
  have hat8 : cl_b_8.slots[((3 : Int32)).toNatClampNeg]? = some (.int (own_b yy)) := H_b_8.at hin8 ge0
  refine Dn.st (fun _ kk => X3.baloadBytes hx (j := (3 : Int32)) (v := (.int (own_b yy))) (by rw [hh3]; exact Ar_b_8.1) (State.isArrayOf_alike hZ.alike Ar_b_8.2.1) Ar_b_8.2.2 hin8 hat8 (g := (mkF m 8 #[vr b, vi 3] [(.int 3), (.ref b)])) rfl rfl (hb hby d15_8) _ (XS.sipush X3.here hx rfl (hb hby d15_9) (XS.iand X3.here hx rfl (hb hby d15_12) rfl (XS.i2c X3.here hx rfl (hb hby d15_13) rfl (kk))))) ?_
  show Dn p e below s _ _ _ (T3.setTop (mkF m 14 #[vr b, vi 3] [(.int (((own_b yy) &&& (255 : Int32)).toUInt32.toUInt16.toUInt32.toInt32))]))
  rw [own_lat hy1 hy2]
  show Dn p e below s _ _ _ (T3.setTop (mkF m 14 #[vr b, vi 3] [(.int yy)]))
  exact Dn.ret X3 hlk hx hret (own_nc (by omega) (by omega)) (Or.inl ⟨rfl, Or.inr (Or.inr (Or.inr (Or.inl rfl))), _, rfl⟩) (hb hby d15_14) (by rw [hh3]; exact ⟨rfl, N3, rfl⟩) (by decide) (by decide)

theorem ef13_rmCh3 (m : MethodId) (x0 : Addr) (x1 : Int32) : entryFrame m #[(.ref x0), (.int x1)] 2 = mkF m 0 #[vr x0, vi x1] [] := by first | (simp [entryFrame, mkF, argsToLocals, Value.category]; done) | rfl
def QCh3 (Z : State) (a : Addr) (cs : Int32) (sf : Value) (nn mm : Int32) (ls lu : List Value) (PQ : Prop) (yy : Int32) (h0 : Heap) (n0 : Nat) (v : Option Value) (h : Heap) (L : List Loc) : Prop := v = some (.int yy) ∧ Fr n0 L ∧ h = h0
theorem rmCh3 (l : Launch) (Z : State) (a0 : Array Value) (hw : ∀ d ∈ tables_1, d.before a0 Z = true) (ws : List Jvm.Cond) (a : Addr) (cs : Int32) (sf : Value) (nn mm : Int32) (ls lu : List Value) (PQ : Prop) (yy : Int32) (h0 : Heap) (n0 : Nat) (Z0 : n0 ≤ h0.size) (hW : own_W Z h0 n0 cs sf) (hS : own_Str Z h0 a nn mm ls lu PQ) (hn : (3 : Int32) < nn) (el : ls.getD 3 (.int 0) = .int (own_b yy)) (hP : PQ → yy.toInt ≤ 255) (hm0 : (6 : Int32) < mm) (hm1 : (7 : Int32) < mm) (ge0 : lu.getD 6 (.int 0) = .int (own_lo yy)) (ge1 : lu.getD 7 (.int 0) = .int (own_hi yy)) (hx2 : (3 : Int32) < mm >>> ((1 : Int32) &&& 31)) (hr : 0 ≤ yy.toInt ∧ yy.toInt ≤ 65535) :
    own_Met l on2 (Jvm.Cond.code on2 jdk_42_method_56_code 2 (some .char) :: ws) orm28 #[(.ref a), (.int 3)] Z h0 (QCh3 Z a cs sf nn mm ls lu PQ yy h0 n0) := by
  refine MetFree.of_bodySF (plainFor_of_name pn0) hisR ?_
  intro p e s m args below meth c s₁ Bd hml0 hP hK
  obtain ⟨rfl, hZ, hh⟩ := hP
  have hx := Bd.exec
  have hby := Bd.bytes
  have hlk : meth.locks = false := BodyLoose.notSynchronized Bd
  have hret := Bd.returns
  have hml : c.maxLocals = 2 := hml0
  have hown : s.vm.findClass "java/lang/String" = some m.cls := findClass_of_methodNamed Bd.named
  have X0 : Stand p l e orm28 s m #[(.ref a), (.int 3)] below meth c s₁ [] 0 0 := Stand.of_body Bd
  have e0 : s₁.heap = h0 := by rw [← hh, Bd.state]; rfl
  have N0 := Fr.nil n0
  show Dn p e below s (QCh3 Z a cs sf nn mm ls lu PQ yy h0 n0) orm28.cells orm28.slots (s₁.setTop (entryFrame m #[(.ref a), (.int 3)] 2))
  refine Dn.st (fun _ kk => castTop (ef13_rmCh3 m a (3 : Int32)) kk) ?_
  show Dn p e below s _ _ _ (s₁.setTop (mkF m 0 #[vr a, vi 3] []))
  rcases hS with ⟨Ea, ⟨bb, kb, Fc, Fv, Vb, hp⟩ | ⟨bb, kb, Fc, Fv, Vb⟩⟩
  · show Dn p e below s _ _ _ (s₁.setTop (mkF m 0 #[vr a, vi 3] []))
    refine Dn.st (fun _ kk => XS.aloadN X0.here hx rfl (hb hby d13_0) rfl rfl (kk)) ?_
    show Dn p e below s _ _ _ (s₁.setTop (mkF m 1 #[vr a, vi 3] [(.ref a)]))
    obtain ⟨cq1, kq1, q1a, q1b, q1c⟩ := isOf hZ e0 Ea
    obtain ⟨_, _, ⟨T1, L1, k1, n1⟩, -, X1, ⟨Lc1, hQ1, l1, y1, z1⟩, st1⟩ := X0.virtualBack hx (y := on6) (z := on6) hown (mvT hZ (tw hw 66 rfl)) (mvT hZ (tw hw 67 rfl)) (notFace_of_selects (args := #[]) (mvT hZ (tw hw 69 rfl))) (mvT hZ (tw hw 69 rfl)) (mvT hZ (tw hw 68 rfl)) (by decide) (backOf (W := 0) (rmIl0 l Z a0 hw [] a cs sf  h0 n0 Z0 hW Fc) hZ (tw hw 70 rfl) (tw hw 8 rfl) (by decide) (by decide)) q1a q1c (g := (mkF m 1 #[vr a, vi 3] [(.ref a)])) rfl (by rw [hml]; rfl) (Steps.refl _) (argsL := []) (rest := []) (lenOf pd7 rfl) rfl (by show 2 * 0 + _ ≤ _; exact Nat.le_of_eq rfl) (hb hby d13_1) (fun _ _ => ⟨rfl, e0, (by decide : 0 + 0 ≤ _), (by decide : 0 + 0 ≤ _)⟩)
    dsimp only [Pt.U, Pt.locs, Pt.cells, Pt.slots] at X1 l1 y1 z1 st1 hQ1
    subst l1 y1 z1
    obtain ⟨rfl, Nq1, hh1⟩ := hQ1
    have N1 := Fr.app N0 Nq1
    refine Dn.tr st1 ?_
    show Dn p e below s _ _ _ (T1.setTop (mkF m 4 #[vr a, vi 3] [(.int 1)]))
    have hc4 : ¬ ((1 : Int32) = (0 : Int32)) := by decide
    refine Dn.st (fun _ kk => XS.ifNo X1.here hx rfl (hb hby d13_4) rfl ((if0 _ _).trans (feq hc4).1) (XS.aloadN X1.here hx rfl (hb hby d13_7) rfl rfl (kk))) ?_
    show Dn p e below s _ _ _ (T1.setTop (mkF m 8 #[vr a, vi 3] [(.ref a)]))
    obtain ⟨T8, X8, e8, st8⟩ := getF X1 hx hZ hown (host := "") (Or.inl (tw hw 26 rfl)) Via.refl hh1 Fv (g := (mkF m 8 #[vr a, vi 3] [(.ref a)])) rfl rfl (hb hby d13_8)
    refine Dn.st st8 ?_
    show Dn p e below s _ _ _ (T8.setTop (mkF m 11 #[vr a, vi 3] [(.ref bb)]))
    refine Dn.st (fun _ kk => XS.iloadN X8.here hx rfl (hb hby d13_11) rfl (kk)) ?_
    show Dn p e below s _ _ _ (T8.setTop (mkF m 12 #[vr a, vi 3] [(.int 3), (.ref bb)]))
    obtain ⟨_, _, ⟨T12, L12, k12, n12⟩, -, X12, ⟨Lc12, hQ12, l12, y12, z12⟩, st12⟩ := Jvm.LawKit.callS X8 hx (y := on11) hown (mvT hZ (tw hw 71 rfl)) (mvT hZ (tw hw 72 rfl)) (mvT hZ (tw hw 73 rfl)) (mvT hZ (tw hw 74 rfl)) (by decide) (backOf (W := 0) (rmLch3 l Z a0 hw [] bb cs sf kb nn ls yy h0 n0 Z0 hW Vb hn el hr.1 (hP hp)) hZ (tw hw 74 rfl) (tw hw 73 rfl) (by decide) (by decide)) (g := (mkF m 12 #[vr a, vi 3] [(.int 3), (.ref bb)])) rfl (by rw [hml]; rfl) (argsL := [(.ref bb), (.int 3)]) (rest := []) (lenOf pd6 rfl) rfl (by show 2 * 0 + _ ≤ _; exact Nat.le_of_eq rfl) (hb hby d13_12) (fun _ _ => ⟨rfl, e8, (by decide : 0 + 0 ≤ _), (by decide : 0 + 0 ≤ _)⟩)
    dsimp only [Pt.U, Pt.locs, Pt.cells, Pt.slots] at X12 l12 y12 z12 st12 hQ12
    subst l12 y12 z12
    obtain ⟨rfl, Nq12, hh12⟩ := hQ12
    have N12 := Fr.app N1 Nq12
    refine Dn.st st12 ?_
    show Dn p e below s _ _ _ (T12.setTop (mkF m 15 #[vr a, vi 3] [(.int yy)]))
    exact Dn.ret X12 hlk hx hret (own_nc (by omega) (by omega)) (Or.inl ⟨rfl, Or.inr (Or.inr (Or.inr (Or.inl rfl))), _, rfl⟩) (hb hby d13_15) (by rw [hh12]; exact ⟨rfl, N12, rfl⟩) (by decide) (by decide)
  · show Dn p e below s _ _ _ (s₁.setTop (mkF m 0 #[vr a, vi 3] []))
    refine Dn.st (fun _ kk => XS.aloadN X0.here hx rfl (hb hby d13_0) rfl rfl (kk)) ?_
    show Dn p e below s _ _ _ (s₁.setTop (mkF m 1 #[vr a, vi 3] [(.ref a)]))
    obtain ⟨cq1, kq1, q1a, q1b, q1c⟩ := isOf hZ e0 Ea
    obtain ⟨_, _, ⟨T1, L1, k1, n1⟩, -, X1, ⟨Lc1, hQ1, l1, y1, z1⟩, st1⟩ := X0.virtualBack hx (y := on6) (z := on6) hown (mvT hZ (tw hw 66 rfl)) (mvT hZ (tw hw 67 rfl)) (notFace_of_selects (args := #[]) (mvT hZ (tw hw 69 rfl))) (mvT hZ (tw hw 69 rfl)) (mvT hZ (tw hw 68 rfl)) (by decide) (backOf (W := 0) (rmIl1 l Z a0 hw [] a cs sf  h0 n0 Z0 hW Fc) hZ (tw hw 70 rfl) (tw hw 8 rfl) (by decide) (by decide)) q1a q1c (g := (mkF m 1 #[vr a, vi 3] [(.ref a)])) rfl (by rw [hml]; rfl) (Steps.refl _) (argsL := []) (rest := []) (lenOf pd7 rfl) rfl (by show 2 * 0 + _ ≤ _; exact Nat.le_of_eq rfl) (hb hby d13_1) (fun _ _ => ⟨rfl, e0, (by decide : 0 + 0 ≤ _), (by decide : 0 + 0 ≤ _)⟩)
    dsimp only [Pt.U, Pt.locs, Pt.cells, Pt.slots] at X1 l1 y1 z1 st1 hQ1
    subst l1 y1 z1
    obtain ⟨rfl, Nq1, hh1⟩ := hQ1
    have N1 := Fr.app N0 Nq1
    refine Dn.tr st1 ?_
    show Dn p e below s _ _ _ (T1.setTop (mkF m 4 #[vr a, vi 3] [(.int 0)]))
    have hc4 : (0 : Int32) = (0 : Int32) := by decide
    refine Dn.st (fun _ kk => XS.ifYes X1.here hx rfl (pc0 := 4) (pc' := 16) rfl (hb hby d13_4) rfl ((if0 _ _).trans (teq hc4).1) (by decide) (by decide) (XS.aloadN X1.here hx rfl (hb hby d13_16) rfl rfl (kk))) ?_
    show Dn p e below s _ _ _ (T1.setTop (mkF m 17 #[vr a, vi 3] [(.ref a)]))
    obtain ⟨T17, X17, e17, st17⟩ := getF X1 hx hZ hown (host := "") (Or.inl (tw hw 26 rfl)) Via.refl hh1 Fv (g := (mkF m 17 #[vr a, vi 3] [(.ref a)])) rfl rfl (hb hby d13_17)
    refine Dn.st st17 ?_
    show Dn p e below s _ _ _ (T17.setTop (mkF m 20 #[vr a, vi 3] [(.ref bb)]))
    refine Dn.st (fun _ kk => XS.iloadN X17.here hx rfl (hb hby d13_20) rfl (kk)) ?_
    show Dn p e below s _ _ _ (T17.setTop (mkF m 21 #[vr a, vi 3] [(.int 3), (.ref bb)]))
    obtain ⟨_, _, ⟨T21, L21, k21, n21⟩, -, X21, ⟨Lc21, hQ21, l21, y21, z21⟩, st21⟩ := Jvm.LawKit.callS X17 hx (y := on13) hown (mvT hZ (tw hw 105 rfl)) (mvT hZ (tw hw 106 rfl)) (mvT hZ (tw hw 50 rfl)) (mvT hZ (tw hw 107 rfl)) (by decide) (backOf (W := 0) (rmUch3 l Z a0 hw [] bb cs sf kb mm lu yy h0 n0 Z0 hW Vb hm0 hm1 ge0 ge1 hr.1 hr.2 hx2) hZ (tw hw 107 rfl) (tw hw 50 rfl) (by decide) (by decide)) (g := (mkF m 21 #[vr a, vi 3] [(.int 3), (.ref bb)])) rfl (by rw [hml]; rfl) (argsL := [(.ref bb), (.int 3)]) (rest := []) (lenOf pd6 rfl) rfl (by show 2 * 0 + _ ≤ _; exact Nat.le_of_eq rfl) (hb hby d13_21) (fun _ _ => ⟨rfl, e17, (by decide : 0 + 0 ≤ _), (by decide : 0 + 0 ≤ _)⟩)
    dsimp only [Pt.U, Pt.locs, Pt.cells, Pt.slots] at X21 l21 y21 z21 st21 hQ21
    subst l21 y21 z21
    obtain ⟨rfl, Nq21, hh21⟩ := hQ21
    have N21 := Fr.app N1 Nq21
    refine Dn.st st21 ?_
    show Dn p e below s _ _ _ (T21.setTop (mkF m 24 #[vr a, vi 3] [(.int yy)]))
    exact Dn.ret X21 hlk hx hret (own_nc (by omega) (by omega)) (Or.inl ⟨rfl, Or.inr (Or.inr (Or.inr (Or.inl rfl))), _, rfl⟩) (hb hby d13_24) (by rw [hh21]; exact ⟨rfl, N21, rfl⟩) (by decide) (by decide)

theorem d21_0 : decode jdk_52_method_3_code 0 = .ok (.iload_n 0, 1) := by decide +kernel
theorem d21_1 : decode jdk_52_method_3_code 1 = .ok (.ifCond .ge 11, 3) := by decide +kernel
theorem d21_12 : decode jdk_52_method_3_code 12 = .ok (.iload_n 0, 1) := by decide +kernel
theorem d21_13 : decode jdk_52_method_3_code 13 = .ok (.ldc 20, 2) := by decide +kernel
theorem d21_15 : decode jdk_52_method_3_code 15 = .ok (.if_icmp .lt 40, 3) := by decide +kernel
theorem d21_55 : decode jdk_52_method_3_code 55 = .ok (.iload_n 0, 1) := by decide +kernel
theorem d21_56 : decode jdk_52_method_3_code 56 = .ok (.iconst 1, 1) := by decide +kernel
theorem d21_57 : decode jdk_52_method_3_code 57 = .ok (.ishl, 1) := by decide +kernel
theorem d21_58 : decode jdk_52_method_3_code 58 = .ok (.ireturn, 1) := by decide +kernel
theorem ef21_rmNl1 (m : MethodId) (x0 : Int32) : entryFrame m #[(.int x0)] 1 = mkF m 0 #[vi x0] [] := by first | (simp [entryFrame, mkF, argsToLocals, Value.category]; done) | rfl
def QNl1 (Z : State)  (h0 : Heap) (n0 : Nat) (v : Option Value) (h : Heap) (L : List Loc) : Prop := v = some (.int 2) ∧ Fr n0 L ∧ h = h0
theorem rmNl1 (l : Launch) (Z : State) (a0 : Array Value) (hw : ∀ d ∈ tables_1, d.before a0 Z = true) (ws : List Jvm.Cond)  (h0 : Heap) (n0 : Nat) (Z0 : n0 ≤ h0.size) :
    own_Met l on15 (Jvm.Cond.code on15 jdk_52_method_3_code 1 (some .int) :: ws) orm25 #[(.int 1)] Z h0 (QNl1 Z  h0 n0) := by
  refine MetFree.of_bodySF (plainFor_of_name pn2) hisR ?_
  intro p e s m args below meth c s₁ Bd hml0 hP hK
  obtain ⟨rfl, hZ, hh⟩ := hP
  have hx := Bd.exec
  have hby := Bd.bytes
  have hlk : meth.locks = false := BodyLoose.notSynchronized Bd
  have hret := Bd.returns
  have hml : c.maxLocals = 1 := hml0
  have hown : s.vm.findClass "java/lang/StringUTF16" = some m.cls := findClass_of_methodNamed Bd.named
  have X0 : Stand p l e orm25 s m #[(.int 1)] below meth c s₁ [] 0 0 := Stand.of_body Bd
  have e0 : s₁.heap = h0 := by rw [← hh, Bd.state]; rfl
  have N0 := Fr.nil n0
  show Dn p e below s (QNl1 Z  h0 n0) orm25.cells orm25.slots (s₁.setTop (entryFrame m #[(.int 1)] 1))
  refine Dn.st (fun _ kk => castTop (ef21_rmNl1 m (1 : Int32)) kk) ?_
  show Dn p e below s _ _ _ (s₁.setTop (mkF m 0 #[vi 1] []))
  refine Dn.st (fun _ kk => XS.iloadN X0.here hx rfl (hb hby d21_0) rfl (kk)) ?_
  show Dn p e below s _ _ _ (s₁.setTop (mkF m 1 #[vi 1] [(.int 1)]))
  have hc1 : ¬ ((1 : Int32) < (0 : Int32)) := by decide
  refine Dn.st (fun _ kk => XS.ifYes X0.here hx rfl (pc0 := 1) (pc' := 12) rfl (hb hby d21_1) rfl ((if0 _ _).trans (flt hc1).2.1) (by decide) (by decide) (XS.iloadN X0.here hx rfl (hb hby d21_12) rfl (X0.ldcInt hx hown (mvT hZ (tw hw 95 rfl)) (g := (mkF m 13 #[vi 1] [(.int 1)])) rfl (hb hby d21_13) _ (kk)))) ?_
  show Dn p e below s _ _ _ (s₁.setTop (mkF m 15 #[vi 1] [(.int 1073741823), (.int 1)]))
  have hc15 : (1 : Int32) < (1073741823 : Int32) := by decide
  refine Dn.st (fun _ kk => XS.icmpYes X0.here hx rfl (pc0 := 15) (pc' := 55) rfl (hb hby d21_15) rfl (tlt hc15).1 (by decide) (by decide) (XS.iloadN X0.here hx rfl (hb hby d21_55) rfl (XS.iconst X0.here hx rfl (hb hby d21_56) (XS.ishl X0.here hx rfl (hb hby d21_57) rfl (kk))))) ?_
  show Dn p e below s _ _ _ (s₁.setTop (mkF m 58 #[vi 1] [(.int 2)]))
  exact Dn.ret X0 hlk hx hret rfl (Or.inl ⟨rfl, Or.inl rfl, _, rfl⟩) (hb hby d21_58) (by rw [e0]; exact ⟨rfl, N0, rfl⟩) (by decide) (by decide)

theorem d20_0 : decode jdk_52_method_2_code 0 = .ok (.iload_n 0, 1) := by decide +kernel
theorem d20_1 : decode jdk_52_method_2_code 1 = .ok (.invokestatic 11, 3) := by decide +kernel
theorem d20_4 : decode jdk_52_method_2_code 4 = .ok (.newarray .byte, 2) := by decide +kernel
theorem d20_6 : decode jdk_52_method_2_code 6 = .ok (.areturn, 1) := by decide +kernel
theorem pd8 : parseMethodDescriptor "(I)I" = some ⟨[.int], some .int⟩ := by decide +kernel
theorem ef20_rmNf1 (m : MethodId) (x0 : Int32) : entryFrame m #[(.int x0)] 1 = mkF m 0 #[vi x0] [] := by first | (simp [entryFrame, mkF, argsToLocals, Value.category]; done) | rfl
def QNf1 (Z : State)  (h0 : Heap) (n0 : Nat) (v : Option Value) (h : Heap) (L : List Loc) : Prop := ∃ (b : Addr) (kb : ClassId), v = some (.ref b) ∧ h0.size ≤ b ∧ Fr n0 L ∧ Keep h0 h [] ∧ Arv Z h b kb .byte 2 [(.int 0), (.int 0)] (.int 0)
theorem rmNf1 (l : Launch) (Z : State) (a0 : Array Value) (hw : ∀ d ∈ tables_1, d.before a0 Z = true) (ws : List Jvm.Cond)  (h0 : Heap) (n0 : Nat) (Z0 : n0 ≤ h0.size) :
    own_Met l on14 (Jvm.Cond.code on14 jdk_52_method_2_code 1 (some (.array .byte)) :: ws) orm36 #[(.int 1)] Z h0 (QNf1 Z  h0 n0) := by
  refine MetFree.of_bodySF (plainFor_of_name pn2) hisR ?_
  intro p e s m args below meth c s₁ Bd hml0 hP hK
  obtain ⟨rfl, hZ, hh⟩ := hP
  have hx := Bd.exec
  have hby := Bd.bytes
  have hlk : meth.locks = false := BodyLoose.notSynchronized Bd
  have hret := Bd.returns
  have hml : c.maxLocals = 1 := hml0
  have hown : s.vm.findClass "java/lang/StringUTF16" = some m.cls := findClass_of_methodNamed Bd.named
  have X0 : Stand p l e orm36 s m #[(.int 1)] below meth c s₁ [] 0 0 := Stand.of_body Bd
  have e0 : s₁.heap = h0 := by rw [← hh, Bd.state]; rfl
  have N0 := Fr.nil n0
  show Dn p e below s (QNf1 Z  h0 n0) orm36.cells orm36.slots (s₁.setTop (entryFrame m #[(.int 1)] 1))
  refine Dn.st (fun _ kk => castTop (ef20_rmNf1 m (1 : Int32)) kk) ?_
  show Dn p e below s _ _ _ (s₁.setTop (mkF m 0 #[vi 1] []))
  refine Dn.st (fun _ kk => XS.iloadN X0.here hx rfl (hb hby d20_0) rfl (kk)) ?_
  show Dn p e below s _ _ _ (s₁.setTop (mkF m 1 #[vi 1] [(.int 1)]))
  obtain ⟨_, _, ⟨T1, L1, k1, n1⟩, -, X1, ⟨Lc1, hQ1, l1, y1, z1⟩, st1⟩ := Jvm.LawKit.callS X0 hx (y := on15) hown (mvT hZ (tw hw 92 rfl)) (mvT hZ (tw hw 93 rfl)) (mvT hZ (tw hw 50 rfl)) (mvT hZ (tw hw 94 rfl)) (by decide) (backOf (W := 0) (rmNl1 l Z a0 hw []  h0 n0 Z0 ) hZ (tw hw 94 rfl) (tw hw 50 rfl) (by decide) (by decide)) (g := (mkF m 1 #[vi 1] [(.int 1)])) rfl (by rw [hml]; rfl) (argsL := [(.int 1)]) (rest := []) (lenOf pd8 rfl) rfl (by show 2 * 0 + _ ≤ _; exact Nat.le_of_eq rfl) (hb hby d20_1) (fun _ _ => ⟨rfl, e0, (by decide : 0 + 0 ≤ _), (by decide : 0 + 0 ≤ _)⟩)
  dsimp only [Pt.U, Pt.locs, Pt.cells, Pt.slots] at X1 l1 y1 z1 st1 hQ1
  subst l1 y1 z1
  obtain ⟨rfl, Nq1, hh1⟩ := hQ1
  have N1 := Fr.app N0 Nq1
  refine Dn.st st1 ?_
  show Dn p e below s _ _ _ (T1.setTop (mkF m 4 #[vi 1] [(.int 2)]))
  obtain ⟨T4, h4, k4, X4, e4, E4, A4, st4⟩ := newP X1 hx hZ (tw hw 21 rfl) hh1 (g := (mkF m 4 #[vi 1] [(.int 2)])) rfl (hb hby d20_4) rfl (by decide) (cap := 2) (by decide) (by decide) (by decide) (by decide)
  obtain ⟨b4, g4⟩ : ∃ z, z = h0.size := ⟨_, rfl⟩
  rw [← g4] at A4 st4
  have gz_b4 : h0.size ≤ b4 := Nat.le_trans (Keep.refl h0 []).1 (Nat.le_of_eq g4.symm)
  have K4 := (Keep.refl h0 []).ext E4
  have gn_b4 : n0 ≤ b4 := Nat.le_trans Z0 (Nat.le_of_eq g4.symm)
  have Z4 : n0 ≤ h4.size := Nat.le_trans Z0 E4.1
  have V_b4 : Arv Z h4 b4 k4 .byte (2 : Int32) [(.int 0), (.int 0)] (.int 0) := (Arv.new A4 (by decide)).pad (pad_rep [] (.int 0) 2)
  refine Dn.st st4 ?_
  show Dn p e below s _ _ _ (T4.setTop (mkF m 6 #[vi 1] [(.ref b4)]))
  exact Dn.ret X4 hlk hx hret rfl (Or.inr (Or.inr (Or.inr (Or.inr ⟨rfl, rfl, rfl⟩)))) (hb hby d20_6) (by rw [e4]; exact ⟨b4, k4, rfl, gz_b4, N1, K4, V_b4⟩) (by decide) (by decide)

theorem d22_0 : decode jdk_52_method_4_code 0 = .ok (.getstatic 44, 3) := by decide +kernel
theorem d22_3 : decode jdk_52_method_4_code 3 = .ok (.ifCond .ne 25, 3) := by decide +kernel
theorem d22_28 : decode jdk_52_method_4_code 28 = .ok (.iload_n 1, 1) := by decide +kernel
theorem d22_29 : decode jdk_52_method_4_code 29 = .ok (.iconst 1, 1) := by decide +kernel
theorem d22_30 : decode jdk_52_method_4_code 30 = .ok (.ishl, 1) := by decide +kernel
theorem d22_31 : decode jdk_52_method_4_code 31 = .ok (.istore_n 1, 1) := by decide +kernel
theorem d22_32 : decode jdk_52_method_4_code 32 = .ok (.aload_n 0, 1) := by decide +kernel
theorem d22_33 : decode jdk_52_method_4_code 33 = .ok (.iload_n 1, 1) := by decide +kernel
theorem d22_34 : decode jdk_52_method_4_code 34 = .ok (.iinc 1 1, 3) := by decide +kernel
theorem d22_37 : decode jdk_52_method_4_code 37 = .ok (.iload_n 2, 1) := by decide +kernel
theorem d22_38 : decode jdk_52_method_4_code 38 = .ok (.getstatic 59, 3) := by decide +kernel
theorem d22_41 : decode jdk_52_method_4_code 41 = .ok (.ishr, 1) := by decide +kernel
theorem d22_42 : decode jdk_52_method_4_code 42 = .ok (.i2b, 1) := by decide +kernel
theorem d22_43 : decode jdk_52_method_4_code 43 = .ok (.bastore, 1) := by decide +kernel
theorem d22_44 : decode jdk_52_method_4_code 44 = .ok (.aload_n 0, 1) := by decide +kernel
theorem d22_45 : decode jdk_52_method_4_code 45 = .ok (.iload_n 1, 1) := by decide +kernel
theorem d22_46 : decode jdk_52_method_4_code 46 = .ok (.iload_n 2, 1) := by decide +kernel
theorem d22_47 : decode jdk_52_method_4_code 47 = .ok (.getstatic 63, 3) := by decide +kernel
theorem d22_50 : decode jdk_52_method_4_code 50 = .ok (.ishr, 1) := by decide +kernel
theorem d22_51 : decode jdk_52_method_4_code 51 = .ok (.i2b, 1) := by decide +kernel
theorem d22_52 : decode jdk_52_method_4_code 52 = .ok (.bastore, 1) := by decide +kernel
theorem d22_53 : decode jdk_52_method_4_code 53 = .ok (.return_, 1) := by decide +kernel
theorem ef22_rmPu1_0 (m : MethodId) (x0 : Addr) (x1 : Int32) (x2 : Int32) : entryFrame m #[(.ref x0), (.int x1), (.int x2)] 3 = mkF m 0 #[vr x0, vi x1, vi x2] [] := by first | (simp [entryFrame, mkF, argsToLocals, Value.category]; done) | rfl
def QPu1_0 (Z : State) (b : Addr) (yy : Int32) (cs : Int32) (sf : Value) (kb : ClassId) (w0 : Int32) (w1 : Int32) (h0 : Heap) (n0 : Nat) (v : Option Value) (h : Heap) (L : List Loc) : Prop := v = none ∧ Fr n0 L ∧ Keep h0 h [b] ∧ Arv Z h b kb .byte 2 [(.int (own_lo yy)), (.int (own_hi yy))] (.int 0)
theorem rmPu1_0 (l : Launch) (Z : State) (a0 : Array Value) (hw : ∀ d ∈ tables_1, d.before a0 Z = true) (ws : List Jvm.Cond) (b : Addr) (yy : Int32) (cs : Int32) (sf : Value) (kb : ClassId) (w0 : Int32) (w1 : Int32) (h0 : Heap) (n0 : Nat) (Z0 : n0 ≤ h0.size) (hW : own_W Z h0 n0 cs sf) (gb : n0 ≤ b) (Vb : Arv Z h0 b kb .byte 2 [(.int w0), (.int w1)] (.int 0)) :
    own_Met l on1 (Jvm.Cond.code on1 jdk_52_method_4_code 3 none :: ws) orm25 #[(.ref b), (.int 0), (.int yy)] Z h0 (QPu1_0 Z b yy cs sf kb w0 w1 h0 n0) := by
  refine MetFree.of_bodySF (plainFor_of_name pn2) hisR ?_
  intro p e s m args below meth c s₁ Bd hml0 hP hK
  obtain ⟨rfl, hZ, hh⟩ := hP
  have hx := Bd.exec
  have hby := Bd.bytes
  have hlk : meth.locks = false := BodyLoose.notSynchronized Bd
  have hret := Bd.returns
  have hml : c.maxLocals = 3 := hml0
  have hown : s.vm.findClass "java/lang/StringUTF16" = some m.cls := findClass_of_methodNamed Bd.named
  have X0 : Stand p l e orm25 s m #[(.ref b), (.int 0), (.int yy)] below meth c s₁ [] 0 0 := Stand.of_body Bd
  have e0 : s₁.heap = h0 := by rw [← hh, Bd.state]; rfl
  have N0 := Fr.nil n0
  show Dn p e below s (QPu1_0 Z b yy cs sf kb w0 w1 h0 n0) orm25.cells orm25.slots (s₁.setTop (entryFrame m #[(.ref b), (.int 0), (.int yy)] 3))
  refine Dn.st (fun _ kk => castTop (ef22_rmPu1_0 m b (0 : Int32) yy) kk) ?_
  show Dn p e below s _ _ _ (s₁.setTop (mkF m 0 #[vr b, vi 0, vi yy] []))
  obtain ⟨T0z, X0z, e0z, st0z⟩ := getS2 X0 hx hZ hown (host := "") (Or.inl (tw hw 99 rfl)) Via.refl e0 hW.adt (g := (mkF m 0 #[vr b, vi 0, vi yy] [])) rfl (hb hby d22_0)
  refine Dn.st st0z ?_
  show Dn p e below s _ _ _ (T0z.setTop (mkF m 3 #[vr b, vi 0, vi yy] [(.int 1)]))
  have hc3 : ¬ ((1 : Int32) = (0 : Int32)) := by decide
  refine Dn.st (fun _ kk => XS.ifYes X0z.here hx rfl (pc0 := 3) (pc' := 28) rfl (hb hby d22_3) rfl ((if0 _ _).trans (feq hc3).2) (by decide) (by decide) (XS.iloadN X0z.here hx rfl (hb hby d22_28) rfl (XS.iconst X0z.here hx rfl (hb hby d22_29) (XS.ishl X0z.here hx rfl (hb hby d22_30) rfl (XS.istoreN X0z.here hx rfl (hb hby d22_31) rfl (l' := #[vr b, vi 0, vi yy]) rfl (XS.aloadN X0z.here hx rfl (hb hby d22_32) rfl rfl (kk))))))) ?_
  show Dn p e below s _ _ _ (T0z.setTop (mkF m 33 #[vr b, vi 0, vi yy] [(.ref b)]))
  refine Dn.st (fun _ kk => XS.iloadN X0z.here hx rfl (hb hby d22_33) rfl (XS.iinc X0z.here hx rfl (hb hby d22_34) rfl (l' := #[vr b, vi 1, vi yy]) rfl (XS.iloadN X0z.here hx rfl (hb hby d22_37) rfl (kk)))) ?_
  show Dn p e below s _ _ _ (T0z.setTop (mkF m 38 #[vr b, vi 1, vi yy] [(.int yy), (.int 0), (.ref b)]))
  obtain ⟨T38, X38, e38, st38⟩ := getS2 X0z hx hZ hown (host := "") (Or.inl (tw hw 100 rfl)) Via.refl e0z hW.hit (g := (mkF m 38 #[vr b, vi 1, vi yy] [(.int yy), (.int 0), (.ref b)])) rfl (hb hby d22_38)
  refine Dn.st st38 ?_
  show Dn p e below s _ _ _ (T38.setTop (mkF m 41 #[vr b, vi 1, vi yy] [(.int 0), (.int yy), (.int 0), (.ref b)]))
  refine Dn.st (fun _ kk => XS.ishr X38.here hx rfl (hb hby d22_41) rfl (XS.i2b X38.here hx rfl (hb hby d22_42) rfl (kk))) ?_
  show Dn p e below s _ _ _ (T38.setTop (mkF m 43 #[vr b, vi 1, vi yy] [(.int ((yy >>> ((0 : Int32) &&& 31)).toInt8.toInt32)), (.int 0), (.ref b)]))
  have Vc_b_43 := Vb
  obtain ⟨cl_b_43, Ar_b_43, q_b_43, S_b_43, N_b_43, H_b_43, G_b_43⟩ := Vc_b_43
  have hin43 : ¬ ((0 : Int32) < 0 ∨ cl_b_43.slots.size ≤ ((0 : Int32)).toNatClampNeg) := inb_of S_b_43 ⟨by decide, by decide⟩
  obtain ⟨T43, h43, X43, e43, W43, st43⟩ := stB X38 hx hZ e38 Ar_b_43 (j := (0 : Int32)) hin43 (g := (mkF m 43 #[vr b, vi 1, vi yy] [(.int ((yy >>> ((0 : Int32) &&& 31)).toInt8.toInt32)), (.int 0), (.ref b)])) rfl rfl (hb hby d22_43)
  have Wo43 := hW.wr W43 gb
  have V_b_43 := Arv.set Ar_b_43 q_b_43 S_b_43 N_b_43 H_b_43 G_b_43 (fits_nar_byte _) W43 0 rfl (Nat.le_of_ble_eq_true rfl)
  have K43 := (Keep.refl h0 [b]).wr W43 (Or.inl (List.mem_of_getElem? (i := 0) rfl))
  have N43 := Fr.snoc X43 N0 gb
  have Z43 : n0 ≤ h43.size := Nat.le_trans Z0 (Keep.of_wr W43).1
  refine Dn.st st43 ?_
  show Dn p e below s _ _ _ (T43.setTop (mkF m 44 #[vr b, vi 1, vi yy] []))
  refine Dn.st (fun _ kk => XS.aloadN X43.here hx rfl (hb hby d22_44) rfl rfl (XS.iloadN X43.here hx rfl (hb hby d22_45) rfl (XS.iloadN X43.here hx rfl (hb hby d22_46) rfl (kk)))) ?_
  show Dn p e below s _ _ _ (T43.setTop (mkF m 47 #[vr b, vi 1, vi yy] [(.int yy), (.int 1), (.ref b)]))
  obtain ⟨T47, X47, e47, st47⟩ := getS2 X43 hx hZ hown (host := "") (Or.inl (tw hw 101 rfl)) Via.refl e43 Wo43.lot (g := (mkF m 47 #[vr b, vi 1, vi yy] [(.int yy), (.int 1), (.ref b)])) rfl (hb hby d22_47)
  refine Dn.st st47 ?_
  show Dn p e below s _ _ _ (T47.setTop (mkF m 50 #[vr b, vi 1, vi yy] [(.int 8), (.int yy), (.int 1), (.ref b)]))
  refine Dn.st (fun _ kk => XS.ishr X47.here hx rfl (hb hby d22_50) rfl (XS.i2b X47.here hx rfl (hb hby d22_51) rfl (kk))) ?_
  show Dn p e below s _ _ _ (T47.setTop (mkF m 52 #[vr b, vi 1, vi yy] [(.int ((yy >>> ((8 : Int32) &&& 31)).toInt8.toInt32)), (.int 1), (.ref b)]))
  have Vc_b_52 := V_b_43
  obtain ⟨cl_b_52, Ar_b_52, q_b_52, S_b_52, N_b_52, H_b_52, G_b_52⟩ := Vc_b_52
  have hin52 : ¬ ((1 : Int32) < 0 ∨ cl_b_52.slots.size ≤ ((1 : Int32)).toNatClampNeg) := inb_of S_b_52 ⟨by decide, by decide⟩
  obtain ⟨T52, h52, X52, e52, W52, st52⟩ := stB X47 hx hZ e47 Ar_b_52 (j := (1 : Int32)) hin52 (g := (mkF m 52 #[vr b, vi 1, vi yy] [(.int ((yy >>> ((8 : Int32) &&& 31)).toInt8.toInt32)), (.int 1), (.ref b)])) rfl rfl (hb hby d22_52)
  have Wo52 := Wo43.wr W52 gb
  have V_b_52 := Arv.set Ar_b_52 q_b_52 S_b_52 N_b_52 H_b_52 G_b_52 (fits_nar_byte _) W52 1 rfl (Nat.le_of_ble_eq_true rfl)
  have K52 := K43.wr W52 (Or.inl (List.mem_of_getElem? (i := 0) rfl))
  have N52 := Fr.snoc X52 N43 gb
  have Z52 : n0 ≤ h52.size := Nat.le_trans Z43 (Keep.of_wr W52).1
  refine Dn.st st52 ?_
  show Dn p e below s _ _ _ (T52.setTop (mkF m 53 #[vr b, vi 1, vi yy] []))
  exact Dn.ret0 X52 hlk hx hret (hb hby d22_53) (by rw [e52]; exact ⟨rfl, N52, K52, V_b_52⟩) (by decide) (by decide)

theorem d19_0 : decode jdk_52_method_14_code 0 = .ok (.iload_n 2, 1) := by decide +kernel
theorem d19_1 : decode jdk_52_method_14_code 1 = .ok (.invokestatic 107, 3) := by decide +kernel
theorem d19_4 : decode jdk_52_method_14_code 4 = .ok (.astore_n 3, 1) := by decide +kernel
theorem d19_5 : decode jdk_52_method_14_code 5 = .ok (.iconst 0, 1) := by decide +kernel
theorem d19_6 : decode jdk_52_method_14_code 6 = .ok (.istore 4, 2) := by decide +kernel
theorem d19_8 : decode jdk_52_method_14_code 8 = .ok (.iload 4, 2) := by decide +kernel
theorem d19_10 : decode jdk_52_method_14_code 10 = .ok (.iload_n 2, 1) := by decide +kernel
theorem d19_11 : decode jdk_52_method_14_code 11 = .ok (.if_icmp .ge 21, 3) := by decide +kernel
theorem d19_14 : decode jdk_52_method_14_code 14 = .ok (.aload_n 3, 1) := by decide +kernel
theorem d19_15 : decode jdk_52_method_14_code 15 = .ok (.iload 4, 2) := by decide +kernel
theorem d19_17 : decode jdk_52_method_14_code 17 = .ok (.aload_n 0, 1) := by decide +kernel
theorem d19_18 : decode jdk_52_method_14_code 18 = .ok (.iload_n 1, 1) := by decide +kernel
theorem d19_19 : decode jdk_52_method_14_code 19 = .ok (.caload, 1) := by decide +kernel
theorem d19_20 : decode jdk_52_method_14_code 20 = .ok (.invokestatic 111, 3) := by decide +kernel
theorem d19_23 : decode jdk_52_method_14_code 23 = .ok (.iinc 1 1, 3) := by decide +kernel
theorem d19_26 : decode jdk_52_method_14_code 26 = .ok (.iinc 4 1, 3) := by decide +kernel
theorem d19_29 : decode jdk_52_method_14_code 29 = .ok (.goto (-21), 3) := by decide +kernel
theorem d19_32 : decode jdk_52_method_14_code 32 = .ok (.aload_n 3, 1) := by decide +kernel
theorem d19_33 : decode jdk_52_method_14_code 33 = .ok (.areturn, 1) := by decide +kernel
theorem pd9 : parseMethodDescriptor "(I)[B" = some ⟨[.int], some (.array .byte)⟩ := by decide +kernel
theorem pd10 : parseMethodDescriptor "([BII)V" = some ⟨[(.array .byte), .int, .int], none⟩ := by decide +kernel
theorem ef19_rmTb1 (m : MethodId) (x0 : Addr) (x1 : Int32) (x2 : Int32) : entryFrame m #[(.ref x0), (.int x1), (.int x2)] 5 = mkF m 0 #[vr x0, vi x1, vi x2, .unset, .unset] [] := by first | (simp [entryFrame, mkF, argsToLocals, Value.category]; done) | rfl
def QTb1 (Z : State) (a : Addr) (cs : Int32) (sf : Value) (ka : ClassId) (y0 : Int32) (h0 : Heap) (n0 : Nat) (v : Option Value) (h : Heap) (L : List Loc) : Prop := ∃ (b : Addr) (kb : ClassId), v = some (.ref b) ∧ h0.size ≤ b ∧ Fr n0 L ∧ Keep h0 h [] ∧ Arv Z h b kb .byte 2 [(.int (own_lo y0)), (.int (own_hi y0))] (.int 0)
theorem rmTb1 (l : Launch) (Z : State) (a0 : Array Value) (hw : ∀ d ∈ tables_1, d.before a0 Z = true) (ws : List Jvm.Cond) (a : Addr) (cs : Int32) (sf : Value) (ka : ClassId) (y0 : Int32) (h0 : Heap) (n0 : Nat) (Z0 : n0 ≤ h0.size) (hW : own_W Z h0 n0 cs sf) (Va : Arv Z h0 a ka .char 1 [(.int y0)] (.int 0)) :
    own_Met l on7 (Jvm.Cond.code on7 jdk_52_method_14_code 5 (some (.array .byte)) :: ws) orm39 #[(.ref a), (.int 0), (.int 1)] Z h0 (QTb1 Z a cs sf ka y0 h0 n0) := by
  refine MetFree.of_bodySF (plainFor_of_name pn2) hisR ?_
  intro p e s m args below meth c s₁ Bd hml0 hP hK
  obtain ⟨rfl, hZ, hh⟩ := hP
  have hx := Bd.exec
  have hby := Bd.bytes
  have hlk : meth.locks = false := BodyLoose.notSynchronized Bd
  have hret := Bd.returns
  have hml : c.maxLocals = 5 := hml0
  have hown : s.vm.findClass "java/lang/StringUTF16" = some m.cls := findClass_of_methodNamed Bd.named
  have X0 : Stand p l e orm39 s m #[(.ref a), (.int 0), (.int 1)] below meth c s₁ [] 0 0 := Stand.of_body Bd
  have e0 : s₁.heap = h0 := by rw [← hh, Bd.state]; rfl
  have N0 := Fr.nil n0
  show Dn p e below s (QTb1 Z a cs sf ka y0 h0 n0) orm39.cells orm39.slots (s₁.setTop (entryFrame m #[(.ref a), (.int 0), (.int 1)] 5))
  refine Dn.st (fun _ kk => castTop (ef19_rmTb1 m a (0 : Int32) (1 : Int32)) kk) ?_
  show Dn p e below s _ _ _ (s₁.setTop (mkF m 0 #[vr a, vi 0, vi 1, .unset, .unset] []))
  refine Dn.st (fun _ kk => XS.iloadN X0.here hx rfl (hb hby d19_0) rfl (kk)) ?_
  show Dn p e below s _ _ _ (s₁.setTop (mkF m 1 #[vr a, vi 0, vi 1, .unset, .unset] [(.int 1)]))
  obtain ⟨_, _, ⟨T1, L1, k1, n1⟩, -, X1, ⟨Lc1, hQ1, l1, y1, z1⟩, st1⟩ := Jvm.LawKit.callS X0 hx (y := on14) hown (mvT hZ (tw hw 89 rfl)) (mvT hZ (tw hw 90 rfl)) (mvT hZ (tw hw 50 rfl)) (mvT hZ (tw hw 91 rfl)) (by decide) (backOf (W := 0) (rmNf1 l Z a0 hw []  h0 n0 Z0 ) hZ (tw hw 91 rfl) (tw hw 50 rfl) (by decide) (by decide)) (g := (mkF m 1 #[vr a, vi 0, vi 1, .unset, .unset] [(.int 1)])) rfl (by rw [hml]; rfl) (argsL := [(.int 1)]) (rest := []) (lenOf pd9 rfl) rfl (by show 2 * 0 + _ ≤ _; exact Nat.le_of_eq rfl) (hb hby d19_1) (fun _ _ => ⟨rfl, e0, (by decide : 0 + 1 ≤ _), (by decide : 0 + 2 ≤ _)⟩)
  dsimp only [Pt.U, Pt.locs, Pt.cells, Pt.slots] at X1 l1 y1 z1 st1 hQ1
  subst l1 y1 z1
  obtain ⟨bb1, kb1, rfl, gz1, Nq1, K1, V_bb1⟩ := hQ1
  have N1 := Fr.app N0 Nq1
  refine Dn.st st1 ?_
  have ne_a_bb1 : a ≠ bb1 := Nat.ne_of_lt (Nat.lt_of_lt_of_le Va.lt gz1)
  have gn_bb1 : n0 ≤ bb1 := Nat.le_trans Z0 gz1
  have gz_bb1 : h0.size ≤ bb1 := Nat.le_trans (Keep.refl h0 []).1 gz1
  have Wo1 := hW.keep K1 own_k0
  have V_a_1 := Va.keep K1 nin0
  have Kt1 := Keep.trans (Keep.refl h0 []) K1 (by simp)
  have Z1 : n0 ≤ T1.heap.size := Nat.le_trans Z0 K1.1
  show Dn p e below s _ _ _ (T1.setTop (mkF m 4 #[vr a, vi 0, vi 1, .unset, .unset] [(.ref bb1)]))
  refine Dn.st (fun _ kk => XS.astoreN X1.here hx rfl (hb hby d19_4) rfl rfl (l' := #[vr a, vi 0, vi 1, vr bb1, .unset]) rfl (XS.iconst X1.here hx rfl (hb hby d19_5) (XS.istore X1.here hx rfl (hb hby d19_6) rfl (l' := #[vr a, vi 0, vi 1, vr bb1, vi 0]) rfl (XS.iload X1.here hx rfl (hb hby d19_8) rfl (XS.iloadN X1.here hx rfl (hb hby d19_10) rfl (kk)))))) ?_
  show Dn p e below s _ _ _ (T1.setTop (mkF m 11 #[vr a, vi 0, vi 1, vr bb1, vi 0] [(.int 1), (.int 0)]))
  have hc11 : (0 : Int32) < (1 : Int32) := by decide
  refine Dn.st (fun _ kk => XS.icmpNo X1.here hx rfl (hb hby d19_11) rfl (tlt hc11).2.1 (XS.aloadN X1.here hx rfl (hb hby d19_14) rfl rfl (XS.iload X1.here hx rfl (hb hby d19_15) rfl (XS.aloadN X1.here hx rfl (hb hby d19_17) rfl rfl (XS.iloadN X1.here hx rfl (hb hby d19_18) rfl (kk)))))) ?_
  show Dn p e below s _ _ _ (T1.setTop (mkF m 19 #[vr a, vi 0, vi 1, vr bb1, vi 0] [(.int 0), (.ref a), (.int 0), (.ref bb1)]))
  have Vc_a_19 := V_a_1
  obtain ⟨cl_a_19, Ar_a_19, q_a_19, S_a_19, N_a_19, H_a_19, G_a_19⟩ := Vc_a_19
  have hin19 : ¬ ((0 : Int32) < 0 ∨ cl_a_19.slots.size ≤ ((0 : Int32)).toNatClampNeg) := inb_of S_a_19 ⟨by decide, by decide⟩
  have hat19 : cl_a_19.slots[((0 : Int32)).toNatClampNeg]? = some (.int y0) := H_a_19.at hin19 rfl
  refine Dn.st (fun _ kk => X1.caload hx (j := (0 : Int32)) (v := (.int y0)) Ar_a_19.1 (State.isArrayOf_alike hZ.alike Ar_a_19.2.1) Ar_a_19.2.2 hin19 hat19 (g := (mkF m 19 #[vr a, vi 0, vi 1, vr bb1, vi 0] [(.int 0), (.ref a), (.int 0), (.ref bb1)])) rfl rfl (hb hby d19_19) _ (kk)) ?_
  show Dn p e below s _ _ _ (T1.setTop (mkF m 20 #[vr a, vi 0, vi 1, vr bb1, vi 0] [(.int y0), (.int 0), (.ref bb1)]))
  obtain ⟨_, _, ⟨T20, L20, k20, n20⟩, -, X20, ⟨Lc20, hQ20, l20, y20, z20⟩, st20⟩ := Jvm.LawKit.callS X1 hx (y := on1) hown (mvT hZ (tw hw 96 rfl)) (mvT hZ (tw hw 97 rfl)) (mvT hZ (tw hw 50 rfl)) (mvT hZ (tw hw 98 rfl)) (by decide) (backOf (W := 0) (rmPu1_0 l Z a0 hw [] bb1 y0 cs sf kb1 (0 : Int32) (0 : Int32) T1.heap n0 Z1 Wo1 gn_bb1 V_bb1) hZ (tw hw 98 rfl) (tw hw 50 rfl) (by decide) (by decide)) (g := (mkF m 20 #[vr a, vi 0, vi 1, vr bb1, vi 0] [(.int y0), (.int 0), (.ref bb1)])) rfl (by rw [hml]; rfl) (argsL := [(.ref bb1), (.int 0), (.int y0)]) (rest := []) (lenOf pd10 rfl) rfl (by show 2 * 0 + _ ≤ _; exact Nat.le_of_eq rfl) (hb hby d19_20) (fun _ _ => ⟨rfl, rfl, (by decide : 1 + 0 ≤ _), (by decide : 2 + 0 ≤ _)⟩)
  dsimp only [Pt.U, Pt.locs, Pt.cells, Pt.slots] at X20 l20 y20 z20 st20 hQ20
  subst l20 y20 z20
  obtain ⟨rfl, Nq20, K20, V20⟩ := hQ20
  have N20 := Fr.app N1 Nq20
  refine Dn.st st20 ?_
  have Wo20 := Wo1.keep K20 (own_k1 gn_bb1)
  have V_a_20 := V_a_1.keep K20 (ninS ne_a_bb1 nin0)
  have Kt20 := Keep.trans Kt1 K20 (fun x hx => Or.inr ((List.mem_singleton.mp hx) ▸ gz_bb1))
  have Z20 : n0 ≤ T20.heap.size := Nat.le_trans Z1 K20.1
  show Dn p e below s _ _ _ (T20.setTop (mkF m 23 #[vr a, vi 0, vi 1, vr bb1, vi 0] []))
  refine Dn.st (fun _ kk => XS.iinc X20.here hx rfl (hb hby d19_23) rfl (l' := #[vr a, vi 1, vi 1, vr bb1, vi 0]) rfl (XS.iinc X20.here hx rfl (hb hby d19_26) rfl (l' := #[vr a, vi 1, vi 1, vr bb1, vi 1]) rfl (XS.goto X20.here hx rfl (pc0 := 29) (pc' := 8) rfl (hb hby d19_29) (by decide) (by decide) (XS.iload X20.here hx rfl (hb hby d19_8) rfl (XS.iloadN X20.here hx rfl (hb hby d19_10) rfl (kk)))))) ?_
  show Dn p e below s _ _ _ (T20.setTop (mkF m 11 #[vr a, vi 1, vi 1, vr bb1, vi 1] [(.int 1), (.int 1)]))
  have hc11_2 : ¬ ((1 : Int32) < (1 : Int32)) := by decide
  refine Dn.st (fun _ kk => XS.icmpYes X20.here hx rfl (pc0 := 11) (pc' := 32) rfl (hb hby d19_11) rfl (flt hc11_2).2.1 (by decide) (by decide) (XS.aloadN X20.here hx rfl (hb hby d19_32) rfl rfl (kk))) ?_
  show Dn p e below s _ _ _ (T20.setTop (mkF m 33 #[vr a, vi 1, vi 1, vr bb1, vi 1] [(.ref bb1)]))
  exact Dn.ret X20 hlk hx hret rfl (Or.inr (Or.inr (Or.inr (Or.inr ⟨rfl, rfl, rfl⟩)))) (hb hby d19_33) ⟨bb1, kb1, rfl, gz_bb1, N20, Kt20, V20⟩ (by decide) (by decide)

theorem d10_0 : decode jdk_52_method_21_code 0 = .ok (.iconst 0, 1) := by decide +kernel
theorem d10_1 : decode jdk_52_method_21_code 1 = .ok (.istore 5, 2) := by decide +kernel
theorem d10_3 : decode jdk_52_method_21_code 3 = .ok (.iload 5, 2) := by decide +kernel
theorem d10_5 : decode jdk_52_method_21_code 5 = .ok (.iload 4, 2) := by decide +kernel
theorem d10_7 : decode jdk_52_method_21_code 7 = .ok (.if_icmp .ge 37, 3) := by decide +kernel
theorem d10_10 : decode jdk_52_method_21_code 10 = .ok (.aload_n 0, 1) := by decide +kernel
theorem d10_11 : decode jdk_52_method_21_code 11 = .ok (.iload_n 1, 1) := by decide +kernel
theorem d10_12 : decode jdk_52_method_21_code 12 = .ok (.caload, 1) := by decide +kernel
theorem d10_13 : decode jdk_52_method_21_code 13 = .ok (.istore 6, 2) := by decide +kernel
theorem d10_15 : decode jdk_52_method_21_code 15 = .ok (.iload 6, 2) := by decide +kernel
theorem d10_17 : decode jdk_52_method_21_code 17 = .ok (.sipush 255, 3) := by decide +kernel
theorem d10_20 : decode jdk_52_method_21_code 20 = .ok (.if_icmp .le 6, 3) := by decide +kernel
theorem d10_23 : decode jdk_52_method_21_code 23 = .ok (.iload 5, 2) := by decide +kernel
theorem d10_25 : decode jdk_52_method_21_code 25 = .ok (.ireturn, 1) := by decide +kernel
theorem d10_26 : decode jdk_52_method_21_code 26 = .ok (.aload_n 2, 1) := by decide +kernel
theorem d10_27 : decode jdk_52_method_21_code 27 = .ok (.iload_n 3, 1) := by decide +kernel
theorem d10_28 : decode jdk_52_method_21_code 28 = .ok (.iload 6, 2) := by decide +kernel
theorem d10_30 : decode jdk_52_method_21_code 30 = .ok (.i2b, 1) := by decide +kernel
theorem d10_31 : decode jdk_52_method_21_code 31 = .ok (.bastore, 1) := by decide +kernel
theorem d10_32 : decode jdk_52_method_21_code 32 = .ok (.iinc 1 1, 3) := by decide +kernel
theorem d10_35 : decode jdk_52_method_21_code 35 = .ok (.iinc 3 1, 3) := by decide +kernel
theorem d10_38 : decode jdk_52_method_21_code 38 = .ok (.iinc 5 1, 3) := by decide +kernel
theorem d10_41 : decode jdk_52_method_21_code 41 = .ok (.goto (-38), 3) := by decide +kernel
theorem d10_44 : decode jdk_52_method_21_code 44 = .ok (.iload 4, 2) := by decide +kernel
theorem d10_46 : decode jdk_52_method_21_code 46 = .ok (.ireturn, 1) := by decide +kernel
theorem ef10_rmC5_1 (m : MethodId) (x0 : Addr) (x1 : Int32) (x2 : Addr) (x3 : Int32) (x4 : Int32) : entryFrame m #[(.ref x0), (.int x1), (.ref x2), (.int x3), (.int x4)] 7 = mkF m 0 #[vr x0, vi x1, vr x2, vi x3, vi x4, .unset, .unset] [] := by first | (simp [entryFrame, mkF, argsToLocals, Value.category]; done) | rfl
def QC5_1 (Z : State) (a : Addr) (b : Addr) (ka kb : ClassId) (y0 : Int32) (h0 : Heap) (n0 : Nat) (v : Option Value) (h : Heap) (L : List Loc) : Prop := Fr n0 L ∧ Keep h0 h [b] ∧ ((v = some (.int 0) ∧ 255 < y0.toInt) ∨ (v = some (.int 1) ∧ (y0.toInt ≤ 255 ∧ True) ∧ Arv Z h b kb .byte 1 [(.int (own_b y0))] (.int 0)))
theorem rmC5_1 (l : Launch) (Z : State) (a0 : Array Value) (hw : ∀ d ∈ tables_1, d.before a0 Z = true) (ws : List Jvm.Cond) (a : Addr) (b : Addr) (ka kb : ClassId) (y0 : Int32) (h0 : Heap) (n0 : Nat) (Z0 : n0 ≤ h0.size) (Va : Arv Z h0 a ka .char 1 [(.int y0)] (.int 0)) (Vb : Arv Z h0 b kb .byte 1 [(.int 0)] (.int 0)) (gb : n0 ≤ b) (hne : a ≠ b) :
    own_Met l on18 (Jvm.Cond.code on18 jdk_52_method_21_code 7 (some .int) :: ws) orm25 #[(.ref a), (.int 0), (.ref b), (.int 0), (.int 1)] Z h0 (QC5_1 Z a b ka kb y0 h0 n0) := by
  refine MetFree.of_bodySF (plainFor_of_name pn2) hisR ?_
  intro p e s m args below meth c s₁ Bd hml0 hP hK
  obtain ⟨rfl, hZ, hh⟩ := hP
  have hx := Bd.exec
  have hby := Bd.bytes
  have hlk : meth.locks = false := BodyLoose.notSynchronized Bd
  have hret := Bd.returns
  have hml : c.maxLocals = 7 := hml0
  have hown : s.vm.findClass "java/lang/StringUTF16" = some m.cls := findClass_of_methodNamed Bd.named
  have X0 : Stand p l e orm25 s m #[(.ref a), (.int 0), (.ref b), (.int 0), (.int 1)] below meth c s₁ [] 0 0 := Stand.of_body Bd
  have e0 : s₁.heap = h0 := by rw [← hh, Bd.state]; rfl
  have N0 := Fr.nil n0
  show Dn p e below s (QC5_1 Z a b ka kb y0 h0 n0) orm25.cells orm25.slots (s₁.setTop (entryFrame m #[(.ref a), (.int 0), (.ref b), (.int 0), (.int 1)] 7))
  refine Dn.st (fun _ kk => castTop (ef10_rmC5_1 m a (0 : Int32) b (0 : Int32) (1 : Int32)) kk) ?_
  show Dn p e below s _ _ _ (s₁.setTop (mkF m 0 #[vr a, vi 0, vr b, vi 0, vi 1, .unset, .unset] []))
  refine Dn.st (fun _ kk => XS.iconst X0.here hx rfl (hb hby d10_0) (XS.istore X0.here hx rfl (hb hby d10_1) rfl (l' := #[vr a, vi 0, vr b, vi 0, vi 1, vi 0, .unset]) rfl (XS.iload X0.here hx rfl (hb hby d10_3) rfl (XS.iload X0.here hx rfl (hb hby d10_5) rfl (kk))))) ?_
  show Dn p e below s _ _ _ (s₁.setTop (mkF m 7 #[vr a, vi 0, vr b, vi 0, vi 1, vi 0, .unset] [(.int 1), (.int 0)]))
  have hc7 : (0 : Int32) < (1 : Int32) := by decide
  refine Dn.st (fun _ kk => XS.icmpNo X0.here hx rfl (hb hby d10_7) rfl (tlt hc7).2.1 (XS.aloadN X0.here hx rfl (hb hby d10_10) rfl rfl (XS.iloadN X0.here hx rfl (hb hby d10_11) rfl (kk)))) ?_
  show Dn p e below s _ _ _ (s₁.setTop (mkF m 12 #[vr a, vi 0, vr b, vi 0, vi 1, vi 0, .unset] [(.int 0), (.ref a)]))
  have Vc_a_12 := Va
  obtain ⟨cl_a_12, Ar_a_12, q_a_12, S_a_12, N_a_12, H_a_12, G_a_12⟩ := Vc_a_12
  have hin12 : ¬ ((0 : Int32) < 0 ∨ cl_a_12.slots.size ≤ ((0 : Int32)).toNatClampNeg) := inb_of S_a_12 ⟨by decide, by decide⟩
  have hat12 : cl_a_12.slots[((0 : Int32)).toNatClampNeg]? = some (.int y0) := H_a_12.at hin12 rfl
  refine Dn.st (fun _ kk => X0.caload hx (j := (0 : Int32)) (v := (.int y0)) (by rw [e0]; exact Ar_a_12.1) (State.isArrayOf_alike hZ.alike Ar_a_12.2.1) Ar_a_12.2.2 hin12 hat12 (g := (mkF m 12 #[vr a, vi 0, vr b, vi 0, vi 1, vi 0, .unset] [(.int 0), (.ref a)])) rfl rfl (hb hby d10_12) _ (XS.istore X0.here hx rfl (hb hby d10_13) rfl (l' := #[vr a, vi 0, vr b, vi 0, vi 1, vi 0, vi y0]) rfl (XS.iload X0.here hx rfl (hb hby d10_15) rfl (XS.sipush X0.here hx rfl (hb hby d10_17) (kk))))) ?_
  show Dn p e below s _ _ _ (s₁.setTop (mkF m 20 #[vr a, vi 0, vr b, vi 0, vi 1, vi 0, vi y0] [(.int 255), (.int y0)]))
  by_cases hc20 : (255 : Int32) < y0
  · have hi20 : 255 < y0.toInt := Int32.lt_iff_toInt_lt.mp hc20
    refine Dn.st (fun _ kk => XS.icmpNo X0.here hx rfl (hb hby d10_20) rfl (tlt hc20).2.2.2 (XS.iload X0.here hx rfl (hb hby d10_23) rfl (kk))) ?_
    show Dn p e below s _ _ _ (s₁.setTop (mkF m 25 #[vr a, vi 0, vr b, vi 0, vi 1, vi 0, vi y0] [(.int 0)]))
    exact Dn.ret X0 hlk hx hret rfl (Or.inl ⟨rfl, Or.inl rfl, _, rfl⟩) (hb hby d10_25) (by rw [e0]; exact ⟨N0, (Keep.refl h0 [b]), (Or.inl ⟨rfl, hi20⟩)⟩) (by decide) (by decide)
  · have hi20 : ¬ 255 < y0.toInt := fun qq => hc20 (Int32.lt_iff_toInt_lt.mpr qq)
    refine Dn.st (fun _ kk => XS.icmpYes X0.here hx rfl (pc0 := 20) (pc' := 26) rfl (hb hby d10_20) rfl (flt hc20).2.2.2 (by decide) (by decide) (XS.aloadN X0.here hx rfl (hb hby d10_26) rfl rfl (XS.iloadN X0.here hx rfl (hb hby d10_27) rfl (XS.iload X0.here hx rfl (hb hby d10_28) rfl (XS.i2b X0.here hx rfl (hb hby d10_30) rfl (kk)))))) ?_
    show Dn p e below s _ _ _ (s₁.setTop (mkF m 31 #[vr a, vi 0, vr b, vi 0, vi 1, vi 0, vi y0] [(.int (y0.toInt8.toInt32)), (.int 0), (.ref b)]))
    have Vc_b_31 := Vb
    obtain ⟨cl_b_31, Ar_b_31, q_b_31, S_b_31, N_b_31, H_b_31, G_b_31⟩ := Vc_b_31
    have hin31 : ¬ ((0 : Int32) < 0 ∨ cl_b_31.slots.size ≤ ((0 : Int32)).toNatClampNeg) := inb_of S_b_31 ⟨by decide, by decide⟩
    obtain ⟨T31, h31, X31, e31, W31, st31⟩ := stB X0 hx hZ e0 Ar_b_31 (j := (0 : Int32)) hin31 (g := (mkF m 31 #[vr a, vi 0, vr b, vi 0, vi 1, vi 0, vi y0] [(.int (y0.toInt8.toInt32)), (.int 0), (.ref b)])) rfl rfl (hb hby d10_31)
    have V_a_31 := Va.other W31 hne
    have V_b_31 := Arv.set Ar_b_31 q_b_31 S_b_31 N_b_31 H_b_31 G_b_31 (fits_nar_byte _) W31 0 rfl (Nat.le_of_ble_eq_true rfl)
    have K31 := (Keep.refl h0 [b]).wr W31 (Or.inl (List.mem_of_getElem? (i := 0) rfl))
    have N31 := Fr.snoc X31 N0 gb
    have Z31 : n0 ≤ h31.size := Nat.le_trans Z0 (Keep.of_wr W31).1
    refine Dn.st st31 ?_
    show Dn p e below s _ _ _ (T31.setTop (mkF m 32 #[vr a, vi 0, vr b, vi 0, vi 1, vi 0, vi y0] []))
    refine Dn.st (fun _ kk => XS.iinc X31.here hx rfl (hb hby d10_32) rfl (l' := #[vr a, vi 1, vr b, vi 0, vi 1, vi 0, vi y0]) rfl (XS.iinc X31.here hx rfl (hb hby d10_35) rfl (l' := #[vr a, vi 1, vr b, vi 1, vi 1, vi 0, vi y0]) rfl (XS.iinc X31.here hx rfl (hb hby d10_38) rfl (l' := #[vr a, vi 1, vr b, vi 1, vi 1, vi 1, vi y0]) rfl (XS.goto X31.here hx rfl (pc0 := 41) (pc' := 3) rfl (hb hby d10_41) (by decide) (by decide) (XS.iload X31.here hx rfl (hb hby d10_3) rfl (XS.iload X31.here hx rfl (hb hby d10_5) rfl (kk))))))) ?_
    show Dn p e below s _ _ _ (T31.setTop (mkF m 7 #[vr a, vi 1, vr b, vi 1, vi 1, vi 1, vi y0] [(.int 1), (.int 1)]))
    have hc7_2 : ¬ ((1 : Int32) < (1 : Int32)) := by decide
    refine Dn.st (fun _ kk => XS.icmpYes X31.here hx rfl (pc0 := 7) (pc' := 44) rfl (hb hby d10_7) rfl (flt hc7_2).2.1 (by decide) (by decide) (XS.iload X31.here hx rfl (hb hby d10_44) rfl (kk))) ?_
    show Dn p e below s _ _ _ (T31.setTop (mkF m 46 #[vr a, vi 1, vr b, vi 1, vi 1, vi 1, vi y0] [(.int 1)]))
    exact Dn.ret X31 hlk hx hret rfl (Or.inl ⟨rfl, Or.inl rfl, _, rfl⟩) (hb hby d10_46) (by rw [e31]; exact ⟨N31, K31, (Or.inr ⟨rfl, ⟨Int.not_lt.mp hi20, trivial⟩, V_b_31⟩)⟩) (by decide) (by decide)

theorem d9_0 : decode jdk_52_method_16_code 0 = .ok (.iload_n 2, 1) := by decide +kernel
theorem d9_1 : decode jdk_52_method_16_code 1 = .ok (.newarray .byte, 2) := by decide +kernel
theorem d9_3 : decode jdk_52_method_16_code 3 = .ok (.astore_n 3, 1) := by decide +kernel
theorem d9_4 : decode jdk_52_method_16_code 4 = .ok (.aload_n 0, 1) := by decide +kernel
theorem d9_5 : decode jdk_52_method_16_code 5 = .ok (.iload_n 1, 1) := by decide +kernel
theorem d9_6 : decode jdk_52_method_16_code 6 = .ok (.aload_n 3, 1) := by decide +kernel
theorem d9_7 : decode jdk_52_method_16_code 7 = .ok (.iconst 0, 1) := by decide +kernel
theorem d9_8 : decode jdk_52_method_16_code 8 = .ok (.iload_n 2, 1) := by decide +kernel
theorem d9_9 : decode jdk_52_method_16_code 9 = .ok (.invokestatic 115, 3) := by decide +kernel
theorem d9_12 : decode jdk_52_method_16_code 12 = .ok (.istore 4, 2) := by decide +kernel
theorem d9_14 : decode jdk_52_method_16_code 14 = .ok (.iload 4, 2) := by decide +kernel
theorem d9_16 : decode jdk_52_method_16_code 16 = .ok (.iload_n 2, 1) := by decide +kernel
theorem d9_17 : decode jdk_52_method_16_code 17 = .ok (.if_icmp .eq 40, 3) := by decide +kernel
theorem d9_20 : decode jdk_52_method_16_code 20 = .ok (.aload_n 0, 1) := by decide +kernel
theorem d9_21 : decode jdk_52_method_16_code 21 = .ok (.iload_n 1, 1) := by decide +kernel
theorem d9_22 : decode jdk_52_method_16_code 22 = .ok (.iload_n 2, 1) := by decide +kernel
theorem d9_23 : decode jdk_52_method_16_code 23 = .ok (.invokestatic 119, 3) := by decide +kernel
theorem d9_26 : decode jdk_52_method_16_code 26 = .ok (.astore 5, 2) := by decide +kernel
theorem d9_28 : decode jdk_52_method_16_code 28 = .ok (.aload 5, 2) := by decide +kernel
theorem d9_30 : decode jdk_52_method_16_code 30 = .ok (.iload 4, 2) := by decide +kernel
theorem d9_32 : decode jdk_52_method_16_code 32 = .ok (.invokestatic 71, 3) := by decide +kernel
theorem d9_35 : decode jdk_52_method_16_code 35 = .ok (.sipush 255, 3) := by decide +kernel
theorem d9_38 : decode jdk_52_method_16_code 38 = .ok (.if_icmp .gt 16, 3) := by decide +kernel
theorem d9_54 : decode jdk_52_method_16_code 54 = .ok (.aload 5, 2) := by decide +kernel
theorem d9_56 : decode jdk_52_method_16_code 56 = .ok (.areturn, 1) := by decide +kernel
theorem d9_57 : decode jdk_52_method_16_code 57 = .ok (.aload_n 3, 1) := by decide +kernel
theorem d9_58 : decode jdk_52_method_16_code 58 = .ok (.areturn, 1) := by decide +kernel
theorem pd11 : parseMethodDescriptor "([CI[BII)I" = some ⟨[(.array .char), .int, (.array .byte), .int, .int], some .int⟩ := by decide +kernel
theorem pd12 : parseMethodDescriptor "([CII)[B" = some ⟨[(.array .char), .int, .int], some (.array .byte)⟩ := by decide +kernel
theorem ef9_rmC3_1 (m : MethodId) (x0 : Addr) (x1 : Int32) (x2 : Int32) : entryFrame m #[(.ref x0), (.int x1), (.int x2)] 6 = mkF m 0 #[vr x0, vi x1, vi x2, .unset, .unset, .unset] [] := by first | (simp [entryFrame, mkF, argsToLocals, Value.category]; done) | rfl
def QC3_1 (Z : State) (a : Addr) (cs : Int32) (sf : Value) (ka : ClassId) (y0 : Int32) (h0 : Heap) (n0 : Nat) (v : Option Value) (h : Heap) (L : List Loc) : Prop := ∃ (b : Addr) (kb : ClassId), v = some (.ref b) ∧ h0.size ≤ b ∧ Fr n0 L ∧ Keep h0 h [] ∧ ((Arv Z h b kb .byte 1 [(.int (own_b y0))] (.int 0) ∧ (y0.toInt ≤ 255 ∧ True)) ∨ Arv Z h b kb .byte 2 [(.int (own_lo y0)), (.int (own_hi y0))] (.int 0))
theorem rmC3_1 (l : Launch) (Z : State) (a0 : Array Value) (hw : ∀ d ∈ tables_1, d.before a0 Z = true) (ws : List Jvm.Cond) (a : Addr) (cs : Int32) (sf : Value) (ka : ClassId) (y0 : Int32) (h0 : Heap) (n0 : Nat) (Z0 : n0 ≤ h0.size) (hW : own_W Z h0 n0 cs sf) (Va : Arv Z h0 a ka .char 1 [(.int y0)] (.int 0)) (hr0 : 0 ≤ y0.toInt ∧ y0.toInt ≤ 65535) :
    own_Met l on12 (Jvm.Cond.code on12 jdk_52_method_16_code 6 (some (.array .byte)) :: ws) orm41 #[(.ref a), (.int 0), (.int 1)] Z h0 (QC3_1 Z a cs sf ka y0 h0 n0) := by
  refine MetFree.of_bodySF (plainFor_of_name pn2) hisR ?_
  intro p e s m args below meth c s₁ Bd hml0 hP hK
  obtain ⟨rfl, hZ, hh⟩ := hP
  have hx := Bd.exec
  have hby := Bd.bytes
  have hlk : meth.locks = false := BodyLoose.notSynchronized Bd
  have hret := Bd.returns
  have hml : c.maxLocals = 6 := hml0
  have hown : s.vm.findClass "java/lang/StringUTF16" = some m.cls := findClass_of_methodNamed Bd.named
  have X0 : Stand p l e orm41 s m #[(.ref a), (.int 0), (.int 1)] below meth c s₁ [] 0 0 := Stand.of_body Bd
  have e0 : s₁.heap = h0 := by rw [← hh, Bd.state]; rfl
  have N0 := Fr.nil n0
  show Dn p e below s (QC3_1 Z a cs sf ka y0 h0 n0) orm41.cells orm41.slots (s₁.setTop (entryFrame m #[(.ref a), (.int 0), (.int 1)] 6))
  refine Dn.st (fun _ kk => castTop (ef9_rmC3_1 m a (0 : Int32) (1 : Int32)) kk) ?_
  show Dn p e below s _ _ _ (s₁.setTop (mkF m 0 #[vr a, vi 0, vi 1, .unset, .unset, .unset] []))
  refine Dn.st (fun _ kk => XS.iloadN X0.here hx rfl (hb hby d9_0) rfl (kk)) ?_
  show Dn p e below s _ _ _ (s₁.setTop (mkF m 1 #[vr a, vi 0, vi 1, .unset, .unset, .unset] [(.int 1)]))
  obtain ⟨T1, h1, k1, X1, e1, E1, A1, st1⟩ := newP X0 hx hZ (tw hw 21 rfl) e0 (g := (mkF m 1 #[vr a, vi 0, vi 1, .unset, .unset, .unset] [(.int 1)])) rfl (hb hby d9_1) rfl (by decide) (cap := 1) (by decide) (by decide) (by decide) (by decide)
  obtain ⟨b1, g1⟩ : ∃ z, z = h0.size := ⟨_, rfl⟩
  rw [← g1] at A1 st1
  have ne_a_b1 : a ≠ b1 := Nat.ne_of_lt (Nat.lt_of_lt_of_le Va.lt (Nat.le_of_eq g1.symm))
  have gz_b1 : h0.size ≤ b1 := Nat.le_trans (Keep.refl h0 []).1 (Nat.le_of_eq g1.symm)
  have V_a_1 := Va.ext E1
  have K1 := (Keep.refl h0 []).ext E1
  have Wo1 := hW.ext E1
  have gn_b1 : n0 ≤ b1 := Nat.le_trans Z0 (Nat.le_of_eq g1.symm)
  have Z1 : n0 ≤ h1.size := Nat.le_trans Z0 E1.1
  have V_b1 : Arv Z h1 b1 k1 .byte (1 : Int32) [(.int 0)] (.int 0) := (Arv.new A1 (by decide)).pad (pad_rep [] (.int 0) 1)
  refine Dn.st st1 ?_
  show Dn p e below s _ _ _ (T1.setTop (mkF m 3 #[vr a, vi 0, vi 1, .unset, .unset, .unset] [(.ref b1)]))
  refine Dn.st (fun _ kk => XS.astoreN X1.here hx rfl (hb hby d9_3) rfl rfl (l' := #[vr a, vi 0, vi 1, vr b1, .unset, .unset]) rfl (XS.aloadN X1.here hx rfl (hb hby d9_4) rfl rfl (XS.iloadN X1.here hx rfl (hb hby d9_5) rfl (XS.aloadN X1.here hx rfl (hb hby d9_6) rfl rfl (XS.iconst X1.here hx rfl (hb hby d9_7) (XS.iloadN X1.here hx rfl (hb hby d9_8) rfl (kk))))))) ?_
  show Dn p e below s _ _ _ (T1.setTop (mkF m 9 #[vr a, vi 0, vi 1, vr b1, .unset, .unset] [(.int 1), (.int 0), (.ref b1), (.int 0), (.ref a)]))
  obtain ⟨_, _, ⟨T9, L9, k9, n9⟩, -, X9, ⟨Lc9, hQ9, l9, y9, z9⟩, st9⟩ := Jvm.LawKit.callS X1 hx (y := on18) hown (mvT hZ (tw hw 52 rfl)) (mvT hZ (tw hw 53 rfl)) (mvT hZ (tw hw 50 rfl)) (mvT hZ (tw hw 54 rfl)) (by decide) (backOf (W := 0) (rmC5_1 l Z a0 hw [] a b1 ka k1 y0 h1 n0 Z1 V_a_1 V_b1 gn_b1 ne_a_b1) hZ (tw hw 54 rfl) (tw hw 50 rfl) (by decide) (by decide)) (g := (mkF m 9 #[vr a, vi 0, vi 1, vr b1, .unset, .unset] [(.int 1), (.int 0), (.ref b1), (.int 0), (.ref a)])) rfl (by rw [hml]; rfl) (argsL := [(.ref a), (.int 0), (.ref b1), (.int 0), (.int 1)]) (rest := []) (lenOf pd11 rfl) rfl (by show 2 * 0 + _ ≤ _; exact Nat.le_of_eq rfl) (hb hby d9_9) (fun _ _ => ⟨rfl, e1, (by decide : 1 + 0 ≤ _), (by decide : 1 + 0 ≤ _)⟩)
  dsimp only [Pt.U, Pt.locs, Pt.cells, Pt.slots] at X9 l9 y9 z9 st9 hQ9
  subst l9 y9 z9
  obtain ⟨Nq9, K9, hq9⟩ := hQ9
  have N9 := Fr.app N0 Nq9
  refine Dn.st st9 ?_
  have Wo9 := Wo1.keep K9 (own_k1 gn_b1)
  have V_a_9 := V_a_1.keep K9 (ninS ne_a_b1 nin0)
  have Kt9 := Keep.trans K1 K9 (fun x hx => Or.inr ((List.mem_singleton.mp hx) ▸ gz_b1))
  have Z9 : n0 ≤ T9.heap.size := Nat.le_trans Z1 K9.1
  rcases hq9 with ⟨rfl, gt9⟩ | ⟨rfl, hp9, VL9⟩
  · show Dn p e below s _ _ _ (T9.setTop (mkF m 12 #[vr a, vi 0, vi 1, vr b1, .unset, .unset] [(.int 0)]))
    refine Dn.st (fun _ kk => XS.istore X9.here hx rfl (hb hby d9_12) rfl (l' := #[vr a, vi 0, vi 1, vr b1, vi 0, .unset]) rfl (XS.iload X9.here hx rfl (hb hby d9_14) rfl (XS.iloadN X9.here hx rfl (hb hby d9_16) rfl (kk)))) ?_
    show Dn p e below s _ _ _ (T9.setTop (mkF m 17 #[vr a, vi 0, vi 1, vr b1, vi 0, .unset] [(.int 1), (.int 0)]))
    have hc17 : ¬ ((0 : Int32) = (1 : Int32)) := by decide
    refine Dn.st (fun _ kk => XS.icmpNo X9.here hx rfl (hb hby d9_17) rfl (feq hc17).1 (XS.aloadN X9.here hx rfl (hb hby d9_20) rfl rfl (XS.iloadN X9.here hx rfl (hb hby d9_21) rfl (XS.iloadN X9.here hx rfl (hb hby d9_22) rfl (kk))))) ?_
    show Dn p e below s _ _ _ (T9.setTop (mkF m 23 #[vr a, vi 0, vi 1, vr b1, vi 0, .unset] [(.int 1), (.int 0), (.ref a)]))
    obtain ⟨_, _, ⟨T23, L23, k23, n23⟩, -, X23, ⟨Lc23, hQ23, l23, y23, z23⟩, st23⟩ := Jvm.LawKit.callS X9 hx (y := on7) hown (mvT hZ (tw hw 86 rfl)) (mvT hZ (tw hw 87 rfl)) (mvT hZ (tw hw 50 rfl)) (mvT hZ (tw hw 88 rfl)) (by decide) (backOf (W := 0) (rmTb1 l Z a0 hw [] a cs sf ka y0 T9.heap n0 Z9 Wo9 V_a_9) hZ (tw hw 88 rfl) (tw hw 50 rfl) (by decide) (by decide)) (g := (mkF m 23 #[vr a, vi 0, vi 1, vr b1, vi 0, .unset] [(.int 1), (.int 0), (.ref a)])) rfl (by rw [hml]; rfl) (argsL := [(.ref a), (.int 0), (.int 1)]) (rest := []) (lenOf pd12 rfl) rfl (by show 2 * 0 + _ ≤ _; exact Nat.le_of_eq rfl) (hb hby d9_23) (fun _ _ => ⟨rfl, rfl, (by decide : 1 + 1 ≤ _), (by decide : 1 + 2 ≤ _)⟩)
    dsimp only [Pt.U, Pt.locs, Pt.cells, Pt.slots] at X23 l23 y23 z23 st23 hQ23
    subst l23 y23 z23
    obtain ⟨bb23, kb23, rfl, gz23, Nq23, K23, V_bb23⟩ := hQ23
    have N23 := Fr.app N9 Nq23
    refine Dn.st st23 ?_
    have ne_a_bb23 : a ≠ bb23 := Nat.ne_of_lt (Nat.lt_of_lt_of_le V_a_9.lt gz23)
    have gn_bb23 : n0 ≤ bb23 := Nat.le_trans Z9 gz23
    have gz_bb23 : h0.size ≤ bb23 := Nat.le_trans Kt9.1 gz23
    have Wo23 := Wo9.keep K23 own_k0
    have V_a_23 := V_a_9.keep K23 nin0
    have Kt23 := Keep.trans Kt9 K23 (by simp)
    have Z23 : n0 ≤ T23.heap.size := Nat.le_trans Z9 K23.1
    show Dn p e below s _ _ _ (T23.setTop (mkF m 26 #[vr a, vi 0, vi 1, vr b1, vi 0, .unset] [(.ref bb23)]))
    refine Dn.st (fun _ kk => XS.astore X23.here hx rfl (hb hby d9_26) rfl rfl (l' := #[vr a, vi 0, vi 1, vr b1, vi 0, vr bb23]) rfl (XS.aload X23.here hx rfl (hb hby d9_28) rfl rfl (XS.iload X23.here hx rfl (hb hby d9_30) rfl (kk)))) ?_
    show Dn p e below s _ _ _ (T23.setTop (mkF m 32 #[vr a, vi 0, vi 1, vr b1, vi 0, vr bb23] [(.int 0), (.ref bb23)]))
    obtain ⟨_, _, ⟨T32, L32, k32, n32⟩, -, X32, ⟨Lc32, hQ32, l32, y32, z32⟩, st32⟩ := Jvm.LawKit.callS X23 hx (y := on5) hown (mvT hZ (tw hw 102 rfl)) (mvT hZ (tw hw 103 rfl)) (mvT hZ (tw hw 50 rfl)) (mvT hZ (tw hw 104 rfl)) (by decide) (backOf (W := 0) (rmGc0 l Z a0 hw [] bb23 cs sf _ _ _ y0 T23.heap n0 Z23 Wo23 V_bb23 (by decide) (by decide) rfl rfl hr0.1 hr0.2) hZ (tw hw 104 rfl) (tw hw 50 rfl) (by decide) (by decide)) (g := (mkF m 32 #[vr a, vi 0, vi 1, vr b1, vi 0, vr bb23] [(.int 0), (.ref bb23)])) rfl (by rw [hml]; rfl) (argsL := [(.ref bb23), (.int 0)]) (rest := []) (lenOf pd6 rfl) rfl (by show 2 * 0 + _ ≤ _; exact Nat.le_of_eq rfl) (hb hby d9_32) (fun _ _ => ⟨rfl, rfl, (by decide : 2 + 0 ≤ _), (by decide : 3 + 0 ≤ _)⟩)
    dsimp only [Pt.U, Pt.locs, Pt.cells, Pt.slots] at X32 l32 y32 z32 st32 hQ32
    subst l32 y32 z32
    obtain ⟨rfl, Nq32, hh32⟩ := hQ32
    have N32 := Fr.app N23 Nq32
    refine Dn.st st32 ?_
    show Dn p e below s _ _ _ (T32.setTop (mkF m 35 #[vr a, vi 0, vi 1, vr b1, vi 0, vr bb23] [(.int y0)]))
    refine Dn.st (fun _ kk => XS.sipush X32.here hx rfl (hb hby d9_35) (kk)) ?_
    show Dn p e below s _ _ _ (T32.setTop (mkF m 38 #[vr a, vi 0, vi 1, vr b1, vi 0, vr bb23] [(.int 255), (.int y0)]))
    have hc38 : (255 : Int32) < y0 := (Int32.lt_iff_toInt_lt.mpr gt9)
    refine Dn.st (fun _ kk => XS.icmpYes X32.here hx rfl (pc0 := 38) (pc' := 54) rfl (hb hby d9_38) rfl (tlt hc38).2.2.1 (by decide) (by decide) (XS.aload X32.here hx rfl (hb hby d9_54) rfl rfl (kk))) ?_
    show Dn p e below s _ _ _ (T32.setTop (mkF m 56 #[vr a, vi 0, vi 1, vr b1, vi 0, vr bb23] [(.ref bb23)]))
    exact Dn.ret X32 hlk hx hret rfl (Or.inr (Or.inr (Or.inr (Or.inr ⟨rfl, rfl, rfl⟩)))) (hb hby d9_56) (by rw [hh32]; exact ⟨bb23, kb23, rfl, gz_bb23, N32, Kt23, Or.inr V_bb23⟩) (by decide) (by decide)
  · show Dn p e below s _ _ _ (T9.setTop (mkF m 12 #[vr a, vi 0, vi 1, vr b1, .unset, .unset] [(.int 1)]))
    refine Dn.st (fun _ kk => XS.istore X9.here hx rfl (hb hby d9_12) rfl (l' := #[vr a, vi 0, vi 1, vr b1, vi 1, .unset]) rfl (XS.iload X9.here hx rfl (hb hby d9_14) rfl (XS.iloadN X9.here hx rfl (hb hby d9_16) rfl (kk)))) ?_
    show Dn p e below s _ _ _ (T9.setTop (mkF m 17 #[vr a, vi 0, vi 1, vr b1, vi 1, .unset] [(.int 1), (.int 1)]))
    have hc17 : (1 : Int32) = (1 : Int32) := by decide
    refine Dn.st (fun _ kk => XS.icmpYes X9.here hx rfl (pc0 := 17) (pc' := 57) rfl (hb hby d9_17) rfl (teq hc17).1 (by decide) (by decide) (XS.aloadN X9.here hx rfl (hb hby d9_57) rfl rfl (kk))) ?_
    show Dn p e below s _ _ _ (T9.setTop (mkF m 58 #[vr a, vi 0, vi 1, vr b1, vi 1, .unset] [(.ref b1)]))
    exact Dn.ret X9 hlk hx hret rfl (Or.inr (Or.inr (Or.inr (Or.inr ⟨rfl, rfl, rfl⟩)))) (hb hby d9_58) ⟨b1, k1, rfl, gz_b1, N9, Kt9, Or.inl ⟨VL9, hp9⟩⟩ (by decide) (by decide)

theorem d11_0 : decode jdk_52_method_15_code 0 = .ok (.iload_n 1, 1) := by decide +kernel
theorem d11_1 : decode jdk_52_method_15_code 1 = .ok (.aload_n 0, 1) := by decide +kernel
theorem d11_2 : decode jdk_52_method_15_code 2 = .ok (.arraylength, 1) := by decide +kernel
theorem d11_3 : decode jdk_52_method_15_code 3 = .ok (.isub, 1) := by decide +kernel
theorem d11_4 : decode jdk_52_method_15_code 4 = .ok (.bipush 31, 2) := by decide +kernel
theorem d11_6 : decode jdk_52_method_15_code 6 = .ok (.iushr, 1) := by decide +kernel
theorem d11_7 : decode jdk_52_method_15_code 7 = .ok (.i2b, 1) := by decide +kernel
theorem d11_8 : decode jdk_52_method_15_code 8 = .ok (.ireturn, 1) := by decide +kernel
theorem ef11_rmCl1_0 (m : MethodId) (x0 : Addr) (x1 : Int32) : entryFrame m #[(.ref x0), (.int x1)] 2 = mkF m 0 #[vr x0, vi x1] [] := by first | (simp [entryFrame, mkF, argsToLocals, Value.category]; done) | rfl
def QCl1_0 (Z : State) (b : Addr) (kb : ClassId) (ls : List Value) (h0 : Heap) (n0 : Nat) (v : Option Value) (h : Heap) (L : List Loc) : Prop := v = some (.int 0) ∧ Fr n0 L ∧ h = h0
theorem rmCl1_0 (l : Launch) (Z : State) (a0 : Array Value) (hw : ∀ d ∈ tables_1, d.before a0 Z = true) (ws : List Jvm.Cond) (b : Addr) (kb : ClassId) (ls : List Value) (h0 : Heap) (n0 : Nat) (Z0 : n0 ≤ h0.size) (Vb : Arv Z h0 b kb .byte 1 ls (.int 0)) :
    own_Met l on4 (Jvm.Cond.code on4 jdk_52_method_15_code 2 (some .byte) :: ws) orm25 #[(.ref b), (.int 1)] Z h0 (QCl1_0 Z b kb ls h0 n0) := by
  refine MetFree.of_bodySF (plainFor_of_name pn2) hisR ?_
  intro p e s m args below meth c s₁ Bd hml0 hP hK
  obtain ⟨rfl, hZ, hh⟩ := hP
  have hx := Bd.exec
  have hby := Bd.bytes
  have hlk : meth.locks = false := BodyLoose.notSynchronized Bd
  have hret := Bd.returns
  have hml : c.maxLocals = 2 := hml0
  have hown : s.vm.findClass "java/lang/StringUTF16" = some m.cls := findClass_of_methodNamed Bd.named
  have X0 : Stand p l e orm25 s m #[(.ref b), (.int 1)] below meth c s₁ [] 0 0 := Stand.of_body Bd
  have e0 : s₁.heap = h0 := by rw [← hh, Bd.state]; rfl
  have N0 := Fr.nil n0
  show Dn p e below s (QCl1_0 Z b kb ls h0 n0) orm25.cells orm25.slots (s₁.setTop (entryFrame m #[(.ref b), (.int 1)] 2))
  refine Dn.st (fun _ kk => castTop (ef11_rmCl1_0 m b (1 : Int32)) kk) ?_
  show Dn p e below s _ _ _ (s₁.setTop (mkF m 0 #[vr b, vi 1] []))
  refine Dn.st (fun _ kk => XS.iloadN X0.here hx rfl (hb hby d11_0) rfl (XS.aloadN X0.here hx rfl (hb hby d11_1) rfl rfl (kk))) ?_
  show Dn p e below s _ _ _ (s₁.setTop (mkF m 2 #[vr b, vi 1] [(.ref b), (.int 1)]))
  have Vc_b_2 := Vb
  obtain ⟨cl_b_2, Ar_b_2, q_b_2, S_b_2, N_b_2, H_b_2, G_b_2⟩ := Vc_b_2
  refine Dn.st (fun _ kk => X0.arraylength hx (by rw [e0]; exact Ar_b_2.1) (State.isArrayOf_alike hZ.alike Ar_b_2.2.1) (g := (mkF m 2 #[vr b, vi 1] [(.ref b), (.int 1)])) rfl rfl (hb hby d11_2) _ (kk)) ?_
  show Dn p e below s _ _ _ (s₁.setTop (mkF m 3 #[vr b, vi 1] [(.int cl_b_2.slots.size.toInt32), (.int 1)]))
  rw [len_of S_b_2 N_b_2]
  show Dn p e below s _ _ _ (s₁.setTop (mkF m 3 #[vr b, vi 1] [(.int 1), (.int 1)]))
  refine Dn.st (fun _ kk => XS.isub X0.here hx rfl (hb hby d11_3) rfl (XS.bipush X0.here hx rfl (hb hby d11_4) (XS.iushr X0.here hx rfl (hb hby d11_6) rfl (XS.i2b X0.here hx rfl (hb hby d11_7) rfl (kk))))) ?_
  show Dn p e below s _ _ _ (s₁.setTop (mkF m 8 #[vr b, vi 1] [(.int 0)]))
  exact Dn.ret X0 hlk hx hret rfl (Or.inl ⟨rfl, Or.inr (Or.inr (Or.inl rfl)), _, rfl⟩) (hb hby d11_8) (by rw [e0]; exact ⟨rfl, N0, rfl⟩) (by decide) (by decide)

theorem ef11_rmCl1_1 (m : MethodId) (x0 : Addr) (x1 : Int32) : entryFrame m #[(.ref x0), (.int x1)] 2 = mkF m 0 #[vr x0, vi x1] [] := by first | (simp [entryFrame, mkF, argsToLocals, Value.category]; done) | rfl
def QCl1_1 (Z : State) (b : Addr) (kb : ClassId) (ls : List Value) (h0 : Heap) (n0 : Nat) (v : Option Value) (h : Heap) (L : List Loc) : Prop := v = some (.int 1) ∧ Fr n0 L ∧ h = h0
theorem rmCl1_1 (l : Launch) (Z : State) (a0 : Array Value) (hw : ∀ d ∈ tables_1, d.before a0 Z = true) (ws : List Jvm.Cond) (b : Addr) (kb : ClassId) (ls : List Value) (h0 : Heap) (n0 : Nat) (Z0 : n0 ≤ h0.size) (Vb : Arv Z h0 b kb .byte 2 ls (.int 0)) :
    own_Met l on4 (Jvm.Cond.code on4 jdk_52_method_15_code 2 (some .byte) :: ws) orm25 #[(.ref b), (.int 1)] Z h0 (QCl1_1 Z b kb ls h0 n0) := by
  refine MetFree.of_bodySF (plainFor_of_name pn2) hisR ?_
  intro p e s m args below meth c s₁ Bd hml0 hP hK
  obtain ⟨rfl, hZ, hh⟩ := hP
  have hx := Bd.exec
  have hby := Bd.bytes
  have hlk : meth.locks = false := BodyLoose.notSynchronized Bd
  have hret := Bd.returns
  have hml : c.maxLocals = 2 := hml0
  have hown : s.vm.findClass "java/lang/StringUTF16" = some m.cls := findClass_of_methodNamed Bd.named
  have X0 : Stand p l e orm25 s m #[(.ref b), (.int 1)] below meth c s₁ [] 0 0 := Stand.of_body Bd
  have e0 : s₁.heap = h0 := by rw [← hh, Bd.state]; rfl
  have N0 := Fr.nil n0
  show Dn p e below s (QCl1_1 Z b kb ls h0 n0) orm25.cells orm25.slots (s₁.setTop (entryFrame m #[(.ref b), (.int 1)] 2))
  refine Dn.st (fun _ kk => castTop (ef11_rmCl1_1 m b (1 : Int32)) kk) ?_
  show Dn p e below s _ _ _ (s₁.setTop (mkF m 0 #[vr b, vi 1] []))
  refine Dn.st (fun _ kk => XS.iloadN X0.here hx rfl (hb hby d11_0) rfl (XS.aloadN X0.here hx rfl (hb hby d11_1) rfl rfl (kk))) ?_
  show Dn p e below s _ _ _ (s₁.setTop (mkF m 2 #[vr b, vi 1] [(.ref b), (.int 1)]))
  have Vc_b_2 := Vb
  obtain ⟨cl_b_2, Ar_b_2, q_b_2, S_b_2, N_b_2, H_b_2, G_b_2⟩ := Vc_b_2
  refine Dn.st (fun _ kk => X0.arraylength hx (by rw [e0]; exact Ar_b_2.1) (State.isArrayOf_alike hZ.alike Ar_b_2.2.1) (g := (mkF m 2 #[vr b, vi 1] [(.ref b), (.int 1)])) rfl rfl (hb hby d11_2) _ (kk)) ?_
  show Dn p e below s _ _ _ (s₁.setTop (mkF m 3 #[vr b, vi 1] [(.int cl_b_2.slots.size.toInt32), (.int 1)]))
  rw [len_of S_b_2 N_b_2]
  show Dn p e below s _ _ _ (s₁.setTop (mkF m 3 #[vr b, vi 1] [(.int 2), (.int 1)]))
  refine Dn.st (fun _ kk => XS.isub X0.here hx rfl (hb hby d11_3) rfl (XS.bipush X0.here hx rfl (hb hby d11_4) (XS.iushr X0.here hx rfl (hb hby d11_6) rfl (XS.i2b X0.here hx rfl (hb hby d11_7) rfl (kk))))) ?_
  show Dn p e below s _ _ _ (s₁.setTop (mkF m 8 #[vr b, vi 1] [(.int 1)]))
  exact Dn.ret X0 hlk hx hret rfl (Or.inl ⟨rfl, Or.inr (Or.inr (Or.inl rfl)), _, rfl⟩) (hb hby d11_8) (by rw [e0]; exact ⟨rfl, N0, rfl⟩) (by decide) (by decide)

theorem d3_27 : decode jdk_42_method_149_code 27 = .ok (.getstatic 38, 3) := by decide +kernel
theorem d3_30 : decode jdk_42_method_149_code 30 = .ok (.ifCond .eq 28, 3) := by decide +kernel
theorem d3_33 : decode jdk_42_method_149_code 33 = .ok (.aload_n 1, 1) := by decide +kernel
theorem d3_34 : decode jdk_42_method_149_code 34 = .ok (.iload_n 2, 1) := by decide +kernel
theorem d3_35 : decode jdk_42_method_149_code 35 = .ok (.iload_n 3, 1) := by decide +kernel
theorem d3_36 : decode jdk_42_method_149_code 36 = .ok (.invokestatic 177, 3) := by decide +kernel
theorem d3_39 : decode jdk_42_method_149_code 39 = .ok (.astore 5, 2) := by decide +kernel
theorem d3_41 : decode jdk_42_method_149_code 41 = .ok (.aload_n 0, 1) := by decide +kernel
theorem d3_42 : decode jdk_42_method_149_code 42 = .ok (.aload 5, 2) := by decide +kernel
theorem d3_44 : decode jdk_42_method_149_code 44 = .ok (.iload_n 3, 1) := by decide +kernel
theorem d3_45 : decode jdk_42_method_149_code 45 = .ok (.invokestatic 47, 3) := by decide +kernel
theorem d3_48 : decode jdk_42_method_149_code 48 = .ok (.putfield 15, 3) := by decide +kernel
theorem d3_51 : decode jdk_42_method_149_code 51 = .ok (.aload_n 0, 1) := by decide +kernel
theorem d3_52 : decode jdk_42_method_149_code 52 = .ok (.aload 5, 2) := by decide +kernel
theorem d3_54 : decode jdk_42_method_149_code 54 = .ok (.putfield 9, 3) := by decide +kernel
theorem d3_57 : decode jdk_42_method_149_code 57 = .ok (.return_, 1) := by decide +kernel
theorem pd13 : parseMethodDescriptor "([BI)B" = some ⟨[(.array .byte), .int], some .byte⟩ := by decide +kernel
theorem ef3_rmVc1 (m : MethodId) (x0 : Addr) (x1 : Addr) (x2 : Int32) (x3 : Int32) : entryFrame m #[(.ref x0), (.ref x1), (.int x2), (.int x3), .null] 6 = mkF m 0 #[vr x0, vr x1, vi x2, vi x3, .val .null, .unset] [] := by first | (simp [entryFrame, mkF, argsToLocals, Value.category]; done) | rfl
def QVc1 (Z : State) (a : Addr) (ar : Addr) (cs : Int32) (sf : Value) (ka : ClassId) (y0 : Int32) (h0 : Heap) (n0 : Nat) (v : Option Value) (h : Heap) (L : List Loc) : Prop := v = none ∧ Fr n0 L ∧ Keep h0 h [a] ∧ own_Str Z h a 1 2 [(.int (own_b y0))] [(.int (own_lo y0)), (.int (own_hi y0))] (y0.toInt ≤ 255 ∧ True)
theorem rmVc1 (l : Launch) (Z : State) (a0 : Array Value) (hw : ∀ d ∈ tables_1, d.before a0 Z = true) (ws : List Jvm.Cond) (a : Addr) (ar : Addr) (cs : Int32) (sf : Value) (ka : ClassId) (y0 : Int32) (h0 : Heap) (n0 : Nat) (Z0 : n0 ≤ h0.size) (hW : own_W Z h0 n0 cs sf) (ga : n0 ≤ a) (Ea : Exa Z h0 a "java/lang/String") (Fc : Fld Z h0 a "java/lang/String" "coder" "B" (.int 0)) (Fv : Fld Z h0 a "java/lang/String" "value" "[B" .null) (Vr : Arv Z h0 ar ka .char 1 [(.int y0)] (.int 0)) (hne : a ≠ ar) (hr0 : 0 ≤ y0.toInt ∧ y0.toInt ≤ 65535) :
    own_Met l on8 (Jvm.Cond.code on8 jdk_42_method_149_code 6 none :: ws) orm50 #[(.ref a), (.ref ar), (.int 0), (.int 1), .null] Z h0 (QVc1 Z a ar cs sf ka y0 h0 n0) := by
  refine MetFree.of_bodySF (plainFor_of_name pn0) hisR ?_
  intro p e s m args below meth c s₁ Bd hml0 hP hK
  obtain ⟨rfl, hZ, hh⟩ := hP
  have hx := Bd.exec
  have hby := Bd.bytes
  have hlk : meth.locks = false := BodyLoose.notSynchronized Bd
  have hret := Bd.returns
  have hml : c.maxLocals = 6 := hml0
  have hown : s.vm.findClass "java/lang/String" = some m.cls := findClass_of_methodNamed Bd.named
  have hnm := (name_of_methodNamed Bd.named Bd.method).1
  have X0 : Stand p l e orm50 s m #[(.ref a), (.ref ar), (.int 0), (.int 1), .null] below meth c s₁ [] 0 0 := Stand.of_body Bd
  have e0 : s₁.heap = h0 := by rw [← hh, Bd.state]; rfl
  have N0 := Fr.nil n0
  show Dn p e below s (QVc1 Z a ar cs sf ka y0 h0 n0) orm50.cells orm50.slots (s₁.setTop (entryFrame m #[(.ref a), (.ref ar), (.int 0), (.int 1), .null] 6))
  refine Dn.st (fun _ kk => castTop (ef3_rmVc1 m a ar (0 : Int32) (1 : Int32)) kk) ?_
  show Dn p e below s _ _ _ (s₁.setTop (mkF m 0 #[vr a, vr ar, vi 0, vi 1, .val .null, .unset] []))
  refine Dn.st (fun _ kk => XS.aloadN X0.here hx rfl (hb hby d3_0) rfl rfl (kk)) ?_
  show Dn p e below s _ _ _ (s₁.setTop (mkF m 1 #[vr a, vr ar, vi 0, vi 1, .val .null, .unset] [(.ref a)]))
  obtain ⟨T1, X1, e1, st1⟩ := initO X0 hx hZ hown (tw hw 17 rfl) (tw hw 18 rfl) (tw hw 19 rfl) e0 (g := (mkF m 1 #[vr a, vr ar, vi 0, vi 1, .val .null, .unset] [(.ref a)])) rfl (by rw [hml]; rfl) rfl (hb hby d3_1) (by decide) (W := 0) (by show 2 * 0 + _ ≤ _; exact Nat.le_of_eq rfl) (by decide)
  refine Dn.st st1 ?_
  show Dn p e below s _ _ _ (T1.setTop (mkF m 4 #[vr a, vr ar, vi 0, vi 1, .val .null, .unset] []))
  refine Dn.st (fun _ kk => XS.iloadN X1.here hx rfl (hb hby d3_4) rfl (kk)) ?_
  show Dn p e below s _ _ _ (T1.setTop (mkF m 5 #[vr a, vr ar, vi 0, vi 1, .val .null, .unset] [(.int 1)]))
  have hc5 : ¬ ((1 : Int32) = (0 : Int32)) := by decide
  refine Dn.st (fun _ kk => XS.ifYes X1.here hx rfl (pc0 := 5) (pc' := 27) rfl (hb hby d3_5) rfl ((if0 _ _).trans (feq hc5).2) (by decide) (by decide) (kk)) ?_
  show Dn p e below s _ _ _ (T1.setTop (mkF m 27 #[vr a, vr ar, vi 0, vi 1, .val .null, .unset] []))
  obtain ⟨T27, X27, e27, st27⟩ := getS2 X1 hx hZ hown (host := "") (Or.inl (tw hw 47 rfl)) Via.refl e1 hW.cst (g := (mkF m 27 #[vr a, vr ar, vi 0, vi 1, .val .null, .unset] [])) rfl (hb hby d3_27)
  refine Dn.st st27 ?_
  show Dn p e below s _ _ _ (T27.setTop (mkF m 30 #[vr a, vr ar, vi 0, vi 1, .val .null, .unset] [(.int cs)]))
  have hc30 : ¬ (cs = (0 : Int32)) := hW.cne
  refine Dn.st (fun _ kk => XS.ifNo X27.here hx rfl (hb hby d3_30) rfl ((if0 _ _).trans (feq hc30).1) (XS.aloadN X27.here hx rfl (hb hby d3_33) rfl rfl (XS.iloadN X27.here hx rfl (hb hby d3_34) rfl (XS.iloadN X27.here hx rfl (hb hby d3_35) rfl (kk))))) ?_
  show Dn p e below s _ _ _ (T27.setTop (mkF m 36 #[vr a, vr ar, vi 0, vi 1, .val .null, .unset] [(.int 1), (.int 0), (.ref ar)]))
  obtain ⟨_, _, ⟨T36, L36, k36, n36⟩, -, X36, ⟨Lc36, hQ36, l36, y36, z36⟩, st36⟩ := Jvm.LawKit.callS X27 hx (y := on12) hown (mvT hZ (tw hw 48 rfl)) (mvT hZ (tw hw 49 rfl)) (mvT hZ (tw hw 50 rfl)) (mvT hZ (tw hw 51 rfl)) (by decide) (backOf (W := 0) (rmC3_1 l Z a0 hw [] ar cs sf ka y0 h0 n0 Z0 hW Vr hr0) hZ (tw hw 51 rfl) (tw hw 50 rfl) (by decide) (by decide)) (g := (mkF m 36 #[vr a, vr ar, vi 0, vi 1, .val .null, .unset] [(.int 1), (.int 0), (.ref ar)])) rfl (by rw [hml]; rfl) (argsL := [(.ref ar), (.int 0), (.int 1)]) (rest := []) (lenOf pd12 rfl) rfl (by show 2 * 0 + _ ≤ _; exact Nat.le_of_eq rfl) (hb hby d3_36) (fun _ _ => ⟨rfl, e27, (by decide : 0 + 2 ≤ _), (by decide : 0 + 3 ≤ _)⟩)
  dsimp only [Pt.U, Pt.locs, Pt.cells, Pt.slots] at X36 l36 y36 z36 st36 hQ36
  subst l36 y36 z36
  obtain ⟨bb36, kb36, rfl, gz36, Nq36, K36, hq36⟩ := hQ36
  have N36 := Fr.app N0 Nq36
  refine Dn.st st36 ?_
  have ne_a_bb36 : a ≠ bb36 := Nat.ne_of_lt (Nat.lt_of_lt_of_le Ea.lt gz36)
  have ne_ar_bb36 : ar ≠ bb36 := Nat.ne_of_lt (Nat.lt_of_lt_of_le Vr.lt gz36)
  have gn_bb36 : n0 ≤ bb36 := Nat.le_trans Z0 gz36
  have gz_bb36 : h0.size ≤ bb36 := Nat.le_trans (Keep.refl h0 [a]).1 gz36
  have Wo36 := hW.keep K36 own_k0
  have E_a_36 := Ea.keep K36
  have F_a_coder_36 := Fc.keep K36 nin0
  have F_a_value_36 := Fv.keep K36 nin0
  have V_ar_36 := Vr.keep K36 nin0
  have Kt36 := Keep.trans (Keep.refl h0 [a]) K36 (by simp)
  have Z36 : n0 ≤ T36.heap.size := Nat.le_trans Z0 K36.1
  rcases hq36 with ⟨VL36, hp36⟩ | VU36
  · show Dn p e below s _ _ _ (T36.setTop (mkF m 39 #[vr a, vr ar, vi 0, vi 1, .val .null, .unset] [(.ref bb36)]))
    refine Dn.st (fun _ kk => XS.astore X36.here hx rfl (hb hby d3_39) rfl rfl (l' := #[vr a, vr ar, vi 0, vi 1, .val .null, vr bb36]) rfl (XS.aloadN X36.here hx rfl (hb hby d3_41) rfl rfl (XS.aload X36.here hx rfl (hb hby d3_42) rfl rfl (XS.iloadN X36.here hx rfl (hb hby d3_44) rfl (kk))))) ?_
    show Dn p e below s _ _ _ (T36.setTop (mkF m 45 #[vr a, vr ar, vi 0, vi 1, .val .null, vr bb36] [(.int 1), (.ref bb36), (.ref a)]))
    obtain ⟨_, _, ⟨T45, L45, k45, n45⟩, -, X45, ⟨Lc45, hQ45, l45, y45, z45⟩, st45⟩ := Jvm.LawKit.callS X36 hx (y := on4) hown (mvT hZ (tw hw 55 rfl)) (mvT hZ (tw hw 56 rfl)) (mvT hZ (tw hw 50 rfl)) (mvT hZ (tw hw 57 rfl)) (by decide) (backOf (W := 1) (rmCl1_0 l Z a0 hw [] bb36 kb36 [(.int (own_b y0))] T36.heap n0 Z36 VL36) hZ (tw hw 57 rfl) (tw hw 50 rfl) (by decide) (by decide)) (g := (mkF m 45 #[vr a, vr ar, vi 0, vi 1, .val .null, vr bb36] [(.int 1), (.ref bb36), (.ref a)])) rfl (by rw [hml]; rfl) (argsL := [(.ref bb36), (.int 1)]) (rest := [(.ref a)]) (lenOf pd13 rfl) rfl (by show 2 * 0 + _ ≤ _; exact Nat.le_of_eq rfl) (hb hby d3_45) (fun _ _ => ⟨rfl, rfl, (by decide : 2 + 0 ≤ _), (by decide : 3 + 0 ≤ _)⟩)
    dsimp only [Pt.U, Pt.locs, Pt.cells, Pt.slots] at X45 l45 y45 z45 st45 hQ45
    subst l45 y45 z45
    obtain ⟨rfl, Nq45, hh45⟩ := hQ45
    have N45 := Fr.app N36 Nq45
    refine Dn.st st45 ?_
    show Dn p e below s _ _ _ (T45.setTop (mkF m 48 #[vr a, vr ar, vi 0, vi 1, .val .null, vr bb36] [(.int 0), (.ref a)]))
    obtain ⟨T48, h48, X48, e48, W48, st48⟩ := putF X45 hx hZ hown (host := "") (Or.inl (tw hw 27 rfl)) Via.refl hh45 F_a_coder_36 E_a_36 (Or.inr ⟨(tw hw 23 rfl), rfl, hnm⟩) (tw hw 7 rfl) (ty := .byte) (by decide) rfl rfl (g := (mkF m 48 #[vr a, vr ar, vi 0, vi 1, .val .null, vr bb36] [(.int 0), (.ref a)])) rfl rfl (hb hby d3_48)
    have Wo48 := Wo36.wr W48 ga
    have E_a_48 := E_a_36.wr W48
    have F_a_value_48 := F_a_value_36.other W48 (Or.inr (slot_ne (Or.inr (tw hw 22 rfl)) (Or.inr (tw hw 23 rfl)) (by decide) (t := (.array .byte)) (t' := .byte) (by decide) (by decide)))
    have V_ar_48 := V_ar_36.other W48 (Ne.symm hne)
    have V_bb36_48 := VL36.other W48 (Ne.symm ne_a_bb36)
    have F_a_coder_48 := F_a_coder_36.same W48
    have K48 := Kt36.wr W48 (Or.inl (List.mem_of_getElem? (i := 0) rfl))
    have N48 := Fr.snoc X48 N45 ga
    have Z48 : n0 ≤ h48.size := Nat.le_trans Z36 (Keep.of_wr W48).1
    refine Dn.st st48 ?_
    show Dn p e below s _ _ _ (T48.setTop (mkF m 51 #[vr a, vr ar, vi 0, vi 1, .val .null, vr bb36] []))
    refine Dn.st (fun _ kk => XS.aloadN X48.here hx rfl (hb hby d3_51) rfl rfl (XS.aload X48.here hx rfl (hb hby d3_52) rfl rfl (kk))) ?_
    show Dn p e below s _ _ _ (T48.setTop (mkF m 54 #[vr a, vr ar, vi 0, vi 1, .val .null, vr bb36] [(.ref bb36), (.ref a)]))
    obtain ⟨T54, h54, X54, e54, W54, st54⟩ := putF X48 hx hZ hown (host := "") (Or.inl (tw hw 26 rfl)) Via.refl e48 F_a_value_48 E_a_48 (Or.inr ⟨(tw hw 22 rfl), rfl, hnm⟩) (tw hw 7 rfl) (ty := (.array .byte)) (by decide) rfl rfl (g := (mkF m 54 #[vr a, vr ar, vi 0, vi 1, .val .null, vr bb36] [(.ref bb36), (.ref a)])) rfl rfl (hb hby d3_54)
    have Wo54 := Wo48.wr W54 ga
    have E_a_54 := E_a_48.wr W54
    have F_a_coder_54 := F_a_coder_48.other W54 (Or.inr (slot_ne (Or.inr (tw hw 23 rfl)) (Or.inr (tw hw 22 rfl)) (by decide) (t := .byte) (t' := (.array .byte)) (by decide) (by decide)))
    have V_ar_54 := V_ar_48.other W54 (Ne.symm hne)
    have V_bb36_54 := V_bb36_48.other W54 (Ne.symm ne_a_bb36)
    have F_a_value_54 := F_a_value_48.same W54
    have K54 := K48.wr W54 (Or.inl (List.mem_of_getElem? (i := 0) rfl))
    have N54 := Fr.snoc X54 N48 ga
    have Z54 : n0 ≤ h54.size := Nat.le_trans Z48 (Keep.of_wr W54).1
    refine Dn.st st54 ?_
    show Dn p e below s _ _ _ (T54.setTop (mkF m 57 #[vr a, vr ar, vi 0, vi 1, .val .null, vr bb36] []))
    exact Dn.ret0 X54 hlk hx hret (hb hby d3_57) (by rw [e54]; exact ⟨rfl, N54, K54, E_a_54, Or.inl ⟨bb36, kb36, F_a_coder_54, F_a_value_54, V_bb36_54, hp36⟩⟩) (by decide) (by decide)
  · show Dn p e below s _ _ _ (T36.setTop (mkF m 39 #[vr a, vr ar, vi 0, vi 1, .val .null, .unset] [(.ref bb36)]))
    refine Dn.st (fun _ kk => XS.astore X36.here hx rfl (hb hby d3_39) rfl rfl (l' := #[vr a, vr ar, vi 0, vi 1, .val .null, vr bb36]) rfl (XS.aloadN X36.here hx rfl (hb hby d3_41) rfl rfl (XS.aload X36.here hx rfl (hb hby d3_42) rfl rfl (XS.iloadN X36.here hx rfl (hb hby d3_44) rfl (kk))))) ?_
    show Dn p e below s _ _ _ (T36.setTop (mkF m 45 #[vr a, vr ar, vi 0, vi 1, .val .null, vr bb36] [(.int 1), (.ref bb36), (.ref a)]))
    obtain ⟨_, _, ⟨T45, L45, k45, n45⟩, -, X45, ⟨Lc45, hQ45, l45, y45, z45⟩, st45⟩ := Jvm.LawKit.callS X36 hx (y := on4) hown (mvT hZ (tw hw 55 rfl)) (mvT hZ (tw hw 56 rfl)) (mvT hZ (tw hw 50 rfl)) (mvT hZ (tw hw 57 rfl)) (by decide) (backOf (W := 1) (rmCl1_1 l Z a0 hw [] bb36 kb36 [(.int (own_lo y0)), (.int (own_hi y0))] T36.heap n0 Z36 VU36) hZ (tw hw 57 rfl) (tw hw 50 rfl) (by decide) (by decide)) (g := (mkF m 45 #[vr a, vr ar, vi 0, vi 1, .val .null, vr bb36] [(.int 1), (.ref bb36), (.ref a)])) rfl (by rw [hml]; rfl) (argsL := [(.ref bb36), (.int 1)]) (rest := [(.ref a)]) (lenOf pd13 rfl) rfl (by show 2 * 0 + _ ≤ _; exact Nat.le_of_eq rfl) (hb hby d3_45) (fun _ _ => ⟨rfl, rfl, (by decide : 2 + 0 ≤ _), (by decide : 3 + 0 ≤ _)⟩)
    dsimp only [Pt.U, Pt.locs, Pt.cells, Pt.slots] at X45 l45 y45 z45 st45 hQ45
    subst l45 y45 z45
    obtain ⟨rfl, Nq45, hh45⟩ := hQ45
    have N45 := Fr.app N36 Nq45
    refine Dn.st st45 ?_
    show Dn p e below s _ _ _ (T45.setTop (mkF m 48 #[vr a, vr ar, vi 0, vi 1, .val .null, vr bb36] [(.int 1), (.ref a)]))
    obtain ⟨T48, h48, X48, e48, W48, st48⟩ := putF X45 hx hZ hown (host := "") (Or.inl (tw hw 27 rfl)) Via.refl hh45 F_a_coder_36 E_a_36 (Or.inr ⟨(tw hw 23 rfl), rfl, hnm⟩) (tw hw 7 rfl) (ty := .byte) (by decide) rfl rfl (g := (mkF m 48 #[vr a, vr ar, vi 0, vi 1, .val .null, vr bb36] [(.int 1), (.ref a)])) rfl rfl (hb hby d3_48)
    have Wo48 := Wo36.wr W48 ga
    have E_a_48 := E_a_36.wr W48
    have F_a_value_48 := F_a_value_36.other W48 (Or.inr (slot_ne (Or.inr (tw hw 22 rfl)) (Or.inr (tw hw 23 rfl)) (by decide) (t := (.array .byte)) (t' := .byte) (by decide) (by decide)))
    have V_ar_48 := V_ar_36.other W48 (Ne.symm hne)
    have V_bb36_48 := VU36.other W48 (Ne.symm ne_a_bb36)
    have F_a_coder_48 := F_a_coder_36.same W48
    have K48 := Kt36.wr W48 (Or.inl (List.mem_of_getElem? (i := 0) rfl))
    have N48 := Fr.snoc X48 N45 ga
    have Z48 : n0 ≤ h48.size := Nat.le_trans Z36 (Keep.of_wr W48).1
    refine Dn.st st48 ?_
    show Dn p e below s _ _ _ (T48.setTop (mkF m 51 #[vr a, vr ar, vi 0, vi 1, .val .null, vr bb36] []))
    refine Dn.st (fun _ kk => XS.aloadN X48.here hx rfl (hb hby d3_51) rfl rfl (XS.aload X48.here hx rfl (hb hby d3_52) rfl rfl (kk))) ?_
    show Dn p e below s _ _ _ (T48.setTop (mkF m 54 #[vr a, vr ar, vi 0, vi 1, .val .null, vr bb36] [(.ref bb36), (.ref a)]))
    obtain ⟨T54, h54, X54, e54, W54, st54⟩ := putF X48 hx hZ hown (host := "") (Or.inl (tw hw 26 rfl)) Via.refl e48 F_a_value_48 E_a_48 (Or.inr ⟨(tw hw 22 rfl), rfl, hnm⟩) (tw hw 7 rfl) (ty := (.array .byte)) (by decide) rfl rfl (g := (mkF m 54 #[vr a, vr ar, vi 0, vi 1, .val .null, vr bb36] [(.ref bb36), (.ref a)])) rfl rfl (hb hby d3_54)
    have Wo54 := Wo48.wr W54 ga
    have E_a_54 := E_a_48.wr W54
    have F_a_coder_54 := F_a_coder_48.other W54 (Or.inr (slot_ne (Or.inr (tw hw 23 rfl)) (Or.inr (tw hw 22 rfl)) (by decide) (t := .byte) (t' := (.array .byte)) (by decide) (by decide)))
    have V_ar_54 := V_ar_48.other W54 (Ne.symm hne)
    have V_bb36_54 := V_bb36_48.other W54 (Ne.symm ne_a_bb36)
    have F_a_value_54 := F_a_value_48.same W54
    have K54 := K48.wr W54 (Or.inl (List.mem_of_getElem? (i := 0) rfl))
    have N54 := Fr.snoc X54 N48 ga
    have Z54 : n0 ≤ h54.size := Nat.le_trans Z48 (Keep.of_wr W54).1
    refine Dn.st st54 ?_
    show Dn p e below s _ _ _ (T54.setTop (mkF m 57 #[vr a, vr ar, vi 0, vi 1, .val .null, vr bb36] []))
    exact Dn.ret0 X54 hlk hx hret (hb hby d3_57) (by rw [e54]; exact ⟨rfl, N54, K54, E_a_54, Or.inr ⟨bb36, kb36, F_a_coder_54, F_a_value_54, V_bb36_54⟩⟩) (by decide) (by decide)

theorem ef2_rmSc1 (m : MethodId) (x0 : Addr) (x1 : Addr) : entryFrame m #[(.ref x0), (.ref x1)] 2 = mkF m 0 #[vr x0, vr x1] [] := by first | (simp [entryFrame, mkF, argsToLocals, Value.category]; done) | rfl
def QSc1 (Z : State) (a : Addr) (ar : Addr) (cs : Int32) (sf : Value) (ka : ClassId) (y0 : Int32) (h0 : Heap) (n0 : Nat) (v : Option Value) (h : Heap) (L : List Loc) : Prop := v = none ∧ Fr n0 L ∧ Keep h0 h [a] ∧ own_Str Z h a 1 2 [(.int (own_b y0))] [(.int (own_lo y0)), (.int (own_hi y0))] (y0.toInt ≤ 255 ∧ True)
theorem rmSc1 (l : Launch) (Z : State) (a0 : Array Value) (hw : ∀ d ∈ tables_1, d.before a0 Z = true) (ws : List Jvm.Cond) (a : Addr) (ar : Addr) (cs : Int32) (sf : Value) (ka : ClassId) (y0 : Int32) (h0 : Heap) (n0 : Nat) (Z0 : n0 ≤ h0.size) (hW : own_W Z h0 n0 cs sf) (ga : n0 ≤ a) (Ea : Exa Z h0 a "java/lang/String") (Fc : Fld Z h0 a "java/lang/String" "coder" "B" (.int 0)) (Fv : Fld Z h0 a "java/lang/String" "value" "[B" .null) (Vr : Arv Z h0 ar ka .char 1 [(.int y0)] (.int 0)) (hne : a ≠ ar) (hr0 : 0 ≤ y0.toInt ∧ y0.toInt ≤ 65535) :
    own_Met l on9 (Jvm.Cond.code on9 jdk_42_method_3_code 2 none :: ws) orm43 #[(.ref a), (.ref ar)] Z h0 (QSc1 Z a ar cs sf ka y0 h0 n0) := by
  refine MetFree.of_bodySF (plainFor_of_name pn0) hisR ?_
  intro p e s m args below meth c s₁ Bd hml0 hP hK
  obtain ⟨rfl, hZ, hh⟩ := hP
  have hx := Bd.exec
  have hby := Bd.bytes
  have hlk : meth.locks = false := BodyLoose.notSynchronized Bd
  have hret := Bd.returns
  have hml : c.maxLocals = 2 := hml0
  have hown : s.vm.findClass "java/lang/String" = some m.cls := findClass_of_methodNamed Bd.named
  have X0 : Stand p l e orm43 s m #[(.ref a), (.ref ar)] below meth c s₁ [] 0 0 := Stand.of_body Bd
  have e0 : s₁.heap = h0 := by rw [← hh, Bd.state]; rfl
  have N0 := Fr.nil n0
  show Dn p e below s (QSc1 Z a ar cs sf ka y0 h0 n0) orm43.cells orm43.slots (s₁.setTop (entryFrame m #[(.ref a), (.ref ar)] 2))
  refine Dn.st (fun _ kk => castTop (ef2_rmSc1 m a ar) kk) ?_
  show Dn p e below s _ _ _ (s₁.setTop (mkF m 0 #[vr a, vr ar] []))
  refine Dn.st (fun _ kk => XS.aloadN X0.here hx rfl (hb hby d2_0) rfl rfl (XS.aloadN X0.here hx rfl (hb hby d2_1) rfl rfl (XS.iconst X0.here hx rfl (hb hby d2_2) (XS.aloadN X0.here hx rfl (hb hby d2_3) rfl rfl (kk))))) ?_
  show Dn p e below s _ _ _ (s₁.setTop (mkF m 4 #[vr a, vr ar] [(.ref ar), (.int 0), (.ref ar), (.ref a)]))
  have Vc_ar_4 := Vr
  obtain ⟨cl_ar_4, Ar_ar_4, q_ar_4, S_ar_4, N_ar_4, H_ar_4, G_ar_4⟩ := Vc_ar_4
  refine Dn.st (fun _ kk => X0.arraylength hx (by rw [e0]; exact Ar_ar_4.1) (State.isArrayOf_alike hZ.alike Ar_ar_4.2.1) (g := (mkF m 4 #[vr a, vr ar] [(.ref ar), (.int 0), (.ref ar), (.ref a)])) rfl rfl (hb hby d2_4) _ (kk)) ?_
  show Dn p e below s _ _ _ (s₁.setTop (mkF m 5 #[vr a, vr ar] [(.int cl_ar_4.slots.size.toInt32), (.int 0), (.ref ar), (.ref a)]))
  rw [len_of S_ar_4 N_ar_4]
  show Dn p e below s _ _ _ (s₁.setTop (mkF m 5 #[vr a, vr ar] [(.int 1), (.int 0), (.ref ar), (.ref a)]))
  refine Dn.st (fun _ kk => XS.aconstNull X0.here hx rfl (hb hby d2_5) (kk)) ?_
  show Dn p e below s _ _ _ (s₁.setTop (mkF m 6 #[vr a, vr ar] [.null, (.int 1), (.int 0), (.ref ar), (.ref a)]))
  obtain ⟨_, _, ⟨T6, L6, k6, n6⟩, -, X6, ⟨Lc6, hQ6, l6, y6, z6⟩, st6⟩ := X0.specialBack hx (y := on8) rfl hown (mvT hZ (tw hw 13 rfl)) (mvT hZ (tw hw 14 rfl)) (mvT hZ (tw hw 16 rfl)) (by decide) (backOf (W := 0) (rmVc1 l Z a0 hw [] a ar cs sf ka y0 h0 n0 Z0 hW ga Ea Fc Fv Vr hne hr0) hZ (tw hw 16 rfl) (tw hw 8 rfl) (by decide) (by decide)) (g := (mkF m 6 #[vr a, vr ar] [.null, (.int 1), (.int 0), (.ref ar), (.ref a)])) rfl (by rw [hml]; rfl) (Steps.refl _) (a := a) (argsL := [(.ref ar), (.int 0), (.int 1), .null]) (rest := []) (lenOf pd0 rfl) rfl (by show 2 * 0 + _ ≤ _; exact Nat.le_of_eq rfl) (hb hby d2_6) (fun _ _ => ⟨rfl, e0, (by decide : 0 + 2 ≤ _), (by decide : 0 + 3 ≤ _)⟩)
  dsimp only [Pt.U, Pt.locs, Pt.cells, Pt.slots] at X6 l6 y6 z6 st6 hQ6
  subst l6 y6 z6
  obtain ⟨rfl, Nq6, K6, S6⟩ := hQ6
  have N6 := Fr.app N0 Nq6
  refine Dn.tr st6 ?_
  show Dn p e below s _ _ _ (T6.setTop (mkF m 9 #[vr a, vr ar] []))
  exact Dn.ret0 X6 hlk hx hret (hb hby d2_9) ⟨rfl, N6, K6, S6⟩ (by decide) (by decide)

theorem ef21_rmNl2 (m : MethodId) (x0 : Int32) : entryFrame m #[(.int x0)] 1 = mkF m 0 #[vi x0] [] := by first | (simp [entryFrame, mkF, argsToLocals, Value.category]; done) | rfl
def QNl2 (Z : State)  (h0 : Heap) (n0 : Nat) (v : Option Value) (h : Heap) (L : List Loc) : Prop := v = some (.int 4) ∧ Fr n0 L ∧ h = h0
theorem rmNl2 (l : Launch) (Z : State) (a0 : Array Value) (hw : ∀ d ∈ tables_1, d.before a0 Z = true) (ws : List Jvm.Cond)  (h0 : Heap) (n0 : Nat) (Z0 : n0 ≤ h0.size) :
    own_Met l on15 (Jvm.Cond.code on15 jdk_52_method_3_code 1 (some .int) :: ws) orm25 #[(.int 2)] Z h0 (QNl2 Z  h0 n0) := by
  refine MetFree.of_bodySF (plainFor_of_name pn2) hisR ?_
  intro p e s m args below meth c s₁ Bd hml0 hP hK
  obtain ⟨rfl, hZ, hh⟩ := hP
  have hx := Bd.exec
  have hby := Bd.bytes
  have hlk : meth.locks = false := BodyLoose.notSynchronized Bd
  have hret := Bd.returns
  have hml : c.maxLocals = 1 := hml0
  have hown : s.vm.findClass "java/lang/StringUTF16" = some m.cls := findClass_of_methodNamed Bd.named
  have X0 : Stand p l e orm25 s m #[(.int 2)] below meth c s₁ [] 0 0 := Stand.of_body Bd
  have e0 : s₁.heap = h0 := by rw [← hh, Bd.state]; rfl
  have N0 := Fr.nil n0
  show Dn p e below s (QNl2 Z  h0 n0) orm25.cells orm25.slots (s₁.setTop (entryFrame m #[(.int 2)] 1))
  refine Dn.st (fun _ kk => castTop (ef21_rmNl2 m (2 : Int32)) kk) ?_
  show Dn p e below s _ _ _ (s₁.setTop (mkF m 0 #[vi 2] []))
  refine Dn.st (fun _ kk => XS.iloadN X0.here hx rfl (hb hby d21_0) rfl (kk)) ?_
  show Dn p e below s _ _ _ (s₁.setTop (mkF m 1 #[vi 2] [(.int 2)]))
  have hc1 : ¬ ((2 : Int32) < (0 : Int32)) := by decide
  refine Dn.st (fun _ kk => XS.ifYes X0.here hx rfl (pc0 := 1) (pc' := 12) rfl (hb hby d21_1) rfl ((if0 _ _).trans (flt hc1).2.1) (by decide) (by decide) (XS.iloadN X0.here hx rfl (hb hby d21_12) rfl (X0.ldcInt hx hown (mvT hZ (tw hw 95 rfl)) (g := (mkF m 13 #[vi 2] [(.int 2)])) rfl (hb hby d21_13) _ (kk)))) ?_
  show Dn p e below s _ _ _ (s₁.setTop (mkF m 15 #[vi 2] [(.int 1073741823), (.int 2)]))
  have hc15 : (2 : Int32) < (1073741823 : Int32) := by decide
  refine Dn.st (fun _ kk => XS.icmpYes X0.here hx rfl (pc0 := 15) (pc' := 55) rfl (hb hby d21_15) rfl (tlt hc15).1 (by decide) (by decide) (XS.iloadN X0.here hx rfl (hb hby d21_55) rfl (XS.iconst X0.here hx rfl (hb hby d21_56) (XS.ishl X0.here hx rfl (hb hby d21_57) rfl (kk))))) ?_
  show Dn p e below s _ _ _ (s₁.setTop (mkF m 58 #[vi 2] [(.int 4)]))
  exact Dn.ret X0 hlk hx hret rfl (Or.inl ⟨rfl, Or.inl rfl, _, rfl⟩) (hb hby d21_58) (by rw [e0]; exact ⟨rfl, N0, rfl⟩) (by decide) (by decide)

theorem ef20_rmNf2 (m : MethodId) (x0 : Int32) : entryFrame m #[(.int x0)] 1 = mkF m 0 #[vi x0] [] := by first | (simp [entryFrame, mkF, argsToLocals, Value.category]; done) | rfl
def QNf2 (Z : State)  (h0 : Heap) (n0 : Nat) (v : Option Value) (h : Heap) (L : List Loc) : Prop := ∃ (b : Addr) (kb : ClassId), v = some (.ref b) ∧ h0.size ≤ b ∧ Fr n0 L ∧ Keep h0 h [] ∧ Arv Z h b kb .byte 4 [(.int 0), (.int 0), (.int 0), (.int 0)] (.int 0)
theorem rmNf2 (l : Launch) (Z : State) (a0 : Array Value) (hw : ∀ d ∈ tables_1, d.before a0 Z = true) (ws : List Jvm.Cond)  (h0 : Heap) (n0 : Nat) (Z0 : n0 ≤ h0.size) :
    own_Met l on14 (Jvm.Cond.code on14 jdk_52_method_2_code 1 (some (.array .byte)) :: ws) orm38 #[(.int 2)] Z h0 (QNf2 Z  h0 n0) := by
  refine MetFree.of_bodySF (plainFor_of_name pn2) hisR ?_
  intro p e s m args below meth c s₁ Bd hml0 hP hK
  obtain ⟨rfl, hZ, hh⟩ := hP
  have hx := Bd.exec
  have hby := Bd.bytes
  have hlk : meth.locks = false := BodyLoose.notSynchronized Bd
  have hret := Bd.returns
  have hml : c.maxLocals = 1 := hml0
  have hown : s.vm.findClass "java/lang/StringUTF16" = some m.cls := findClass_of_methodNamed Bd.named
  have X0 : Stand p l e orm38 s m #[(.int 2)] below meth c s₁ [] 0 0 := Stand.of_body Bd
  have e0 : s₁.heap = h0 := by rw [← hh, Bd.state]; rfl
  have N0 := Fr.nil n0
  show Dn p e below s (QNf2 Z  h0 n0) orm38.cells orm38.slots (s₁.setTop (entryFrame m #[(.int 2)] 1))
  refine Dn.st (fun _ kk => castTop (ef20_rmNf2 m (2 : Int32)) kk) ?_
  show Dn p e below s _ _ _ (s₁.setTop (mkF m 0 #[vi 2] []))
  refine Dn.st (fun _ kk => XS.iloadN X0.here hx rfl (hb hby d20_0) rfl (kk)) ?_
  show Dn p e below s _ _ _ (s₁.setTop (mkF m 1 #[vi 2] [(.int 2)]))
  obtain ⟨_, _, ⟨T1, L1, k1, n1⟩, -, X1, ⟨Lc1, hQ1, l1, y1, z1⟩, st1⟩ := Jvm.LawKit.callS X0 hx (y := on15) hown (mvT hZ (tw hw 92 rfl)) (mvT hZ (tw hw 93 rfl)) (mvT hZ (tw hw 50 rfl)) (mvT hZ (tw hw 94 rfl)) (by decide) (backOf (W := 0) (rmNl2 l Z a0 hw []  h0 n0 Z0 ) hZ (tw hw 94 rfl) (tw hw 50 rfl) (by decide) (by decide)) (g := (mkF m 1 #[vi 2] [(.int 2)])) rfl (by rw [hml]; rfl) (argsL := [(.int 2)]) (rest := []) (lenOf pd8 rfl) rfl (by show 2 * 0 + _ ≤ _; exact Nat.le_of_eq rfl) (hb hby d20_1) (fun _ _ => ⟨rfl, e0, (by decide : 0 + 0 ≤ _), (by decide : 0 + 0 ≤ _)⟩)
  dsimp only [Pt.U, Pt.locs, Pt.cells, Pt.slots] at X1 l1 y1 z1 st1 hQ1
  subst l1 y1 z1
  obtain ⟨rfl, Nq1, hh1⟩ := hQ1
  have N1 := Fr.app N0 Nq1
  refine Dn.st st1 ?_
  show Dn p e below s _ _ _ (T1.setTop (mkF m 4 #[vi 2] [(.int 4)]))
  obtain ⟨T4, h4, k4, X4, e4, E4, A4, st4⟩ := newP X1 hx hZ (tw hw 21 rfl) hh1 (g := (mkF m 4 #[vi 2] [(.int 4)])) rfl (hb hby d20_4) rfl (by decide) (cap := 4) (by decide) (by decide) (by decide) (by decide)
  obtain ⟨b4, g4⟩ : ∃ z, z = h0.size := ⟨_, rfl⟩
  rw [← g4] at A4 st4
  have gz_b4 : h0.size ≤ b4 := Nat.le_trans (Keep.refl h0 []).1 (Nat.le_of_eq g4.symm)
  have K4 := (Keep.refl h0 []).ext E4
  have gn_b4 : n0 ≤ b4 := Nat.le_trans Z0 (Nat.le_of_eq g4.symm)
  have Z4 : n0 ≤ h4.size := Nat.le_trans Z0 E4.1
  have V_b4 : Arv Z h4 b4 k4 .byte (4 : Int32) [(.int 0), (.int 0), (.int 0), (.int 0)] (.int 0) := (Arv.new A4 (by decide)).pad (pad_rep [] (.int 0) 4)
  refine Dn.st st4 ?_
  show Dn p e below s _ _ _ (T4.setTop (mkF m 6 #[vi 2] [(.ref b4)]))
  exact Dn.ret X4 hlk hx hret rfl (Or.inr (Or.inr (Or.inr (Or.inr ⟨rfl, rfl, rfl⟩)))) (hb hby d20_6) (by rw [e4]; exact ⟨b4, k4, rfl, gz_b4, N1, K4, V_b4⟩) (by decide) (by decide)

theorem ef22_rmPu2_0 (m : MethodId) (x0 : Addr) (x1 : Int32) (x2 : Int32) : entryFrame m #[(.ref x0), (.int x1), (.int x2)] 3 = mkF m 0 #[vr x0, vi x1, vi x2] [] := by first | (simp [entryFrame, mkF, argsToLocals, Value.category]; done) | rfl
def QPu2_0 (Z : State) (b : Addr) (yy : Int32) (cs : Int32) (sf : Value) (kb : ClassId) (w0 : Int32) (w1 : Int32) (w2 : Int32) (w3 : Int32) (h0 : Heap) (n0 : Nat) (v : Option Value) (h : Heap) (L : List Loc) : Prop := v = none ∧ Fr n0 L ∧ Keep h0 h [b] ∧ Arv Z h b kb .byte 4 [(.int (own_lo yy)), (.int (own_hi yy)), (.int w2), (.int w3)] (.int 0)
theorem rmPu2_0 (l : Launch) (Z : State) (a0 : Array Value) (hw : ∀ d ∈ tables_1, d.before a0 Z = true) (ws : List Jvm.Cond) (b : Addr) (yy : Int32) (cs : Int32) (sf : Value) (kb : ClassId) (w0 : Int32) (w1 : Int32) (w2 : Int32) (w3 : Int32) (h0 : Heap) (n0 : Nat) (Z0 : n0 ≤ h0.size) (hW : own_W Z h0 n0 cs sf) (gb : n0 ≤ b) (Vb : Arv Z h0 b kb .byte 4 [(.int w0), (.int w1), (.int w2), (.int w3)] (.int 0)) :
    own_Met l on1 (Jvm.Cond.code on1 jdk_52_method_4_code 3 none :: ws) orm25 #[(.ref b), (.int 0), (.int yy)] Z h0 (QPu2_0 Z b yy cs sf kb w0 w1 w2 w3 h0 n0) := by
  refine MetFree.of_bodySF (plainFor_of_name pn2) hisR ?_
  intro p e s m args below meth c s₁ Bd hml0 hP hK
  obtain ⟨rfl, hZ, hh⟩ := hP
  have hx := Bd.exec
  have hby := Bd.bytes
  have hlk : meth.locks = false := BodyLoose.notSynchronized Bd
  have hret := Bd.returns
  have hml : c.maxLocals = 3 := hml0
  have hown : s.vm.findClass "java/lang/StringUTF16" = some m.cls := findClass_of_methodNamed Bd.named
  have X0 : Stand p l e orm25 s m #[(.ref b), (.int 0), (.int yy)] below meth c s₁ [] 0 0 := Stand.of_body Bd
  have e0 : s₁.heap = h0 := by rw [← hh, Bd.state]; rfl
  have N0 := Fr.nil n0
  show Dn p e below s (QPu2_0 Z b yy cs sf kb w0 w1 w2 w3 h0 n0) orm25.cells orm25.slots (s₁.setTop (entryFrame m #[(.ref b), (.int 0), (.int yy)] 3))
  refine Dn.st (fun _ kk => castTop (ef22_rmPu2_0 m b (0 : Int32) yy) kk) ?_
  show Dn p e below s _ _ _ (s₁.setTop (mkF m 0 #[vr b, vi 0, vi yy] []))
  obtain ⟨T0z, X0z, e0z, st0z⟩ := getS2 X0 hx hZ hown (host := "") (Or.inl (tw hw 99 rfl)) Via.refl e0 hW.adt (g := (mkF m 0 #[vr b, vi 0, vi yy] [])) rfl (hb hby d22_0)
  refine Dn.st st0z ?_
  show Dn p e below s _ _ _ (T0z.setTop (mkF m 3 #[vr b, vi 0, vi yy] [(.int 1)]))
  have hc3 : ¬ ((1 : Int32) = (0 : Int32)) := by decide
  refine Dn.st (fun _ kk => XS.ifYes X0z.here hx rfl (pc0 := 3) (pc' := 28) rfl (hb hby d22_3) rfl ((if0 _ _).trans (feq hc3).2) (by decide) (by decide) (XS.iloadN X0z.here hx rfl (hb hby d22_28) rfl (XS.iconst X0z.here hx rfl (hb hby d22_29) (XS.ishl X0z.here hx rfl (hb hby d22_30) rfl (XS.istoreN X0z.here hx rfl (hb hby d22_31) rfl (l' := #[vr b, vi 0, vi yy]) rfl (XS.aloadN X0z.here hx rfl (hb hby d22_32) rfl rfl (kk))))))) ?_
  show Dn p e below s _ _ _ (T0z.setTop (mkF m 33 #[vr b, vi 0, vi yy] [(.ref b)]))
  refine Dn.st (fun _ kk => XS.iloadN X0z.here hx rfl (hb hby d22_33) rfl (XS.iinc X0z.here hx rfl (hb hby d22_34) rfl (l' := #[vr b, vi 1, vi yy]) rfl (XS.iloadN X0z.here hx rfl (hb hby d22_37) rfl (kk)))) ?_
  show Dn p e below s _ _ _ (T0z.setTop (mkF m 38 #[vr b, vi 1, vi yy] [(.int yy), (.int 0), (.ref b)]))
  obtain ⟨T38, X38, e38, st38⟩ := getS2 X0z hx hZ hown (host := "") (Or.inl (tw hw 100 rfl)) Via.refl e0z hW.hit (g := (mkF m 38 #[vr b, vi 1, vi yy] [(.int yy), (.int 0), (.ref b)])) rfl (hb hby d22_38)
  refine Dn.st st38 ?_
  show Dn p e below s _ _ _ (T38.setTop (mkF m 41 #[vr b, vi 1, vi yy] [(.int 0), (.int yy), (.int 0), (.ref b)]))
  refine Dn.st (fun _ kk => XS.ishr X38.here hx rfl (hb hby d22_41) rfl (XS.i2b X38.here hx rfl (hb hby d22_42) rfl (kk))) ?_
  show Dn p e below s _ _ _ (T38.setTop (mkF m 43 #[vr b, vi 1, vi yy] [(.int ((yy >>> ((0 : Int32) &&& 31)).toInt8.toInt32)), (.int 0), (.ref b)]))
  have Vc_b_43 := Vb
  obtain ⟨cl_b_43, Ar_b_43, q_b_43, S_b_43, N_b_43, H_b_43, G_b_43⟩ := Vc_b_43
  have hin43 : ¬ ((0 : Int32) < 0 ∨ cl_b_43.slots.size ≤ ((0 : Int32)).toNatClampNeg) := inb_of S_b_43 ⟨by decide, by decide⟩
  obtain ⟨T43, h43, X43, e43, W43, st43⟩ := stB X38 hx hZ e38 Ar_b_43 (j := (0 : Int32)) hin43 (g := (mkF m 43 #[vr b, vi 1, vi yy] [(.int ((yy >>> ((0 : Int32) &&& 31)).toInt8.toInt32)), (.int 0), (.ref b)])) rfl rfl (hb hby d22_43)
  have Wo43 := hW.wr W43 gb
  have V_b_43 := Arv.set Ar_b_43 q_b_43 S_b_43 N_b_43 H_b_43 G_b_43 (fits_nar_byte _) W43 0 rfl (Nat.le_of_ble_eq_true rfl)
  have K43 := (Keep.refl h0 [b]).wr W43 (Or.inl (List.mem_of_getElem? (i := 0) rfl))
  have N43 := Fr.snoc X43 N0 gb
  have Z43 : n0 ≤ h43.size := Nat.le_trans Z0 (Keep.of_wr W43).1
  refine Dn.st st43 ?_
  show Dn p e below s _ _ _ (T43.setTop (mkF m 44 #[vr b, vi 1, vi yy] []))
  refine Dn.st (fun _ kk => XS.aloadN X43.here hx rfl (hb hby d22_44) rfl rfl (XS.iloadN X43.here hx rfl (hb hby d22_45) rfl (XS.iloadN X43.here hx rfl (hb hby d22_46) rfl (kk)))) ?_
  show Dn p e below s _ _ _ (T43.setTop (mkF m 47 #[vr b, vi 1, vi yy] [(.int yy), (.int 1), (.ref b)]))
  obtain ⟨T47, X47, e47, st47⟩ := getS2 X43 hx hZ hown (host := "") (Or.inl (tw hw 101 rfl)) Via.refl e43 Wo43.lot (g := (mkF m 47 #[vr b, vi 1, vi yy] [(.int yy), (.int 1), (.ref b)])) rfl (hb hby d22_47)
  refine Dn.st st47 ?_
  show Dn p e below s _ _ _ (T47.setTop (mkF m 50 #[vr b, vi 1, vi yy] [(.int 8), (.int yy), (.int 1), (.ref b)]))
  refine Dn.st (fun _ kk => XS.ishr X47.here hx rfl (hb hby d22_50) rfl (XS.i2b X47.here hx rfl (hb hby d22_51) rfl (kk))) ?_
  show Dn p e below s _ _ _ (T47.setTop (mkF m 52 #[vr b, vi 1, vi yy] [(.int ((yy >>> ((8 : Int32) &&& 31)).toInt8.toInt32)), (.int 1), (.ref b)]))
  have Vc_b_52 := V_b_43
  obtain ⟨cl_b_52, Ar_b_52, q_b_52, S_b_52, N_b_52, H_b_52, G_b_52⟩ := Vc_b_52
  have hin52 : ¬ ((1 : Int32) < 0 ∨ cl_b_52.slots.size ≤ ((1 : Int32)).toNatClampNeg) := inb_of S_b_52 ⟨by decide, by decide⟩
  obtain ⟨T52, h52, X52, e52, W52, st52⟩ := stB X47 hx hZ e47 Ar_b_52 (j := (1 : Int32)) hin52 (g := (mkF m 52 #[vr b, vi 1, vi yy] [(.int ((yy >>> ((8 : Int32) &&& 31)).toInt8.toInt32)), (.int 1), (.ref b)])) rfl rfl (hb hby d22_52)
  have Wo52 := Wo43.wr W52 gb
  have V_b_52 := Arv.set Ar_b_52 q_b_52 S_b_52 N_b_52 H_b_52 G_b_52 (fits_nar_byte _) W52 1 rfl (Nat.le_of_ble_eq_true rfl)
  have K52 := K43.wr W52 (Or.inl (List.mem_of_getElem? (i := 0) rfl))
  have N52 := Fr.snoc X52 N43 gb
  have Z52 : n0 ≤ h52.size := Nat.le_trans Z43 (Keep.of_wr W52).1
  refine Dn.st st52 ?_
  show Dn p e below s _ _ _ (T52.setTop (mkF m 53 #[vr b, vi 1, vi yy] []))
  exact Dn.ret0 X52 hlk hx hret (hb hby d22_53) (by rw [e52]; exact ⟨rfl, N52, K52, V_b_52⟩) (by decide) (by decide)

theorem ef22_rmPu2_1 (m : MethodId) (x0 : Addr) (x1 : Int32) (x2 : Int32) : entryFrame m #[(.ref x0), (.int x1), (.int x2)] 3 = mkF m 0 #[vr x0, vi x1, vi x2] [] := by first | (simp [entryFrame, mkF, argsToLocals, Value.category]; done) | rfl
def QPu2_1 (Z : State) (b : Addr) (yy : Int32) (cs : Int32) (sf : Value) (kb : ClassId) (w0 : Int32) (w1 : Int32) (w2 : Int32) (w3 : Int32) (h0 : Heap) (n0 : Nat) (v : Option Value) (h : Heap) (L : List Loc) : Prop := v = none ∧ Fr n0 L ∧ Keep h0 h [b] ∧ Arv Z h b kb .byte 4 [(.int w0), (.int w1), (.int (own_lo yy)), (.int (own_hi yy))] (.int 0)
theorem rmPu2_1 (l : Launch) (Z : State) (a0 : Array Value) (hw : ∀ d ∈ tables_1, d.before a0 Z = true) (ws : List Jvm.Cond) (b : Addr) (yy : Int32) (cs : Int32) (sf : Value) (kb : ClassId) (w0 : Int32) (w1 : Int32) (w2 : Int32) (w3 : Int32) (h0 : Heap) (n0 : Nat) (Z0 : n0 ≤ h0.size) (hW : own_W Z h0 n0 cs sf) (gb : n0 ≤ b) (Vb : Arv Z h0 b kb .byte 4 [(.int w0), (.int w1), (.int w2), (.int w3)] (.int 0)) :
    own_Met l on1 (Jvm.Cond.code on1 jdk_52_method_4_code 3 none :: ws) orm25 #[(.ref b), (.int 1), (.int yy)] Z h0 (QPu2_1 Z b yy cs sf kb w0 w1 w2 w3 h0 n0) := by
  refine MetFree.of_bodySF (plainFor_of_name pn2) hisR ?_
  intro p e s m args below meth c s₁ Bd hml0 hP hK
  obtain ⟨rfl, hZ, hh⟩ := hP
  have hx := Bd.exec
  have hby := Bd.bytes
  have hlk : meth.locks = false := BodyLoose.notSynchronized Bd
  have hret := Bd.returns
  have hml : c.maxLocals = 3 := hml0
  have hown : s.vm.findClass "java/lang/StringUTF16" = some m.cls := findClass_of_methodNamed Bd.named
  have X0 : Stand p l e orm25 s m #[(.ref b), (.int 1), (.int yy)] below meth c s₁ [] 0 0 := Stand.of_body Bd
  have e0 : s₁.heap = h0 := by rw [← hh, Bd.state]; rfl
  have N0 := Fr.nil n0
  show Dn p e below s (QPu2_1 Z b yy cs sf kb w0 w1 w2 w3 h0 n0) orm25.cells orm25.slots (s₁.setTop (entryFrame m #[(.ref b), (.int 1), (.int yy)] 3))
  refine Dn.st (fun _ kk => castTop (ef22_rmPu2_1 m b (1 : Int32) yy) kk) ?_
  show Dn p e below s _ _ _ (s₁.setTop (mkF m 0 #[vr b, vi 1, vi yy] []))
  obtain ⟨T0z, X0z, e0z, st0z⟩ := getS2 X0 hx hZ hown (host := "") (Or.inl (tw hw 99 rfl)) Via.refl e0 hW.adt (g := (mkF m 0 #[vr b, vi 1, vi yy] [])) rfl (hb hby d22_0)
  refine Dn.st st0z ?_
  show Dn p e below s _ _ _ (T0z.setTop (mkF m 3 #[vr b, vi 1, vi yy] [(.int 1)]))
  have hc3 : ¬ ((1 : Int32) = (0 : Int32)) := by decide
  refine Dn.st (fun _ kk => XS.ifYes X0z.here hx rfl (pc0 := 3) (pc' := 28) rfl (hb hby d22_3) rfl ((if0 _ _).trans (feq hc3).2) (by decide) (by decide) (XS.iloadN X0z.here hx rfl (hb hby d22_28) rfl (XS.iconst X0z.here hx rfl (hb hby d22_29) (XS.ishl X0z.here hx rfl (hb hby d22_30) rfl (XS.istoreN X0z.here hx rfl (hb hby d22_31) rfl (l' := #[vr b, vi 2, vi yy]) rfl (XS.aloadN X0z.here hx rfl (hb hby d22_32) rfl rfl (kk))))))) ?_
  show Dn p e below s _ _ _ (T0z.setTop (mkF m 33 #[vr b, vi 2, vi yy] [(.ref b)]))
  refine Dn.st (fun _ kk => XS.iloadN X0z.here hx rfl (hb hby d22_33) rfl (XS.iinc X0z.here hx rfl (hb hby d22_34) rfl (l' := #[vr b, vi 3, vi yy]) rfl (XS.iloadN X0z.here hx rfl (hb hby d22_37) rfl (kk)))) ?_
  show Dn p e below s _ _ _ (T0z.setTop (mkF m 38 #[vr b, vi 3, vi yy] [(.int yy), (.int 2), (.ref b)]))
  obtain ⟨T38, X38, e38, st38⟩ := getS2 X0z hx hZ hown (host := "") (Or.inl (tw hw 100 rfl)) Via.refl e0z hW.hit (g := (mkF m 38 #[vr b, vi 3, vi yy] [(.int yy), (.int 2), (.ref b)])) rfl (hb hby d22_38)
  refine Dn.st st38 ?_
  show Dn p e below s _ _ _ (T38.setTop (mkF m 41 #[vr b, vi 3, vi yy] [(.int 0), (.int yy), (.int 2), (.ref b)]))
  refine Dn.st (fun _ kk => XS.ishr X38.here hx rfl (hb hby d22_41) rfl (XS.i2b X38.here hx rfl (hb hby d22_42) rfl (kk))) ?_
  show Dn p e below s _ _ _ (T38.setTop (mkF m 43 #[vr b, vi 3, vi yy] [(.int ((yy >>> ((0 : Int32) &&& 31)).toInt8.toInt32)), (.int 2), (.ref b)]))
  have Vc_b_43 := Vb
  obtain ⟨cl_b_43, Ar_b_43, q_b_43, S_b_43, N_b_43, H_b_43, G_b_43⟩ := Vc_b_43
  have hin43 : ¬ ((2 : Int32) < 0 ∨ cl_b_43.slots.size ≤ ((2 : Int32)).toNatClampNeg) := inb_of S_b_43 ⟨by decide, by decide⟩
  obtain ⟨T43, h43, X43, e43, W43, st43⟩ := stB X38 hx hZ e38 Ar_b_43 (j := (2 : Int32)) hin43 (g := (mkF m 43 #[vr b, vi 3, vi yy] [(.int ((yy >>> ((0 : Int32) &&& 31)).toInt8.toInt32)), (.int 2), (.ref b)])) rfl rfl (hb hby d22_43)
  have Wo43 := hW.wr W43 gb
  have V_b_43 := Arv.set Ar_b_43 q_b_43 S_b_43 N_b_43 H_b_43 G_b_43 (fits_nar_byte _) W43 2 rfl (Nat.le_of_ble_eq_true rfl)
  have K43 := (Keep.refl h0 [b]).wr W43 (Or.inl (List.mem_of_getElem? (i := 0) rfl))
  have N43 := Fr.snoc X43 N0 gb
  have Z43 : n0 ≤ h43.size := Nat.le_trans Z0 (Keep.of_wr W43).1
  refine Dn.st st43 ?_
  show Dn p e below s _ _ _ (T43.setTop (mkF m 44 #[vr b, vi 3, vi yy] []))
  refine Dn.st (fun _ kk => XS.aloadN X43.here hx rfl (hb hby d22_44) rfl rfl (XS.iloadN X43.here hx rfl (hb hby d22_45) rfl (XS.iloadN X43.here hx rfl (hb hby d22_46) rfl (kk)))) ?_
  show Dn p e below s _ _ _ (T43.setTop (mkF m 47 #[vr b, vi 3, vi yy] [(.int yy), (.int 3), (.ref b)]))
  obtain ⟨T47, X47, e47, st47⟩ := getS2 X43 hx hZ hown (host := "") (Or.inl (tw hw 101 rfl)) Via.refl e43 Wo43.lot (g := (mkF m 47 #[vr b, vi 3, vi yy] [(.int yy), (.int 3), (.ref b)])) rfl (hb hby d22_47)
  refine Dn.st st47 ?_
  show Dn p e below s _ _ _ (T47.setTop (mkF m 50 #[vr b, vi 3, vi yy] [(.int 8), (.int yy), (.int 3), (.ref b)]))
  refine Dn.st (fun _ kk => XS.ishr X47.here hx rfl (hb hby d22_50) rfl (XS.i2b X47.here hx rfl (hb hby d22_51) rfl (kk))) ?_
  show Dn p e below s _ _ _ (T47.setTop (mkF m 52 #[vr b, vi 3, vi yy] [(.int ((yy >>> ((8 : Int32) &&& 31)).toInt8.toInt32)), (.int 3), (.ref b)]))
  have Vc_b_52 := V_b_43
  obtain ⟨cl_b_52, Ar_b_52, q_b_52, S_b_52, N_b_52, H_b_52, G_b_52⟩ := Vc_b_52
  have hin52 : ¬ ((3 : Int32) < 0 ∨ cl_b_52.slots.size ≤ ((3 : Int32)).toNatClampNeg) := inb_of S_b_52 ⟨by decide, by decide⟩
  obtain ⟨T52, h52, X52, e52, W52, st52⟩ := stB X47 hx hZ e47 Ar_b_52 (j := (3 : Int32)) hin52 (g := (mkF m 52 #[vr b, vi 3, vi yy] [(.int ((yy >>> ((8 : Int32) &&& 31)).toInt8.toInt32)), (.int 3), (.ref b)])) rfl rfl (hb hby d22_52)
  have Wo52 := Wo43.wr W52 gb
  have V_b_52 := Arv.set Ar_b_52 q_b_52 S_b_52 N_b_52 H_b_52 G_b_52 (fits_nar_byte _) W52 3 rfl (Nat.le_of_ble_eq_true rfl)
  have K52 := K43.wr W52 (Or.inl (List.mem_of_getElem? (i := 0) rfl))
  have N52 := Fr.snoc X52 N43 gb
  have Z52 : n0 ≤ h52.size := Nat.le_trans Z43 (Keep.of_wr W52).1
  refine Dn.st st52 ?_
  show Dn p e below s _ _ _ (T52.setTop (mkF m 53 #[vr b, vi 3, vi yy] []))
  exact Dn.ret0 X52 hlk hx hret (hb hby d22_53) (by rw [e52]; exact ⟨rfl, N52, K52, V_b_52⟩) (by decide) (by decide)

theorem ef19_rmTb2 (m : MethodId) (x0 : Addr) (x1 : Int32) (x2 : Int32) : entryFrame m #[(.ref x0), (.int x1), (.int x2)] 5 = mkF m 0 #[vr x0, vi x1, vi x2, .unset, .unset] [] := by first | (simp [entryFrame, mkF, argsToLocals, Value.category]; done) | rfl
def QTb2 (Z : State) (a : Addr) (cs : Int32) (sf : Value) (ka : ClassId) (y0 : Int32) (y1 : Int32) (h0 : Heap) (n0 : Nat) (v : Option Value) (h : Heap) (L : List Loc) : Prop := ∃ (b : Addr) (kb : ClassId), v = some (.ref b) ∧ h0.size ≤ b ∧ Fr n0 L ∧ Keep h0 h [] ∧ Arv Z h b kb .byte 4 [(.int (own_lo y0)), (.int (own_hi y0)), (.int (own_lo y1)), (.int (own_hi y1))] (.int 0)
theorem rmTb2 (l : Launch) (Z : State) (a0 : Array Value) (hw : ∀ d ∈ tables_1, d.before a0 Z = true) (ws : List Jvm.Cond) (a : Addr) (cs : Int32) (sf : Value) (ka : ClassId) (y0 : Int32) (y1 : Int32) (h0 : Heap) (n0 : Nat) (Z0 : n0 ≤ h0.size) (hW : own_W Z h0 n0 cs sf) (Va : Arv Z h0 a ka .char 2 [(.int y0), (.int y1)] (.int 0)) :
    own_Met l on7 (Jvm.Cond.code on7 jdk_52_method_14_code 5 (some (.array .byte)) :: ws) orm53 #[(.ref a), (.int 0), (.int 2)] Z h0 (QTb2 Z a cs sf ka y0 y1 h0 n0) := by
  refine MetFree.of_bodySF (plainFor_of_name pn2) hisR ?_
  intro p e s m args below meth c s₁ Bd hml0 hP hK
  obtain ⟨rfl, hZ, hh⟩ := hP
  have hx := Bd.exec
  have hby := Bd.bytes
  have hlk : meth.locks = false := BodyLoose.notSynchronized Bd
  have hret := Bd.returns
  have hml : c.maxLocals = 5 := hml0
  have hown : s.vm.findClass "java/lang/StringUTF16" = some m.cls := findClass_of_methodNamed Bd.named
  have X0 : Stand p l e orm53 s m #[(.ref a), (.int 0), (.int 2)] below meth c s₁ [] 0 0 := Stand.of_body Bd
  have e0 : s₁.heap = h0 := by rw [← hh, Bd.state]; rfl
  have N0 := Fr.nil n0
  show Dn p e below s (QTb2 Z a cs sf ka y0 y1 h0 n0) orm53.cells orm53.slots (s₁.setTop (entryFrame m #[(.ref a), (.int 0), (.int 2)] 5))
  refine Dn.st (fun _ kk => castTop (ef19_rmTb2 m a (0 : Int32) (2 : Int32)) kk) ?_
  show Dn p e below s _ _ _ (s₁.setTop (mkF m 0 #[vr a, vi 0, vi 2, .unset, .unset] []))
  refine Dn.st (fun _ kk => XS.iloadN X0.here hx rfl (hb hby d19_0) rfl (kk)) ?_
  show Dn p e below s _ _ _ (s₁.setTop (mkF m 1 #[vr a, vi 0, vi 2, .unset, .unset] [(.int 2)]))
  obtain ⟨_, _, ⟨T1, L1, k1, n1⟩, -, X1, ⟨Lc1, hQ1, l1, y1, z1⟩, st1⟩ := Jvm.LawKit.callS X0 hx (y := on14) hown (mvT hZ (tw hw 89 rfl)) (mvT hZ (tw hw 90 rfl)) (mvT hZ (tw hw 50 rfl)) (mvT hZ (tw hw 91 rfl)) (by decide) (backOf (W := 0) (rmNf2 l Z a0 hw []  h0 n0 Z0 ) hZ (tw hw 91 rfl) (tw hw 50 rfl) (by decide) (by decide)) (g := (mkF m 1 #[vr a, vi 0, vi 2, .unset, .unset] [(.int 2)])) rfl (by rw [hml]; rfl) (argsL := [(.int 2)]) (rest := []) (lenOf pd9 rfl) rfl (by show 2 * 0 + _ ≤ _; exact Nat.le_of_eq rfl) (hb hby d19_1) (fun _ _ => ⟨rfl, e0, (by decide : 0 + 1 ≤ _), (by decide : 0 + 4 ≤ _)⟩)
  dsimp only [Pt.U, Pt.locs, Pt.cells, Pt.slots] at X1 l1 y1 z1 st1 hQ1
  subst l1 y1 z1
  obtain ⟨bb1, kb1, rfl, gz1, Nq1, K1, V_bb1⟩ := hQ1
  have N1 := Fr.app N0 Nq1
  refine Dn.st st1 ?_
  have ne_a_bb1 : a ≠ bb1 := Nat.ne_of_lt (Nat.lt_of_lt_of_le Va.lt gz1)
  have gn_bb1 : n0 ≤ bb1 := Nat.le_trans Z0 gz1
  have gz_bb1 : h0.size ≤ bb1 := Nat.le_trans (Keep.refl h0 []).1 gz1
  have Wo1 := hW.keep K1 own_k0
  have V_a_1 := Va.keep K1 nin0
  have Kt1 := Keep.trans (Keep.refl h0 []) K1 (by simp)
  have Z1 : n0 ≤ T1.heap.size := Nat.le_trans Z0 K1.1
  show Dn p e below s _ _ _ (T1.setTop (mkF m 4 #[vr a, vi 0, vi 2, .unset, .unset] [(.ref bb1)]))
  refine Dn.st (fun _ kk => XS.astoreN X1.here hx rfl (hb hby d19_4) rfl rfl (l' := #[vr a, vi 0, vi 2, vr bb1, .unset]) rfl (XS.iconst X1.here hx rfl (hb hby d19_5) (XS.istore X1.here hx rfl (hb hby d19_6) rfl (l' := #[vr a, vi 0, vi 2, vr bb1, vi 0]) rfl (XS.iload X1.here hx rfl (hb hby d19_8) rfl (XS.iloadN X1.here hx rfl (hb hby d19_10) rfl (kk)))))) ?_
  show Dn p e below s _ _ _ (T1.setTop (mkF m 11 #[vr a, vi 0, vi 2, vr bb1, vi 0] [(.int 2), (.int 0)]))
  have hc11 : (0 : Int32) < (2 : Int32) := by decide
  refine Dn.st (fun _ kk => XS.icmpNo X1.here hx rfl (hb hby d19_11) rfl (tlt hc11).2.1 (XS.aloadN X1.here hx rfl (hb hby d19_14) rfl rfl (XS.iload X1.here hx rfl (hb hby d19_15) rfl (XS.aloadN X1.here hx rfl (hb hby d19_17) rfl rfl (XS.iloadN X1.here hx rfl (hb hby d19_18) rfl (kk)))))) ?_
  show Dn p e below s _ _ _ (T1.setTop (mkF m 19 #[vr a, vi 0, vi 2, vr bb1, vi 0] [(.int 0), (.ref a), (.int 0), (.ref bb1)]))
  have Vc_a_19 := V_a_1
  obtain ⟨cl_a_19, Ar_a_19, q_a_19, S_a_19, N_a_19, H_a_19, G_a_19⟩ := Vc_a_19
  have hin19 : ¬ ((0 : Int32) < 0 ∨ cl_a_19.slots.size ≤ ((0 : Int32)).toNatClampNeg) := inb_of S_a_19 ⟨by decide, by decide⟩
  have hat19 : cl_a_19.slots[((0 : Int32)).toNatClampNeg]? = some (.int y0) := H_a_19.at hin19 rfl
  refine Dn.st (fun _ kk => X1.caload hx (j := (0 : Int32)) (v := (.int y0)) Ar_a_19.1 (State.isArrayOf_alike hZ.alike Ar_a_19.2.1) Ar_a_19.2.2 hin19 hat19 (g := (mkF m 19 #[vr a, vi 0, vi 2, vr bb1, vi 0] [(.int 0), (.ref a), (.int 0), (.ref bb1)])) rfl rfl (hb hby d19_19) _ (kk)) ?_
  show Dn p e below s _ _ _ (T1.setTop (mkF m 20 #[vr a, vi 0, vi 2, vr bb1, vi 0] [(.int y0), (.int 0), (.ref bb1)]))
  obtain ⟨_, _, ⟨T20, L20, k20, n20⟩, -, X20, ⟨Lc20, hQ20, l20, y20, z20⟩, st20⟩ := Jvm.LawKit.callS X1 hx (y := on1) hown (mvT hZ (tw hw 96 rfl)) (mvT hZ (tw hw 97 rfl)) (mvT hZ (tw hw 50 rfl)) (mvT hZ (tw hw 98 rfl)) (by decide) (backOf (W := 0) (rmPu2_0 l Z a0 hw [] bb1 y0 cs sf kb1 (0 : Int32) (0 : Int32) (0 : Int32) (0 : Int32) T1.heap n0 Z1 Wo1 gn_bb1 V_bb1) hZ (tw hw 98 rfl) (tw hw 50 rfl) (by decide) (by decide)) (g := (mkF m 20 #[vr a, vi 0, vi 2, vr bb1, vi 0] [(.int y0), (.int 0), (.ref bb1)])) rfl (by rw [hml]; rfl) (argsL := [(.ref bb1), (.int 0), (.int y0)]) (rest := []) (lenOf pd10 rfl) rfl (by show 2 * 0 + _ ≤ _; exact Nat.le_of_eq rfl) (hb hby d19_20) (fun _ _ => ⟨rfl, rfl, (by decide : 1 + 0 ≤ _), (by decide : 4 + 0 ≤ _)⟩)
  dsimp only [Pt.U, Pt.locs, Pt.cells, Pt.slots] at X20 l20 y20 z20 st20 hQ20
  subst l20 y20 z20
  obtain ⟨rfl, Nq20, K20, V20⟩ := hQ20
  have N20 := Fr.app N1 Nq20
  refine Dn.st st20 ?_
  have Wo20 := Wo1.keep K20 (own_k1 gn_bb1)
  have V_a_20 := V_a_1.keep K20 (ninS ne_a_bb1 nin0)
  have Kt20 := Keep.trans Kt1 K20 (fun x hx => Or.inr ((List.mem_singleton.mp hx) ▸ gz_bb1))
  have Z20 : n0 ≤ T20.heap.size := Nat.le_trans Z1 K20.1
  show Dn p e below s _ _ _ (T20.setTop (mkF m 23 #[vr a, vi 0, vi 2, vr bb1, vi 0] []))
  refine Dn.st (fun _ kk => XS.iinc X20.here hx rfl (hb hby d19_23) rfl (l' := #[vr a, vi 1, vi 2, vr bb1, vi 0]) rfl (XS.iinc X20.here hx rfl (hb hby d19_26) rfl (l' := #[vr a, vi 1, vi 2, vr bb1, vi 1]) rfl (XS.goto X20.here hx rfl (pc0 := 29) (pc' := 8) rfl (hb hby d19_29) (by decide) (by decide) (XS.iload X20.here hx rfl (hb hby d19_8) rfl (XS.iloadN X20.here hx rfl (hb hby d19_10) rfl (kk)))))) ?_
  show Dn p e below s _ _ _ (T20.setTop (mkF m 11 #[vr a, vi 1, vi 2, vr bb1, vi 1] [(.int 2), (.int 1)]))
  have hc11_2 : (1 : Int32) < (2 : Int32) := by decide
  refine Dn.st (fun _ kk => XS.icmpNo X20.here hx rfl (hb hby d19_11) rfl (tlt hc11_2).2.1 (XS.aloadN X20.here hx rfl (hb hby d19_14) rfl rfl (XS.iload X20.here hx rfl (hb hby d19_15) rfl (XS.aloadN X20.here hx rfl (hb hby d19_17) rfl rfl (XS.iloadN X20.here hx rfl (hb hby d19_18) rfl (kk)))))) ?_
  show Dn p e below s _ _ _ (T20.setTop (mkF m 19 #[vr a, vi 1, vi 2, vr bb1, vi 1] [(.int 1), (.ref a), (.int 1), (.ref bb1)]))
  have Vc_a_19_2 := V_a_20
  obtain ⟨cl_a_19_2, Ar_a_19_2, q_a_19_2, S_a_19_2, N_a_19_2, H_a_19_2, G_a_19_2⟩ := Vc_a_19_2
  have hin19_2 : ¬ ((1 : Int32) < 0 ∨ cl_a_19_2.slots.size ≤ ((1 : Int32)).toNatClampNeg) := inb_of S_a_19_2 ⟨by decide, by decide⟩
  have hat19_2 : cl_a_19_2.slots[((1 : Int32)).toNatClampNeg]? = some (.int y1) := H_a_19_2.at hin19_2 rfl
  refine Dn.st (fun _ kk => X20.caload hx (j := (1 : Int32)) (v := (.int y1)) Ar_a_19_2.1 (State.isArrayOf_alike hZ.alike Ar_a_19_2.2.1) Ar_a_19_2.2.2 hin19_2 hat19_2 (g := (mkF m 19 #[vr a, vi 1, vi 2, vr bb1, vi 1] [(.int 1), (.ref a), (.int 1), (.ref bb1)])) rfl rfl (hb hby d19_19) _ (kk)) ?_
  show Dn p e below s _ _ _ (T20.setTop (mkF m 20 #[vr a, vi 1, vi 2, vr bb1, vi 1] [(.int y1), (.int 1), (.ref bb1)]))
  obtain ⟨_, _, ⟨T20_2, L20_2, k20_2, n20_2⟩, -, X20_2, ⟨Lc20_2, hQ20_2, l20_2, y20_2, z20_2⟩, st20_2⟩ := Jvm.LawKit.callS X20 hx (y := on1) hown (mvT hZ (tw hw 96 rfl)) (mvT hZ (tw hw 97 rfl)) (mvT hZ (tw hw 50 rfl)) (mvT hZ (tw hw 98 rfl)) (by decide) (backOf (W := 0) (rmPu2_1 l Z a0 hw [] bb1 y1 cs sf kb1 (own_lo y0) (own_hi y0) (0 : Int32) (0 : Int32) T20.heap n0 Z20 Wo20 gn_bb1 V20) hZ (tw hw 98 rfl) (tw hw 50 rfl) (by decide) (by decide)) (g := (mkF m 20 #[vr a, vi 1, vi 2, vr bb1, vi 1] [(.int y1), (.int 1), (.ref bb1)])) rfl (by rw [hml]; rfl) (argsL := [(.ref bb1), (.int 1), (.int y1)]) (rest := []) (lenOf pd10 rfl) rfl (by show 2 * 0 + _ ≤ _; exact Nat.le_of_eq rfl) (hb hby d19_20) (fun _ _ => ⟨rfl, rfl, (by decide : 1 + 0 ≤ _), (by decide : 4 + 0 ≤ _)⟩)
  dsimp only [Pt.U, Pt.locs, Pt.cells, Pt.slots] at X20_2 l20_2 y20_2 z20_2 st20_2 hQ20_2
  subst l20_2 y20_2 z20_2
  obtain ⟨rfl, Nq20_2, K20_2, V20_2⟩ := hQ20_2
  have N20_2 := Fr.app N20 Nq20_2
  refine Dn.st st20_2 ?_
  have Wo20_2 := Wo20.keep K20_2 (own_k1 gn_bb1)
  have V_a_20_2 := V_a_20.keep K20_2 (ninS ne_a_bb1 nin0)
  have Kt20_2 := Keep.trans Kt20 K20_2 (fun x hx => Or.inr ((List.mem_singleton.mp hx) ▸ gz_bb1))
  have Z20_2 : n0 ≤ T20_2.heap.size := Nat.le_trans Z20 K20_2.1
  show Dn p e below s _ _ _ (T20_2.setTop (mkF m 23 #[vr a, vi 1, vi 2, vr bb1, vi 1] []))
  refine Dn.st (fun _ kk => XS.iinc X20_2.here hx rfl (hb hby d19_23) rfl (l' := #[vr a, vi 2, vi 2, vr bb1, vi 1]) rfl (XS.iinc X20_2.here hx rfl (hb hby d19_26) rfl (l' := #[vr a, vi 2, vi 2, vr bb1, vi 2]) rfl (XS.goto X20_2.here hx rfl (pc0 := 29) (pc' := 8) rfl (hb hby d19_29) (by decide) (by decide) (XS.iload X20_2.here hx rfl (hb hby d19_8) rfl (XS.iloadN X20_2.here hx rfl (hb hby d19_10) rfl (kk)))))) ?_
  show Dn p e below s _ _ _ (T20_2.setTop (mkF m 11 #[vr a, vi 2, vi 2, vr bb1, vi 2] [(.int 2), (.int 2)]))
  have hc11_3 : ¬ ((2 : Int32) < (2 : Int32)) := by decide
  refine Dn.st (fun _ kk => XS.icmpYes X20_2.here hx rfl (pc0 := 11) (pc' := 32) rfl (hb hby d19_11) rfl (flt hc11_3).2.1 (by decide) (by decide) (XS.aloadN X20_2.here hx rfl (hb hby d19_32) rfl rfl (kk))) ?_
  show Dn p e below s _ _ _ (T20_2.setTop (mkF m 33 #[vr a, vi 2, vi 2, vr bb1, vi 2] [(.ref bb1)]))
  exact Dn.ret X20_2 hlk hx hret rfl (Or.inr (Or.inr (Or.inr (Or.inr ⟨rfl, rfl, rfl⟩)))) (hb hby d19_33) ⟨bb1, kb1, rfl, gz_bb1, N20_2, Kt20_2, V20_2⟩ (by decide) (by decide)

theorem ef10_rmC5_2 (m : MethodId) (x0 : Addr) (x1 : Int32) (x2 : Addr) (x3 : Int32) (x4 : Int32) : entryFrame m #[(.ref x0), (.int x1), (.ref x2), (.int x3), (.int x4)] 7 = mkF m 0 #[vr x0, vi x1, vr x2, vi x3, vi x4, .unset, .unset] [] := by first | (simp [entryFrame, mkF, argsToLocals, Value.category]; done) | rfl
def QC5_2 (Z : State) (a : Addr) (b : Addr) (ka kb : ClassId) (y0 : Int32) (y1 : Int32) (h0 : Heap) (n0 : Nat) (v : Option Value) (h : Heap) (L : List Loc) : Prop := Fr n0 L ∧ Keep h0 h [b] ∧ ((v = some (.int 0) ∧ 255 < y0.toInt) ∨ (v = some (.int 1) ∧ 255 < y1.toInt) ∨ (v = some (.int 2) ∧ (y0.toInt ≤ 255 ∧ y1.toInt ≤ 255 ∧ True) ∧ Arv Z h b kb .byte 2 [(.int (own_b y0)), (.int (own_b y1))] (.int 0)))
theorem rmC5_2 (l : Launch) (Z : State) (a0 : Array Value) (hw : ∀ d ∈ tables_1, d.before a0 Z = true) (ws : List Jvm.Cond) (a : Addr) (b : Addr) (ka kb : ClassId) (y0 : Int32) (y1 : Int32) (h0 : Heap) (n0 : Nat) (Z0 : n0 ≤ h0.size) (Va : Arv Z h0 a ka .char 2 [(.int y0), (.int y1)] (.int 0)) (Vb : Arv Z h0 b kb .byte 2 [(.int 0), (.int 0)] (.int 0)) (gb : n0 ≤ b) (hne : a ≠ b) :
    own_Met l on18 (Jvm.Cond.code on18 jdk_52_method_21_code 7 (some .int) :: ws) orm25 #[(.ref a), (.int 0), (.ref b), (.int 0), (.int 2)] Z h0 (QC5_2 Z a b ka kb y0 y1 h0 n0) := by
  refine MetFree.of_bodySF (plainFor_of_name pn2) hisR ?_
  intro p e s m args below meth c s₁ Bd hml0 hP hK
  obtain ⟨rfl, hZ, hh⟩ := hP
  have hx := Bd.exec
  have hby := Bd.bytes
  have hlk : meth.locks = false := BodyLoose.notSynchronized Bd
  have hret := Bd.returns
  have hml : c.maxLocals = 7 := hml0
  have hown : s.vm.findClass "java/lang/StringUTF16" = some m.cls := findClass_of_methodNamed Bd.named
  have X0 : Stand p l e orm25 s m #[(.ref a), (.int 0), (.ref b), (.int 0), (.int 2)] below meth c s₁ [] 0 0 := Stand.of_body Bd
  have e0 : s₁.heap = h0 := by rw [← hh, Bd.state]; rfl
  have N0 := Fr.nil n0
  show Dn p e below s (QC5_2 Z a b ka kb y0 y1 h0 n0) orm25.cells orm25.slots (s₁.setTop (entryFrame m #[(.ref a), (.int 0), (.ref b), (.int 0), (.int 2)] 7))
  refine Dn.st (fun _ kk => castTop (ef10_rmC5_2 m a (0 : Int32) b (0 : Int32) (2 : Int32)) kk) ?_
  show Dn p e below s _ _ _ (s₁.setTop (mkF m 0 #[vr a, vi 0, vr b, vi 0, vi 2, .unset, .unset] []))
  refine Dn.st (fun _ kk => XS.iconst X0.here hx rfl (hb hby d10_0) (XS.istore X0.here hx rfl (hb hby d10_1) rfl (l' := #[vr a, vi 0, vr b, vi 0, vi 2, vi 0, .unset]) rfl (XS.iload X0.here hx rfl (hb hby d10_3) rfl (XS.iload X0.here hx rfl (hb hby d10_5) rfl (kk))))) ?_
  show Dn p e below s _ _ _ (s₁.setTop (mkF m 7 #[vr a, vi 0, vr b, vi 0, vi 2, vi 0, .unset] [(.int 2), (.int 0)]))
  have hc7 : (0 : Int32) < (2 : Int32) := by decide
  refine Dn.st (fun _ kk => XS.icmpNo X0.here hx rfl (hb hby d10_7) rfl (tlt hc7).2.1 (XS.aloadN X0.here hx rfl (hb hby d10_10) rfl rfl (XS.iloadN X0.here hx rfl (hb hby d10_11) rfl (kk)))) ?_
  show Dn p e below s _ _ _ (s₁.setTop (mkF m 12 #[vr a, vi 0, vr b, vi 0, vi 2, vi 0, .unset] [(.int 0), (.ref a)]))
  have Vc_a_12 := Va
  obtain ⟨cl_a_12, Ar_a_12, q_a_12, S_a_12, N_a_12, H_a_12, G_a_12⟩ := Vc_a_12
  have hin12 : ¬ ((0 : Int32) < 0 ∨ cl_a_12.slots.size ≤ ((0 : Int32)).toNatClampNeg) := inb_of S_a_12 ⟨by decide, by decide⟩
  have hat12 : cl_a_12.slots[((0 : Int32)).toNatClampNeg]? = some (.int y0) := H_a_12.at hin12 rfl
  refine Dn.st (fun _ kk => X0.caload hx (j := (0 : Int32)) (v := (.int y0)) (by rw [e0]; exact Ar_a_12.1) (State.isArrayOf_alike hZ.alike Ar_a_12.2.1) Ar_a_12.2.2 hin12 hat12 (g := (mkF m 12 #[vr a, vi 0, vr b, vi 0, vi 2, vi 0, .unset] [(.int 0), (.ref a)])) rfl rfl (hb hby d10_12) _ (XS.istore X0.here hx rfl (hb hby d10_13) rfl (l' := #[vr a, vi 0, vr b, vi 0, vi 2, vi 0, vi y0]) rfl (XS.iload X0.here hx rfl (hb hby d10_15) rfl (XS.sipush X0.here hx rfl (hb hby d10_17) (kk))))) ?_
  show Dn p e below s _ _ _ (s₁.setTop (mkF m 20 #[vr a, vi 0, vr b, vi 0, vi 2, vi 0, vi y0] [(.int 255), (.int y0)]))
  by_cases hc20 : (255 : Int32) < y0
  · have hi20 : 255 < y0.toInt := Int32.lt_iff_toInt_lt.mp hc20
    refine Dn.st (fun _ kk => XS.icmpNo X0.here hx rfl (hb hby d10_20) rfl (tlt hc20).2.2.2 (XS.iload X0.here hx rfl (hb hby d10_23) rfl (kk))) ?_
    show Dn p e below s _ _ _ (s₁.setTop (mkF m 25 #[vr a, vi 0, vr b, vi 0, vi 2, vi 0, vi y0] [(.int 0)]))
    exact Dn.ret X0 hlk hx hret rfl (Or.inl ⟨rfl, Or.inl rfl, _, rfl⟩) (hb hby d10_25) (by rw [e0]; exact ⟨N0, (Keep.refl h0 [b]), (Or.inl ⟨rfl, hi20⟩)⟩) (by decide) (by decide)
  · have hi20 : ¬ 255 < y0.toInt := fun qq => hc20 (Int32.lt_iff_toInt_lt.mpr qq)
    refine Dn.st (fun _ kk => XS.icmpYes X0.here hx rfl (pc0 := 20) (pc' := 26) rfl (hb hby d10_20) rfl (flt hc20).2.2.2 (by decide) (by decide) (XS.aloadN X0.here hx rfl (hb hby d10_26) rfl rfl (XS.iloadN X0.here hx rfl (hb hby d10_27) rfl (XS.iload X0.here hx rfl (hb hby d10_28) rfl (XS.i2b X0.here hx rfl (hb hby d10_30) rfl (kk)))))) ?_
    show Dn p e below s _ _ _ (s₁.setTop (mkF m 31 #[vr a, vi 0, vr b, vi 0, vi 2, vi 0, vi y0] [(.int (y0.toInt8.toInt32)), (.int 0), (.ref b)]))
    have Vc_b_31 := Vb
    obtain ⟨cl_b_31, Ar_b_31, q_b_31, S_b_31, N_b_31, H_b_31, G_b_31⟩ := Vc_b_31
    have hin31 : ¬ ((0 : Int32) < 0 ∨ cl_b_31.slots.size ≤ ((0 : Int32)).toNatClampNeg) := inb_of S_b_31 ⟨by decide, by decide⟩
    obtain ⟨T31, h31, X31, e31, W31, st31⟩ := stB X0 hx hZ e0 Ar_b_31 (j := (0 : Int32)) hin31 (g := (mkF m 31 #[vr a, vi 0, vr b, vi 0, vi 2, vi 0, vi y0] [(.int (y0.toInt8.toInt32)), (.int 0), (.ref b)])) rfl rfl (hb hby d10_31)
    have V_a_31 := Va.other W31 hne
    have V_b_31 := Arv.set Ar_b_31 q_b_31 S_b_31 N_b_31 H_b_31 G_b_31 (fits_nar_byte _) W31 0 rfl (Nat.le_of_ble_eq_true rfl)
    have K31 := (Keep.refl h0 [b]).wr W31 (Or.inl (List.mem_of_getElem? (i := 0) rfl))
    have N31 := Fr.snoc X31 N0 gb
    have Z31 : n0 ≤ h31.size := Nat.le_trans Z0 (Keep.of_wr W31).1
    refine Dn.st st31 ?_
    show Dn p e below s _ _ _ (T31.setTop (mkF m 32 #[vr a, vi 0, vr b, vi 0, vi 2, vi 0, vi y0] []))
    refine Dn.st (fun _ kk => XS.iinc X31.here hx rfl (hb hby d10_32) rfl (l' := #[vr a, vi 1, vr b, vi 0, vi 2, vi 0, vi y0]) rfl (XS.iinc X31.here hx rfl (hb hby d10_35) rfl (l' := #[vr a, vi 1, vr b, vi 1, vi 2, vi 0, vi y0]) rfl (XS.iinc X31.here hx rfl (hb hby d10_38) rfl (l' := #[vr a, vi 1, vr b, vi 1, vi 2, vi 1, vi y0]) rfl (XS.goto X31.here hx rfl (pc0 := 41) (pc' := 3) rfl (hb hby d10_41) (by decide) (by decide) (XS.iload X31.here hx rfl (hb hby d10_3) rfl (XS.iload X31.here hx rfl (hb hby d10_5) rfl (kk))))))) ?_
    show Dn p e below s _ _ _ (T31.setTop (mkF m 7 #[vr a, vi 1, vr b, vi 1, vi 2, vi 1, vi y0] [(.int 2), (.int 1)]))
    have hc7_2 : (1 : Int32) < (2 : Int32) := by decide
    refine Dn.st (fun _ kk => XS.icmpNo X31.here hx rfl (hb hby d10_7) rfl (tlt hc7_2).2.1 (XS.aloadN X31.here hx rfl (hb hby d10_10) rfl rfl (XS.iloadN X31.here hx rfl (hb hby d10_11) rfl (kk)))) ?_
    show Dn p e below s _ _ _ (T31.setTop (mkF m 12 #[vr a, vi 1, vr b, vi 1, vi 2, vi 1, vi y0] [(.int 1), (.ref a)]))
    have Vc_a_12_2 := V_a_31
    obtain ⟨cl_a_12_2, Ar_a_12_2, q_a_12_2, S_a_12_2, N_a_12_2, H_a_12_2, G_a_12_2⟩ := Vc_a_12_2
    have hin12_2 : ¬ ((1 : Int32) < 0 ∨ cl_a_12_2.slots.size ≤ ((1 : Int32)).toNatClampNeg) := inb_of S_a_12_2 ⟨by decide, by decide⟩
    have hat12_2 : cl_a_12_2.slots[((1 : Int32)).toNatClampNeg]? = some (.int y1) := H_a_12_2.at hin12_2 rfl
    refine Dn.st (fun _ kk => X31.caload hx (j := (1 : Int32)) (v := (.int y1)) (by rw [e31]; exact Ar_a_12_2.1) (State.isArrayOf_alike hZ.alike Ar_a_12_2.2.1) Ar_a_12_2.2.2 hin12_2 hat12_2 (g := (mkF m 12 #[vr a, vi 1, vr b, vi 1, vi 2, vi 1, vi y0] [(.int 1), (.ref a)])) rfl rfl (hb hby d10_12) _ (XS.istore X31.here hx rfl (hb hby d10_13) rfl (l' := #[vr a, vi 1, vr b, vi 1, vi 2, vi 1, vi y1]) rfl (XS.iload X31.here hx rfl (hb hby d10_15) rfl (XS.sipush X31.here hx rfl (hb hby d10_17) (kk))))) ?_
    show Dn p e below s _ _ _ (T31.setTop (mkF m 20 #[vr a, vi 1, vr b, vi 1, vi 2, vi 1, vi y1] [(.int 255), (.int y1)]))
    by_cases hc20_2 : (255 : Int32) < y1
    · have hi20_2 : 255 < y1.toInt := Int32.lt_iff_toInt_lt.mp hc20_2
      refine Dn.st (fun _ kk => XS.icmpNo X31.here hx rfl (hb hby d10_20) rfl (tlt hc20_2).2.2.2 (XS.iload X31.here hx rfl (hb hby d10_23) rfl (kk))) ?_
      show Dn p e below s _ _ _ (T31.setTop (mkF m 25 #[vr a, vi 1, vr b, vi 1, vi 2, vi 1, vi y1] [(.int 1)]))
      exact Dn.ret X31 hlk hx hret rfl (Or.inl ⟨rfl, Or.inl rfl, _, rfl⟩) (hb hby d10_25) (by rw [e31]; exact ⟨N31, K31, (Or.inr (Or.inl ⟨rfl, hi20_2⟩))⟩) (by decide) (by decide)
    · have hi20_2 : ¬ 255 < y1.toInt := fun qq => hc20_2 (Int32.lt_iff_toInt_lt.mpr qq)
      refine Dn.st (fun _ kk => XS.icmpYes X31.here hx rfl (pc0 := 20) (pc' := 26) rfl (hb hby d10_20) rfl (flt hc20_2).2.2.2 (by decide) (by decide) (XS.aloadN X31.here hx rfl (hb hby d10_26) rfl rfl (XS.iloadN X31.here hx rfl (hb hby d10_27) rfl (XS.iload X31.here hx rfl (hb hby d10_28) rfl (XS.i2b X31.here hx rfl (hb hby d10_30) rfl (kk)))))) ?_
      show Dn p e below s _ _ _ (T31.setTop (mkF m 31 #[vr a, vi 1, vr b, vi 1, vi 2, vi 1, vi y1] [(.int (y1.toInt8.toInt32)), (.int 1), (.ref b)]))
      have Vc_b_31_2 := V_b_31
      obtain ⟨cl_b_31_2, Ar_b_31_2, q_b_31_2, S_b_31_2, N_b_31_2, H_b_31_2, G_b_31_2⟩ := Vc_b_31_2
      have hin31_2 : ¬ ((1 : Int32) < 0 ∨ cl_b_31_2.slots.size ≤ ((1 : Int32)).toNatClampNeg) := inb_of S_b_31_2 ⟨by decide, by decide⟩
      obtain ⟨T31_2, h31_2, X31_2, e31_2, W31_2, st31_2⟩ := stB X31 hx hZ e31 Ar_b_31_2 (j := (1 : Int32)) hin31_2 (g := (mkF m 31 #[vr a, vi 1, vr b, vi 1, vi 2, vi 1, vi y1] [(.int (y1.toInt8.toInt32)), (.int 1), (.ref b)])) rfl rfl (hb hby d10_31)
      have V_a_31_2 := V_a_31.other W31_2 hne
      have V_b_31_2 := Arv.set Ar_b_31_2 q_b_31_2 S_b_31_2 N_b_31_2 H_b_31_2 G_b_31_2 (fits_nar_byte _) W31_2 1 rfl (Nat.le_of_ble_eq_true rfl)
      have K31_2 := K31.wr W31_2 (Or.inl (List.mem_of_getElem? (i := 0) rfl))
      have N31_2 := Fr.snoc X31_2 N31 gb
      have Z31_2 : n0 ≤ h31_2.size := Nat.le_trans Z31 (Keep.of_wr W31_2).1
      refine Dn.st st31_2 ?_
      show Dn p e below s _ _ _ (T31_2.setTop (mkF m 32 #[vr a, vi 1, vr b, vi 1, vi 2, vi 1, vi y1] []))
      refine Dn.st (fun _ kk => XS.iinc X31_2.here hx rfl (hb hby d10_32) rfl (l' := #[vr a, vi 2, vr b, vi 1, vi 2, vi 1, vi y1]) rfl (XS.iinc X31_2.here hx rfl (hb hby d10_35) rfl (l' := #[vr a, vi 2, vr b, vi 2, vi 2, vi 1, vi y1]) rfl (XS.iinc X31_2.here hx rfl (hb hby d10_38) rfl (l' := #[vr a, vi 2, vr b, vi 2, vi 2, vi 2, vi y1]) rfl (XS.goto X31_2.here hx rfl (pc0 := 41) (pc' := 3) rfl (hb hby d10_41) (by decide) (by decide) (XS.iload X31_2.here hx rfl (hb hby d10_3) rfl (XS.iload X31_2.here hx rfl (hb hby d10_5) rfl (kk))))))) ?_
      show Dn p e below s _ _ _ (T31_2.setTop (mkF m 7 #[vr a, vi 2, vr b, vi 2, vi 2, vi 2, vi y1] [(.int 2), (.int 2)]))
      have hc7_3 : ¬ ((2 : Int32) < (2 : Int32)) := by decide
      refine Dn.st (fun _ kk => XS.icmpYes X31_2.here hx rfl (pc0 := 7) (pc' := 44) rfl (hb hby d10_7) rfl (flt hc7_3).2.1 (by decide) (by decide) (XS.iload X31_2.here hx rfl (hb hby d10_44) rfl (kk))) ?_
      show Dn p e below s _ _ _ (T31_2.setTop (mkF m 46 #[vr a, vi 2, vr b, vi 2, vi 2, vi 2, vi y1] [(.int 2)]))
      exact Dn.ret X31_2 hlk hx hret rfl (Or.inl ⟨rfl, Or.inl rfl, _, rfl⟩) (hb hby d10_46) (by rw [e31_2]; exact ⟨N31_2, K31_2, (Or.inr (Or.inr ⟨rfl, ⟨Int.not_lt.mp hi20, Int.not_lt.mp hi20_2, trivial⟩, V_b_31_2⟩))⟩) (by decide) (by decide)

theorem ef9_rmC3_2 (m : MethodId) (x0 : Addr) (x1 : Int32) (x2 : Int32) : entryFrame m #[(.ref x0), (.int x1), (.int x2)] 6 = mkF m 0 #[vr x0, vi x1, vi x2, .unset, .unset, .unset] [] := by first | (simp [entryFrame, mkF, argsToLocals, Value.category]; done) | rfl
def QC3_2 (Z : State) (a : Addr) (cs : Int32) (sf : Value) (ka : ClassId) (y0 : Int32) (y1 : Int32) (h0 : Heap) (n0 : Nat) (v : Option Value) (h : Heap) (L : List Loc) : Prop := ∃ (b : Addr) (kb : ClassId), v = some (.ref b) ∧ h0.size ≤ b ∧ Fr n0 L ∧ Keep h0 h [] ∧ ((Arv Z h b kb .byte 2 [(.int (own_b y0)), (.int (own_b y1))] (.int 0) ∧ (y0.toInt ≤ 255 ∧ y1.toInt ≤ 255 ∧ True)) ∨ Arv Z h b kb .byte 4 [(.int (own_lo y0)), (.int (own_hi y0)), (.int (own_lo y1)), (.int (own_hi y1))] (.int 0))
theorem rmC3_2 (l : Launch) (Z : State) (a0 : Array Value) (hw : ∀ d ∈ tables_1, d.before a0 Z = true) (ws : List Jvm.Cond) (a : Addr) (cs : Int32) (sf : Value) (ka : ClassId) (y0 : Int32) (y1 : Int32) (h0 : Heap) (n0 : Nat) (Z0 : n0 ≤ h0.size) (hW : own_W Z h0 n0 cs sf) (Va : Arv Z h0 a ka .char 2 [(.int y0), (.int y1)] (.int 0)) (hr0 : 0 ≤ y0.toInt ∧ y0.toInt ≤ 65535) (hr1 : 0 ≤ y1.toInt ∧ y1.toInt ≤ 65535) :
    own_Met l on12 (Jvm.Cond.code on12 jdk_52_method_16_code 6 (some (.array .byte)) :: ws) orm32 #[(.ref a), (.int 0), (.int 2)] Z h0 (QC3_2 Z a cs sf ka y0 y1 h0 n0) := by
  refine MetFree.of_bodySF (plainFor_of_name pn2) hisR ?_
  intro p e s m args below meth c s₁ Bd hml0 hP hK
  obtain ⟨rfl, hZ, hh⟩ := hP
  have hx := Bd.exec
  have hby := Bd.bytes
  have hlk : meth.locks = false := BodyLoose.notSynchronized Bd
  have hret := Bd.returns
  have hml : c.maxLocals = 6 := hml0
  have hown : s.vm.findClass "java/lang/StringUTF16" = some m.cls := findClass_of_methodNamed Bd.named
  have X0 : Stand p l e orm32 s m #[(.ref a), (.int 0), (.int 2)] below meth c s₁ [] 0 0 := Stand.of_body Bd
  have e0 : s₁.heap = h0 := by rw [← hh, Bd.state]; rfl
  have N0 := Fr.nil n0
  show Dn p e below s (QC3_2 Z a cs sf ka y0 y1 h0 n0) orm32.cells orm32.slots (s₁.setTop (entryFrame m #[(.ref a), (.int 0), (.int 2)] 6))
  refine Dn.st (fun _ kk => castTop (ef9_rmC3_2 m a (0 : Int32) (2 : Int32)) kk) ?_
  show Dn p e below s _ _ _ (s₁.setTop (mkF m 0 #[vr a, vi 0, vi 2, .unset, .unset, .unset] []))
  refine Dn.st (fun _ kk => XS.iloadN X0.here hx rfl (hb hby d9_0) rfl (kk)) ?_
  show Dn p e below s _ _ _ (s₁.setTop (mkF m 1 #[vr a, vi 0, vi 2, .unset, .unset, .unset] [(.int 2)]))
  obtain ⟨T1, h1, k1, X1, e1, E1, A1, st1⟩ := newP X0 hx hZ (tw hw 21 rfl) e0 (g := (mkF m 1 #[vr a, vi 0, vi 2, .unset, .unset, .unset] [(.int 2)])) rfl (hb hby d9_1) rfl (by decide) (cap := 2) (by decide) (by decide) (by decide) (by decide)
  obtain ⟨b1, g1⟩ : ∃ z, z = h0.size := ⟨_, rfl⟩
  rw [← g1] at A1 st1
  have ne_a_b1 : a ≠ b1 := Nat.ne_of_lt (Nat.lt_of_lt_of_le Va.lt (Nat.le_of_eq g1.symm))
  have gz_b1 : h0.size ≤ b1 := Nat.le_trans (Keep.refl h0 []).1 (Nat.le_of_eq g1.symm)
  have V_a_1 := Va.ext E1
  have K1 := (Keep.refl h0 []).ext E1
  have Wo1 := hW.ext E1
  have gn_b1 : n0 ≤ b1 := Nat.le_trans Z0 (Nat.le_of_eq g1.symm)
  have Z1 : n0 ≤ h1.size := Nat.le_trans Z0 E1.1
  have V_b1 : Arv Z h1 b1 k1 .byte (2 : Int32) [(.int 0), (.int 0)] (.int 0) := (Arv.new A1 (by decide)).pad (pad_rep [] (.int 0) 2)
  refine Dn.st st1 ?_
  show Dn p e below s _ _ _ (T1.setTop (mkF m 3 #[vr a, vi 0, vi 2, .unset, .unset, .unset] [(.ref b1)]))
  refine Dn.st (fun _ kk => XS.astoreN X1.here hx rfl (hb hby d9_3) rfl rfl (l' := #[vr a, vi 0, vi 2, vr b1, .unset, .unset]) rfl (XS.aloadN X1.here hx rfl (hb hby d9_4) rfl rfl (XS.iloadN X1.here hx rfl (hb hby d9_5) rfl (XS.aloadN X1.here hx rfl (hb hby d9_6) rfl rfl (XS.iconst X1.here hx rfl (hb hby d9_7) (XS.iloadN X1.here hx rfl (hb hby d9_8) rfl (kk))))))) ?_
  show Dn p e below s _ _ _ (T1.setTop (mkF m 9 #[vr a, vi 0, vi 2, vr b1, .unset, .unset] [(.int 2), (.int 0), (.ref b1), (.int 0), (.ref a)]))
  obtain ⟨_, _, ⟨T9, L9, k9, n9⟩, -, X9, ⟨Lc9, hQ9, l9, y9, z9⟩, st9⟩ := Jvm.LawKit.callS X1 hx (y := on18) hown (mvT hZ (tw hw 52 rfl)) (mvT hZ (tw hw 53 rfl)) (mvT hZ (tw hw 50 rfl)) (mvT hZ (tw hw 54 rfl)) (by decide) (backOf (W := 0) (rmC5_2 l Z a0 hw [] a b1 ka k1 y0 y1 h1 n0 Z1 V_a_1 V_b1 gn_b1 ne_a_b1) hZ (tw hw 54 rfl) (tw hw 50 rfl) (by decide) (by decide)) (g := (mkF m 9 #[vr a, vi 0, vi 2, vr b1, .unset, .unset] [(.int 2), (.int 0), (.ref b1), (.int 0), (.ref a)])) rfl (by rw [hml]; rfl) (argsL := [(.ref a), (.int 0), (.ref b1), (.int 0), (.int 2)]) (rest := []) (lenOf pd11 rfl) rfl (by show 2 * 0 + _ ≤ _; exact Nat.le_of_eq rfl) (hb hby d9_9) (fun _ _ => ⟨rfl, e1, (by decide : 1 + 0 ≤ _), (by decide : 2 + 0 ≤ _)⟩)
  dsimp only [Pt.U, Pt.locs, Pt.cells, Pt.slots] at X9 l9 y9 z9 st9 hQ9
  subst l9 y9 z9
  obtain ⟨Nq9, K9, hq9⟩ := hQ9
  have N9 := Fr.app N0 Nq9
  refine Dn.st st9 ?_
  have Wo9 := Wo1.keep K9 (own_k1 gn_b1)
  have V_a_9 := V_a_1.keep K9 (ninS ne_a_b1 nin0)
  have Kt9 := Keep.trans K1 K9 (fun x hx => Or.inr ((List.mem_singleton.mp hx) ▸ gz_b1))
  have Z9 : n0 ≤ T9.heap.size := Nat.le_trans Z1 K9.1
  rcases hq9 with ⟨rfl, gt9⟩ | ⟨rfl, gt9⟩ | ⟨rfl, hp9, VL9⟩
  · show Dn p e below s _ _ _ (T9.setTop (mkF m 12 #[vr a, vi 0, vi 2, vr b1, .unset, .unset] [(.int 0)]))
    refine Dn.st (fun _ kk => XS.istore X9.here hx rfl (hb hby d9_12) rfl (l' := #[vr a, vi 0, vi 2, vr b1, vi 0, .unset]) rfl (XS.iload X9.here hx rfl (hb hby d9_14) rfl (XS.iloadN X9.here hx rfl (hb hby d9_16) rfl (kk)))) ?_
    show Dn p e below s _ _ _ (T9.setTop (mkF m 17 #[vr a, vi 0, vi 2, vr b1, vi 0, .unset] [(.int 2), (.int 0)]))
    have hc17 : ¬ ((0 : Int32) = (2 : Int32)) := by decide
    refine Dn.st (fun _ kk => XS.icmpNo X9.here hx rfl (hb hby d9_17) rfl (feq hc17).1 (XS.aloadN X9.here hx rfl (hb hby d9_20) rfl rfl (XS.iloadN X9.here hx rfl (hb hby d9_21) rfl (XS.iloadN X9.here hx rfl (hb hby d9_22) rfl (kk))))) ?_
    show Dn p e below s _ _ _ (T9.setTop (mkF m 23 #[vr a, vi 0, vi 2, vr b1, vi 0, .unset] [(.int 2), (.int 0), (.ref a)]))
    obtain ⟨_, _, ⟨T23, L23, k23, n23⟩, -, X23, ⟨Lc23, hQ23, l23, y23, z23⟩, st23⟩ := Jvm.LawKit.callS X9 hx (y := on7) hown (mvT hZ (tw hw 86 rfl)) (mvT hZ (tw hw 87 rfl)) (mvT hZ (tw hw 50 rfl)) (mvT hZ (tw hw 88 rfl)) (by decide) (backOf (W := 0) (rmTb2 l Z a0 hw [] a cs sf ka y0 y1 T9.heap n0 Z9 Wo9 V_a_9) hZ (tw hw 88 rfl) (tw hw 50 rfl) (by decide) (by decide)) (g := (mkF m 23 #[vr a, vi 0, vi 2, vr b1, vi 0, .unset] [(.int 2), (.int 0), (.ref a)])) rfl (by rw [hml]; rfl) (argsL := [(.ref a), (.int 0), (.int 2)]) (rest := []) (lenOf pd12 rfl) rfl (by show 2 * 0 + _ ≤ _; exact Nat.le_of_eq rfl) (hb hby d9_23) (fun _ _ => ⟨rfl, rfl, (by decide : 1 + 1 ≤ _), (by decide : 2 + 4 ≤ _)⟩)
    dsimp only [Pt.U, Pt.locs, Pt.cells, Pt.slots] at X23 l23 y23 z23 st23 hQ23
    subst l23 y23 z23
    obtain ⟨bb23, kb23, rfl, gz23, Nq23, K23, V_bb23⟩ := hQ23
    have N23 := Fr.app N9 Nq23
    refine Dn.st st23 ?_
    have ne_a_bb23 : a ≠ bb23 := Nat.ne_of_lt (Nat.lt_of_lt_of_le V_a_9.lt gz23)
    have gn_bb23 : n0 ≤ bb23 := Nat.le_trans Z9 gz23
    have gz_bb23 : h0.size ≤ bb23 := Nat.le_trans Kt9.1 gz23
    have Wo23 := Wo9.keep K23 own_k0
    have V_a_23 := V_a_9.keep K23 nin0
    have Kt23 := Keep.trans Kt9 K23 (by simp)
    have Z23 : n0 ≤ T23.heap.size := Nat.le_trans Z9 K23.1
    show Dn p e below s _ _ _ (T23.setTop (mkF m 26 #[vr a, vi 0, vi 2, vr b1, vi 0, .unset] [(.ref bb23)]))
    refine Dn.st (fun _ kk => XS.astore X23.here hx rfl (hb hby d9_26) rfl rfl (l' := #[vr a, vi 0, vi 2, vr b1, vi 0, vr bb23]) rfl (XS.aload X23.here hx rfl (hb hby d9_28) rfl rfl (XS.iload X23.here hx rfl (hb hby d9_30) rfl (kk)))) ?_
    show Dn p e below s _ _ _ (T23.setTop (mkF m 32 #[vr a, vi 0, vi 2, vr b1, vi 0, vr bb23] [(.int 0), (.ref bb23)]))
    obtain ⟨_, _, ⟨T32, L32, k32, n32⟩, -, X32, ⟨Lc32, hQ32, l32, y32, z32⟩, st32⟩ := Jvm.LawKit.callS X23 hx (y := on5) hown (mvT hZ (tw hw 102 rfl)) (mvT hZ (tw hw 103 rfl)) (mvT hZ (tw hw 50 rfl)) (mvT hZ (tw hw 104 rfl)) (by decide) (backOf (W := 0) (rmGc0 l Z a0 hw [] bb23 cs sf _ _ _ y0 T23.heap n0 Z23 Wo23 V_bb23 (by decide) (by decide) rfl rfl hr0.1 hr0.2) hZ (tw hw 104 rfl) (tw hw 50 rfl) (by decide) (by decide)) (g := (mkF m 32 #[vr a, vi 0, vi 2, vr b1, vi 0, vr bb23] [(.int 0), (.ref bb23)])) rfl (by rw [hml]; rfl) (argsL := [(.ref bb23), (.int 0)]) (rest := []) (lenOf pd6 rfl) rfl (by show 2 * 0 + _ ≤ _; exact Nat.le_of_eq rfl) (hb hby d9_32) (fun _ _ => ⟨rfl, rfl, (by decide : 2 + 0 ≤ _), (by decide : 6 + 0 ≤ _)⟩)
    dsimp only [Pt.U, Pt.locs, Pt.cells, Pt.slots] at X32 l32 y32 z32 st32 hQ32
    subst l32 y32 z32
    obtain ⟨rfl, Nq32, hh32⟩ := hQ32
    have N32 := Fr.app N23 Nq32
    refine Dn.st st32 ?_
    show Dn p e below s _ _ _ (T32.setTop (mkF m 35 #[vr a, vi 0, vi 2, vr b1, vi 0, vr bb23] [(.int y0)]))
    refine Dn.st (fun _ kk => XS.sipush X32.here hx rfl (hb hby d9_35) (kk)) ?_
    show Dn p e below s _ _ _ (T32.setTop (mkF m 38 #[vr a, vi 0, vi 2, vr b1, vi 0, vr bb23] [(.int 255), (.int y0)]))
    have hc38 : (255 : Int32) < y0 := (Int32.lt_iff_toInt_lt.mpr gt9)
    refine Dn.st (fun _ kk => XS.icmpYes X32.here hx rfl (pc0 := 38) (pc' := 54) rfl (hb hby d9_38) rfl (tlt hc38).2.2.1 (by decide) (by decide) (XS.aload X32.here hx rfl (hb hby d9_54) rfl rfl (kk))) ?_
    show Dn p e below s _ _ _ (T32.setTop (mkF m 56 #[vr a, vi 0, vi 2, vr b1, vi 0, vr bb23] [(.ref bb23)]))
    exact Dn.ret X32 hlk hx hret rfl (Or.inr (Or.inr (Or.inr (Or.inr ⟨rfl, rfl, rfl⟩)))) (hb hby d9_56) (by rw [hh32]; exact ⟨bb23, kb23, rfl, gz_bb23, N32, Kt23, Or.inr V_bb23⟩) (by decide) (by decide)
  · show Dn p e below s _ _ _ (T9.setTop (mkF m 12 #[vr a, vi 0, vi 2, vr b1, .unset, .unset] [(.int 1)]))
    refine Dn.st (fun _ kk => XS.istore X9.here hx rfl (hb hby d9_12) rfl (l' := #[vr a, vi 0, vi 2, vr b1, vi 1, .unset]) rfl (XS.iload X9.here hx rfl (hb hby d9_14) rfl (XS.iloadN X9.here hx rfl (hb hby d9_16) rfl (kk)))) ?_
    show Dn p e below s _ _ _ (T9.setTop (mkF m 17 #[vr a, vi 0, vi 2, vr b1, vi 1, .unset] [(.int 2), (.int 1)]))
    have hc17 : ¬ ((1 : Int32) = (2 : Int32)) := by decide
    refine Dn.st (fun _ kk => XS.icmpNo X9.here hx rfl (hb hby d9_17) rfl (feq hc17).1 (XS.aloadN X9.here hx rfl (hb hby d9_20) rfl rfl (XS.iloadN X9.here hx rfl (hb hby d9_21) rfl (XS.iloadN X9.here hx rfl (hb hby d9_22) rfl (kk))))) ?_
    show Dn p e below s _ _ _ (T9.setTop (mkF m 23 #[vr a, vi 0, vi 2, vr b1, vi 1, .unset] [(.int 2), (.int 0), (.ref a)]))
    obtain ⟨_, _, ⟨T23, L23, k23, n23⟩, -, X23, ⟨Lc23, hQ23, l23, y23, z23⟩, st23⟩ := Jvm.LawKit.callS X9 hx (y := on7) hown (mvT hZ (tw hw 86 rfl)) (mvT hZ (tw hw 87 rfl)) (mvT hZ (tw hw 50 rfl)) (mvT hZ (tw hw 88 rfl)) (by decide) (backOf (W := 0) (rmTb2 l Z a0 hw [] a cs sf ka y0 y1 T9.heap n0 Z9 Wo9 V_a_9) hZ (tw hw 88 rfl) (tw hw 50 rfl) (by decide) (by decide)) (g := (mkF m 23 #[vr a, vi 0, vi 2, vr b1, vi 1, .unset] [(.int 2), (.int 0), (.ref a)])) rfl (by rw [hml]; rfl) (argsL := [(.ref a), (.int 0), (.int 2)]) (rest := []) (lenOf pd12 rfl) rfl (by show 2 * 0 + _ ≤ _; exact Nat.le_of_eq rfl) (hb hby d9_23) (fun _ _ => ⟨rfl, rfl, (by decide : 1 + 1 ≤ _), (by decide : 2 + 4 ≤ _)⟩)
    dsimp only [Pt.U, Pt.locs, Pt.cells, Pt.slots] at X23 l23 y23 z23 st23 hQ23
    subst l23 y23 z23
    obtain ⟨bb23, kb23, rfl, gz23, Nq23, K23, V_bb23⟩ := hQ23
    have N23 := Fr.app N9 Nq23
    refine Dn.st st23 ?_
    have ne_a_bb23 : a ≠ bb23 := Nat.ne_of_lt (Nat.lt_of_lt_of_le V_a_9.lt gz23)
    have gn_bb23 : n0 ≤ bb23 := Nat.le_trans Z9 gz23
    have gz_bb23 : h0.size ≤ bb23 := Nat.le_trans Kt9.1 gz23
    have Wo23 := Wo9.keep K23 own_k0
    have V_a_23 := V_a_9.keep K23 nin0
    have Kt23 := Keep.trans Kt9 K23 (by simp)
    have Z23 : n0 ≤ T23.heap.size := Nat.le_trans Z9 K23.1
    show Dn p e below s _ _ _ (T23.setTop (mkF m 26 #[vr a, vi 0, vi 2, vr b1, vi 1, .unset] [(.ref bb23)]))
    refine Dn.st (fun _ kk => XS.astore X23.here hx rfl (hb hby d9_26) rfl rfl (l' := #[vr a, vi 0, vi 2, vr b1, vi 1, vr bb23]) rfl (XS.aload X23.here hx rfl (hb hby d9_28) rfl rfl (XS.iload X23.here hx rfl (hb hby d9_30) rfl (kk)))) ?_
    show Dn p e below s _ _ _ (T23.setTop (mkF m 32 #[vr a, vi 0, vi 2, vr b1, vi 1, vr bb23] [(.int 1), (.ref bb23)]))
    obtain ⟨_, _, ⟨T32, L32, k32, n32⟩, -, X32, ⟨Lc32, hQ32, l32, y32, z32⟩, st32⟩ := Jvm.LawKit.callS X23 hx (y := on5) hown (mvT hZ (tw hw 102 rfl)) (mvT hZ (tw hw 103 rfl)) (mvT hZ (tw hw 50 rfl)) (mvT hZ (tw hw 104 rfl)) (by decide) (backOf (W := 0) (rmGc1 l Z a0 hw [] bb23 cs sf _ _ _ y1 T23.heap n0 Z23 Wo23 V_bb23 (by decide) (by decide) rfl rfl hr1.1 hr1.2) hZ (tw hw 104 rfl) (tw hw 50 rfl) (by decide) (by decide)) (g := (mkF m 32 #[vr a, vi 0, vi 2, vr b1, vi 1, vr bb23] [(.int 1), (.ref bb23)])) rfl (by rw [hml]; rfl) (argsL := [(.ref bb23), (.int 1)]) (rest := []) (lenOf pd6 rfl) rfl (by show 2 * 0 + _ ≤ _; exact Nat.le_of_eq rfl) (hb hby d9_32) (fun _ _ => ⟨rfl, rfl, (by decide : 2 + 0 ≤ _), (by decide : 6 + 0 ≤ _)⟩)
    dsimp only [Pt.U, Pt.locs, Pt.cells, Pt.slots] at X32 l32 y32 z32 st32 hQ32
    subst l32 y32 z32
    obtain ⟨rfl, Nq32, hh32⟩ := hQ32
    have N32 := Fr.app N23 Nq32
    refine Dn.st st32 ?_
    show Dn p e below s _ _ _ (T32.setTop (mkF m 35 #[vr a, vi 0, vi 2, vr b1, vi 1, vr bb23] [(.int y1)]))
    refine Dn.st (fun _ kk => XS.sipush X32.here hx rfl (hb hby d9_35) (kk)) ?_
    show Dn p e below s _ _ _ (T32.setTop (mkF m 38 #[vr a, vi 0, vi 2, vr b1, vi 1, vr bb23] [(.int 255), (.int y1)]))
    have hc38 : (255 : Int32) < y1 := (Int32.lt_iff_toInt_lt.mpr gt9)
    refine Dn.st (fun _ kk => XS.icmpYes X32.here hx rfl (pc0 := 38) (pc' := 54) rfl (hb hby d9_38) rfl (tlt hc38).2.2.1 (by decide) (by decide) (XS.aload X32.here hx rfl (hb hby d9_54) rfl rfl (kk))) ?_
    show Dn p e below s _ _ _ (T32.setTop (mkF m 56 #[vr a, vi 0, vi 2, vr b1, vi 1, vr bb23] [(.ref bb23)]))
    exact Dn.ret X32 hlk hx hret rfl (Or.inr (Or.inr (Or.inr (Or.inr ⟨rfl, rfl, rfl⟩)))) (hb hby d9_56) (by rw [hh32]; exact ⟨bb23, kb23, rfl, gz_bb23, N32, Kt23, Or.inr V_bb23⟩) (by decide) (by decide)
  · show Dn p e below s _ _ _ (T9.setTop (mkF m 12 #[vr a, vi 0, vi 2, vr b1, .unset, .unset] [(.int 2)]))
    refine Dn.st (fun _ kk => XS.istore X9.here hx rfl (hb hby d9_12) rfl (l' := #[vr a, vi 0, vi 2, vr b1, vi 2, .unset]) rfl (XS.iload X9.here hx rfl (hb hby d9_14) rfl (XS.iloadN X9.here hx rfl (hb hby d9_16) rfl (kk)))) ?_
    show Dn p e below s _ _ _ (T9.setTop (mkF m 17 #[vr a, vi 0, vi 2, vr b1, vi 2, .unset] [(.int 2), (.int 2)]))
    have hc17 : (2 : Int32) = (2 : Int32) := by decide
    refine Dn.st (fun _ kk => XS.icmpYes X9.here hx rfl (pc0 := 17) (pc' := 57) rfl (hb hby d9_17) rfl (teq hc17).1 (by decide) (by decide) (XS.aloadN X9.here hx rfl (hb hby d9_57) rfl rfl (kk))) ?_
    show Dn p e below s _ _ _ (T9.setTop (mkF m 58 #[vr a, vi 0, vi 2, vr b1, vi 2, .unset] [(.ref b1)]))
    exact Dn.ret X9 hlk hx hret rfl (Or.inr (Or.inr (Or.inr (Or.inr ⟨rfl, rfl, rfl⟩)))) (hb hby d9_58) ⟨b1, k1, rfl, gz_b1, N9, Kt9, Or.inl ⟨VL9, hp9⟩⟩ (by decide) (by decide)

theorem ef11_rmCl2_0 (m : MethodId) (x0 : Addr) (x1 : Int32) : entryFrame m #[(.ref x0), (.int x1)] 2 = mkF m 0 #[vr x0, vi x1] [] := by first | (simp [entryFrame, mkF, argsToLocals, Value.category]; done) | rfl
def QCl2_0 (Z : State) (b : Addr) (kb : ClassId) (ls : List Value) (h0 : Heap) (n0 : Nat) (v : Option Value) (h : Heap) (L : List Loc) : Prop := v = some (.int 0) ∧ Fr n0 L ∧ h = h0
theorem rmCl2_0 (l : Launch) (Z : State) (a0 : Array Value) (hw : ∀ d ∈ tables_1, d.before a0 Z = true) (ws : List Jvm.Cond) (b : Addr) (kb : ClassId) (ls : List Value) (h0 : Heap) (n0 : Nat) (Z0 : n0 ≤ h0.size) (Vb : Arv Z h0 b kb .byte 2 ls (.int 0)) :
    own_Met l on4 (Jvm.Cond.code on4 jdk_52_method_15_code 2 (some .byte) :: ws) orm25 #[(.ref b), (.int 2)] Z h0 (QCl2_0 Z b kb ls h0 n0) := by
  refine MetFree.of_bodySF (plainFor_of_name pn2) hisR ?_
  intro p e s m args below meth c s₁ Bd hml0 hP hK
  obtain ⟨rfl, hZ, hh⟩ := hP
  have hx := Bd.exec
  have hby := Bd.bytes
  have hlk : meth.locks = false := BodyLoose.notSynchronized Bd
  have hret := Bd.returns
  have hml : c.maxLocals = 2 := hml0
  have hown : s.vm.findClass "java/lang/StringUTF16" = some m.cls := findClass_of_methodNamed Bd.named
  have X0 : Stand p l e orm25 s m #[(.ref b), (.int 2)] below meth c s₁ [] 0 0 := Stand.of_body Bd
  have e0 : s₁.heap = h0 := by rw [← hh, Bd.state]; rfl
  have N0 := Fr.nil n0
  show Dn p e below s (QCl2_0 Z b kb ls h0 n0) orm25.cells orm25.slots (s₁.setTop (entryFrame m #[(.ref b), (.int 2)] 2))
  refine Dn.st (fun _ kk => castTop (ef11_rmCl2_0 m b (2 : Int32)) kk) ?_
  show Dn p e below s _ _ _ (s₁.setTop (mkF m 0 #[vr b, vi 2] []))
  refine Dn.st (fun _ kk => XS.iloadN X0.here hx rfl (hb hby d11_0) rfl (XS.aloadN X0.here hx rfl (hb hby d11_1) rfl rfl (kk))) ?_
  show Dn p e below s _ _ _ (s₁.setTop (mkF m 2 #[vr b, vi 2] [(.ref b), (.int 2)]))
  have Vc_b_2 := Vb
  obtain ⟨cl_b_2, Ar_b_2, q_b_2, S_b_2, N_b_2, H_b_2, G_b_2⟩ := Vc_b_2
  refine Dn.st (fun _ kk => X0.arraylength hx (by rw [e0]; exact Ar_b_2.1) (State.isArrayOf_alike hZ.alike Ar_b_2.2.1) (g := (mkF m 2 #[vr b, vi 2] [(.ref b), (.int 2)])) rfl rfl (hb hby d11_2) _ (kk)) ?_
  show Dn p e below s _ _ _ (s₁.setTop (mkF m 3 #[vr b, vi 2] [(.int cl_b_2.slots.size.toInt32), (.int 2)]))
  rw [len_of S_b_2 N_b_2]
  show Dn p e below s _ _ _ (s₁.setTop (mkF m 3 #[vr b, vi 2] [(.int 2), (.int 2)]))
  refine Dn.st (fun _ kk => XS.isub X0.here hx rfl (hb hby d11_3) rfl (XS.bipush X0.here hx rfl (hb hby d11_4) (XS.iushr X0.here hx rfl (hb hby d11_6) rfl (XS.i2b X0.here hx rfl (hb hby d11_7) rfl (kk))))) ?_
  show Dn p e below s _ _ _ (s₁.setTop (mkF m 8 #[vr b, vi 2] [(.int 0)]))
  exact Dn.ret X0 hlk hx hret rfl (Or.inl ⟨rfl, Or.inr (Or.inr (Or.inl rfl)), _, rfl⟩) (hb hby d11_8) (by rw [e0]; exact ⟨rfl, N0, rfl⟩) (by decide) (by decide)

theorem ef11_rmCl2_1 (m : MethodId) (x0 : Addr) (x1 : Int32) : entryFrame m #[(.ref x0), (.int x1)] 2 = mkF m 0 #[vr x0, vi x1] [] := by first | (simp [entryFrame, mkF, argsToLocals, Value.category]; done) | rfl
def QCl2_1 (Z : State) (b : Addr) (kb : ClassId) (ls : List Value) (h0 : Heap) (n0 : Nat) (v : Option Value) (h : Heap) (L : List Loc) : Prop := v = some (.int 1) ∧ Fr n0 L ∧ h = h0
theorem rmCl2_1 (l : Launch) (Z : State) (a0 : Array Value) (hw : ∀ d ∈ tables_1, d.before a0 Z = true) (ws : List Jvm.Cond) (b : Addr) (kb : ClassId) (ls : List Value) (h0 : Heap) (n0 : Nat) (Z0 : n0 ≤ h0.size) (Vb : Arv Z h0 b kb .byte 4 ls (.int 0)) :
    own_Met l on4 (Jvm.Cond.code on4 jdk_52_method_15_code 2 (some .byte) :: ws) orm25 #[(.ref b), (.int 2)] Z h0 (QCl2_1 Z b kb ls h0 n0) := by
  refine MetFree.of_bodySF (plainFor_of_name pn2) hisR ?_
  intro p e s m args below meth c s₁ Bd hml0 hP hK
  obtain ⟨rfl, hZ, hh⟩ := hP
  have hx := Bd.exec
  have hby := Bd.bytes
  have hlk : meth.locks = false := BodyLoose.notSynchronized Bd
  have hret := Bd.returns
  have hml : c.maxLocals = 2 := hml0
  have hown : s.vm.findClass "java/lang/StringUTF16" = some m.cls := findClass_of_methodNamed Bd.named
  have X0 : Stand p l e orm25 s m #[(.ref b), (.int 2)] below meth c s₁ [] 0 0 := Stand.of_body Bd
  have e0 : s₁.heap = h0 := by rw [← hh, Bd.state]; rfl
  have N0 := Fr.nil n0
  show Dn p e below s (QCl2_1 Z b kb ls h0 n0) orm25.cells orm25.slots (s₁.setTop (entryFrame m #[(.ref b), (.int 2)] 2))
  refine Dn.st (fun _ kk => castTop (ef11_rmCl2_1 m b (2 : Int32)) kk) ?_
  show Dn p e below s _ _ _ (s₁.setTop (mkF m 0 #[vr b, vi 2] []))
  refine Dn.st (fun _ kk => XS.iloadN X0.here hx rfl (hb hby d11_0) rfl (XS.aloadN X0.here hx rfl (hb hby d11_1) rfl rfl (kk))) ?_
  show Dn p e below s _ _ _ (s₁.setTop (mkF m 2 #[vr b, vi 2] [(.ref b), (.int 2)]))
  have Vc_b_2 := Vb
  obtain ⟨cl_b_2, Ar_b_2, q_b_2, S_b_2, N_b_2, H_b_2, G_b_2⟩ := Vc_b_2
  refine Dn.st (fun _ kk => X0.arraylength hx (by rw [e0]; exact Ar_b_2.1) (State.isArrayOf_alike hZ.alike Ar_b_2.2.1) (g := (mkF m 2 #[vr b, vi 2] [(.ref b), (.int 2)])) rfl rfl (hb hby d11_2) _ (kk)) ?_
  show Dn p e below s _ _ _ (s₁.setTop (mkF m 3 #[vr b, vi 2] [(.int cl_b_2.slots.size.toInt32), (.int 2)]))
  rw [len_of S_b_2 N_b_2]
  show Dn p e below s _ _ _ (s₁.setTop (mkF m 3 #[vr b, vi 2] [(.int 4), (.int 2)]))
  refine Dn.st (fun _ kk => XS.isub X0.here hx rfl (hb hby d11_3) rfl (XS.bipush X0.here hx rfl (hb hby d11_4) (XS.iushr X0.here hx rfl (hb hby d11_6) rfl (XS.i2b X0.here hx rfl (hb hby d11_7) rfl (kk))))) ?_
  show Dn p e below s _ _ _ (s₁.setTop (mkF m 8 #[vr b, vi 2] [(.int 1)]))
  exact Dn.ret X0 hlk hx hret rfl (Or.inl ⟨rfl, Or.inr (Or.inr (Or.inl rfl)), _, rfl⟩) (hb hby d11_8) (by rw [e0]; exact ⟨rfl, N0, rfl⟩) (by decide) (by decide)

theorem ef3_rmVc2 (m : MethodId) (x0 : Addr) (x1 : Addr) (x2 : Int32) (x3 : Int32) : entryFrame m #[(.ref x0), (.ref x1), (.int x2), (.int x3), .null] 6 = mkF m 0 #[vr x0, vr x1, vi x2, vi x3, .val .null, .unset] [] := by first | (simp [entryFrame, mkF, argsToLocals, Value.category]; done) | rfl
def QVc2 (Z : State) (a : Addr) (ar : Addr) (cs : Int32) (sf : Value) (ka : ClassId) (y0 : Int32) (y1 : Int32) (h0 : Heap) (n0 : Nat) (v : Option Value) (h : Heap) (L : List Loc) : Prop := v = none ∧ Fr n0 L ∧ Keep h0 h [a] ∧ own_Str Z h a 2 4 [(.int (own_b y0)), (.int (own_b y1))] [(.int (own_lo y0)), (.int (own_hi y0)), (.int (own_lo y1)), (.int (own_hi y1))] (y0.toInt ≤ 255 ∧ y1.toInt ≤ 255 ∧ True)
theorem rmVc2 (l : Launch) (Z : State) (a0 : Array Value) (hw : ∀ d ∈ tables_1, d.before a0 Z = true) (ws : List Jvm.Cond) (a : Addr) (ar : Addr) (cs : Int32) (sf : Value) (ka : ClassId) (y0 : Int32) (y1 : Int32) (h0 : Heap) (n0 : Nat) (Z0 : n0 ≤ h0.size) (hW : own_W Z h0 n0 cs sf) (ga : n0 ≤ a) (Ea : Exa Z h0 a "java/lang/String") (Fc : Fld Z h0 a "java/lang/String" "coder" "B" (.int 0)) (Fv : Fld Z h0 a "java/lang/String" "value" "[B" .null) (Vr : Arv Z h0 ar ka .char 2 [(.int y0), (.int y1)] (.int 0)) (hne : a ≠ ar) (hr0 : 0 ≤ y0.toInt ∧ y0.toInt ≤ 65535) (hr1 : 0 ≤ y1.toInt ∧ y1.toInt ≤ 65535) :
    own_Met l on8 (Jvm.Cond.code on8 jdk_42_method_149_code 6 none :: ws) orm35 #[(.ref a), (.ref ar), (.int 0), (.int 2), .null] Z h0 (QVc2 Z a ar cs sf ka y0 y1 h0 n0) := by
  refine MetFree.of_bodySF (plainFor_of_name pn0) hisR ?_
  intro p e s m args below meth c s₁ Bd hml0 hP hK
  obtain ⟨rfl, hZ, hh⟩ := hP
  have hx := Bd.exec
  have hby := Bd.bytes
  have hlk : meth.locks = false := BodyLoose.notSynchronized Bd
  have hret := Bd.returns
  have hml : c.maxLocals = 6 := hml0
  have hown : s.vm.findClass "java/lang/String" = some m.cls := findClass_of_methodNamed Bd.named
  have hnm := (name_of_methodNamed Bd.named Bd.method).1
  have X0 : Stand p l e orm35 s m #[(.ref a), (.ref ar), (.int 0), (.int 2), .null] below meth c s₁ [] 0 0 := Stand.of_body Bd
  have e0 : s₁.heap = h0 := by rw [← hh, Bd.state]; rfl
  have N0 := Fr.nil n0
  show Dn p e below s (QVc2 Z a ar cs sf ka y0 y1 h0 n0) orm35.cells orm35.slots (s₁.setTop (entryFrame m #[(.ref a), (.ref ar), (.int 0), (.int 2), .null] 6))
  refine Dn.st (fun _ kk => castTop (ef3_rmVc2 m a ar (0 : Int32) (2 : Int32)) kk) ?_
  show Dn p e below s _ _ _ (s₁.setTop (mkF m 0 #[vr a, vr ar, vi 0, vi 2, .val .null, .unset] []))
  refine Dn.st (fun _ kk => XS.aloadN X0.here hx rfl (hb hby d3_0) rfl rfl (kk)) ?_
  show Dn p e below s _ _ _ (s₁.setTop (mkF m 1 #[vr a, vr ar, vi 0, vi 2, .val .null, .unset] [(.ref a)]))
  obtain ⟨T1, X1, e1, st1⟩ := initO X0 hx hZ hown (tw hw 17 rfl) (tw hw 18 rfl) (tw hw 19 rfl) e0 (g := (mkF m 1 #[vr a, vr ar, vi 0, vi 2, .val .null, .unset] [(.ref a)])) rfl (by rw [hml]; rfl) rfl (hb hby d3_1) (by decide) (W := 0) (by show 2 * 0 + _ ≤ _; exact Nat.le_of_eq rfl) (by decide)
  refine Dn.st st1 ?_
  show Dn p e below s _ _ _ (T1.setTop (mkF m 4 #[vr a, vr ar, vi 0, vi 2, .val .null, .unset] []))
  refine Dn.st (fun _ kk => XS.iloadN X1.here hx rfl (hb hby d3_4) rfl (kk)) ?_
  show Dn p e below s _ _ _ (T1.setTop (mkF m 5 #[vr a, vr ar, vi 0, vi 2, .val .null, .unset] [(.int 2)]))
  have hc5 : ¬ ((2 : Int32) = (0 : Int32)) := by decide
  refine Dn.st (fun _ kk => XS.ifYes X1.here hx rfl (pc0 := 5) (pc' := 27) rfl (hb hby d3_5) rfl ((if0 _ _).trans (feq hc5).2) (by decide) (by decide) (kk)) ?_
  show Dn p e below s _ _ _ (T1.setTop (mkF m 27 #[vr a, vr ar, vi 0, vi 2, .val .null, .unset] []))
  obtain ⟨T27, X27, e27, st27⟩ := getS2 X1 hx hZ hown (host := "") (Or.inl (tw hw 47 rfl)) Via.refl e1 hW.cst (g := (mkF m 27 #[vr a, vr ar, vi 0, vi 2, .val .null, .unset] [])) rfl (hb hby d3_27)
  refine Dn.st st27 ?_
  show Dn p e below s _ _ _ (T27.setTop (mkF m 30 #[vr a, vr ar, vi 0, vi 2, .val .null, .unset] [(.int cs)]))
  have hc30 : ¬ (cs = (0 : Int32)) := hW.cne
  refine Dn.st (fun _ kk => XS.ifNo X27.here hx rfl (hb hby d3_30) rfl ((if0 _ _).trans (feq hc30).1) (XS.aloadN X27.here hx rfl (hb hby d3_33) rfl rfl (XS.iloadN X27.here hx rfl (hb hby d3_34) rfl (XS.iloadN X27.here hx rfl (hb hby d3_35) rfl (kk))))) ?_
  show Dn p e below s _ _ _ (T27.setTop (mkF m 36 #[vr a, vr ar, vi 0, vi 2, .val .null, .unset] [(.int 2), (.int 0), (.ref ar)]))
  obtain ⟨_, _, ⟨T36, L36, k36, n36⟩, -, X36, ⟨Lc36, hQ36, l36, y36, z36⟩, st36⟩ := Jvm.LawKit.callS X27 hx (y := on12) hown (mvT hZ (tw hw 48 rfl)) (mvT hZ (tw hw 49 rfl)) (mvT hZ (tw hw 50 rfl)) (mvT hZ (tw hw 51 rfl)) (by decide) (backOf (W := 0) (rmC3_2 l Z a0 hw [] ar cs sf ka y0 y1 h0 n0 Z0 hW Vr hr0 hr1) hZ (tw hw 51 rfl) (tw hw 50 rfl) (by decide) (by decide)) (g := (mkF m 36 #[vr a, vr ar, vi 0, vi 2, .val .null, .unset] [(.int 2), (.int 0), (.ref ar)])) rfl (by rw [hml]; rfl) (argsL := [(.ref ar), (.int 0), (.int 2)]) (rest := []) (lenOf pd12 rfl) rfl (by show 2 * 0 + _ ≤ _; exact Nat.le_of_eq rfl) (hb hby d3_36) (fun _ _ => ⟨rfl, e27, (by decide : 0 + 2 ≤ _), (by decide : 0 + 6 ≤ _)⟩)
  dsimp only [Pt.U, Pt.locs, Pt.cells, Pt.slots] at X36 l36 y36 z36 st36 hQ36
  subst l36 y36 z36
  obtain ⟨bb36, kb36, rfl, gz36, Nq36, K36, hq36⟩ := hQ36
  have N36 := Fr.app N0 Nq36
  refine Dn.st st36 ?_
  have ne_a_bb36 : a ≠ bb36 := Nat.ne_of_lt (Nat.lt_of_lt_of_le Ea.lt gz36)
  have ne_ar_bb36 : ar ≠ bb36 := Nat.ne_of_lt (Nat.lt_of_lt_of_le Vr.lt gz36)
  have gn_bb36 : n0 ≤ bb36 := Nat.le_trans Z0 gz36
  have gz_bb36 : h0.size ≤ bb36 := Nat.le_trans (Keep.refl h0 [a]).1 gz36
  have Wo36 := hW.keep K36 own_k0
  have E_a_36 := Ea.keep K36
  have F_a_coder_36 := Fc.keep K36 nin0
  have F_a_value_36 := Fv.keep K36 nin0
  have V_ar_36 := Vr.keep K36 nin0
  have Kt36 := Keep.trans (Keep.refl h0 [a]) K36 (by simp)
  have Z36 : n0 ≤ T36.heap.size := Nat.le_trans Z0 K36.1
  rcases hq36 with ⟨VL36, hp36⟩ | VU36
  · show Dn p e below s _ _ _ (T36.setTop (mkF m 39 #[vr a, vr ar, vi 0, vi 2, .val .null, .unset] [(.ref bb36)]))
    refine Dn.st (fun _ kk => XS.astore X36.here hx rfl (hb hby d3_39) rfl rfl (l' := #[vr a, vr ar, vi 0, vi 2, .val .null, vr bb36]) rfl (XS.aloadN X36.here hx rfl (hb hby d3_41) rfl rfl (XS.aload X36.here hx rfl (hb hby d3_42) rfl rfl (XS.iloadN X36.here hx rfl (hb hby d3_44) rfl (kk))))) ?_
    show Dn p e below s _ _ _ (T36.setTop (mkF m 45 #[vr a, vr ar, vi 0, vi 2, .val .null, vr bb36] [(.int 2), (.ref bb36), (.ref a)]))
    obtain ⟨_, _, ⟨T45, L45, k45, n45⟩, -, X45, ⟨Lc45, hQ45, l45, y45, z45⟩, st45⟩ := Jvm.LawKit.callS X36 hx (y := on4) hown (mvT hZ (tw hw 55 rfl)) (mvT hZ (tw hw 56 rfl)) (mvT hZ (tw hw 50 rfl)) (mvT hZ (tw hw 57 rfl)) (by decide) (backOf (W := 1) (rmCl2_0 l Z a0 hw [] bb36 kb36 [(.int (own_b y0)), (.int (own_b y1))] T36.heap n0 Z36 VL36) hZ (tw hw 57 rfl) (tw hw 50 rfl) (by decide) (by decide)) (g := (mkF m 45 #[vr a, vr ar, vi 0, vi 2, .val .null, vr bb36] [(.int 2), (.ref bb36), (.ref a)])) rfl (by rw [hml]; rfl) (argsL := [(.ref bb36), (.int 2)]) (rest := [(.ref a)]) (lenOf pd13 rfl) rfl (by show 2 * 0 + _ ≤ _; exact Nat.le_of_eq rfl) (hb hby d3_45) (fun _ _ => ⟨rfl, rfl, (by decide : 2 + 0 ≤ _), (by decide : 6 + 0 ≤ _)⟩)
    dsimp only [Pt.U, Pt.locs, Pt.cells, Pt.slots] at X45 l45 y45 z45 st45 hQ45
    subst l45 y45 z45
    obtain ⟨rfl, Nq45, hh45⟩ := hQ45
    have N45 := Fr.app N36 Nq45
    refine Dn.st st45 ?_
    show Dn p e below s _ _ _ (T45.setTop (mkF m 48 #[vr a, vr ar, vi 0, vi 2, .val .null, vr bb36] [(.int 0), (.ref a)]))
    obtain ⟨T48, h48, X48, e48, W48, st48⟩ := putF X45 hx hZ hown (host := "") (Or.inl (tw hw 27 rfl)) Via.refl hh45 F_a_coder_36 E_a_36 (Or.inr ⟨(tw hw 23 rfl), rfl, hnm⟩) (tw hw 7 rfl) (ty := .byte) (by decide) rfl rfl (g := (mkF m 48 #[vr a, vr ar, vi 0, vi 2, .val .null, vr bb36] [(.int 0), (.ref a)])) rfl rfl (hb hby d3_48)
    have Wo48 := Wo36.wr W48 ga
    have E_a_48 := E_a_36.wr W48
    have F_a_value_48 := F_a_value_36.other W48 (Or.inr (slot_ne (Or.inr (tw hw 22 rfl)) (Or.inr (tw hw 23 rfl)) (by decide) (t := (.array .byte)) (t' := .byte) (by decide) (by decide)))
    have V_ar_48 := V_ar_36.other W48 (Ne.symm hne)
    have V_bb36_48 := VL36.other W48 (Ne.symm ne_a_bb36)
    have F_a_coder_48 := F_a_coder_36.same W48
    have K48 := Kt36.wr W48 (Or.inl (List.mem_of_getElem? (i := 0) rfl))
    have N48 := Fr.snoc X48 N45 ga
    have Z48 : n0 ≤ h48.size := Nat.le_trans Z36 (Keep.of_wr W48).1
    refine Dn.st st48 ?_
    show Dn p e below s _ _ _ (T48.setTop (mkF m 51 #[vr a, vr ar, vi 0, vi 2, .val .null, vr bb36] []))
    refine Dn.st (fun _ kk => XS.aloadN X48.here hx rfl (hb hby d3_51) rfl rfl (XS.aload X48.here hx rfl (hb hby d3_52) rfl rfl (kk))) ?_
    show Dn p e below s _ _ _ (T48.setTop (mkF m 54 #[vr a, vr ar, vi 0, vi 2, .val .null, vr bb36] [(.ref bb36), (.ref a)]))
    obtain ⟨T54, h54, X54, e54, W54, st54⟩ := putF X48 hx hZ hown (host := "") (Or.inl (tw hw 26 rfl)) Via.refl e48 F_a_value_48 E_a_48 (Or.inr ⟨(tw hw 22 rfl), rfl, hnm⟩) (tw hw 7 rfl) (ty := (.array .byte)) (by decide) rfl rfl (g := (mkF m 54 #[vr a, vr ar, vi 0, vi 2, .val .null, vr bb36] [(.ref bb36), (.ref a)])) rfl rfl (hb hby d3_54)
    have Wo54 := Wo48.wr W54 ga
    have E_a_54 := E_a_48.wr W54
    have F_a_coder_54 := F_a_coder_48.other W54 (Or.inr (slot_ne (Or.inr (tw hw 23 rfl)) (Or.inr (tw hw 22 rfl)) (by decide) (t := .byte) (t' := (.array .byte)) (by decide) (by decide)))
    have V_ar_54 := V_ar_48.other W54 (Ne.symm hne)
    have V_bb36_54 := V_bb36_48.other W54 (Ne.symm ne_a_bb36)
    have F_a_value_54 := F_a_value_48.same W54
    have K54 := K48.wr W54 (Or.inl (List.mem_of_getElem? (i := 0) rfl))
    have N54 := Fr.snoc X54 N48 ga
    have Z54 : n0 ≤ h54.size := Nat.le_trans Z48 (Keep.of_wr W54).1
    refine Dn.st st54 ?_
    show Dn p e below s _ _ _ (T54.setTop (mkF m 57 #[vr a, vr ar, vi 0, vi 2, .val .null, vr bb36] []))
    exact Dn.ret0 X54 hlk hx hret (hb hby d3_57) (by rw [e54]; exact ⟨rfl, N54, K54, E_a_54, Or.inl ⟨bb36, kb36, F_a_coder_54, F_a_value_54, V_bb36_54, hp36⟩⟩) (by decide) (by decide)
  · show Dn p e below s _ _ _ (T36.setTop (mkF m 39 #[vr a, vr ar, vi 0, vi 2, .val .null, .unset] [(.ref bb36)]))
    refine Dn.st (fun _ kk => XS.astore X36.here hx rfl (hb hby d3_39) rfl rfl (l' := #[vr a, vr ar, vi 0, vi 2, .val .null, vr bb36]) rfl (XS.aloadN X36.here hx rfl (hb hby d3_41) rfl rfl (XS.aload X36.here hx rfl (hb hby d3_42) rfl rfl (XS.iloadN X36.here hx rfl (hb hby d3_44) rfl (kk))))) ?_
    show Dn p e below s _ _ _ (T36.setTop (mkF m 45 #[vr a, vr ar, vi 0, vi 2, .val .null, vr bb36] [(.int 2), (.ref bb36), (.ref a)]))
    obtain ⟨_, _, ⟨T45, L45, k45, n45⟩, -, X45, ⟨Lc45, hQ45, l45, y45, z45⟩, st45⟩ := Jvm.LawKit.callS X36 hx (y := on4) hown (mvT hZ (tw hw 55 rfl)) (mvT hZ (tw hw 56 rfl)) (mvT hZ (tw hw 50 rfl)) (mvT hZ (tw hw 57 rfl)) (by decide) (backOf (W := 1) (rmCl2_1 l Z a0 hw [] bb36 kb36 [(.int (own_lo y0)), (.int (own_hi y0)), (.int (own_lo y1)), (.int (own_hi y1))] T36.heap n0 Z36 VU36) hZ (tw hw 57 rfl) (tw hw 50 rfl) (by decide) (by decide)) (g := (mkF m 45 #[vr a, vr ar, vi 0, vi 2, .val .null, vr bb36] [(.int 2), (.ref bb36), (.ref a)])) rfl (by rw [hml]; rfl) (argsL := [(.ref bb36), (.int 2)]) (rest := [(.ref a)]) (lenOf pd13 rfl) rfl (by show 2 * 0 + _ ≤ _; exact Nat.le_of_eq rfl) (hb hby d3_45) (fun _ _ => ⟨rfl, rfl, (by decide : 2 + 0 ≤ _), (by decide : 6 + 0 ≤ _)⟩)
    dsimp only [Pt.U, Pt.locs, Pt.cells, Pt.slots] at X45 l45 y45 z45 st45 hQ45
    subst l45 y45 z45
    obtain ⟨rfl, Nq45, hh45⟩ := hQ45
    have N45 := Fr.app N36 Nq45
    refine Dn.st st45 ?_
    show Dn p e below s _ _ _ (T45.setTop (mkF m 48 #[vr a, vr ar, vi 0, vi 2, .val .null, vr bb36] [(.int 1), (.ref a)]))
    obtain ⟨T48, h48, X48, e48, W48, st48⟩ := putF X45 hx hZ hown (host := "") (Or.inl (tw hw 27 rfl)) Via.refl hh45 F_a_coder_36 E_a_36 (Or.inr ⟨(tw hw 23 rfl), rfl, hnm⟩) (tw hw 7 rfl) (ty := .byte) (by decide) rfl rfl (g := (mkF m 48 #[vr a, vr ar, vi 0, vi 2, .val .null, vr bb36] [(.int 1), (.ref a)])) rfl rfl (hb hby d3_48)
    have Wo48 := Wo36.wr W48 ga
    have E_a_48 := E_a_36.wr W48
    have F_a_value_48 := F_a_value_36.other W48 (Or.inr (slot_ne (Or.inr (tw hw 22 rfl)) (Or.inr (tw hw 23 rfl)) (by decide) (t := (.array .byte)) (t' := .byte) (by decide) (by decide)))
    have V_ar_48 := V_ar_36.other W48 (Ne.symm hne)
    have V_bb36_48 := VU36.other W48 (Ne.symm ne_a_bb36)
    have F_a_coder_48 := F_a_coder_36.same W48
    have K48 := Kt36.wr W48 (Or.inl (List.mem_of_getElem? (i := 0) rfl))
    have N48 := Fr.snoc X48 N45 ga
    have Z48 : n0 ≤ h48.size := Nat.le_trans Z36 (Keep.of_wr W48).1
    refine Dn.st st48 ?_
    show Dn p e below s _ _ _ (T48.setTop (mkF m 51 #[vr a, vr ar, vi 0, vi 2, .val .null, vr bb36] []))
    refine Dn.st (fun _ kk => XS.aloadN X48.here hx rfl (hb hby d3_51) rfl rfl (XS.aload X48.here hx rfl (hb hby d3_52) rfl rfl (kk))) ?_
    show Dn p e below s _ _ _ (T48.setTop (mkF m 54 #[vr a, vr ar, vi 0, vi 2, .val .null, vr bb36] [(.ref bb36), (.ref a)]))
    obtain ⟨T54, h54, X54, e54, W54, st54⟩ := putF X48 hx hZ hown (host := "") (Or.inl (tw hw 26 rfl)) Via.refl e48 F_a_value_48 E_a_48 (Or.inr ⟨(tw hw 22 rfl), rfl, hnm⟩) (tw hw 7 rfl) (ty := (.array .byte)) (by decide) rfl rfl (g := (mkF m 54 #[vr a, vr ar, vi 0, vi 2, .val .null, vr bb36] [(.ref bb36), (.ref a)])) rfl rfl (hb hby d3_54)
    have Wo54 := Wo48.wr W54 ga
    have E_a_54 := E_a_48.wr W54
    have F_a_coder_54 := F_a_coder_48.other W54 (Or.inr (slot_ne (Or.inr (tw hw 23 rfl)) (Or.inr (tw hw 22 rfl)) (by decide) (t := .byte) (t' := (.array .byte)) (by decide) (by decide)))
    have V_ar_54 := V_ar_48.other W54 (Ne.symm hne)
    have V_bb36_54 := V_bb36_48.other W54 (Ne.symm ne_a_bb36)
    have F_a_value_54 := F_a_value_48.same W54
    have K54 := K48.wr W54 (Or.inl (List.mem_of_getElem? (i := 0) rfl))
    have N54 := Fr.snoc X54 N48 ga
    have Z54 : n0 ≤ h54.size := Nat.le_trans Z48 (Keep.of_wr W54).1
    refine Dn.st st54 ?_
    show Dn p e below s _ _ _ (T54.setTop (mkF m 57 #[vr a, vr ar, vi 0, vi 2, .val .null, vr bb36] []))
    exact Dn.ret0 X54 hlk hx hret (hb hby d3_57) (by rw [e54]; exact ⟨rfl, N54, K54, E_a_54, Or.inr ⟨bb36, kb36, F_a_coder_54, F_a_value_54, V_bb36_54⟩⟩) (by decide) (by decide)

theorem ef2_rmSc2 (m : MethodId) (x0 : Addr) (x1 : Addr) : entryFrame m #[(.ref x0), (.ref x1)] 2 = mkF m 0 #[vr x0, vr x1] [] := by first | (simp [entryFrame, mkF, argsToLocals, Value.category]; done) | rfl
def QSc2 (Z : State) (a : Addr) (ar : Addr) (cs : Int32) (sf : Value) (ka : ClassId) (y0 : Int32) (y1 : Int32) (h0 : Heap) (n0 : Nat) (v : Option Value) (h : Heap) (L : List Loc) : Prop := v = none ∧ Fr n0 L ∧ Keep h0 h [a] ∧ own_Str Z h a 2 4 [(.int (own_b y0)), (.int (own_b y1))] [(.int (own_lo y0)), (.int (own_hi y0)), (.int (own_lo y1)), (.int (own_hi y1))] (y0.toInt ≤ 255 ∧ y1.toInt ≤ 255 ∧ True)
theorem rmSc2 (l : Launch) (Z : State) (a0 : Array Value) (hw : ∀ d ∈ tables_1, d.before a0 Z = true) (ws : List Jvm.Cond) (a : Addr) (ar : Addr) (cs : Int32) (sf : Value) (ka : ClassId) (y0 : Int32) (y1 : Int32) (h0 : Heap) (n0 : Nat) (Z0 : n0 ≤ h0.size) (hW : own_W Z h0 n0 cs sf) (ga : n0 ≤ a) (Ea : Exa Z h0 a "java/lang/String") (Fc : Fld Z h0 a "java/lang/String" "coder" "B" (.int 0)) (Fv : Fld Z h0 a "java/lang/String" "value" "[B" .null) (Vr : Arv Z h0 ar ka .char 2 [(.int y0), (.int y1)] (.int 0)) (hne : a ≠ ar) (hr0 : 0 ≤ y0.toInt ∧ y0.toInt ≤ 65535) (hr1 : 0 ≤ y1.toInt ∧ y1.toInt ≤ 65535) :
    own_Met l on9 (Jvm.Cond.code on9 jdk_42_method_3_code 2 none :: ws) orm42 #[(.ref a), (.ref ar)] Z h0 (QSc2 Z a ar cs sf ka y0 y1 h0 n0) := by
  refine MetFree.of_bodySF (plainFor_of_name pn0) hisR ?_
  intro p e s m args below meth c s₁ Bd hml0 hP hK
  obtain ⟨rfl, hZ, hh⟩ := hP
  have hx := Bd.exec
  have hby := Bd.bytes
  have hlk : meth.locks = false := BodyLoose.notSynchronized Bd
  have hret := Bd.returns
  have hml : c.maxLocals = 2 := hml0
  have hown : s.vm.findClass "java/lang/String" = some m.cls := findClass_of_methodNamed Bd.named
  have X0 : Stand p l e orm42 s m #[(.ref a), (.ref ar)] below meth c s₁ [] 0 0 := Stand.of_body Bd
  have e0 : s₁.heap = h0 := by rw [← hh, Bd.state]; rfl
  have N0 := Fr.nil n0
  show Dn p e below s (QSc2 Z a ar cs sf ka y0 y1 h0 n0) orm42.cells orm42.slots (s₁.setTop (entryFrame m #[(.ref a), (.ref ar)] 2))
  refine Dn.st (fun _ kk => castTop (ef2_rmSc2 m a ar) kk) ?_
  show Dn p e below s _ _ _ (s₁.setTop (mkF m 0 #[vr a, vr ar] []))
  refine Dn.st (fun _ kk => XS.aloadN X0.here hx rfl (hb hby d2_0) rfl rfl (XS.aloadN X0.here hx rfl (hb hby d2_1) rfl rfl (XS.iconst X0.here hx rfl (hb hby d2_2) (XS.aloadN X0.here hx rfl (hb hby d2_3) rfl rfl (kk))))) ?_
  show Dn p e below s _ _ _ (s₁.setTop (mkF m 4 #[vr a, vr ar] [(.ref ar), (.int 0), (.ref ar), (.ref a)]))
  have Vc_ar_4 := Vr
  obtain ⟨cl_ar_4, Ar_ar_4, q_ar_4, S_ar_4, N_ar_4, H_ar_4, G_ar_4⟩ := Vc_ar_4
  refine Dn.st (fun _ kk => X0.arraylength hx (by rw [e0]; exact Ar_ar_4.1) (State.isArrayOf_alike hZ.alike Ar_ar_4.2.1) (g := (mkF m 4 #[vr a, vr ar] [(.ref ar), (.int 0), (.ref ar), (.ref a)])) rfl rfl (hb hby d2_4) _ (kk)) ?_
  show Dn p e below s _ _ _ (s₁.setTop (mkF m 5 #[vr a, vr ar] [(.int cl_ar_4.slots.size.toInt32), (.int 0), (.ref ar), (.ref a)]))
  rw [len_of S_ar_4 N_ar_4]
  show Dn p e below s _ _ _ (s₁.setTop (mkF m 5 #[vr a, vr ar] [(.int 2), (.int 0), (.ref ar), (.ref a)]))
  refine Dn.st (fun _ kk => XS.aconstNull X0.here hx rfl (hb hby d2_5) (kk)) ?_
  show Dn p e below s _ _ _ (s₁.setTop (mkF m 6 #[vr a, vr ar] [.null, (.int 2), (.int 0), (.ref ar), (.ref a)]))
  obtain ⟨_, _, ⟨T6, L6, k6, n6⟩, -, X6, ⟨Lc6, hQ6, l6, y6, z6⟩, st6⟩ := X0.specialBack hx (y := on8) rfl hown (mvT hZ (tw hw 13 rfl)) (mvT hZ (tw hw 14 rfl)) (mvT hZ (tw hw 16 rfl)) (by decide) (backOf (W := 0) (rmVc2 l Z a0 hw [] a ar cs sf ka y0 y1 h0 n0 Z0 hW ga Ea Fc Fv Vr hne hr0 hr1) hZ (tw hw 16 rfl) (tw hw 8 rfl) (by decide) (by decide)) (g := (mkF m 6 #[vr a, vr ar] [.null, (.int 2), (.int 0), (.ref ar), (.ref a)])) rfl (by rw [hml]; rfl) (Steps.refl _) (a := a) (argsL := [(.ref ar), (.int 0), (.int 2), .null]) (rest := []) (lenOf pd0 rfl) rfl (by show 2 * 0 + _ ≤ _; exact Nat.le_of_eq rfl) (hb hby d2_6) (fun _ _ => ⟨rfl, e0, (by decide : 0 + 2 ≤ _), (by decide : 0 + 6 ≤ _)⟩)
  dsimp only [Pt.U, Pt.locs, Pt.cells, Pt.slots] at X6 l6 y6 z6 st6 hQ6
  subst l6 y6 z6
  obtain ⟨rfl, Nq6, K6, S6⟩ := hQ6
  have N6 := Fr.app N0 Nq6
  refine Dn.tr st6 ?_
  show Dn p e below s _ _ _ (T6.setTop (mkF m 9 #[vr a, vr ar] []))
  exact Dn.ret0 X6 hlk hx hret (hb hby d2_9) ⟨rfl, N6, K6, S6⟩ (by decide) (by decide)

theorem ef21_rmNl3 (m : MethodId) (x0 : Int32) : entryFrame m #[(.int x0)] 1 = mkF m 0 #[vi x0] [] := by first | (simp [entryFrame, mkF, argsToLocals, Value.category]; done) | rfl
def QNl3 (Z : State)  (h0 : Heap) (n0 : Nat) (v : Option Value) (h : Heap) (L : List Loc) : Prop := v = some (.int 6) ∧ Fr n0 L ∧ h = h0
theorem rmNl3 (l : Launch) (Z : State) (a0 : Array Value) (hw : ∀ d ∈ tables_1, d.before a0 Z = true) (ws : List Jvm.Cond)  (h0 : Heap) (n0 : Nat) (Z0 : n0 ≤ h0.size) :
    own_Met l on15 (Jvm.Cond.code on15 jdk_52_method_3_code 1 (some .int) :: ws) orm25 #[(.int 3)] Z h0 (QNl3 Z  h0 n0) := by
  refine MetFree.of_bodySF (plainFor_of_name pn2) hisR ?_
  intro p e s m args below meth c s₁ Bd hml0 hP hK
  obtain ⟨rfl, hZ, hh⟩ := hP
  have hx := Bd.exec
  have hby := Bd.bytes
  have hlk : meth.locks = false := BodyLoose.notSynchronized Bd
  have hret := Bd.returns
  have hml : c.maxLocals = 1 := hml0
  have hown : s.vm.findClass "java/lang/StringUTF16" = some m.cls := findClass_of_methodNamed Bd.named
  have X0 : Stand p l e orm25 s m #[(.int 3)] below meth c s₁ [] 0 0 := Stand.of_body Bd
  have e0 : s₁.heap = h0 := by rw [← hh, Bd.state]; rfl
  have N0 := Fr.nil n0
  show Dn p e below s (QNl3 Z  h0 n0) orm25.cells orm25.slots (s₁.setTop (entryFrame m #[(.int 3)] 1))
  refine Dn.st (fun _ kk => castTop (ef21_rmNl3 m (3 : Int32)) kk) ?_
  show Dn p e below s _ _ _ (s₁.setTop (mkF m 0 #[vi 3] []))
  refine Dn.st (fun _ kk => XS.iloadN X0.here hx rfl (hb hby d21_0) rfl (kk)) ?_
  show Dn p e below s _ _ _ (s₁.setTop (mkF m 1 #[vi 3] [(.int 3)]))
  have hc1 : ¬ ((3 : Int32) < (0 : Int32)) := by decide
  refine Dn.st (fun _ kk => XS.ifYes X0.here hx rfl (pc0 := 1) (pc' := 12) rfl (hb hby d21_1) rfl ((if0 _ _).trans (flt hc1).2.1) (by decide) (by decide) (XS.iloadN X0.here hx rfl (hb hby d21_12) rfl (X0.ldcInt hx hown (mvT hZ (tw hw 95 rfl)) (g := (mkF m 13 #[vi 3] [(.int 3)])) rfl (hb hby d21_13) _ (kk)))) ?_
  show Dn p e below s _ _ _ (s₁.setTop (mkF m 15 #[vi 3] [(.int 1073741823), (.int 3)]))
  have hc15 : (3 : Int32) < (1073741823 : Int32) := by decide
  refine Dn.st (fun _ kk => XS.icmpYes X0.here hx rfl (pc0 := 15) (pc' := 55) rfl (hb hby d21_15) rfl (tlt hc15).1 (by decide) (by decide) (XS.iloadN X0.here hx rfl (hb hby d21_55) rfl (XS.iconst X0.here hx rfl (hb hby d21_56) (XS.ishl X0.here hx rfl (hb hby d21_57) rfl (kk))))) ?_
  show Dn p e below s _ _ _ (s₁.setTop (mkF m 58 #[vi 3] [(.int 6)]))
  exact Dn.ret X0 hlk hx hret rfl (Or.inl ⟨rfl, Or.inl rfl, _, rfl⟩) (hb hby d21_58) (by rw [e0]; exact ⟨rfl, N0, rfl⟩) (by decide) (by decide)

theorem ef20_rmNf3 (m : MethodId) (x0 : Int32) : entryFrame m #[(.int x0)] 1 = mkF m 0 #[vi x0] [] := by first | (simp [entryFrame, mkF, argsToLocals, Value.category]; done) | rfl
def QNf3 (Z : State)  (h0 : Heap) (n0 : Nat) (v : Option Value) (h : Heap) (L : List Loc) : Prop := ∃ (b : Addr) (kb : ClassId), v = some (.ref b) ∧ h0.size ≤ b ∧ Fr n0 L ∧ Keep h0 h [] ∧ Arv Z h b kb .byte 6 [(.int 0), (.int 0), (.int 0), (.int 0), (.int 0), (.int 0)] (.int 0)
theorem rmNf3 (l : Launch) (Z : State) (a0 : Array Value) (hw : ∀ d ∈ tables_1, d.before a0 Z = true) (ws : List Jvm.Cond)  (h0 : Heap) (n0 : Nat) (Z0 : n0 ≤ h0.size) :
    own_Met l on14 (Jvm.Cond.code on14 jdk_52_method_2_code 1 (some (.array .byte)) :: ws) orm48 #[(.int 3)] Z h0 (QNf3 Z  h0 n0) := by
  refine MetFree.of_bodySF (plainFor_of_name pn2) hisR ?_
  intro p e s m args below meth c s₁ Bd hml0 hP hK
  obtain ⟨rfl, hZ, hh⟩ := hP
  have hx := Bd.exec
  have hby := Bd.bytes
  have hlk : meth.locks = false := BodyLoose.notSynchronized Bd
  have hret := Bd.returns
  have hml : c.maxLocals = 1 := hml0
  have hown : s.vm.findClass "java/lang/StringUTF16" = some m.cls := findClass_of_methodNamed Bd.named
  have X0 : Stand p l e orm48 s m #[(.int 3)] below meth c s₁ [] 0 0 := Stand.of_body Bd
  have e0 : s₁.heap = h0 := by rw [← hh, Bd.state]; rfl
  have N0 := Fr.nil n0
  show Dn p e below s (QNf3 Z  h0 n0) orm48.cells orm48.slots (s₁.setTop (entryFrame m #[(.int 3)] 1))
  refine Dn.st (fun _ kk => castTop (ef20_rmNf3 m (3 : Int32)) kk) ?_
  show Dn p e below s _ _ _ (s₁.setTop (mkF m 0 #[vi 3] []))
  refine Dn.st (fun _ kk => XS.iloadN X0.here hx rfl (hb hby d20_0) rfl (kk)) ?_
  show Dn p e below s _ _ _ (s₁.setTop (mkF m 1 #[vi 3] [(.int 3)]))
  obtain ⟨_, _, ⟨T1, L1, k1, n1⟩, -, X1, ⟨Lc1, hQ1, l1, y1, z1⟩, st1⟩ := Jvm.LawKit.callS X0 hx (y := on15) hown (mvT hZ (tw hw 92 rfl)) (mvT hZ (tw hw 93 rfl)) (mvT hZ (tw hw 50 rfl)) (mvT hZ (tw hw 94 rfl)) (by decide) (backOf (W := 0) (rmNl3 l Z a0 hw []  h0 n0 Z0 ) hZ (tw hw 94 rfl) (tw hw 50 rfl) (by decide) (by decide)) (g := (mkF m 1 #[vi 3] [(.int 3)])) rfl (by rw [hml]; rfl) (argsL := [(.int 3)]) (rest := []) (lenOf pd8 rfl) rfl (by show 2 * 0 + _ ≤ _; exact Nat.le_of_eq rfl) (hb hby d20_1) (fun _ _ => ⟨rfl, e0, (by decide : 0 + 0 ≤ _), (by decide : 0 + 0 ≤ _)⟩)
  dsimp only [Pt.U, Pt.locs, Pt.cells, Pt.slots] at X1 l1 y1 z1 st1 hQ1
  subst l1 y1 z1
  obtain ⟨rfl, Nq1, hh1⟩ := hQ1
  have N1 := Fr.app N0 Nq1
  refine Dn.st st1 ?_
  show Dn p e below s _ _ _ (T1.setTop (mkF m 4 #[vi 3] [(.int 6)]))
  obtain ⟨T4, h4, k4, X4, e4, E4, A4, st4⟩ := newP X1 hx hZ (tw hw 21 rfl) hh1 (g := (mkF m 4 #[vi 3] [(.int 6)])) rfl (hb hby d20_4) rfl (by decide) (cap := 6) (by decide) (by decide) (by decide) (by decide)
  obtain ⟨b4, g4⟩ : ∃ z, z = h0.size := ⟨_, rfl⟩
  rw [← g4] at A4 st4
  have gz_b4 : h0.size ≤ b4 := Nat.le_trans (Keep.refl h0 []).1 (Nat.le_of_eq g4.symm)
  have K4 := (Keep.refl h0 []).ext E4
  have gn_b4 : n0 ≤ b4 := Nat.le_trans Z0 (Nat.le_of_eq g4.symm)
  have Z4 : n0 ≤ h4.size := Nat.le_trans Z0 E4.1
  have V_b4 : Arv Z h4 b4 k4 .byte (6 : Int32) [(.int 0), (.int 0), (.int 0), (.int 0), (.int 0), (.int 0)] (.int 0) := (Arv.new A4 (by decide)).pad (pad_rep [] (.int 0) 6)
  refine Dn.st st4 ?_
  show Dn p e below s _ _ _ (T4.setTop (mkF m 6 #[vi 3] [(.ref b4)]))
  exact Dn.ret X4 hlk hx hret rfl (Or.inr (Or.inr (Or.inr (Or.inr ⟨rfl, rfl, rfl⟩)))) (hb hby d20_6) (by rw [e4]; exact ⟨b4, k4, rfl, gz_b4, N1, K4, V_b4⟩) (by decide) (by decide)

theorem ef22_rmPu3_0 (m : MethodId) (x0 : Addr) (x1 : Int32) (x2 : Int32) : entryFrame m #[(.ref x0), (.int x1), (.int x2)] 3 = mkF m 0 #[vr x0, vi x1, vi x2] [] := by first | (simp [entryFrame, mkF, argsToLocals, Value.category]; done) | rfl
def QPu3_0 (Z : State) (b : Addr) (yy : Int32) (cs : Int32) (sf : Value) (kb : ClassId) (w0 : Int32) (w1 : Int32) (w2 : Int32) (w3 : Int32) (w4 : Int32) (w5 : Int32) (h0 : Heap) (n0 : Nat) (v : Option Value) (h : Heap) (L : List Loc) : Prop := v = none ∧ Fr n0 L ∧ Keep h0 h [b] ∧ Arv Z h b kb .byte 6 [(.int (own_lo yy)), (.int (own_hi yy)), (.int w2), (.int w3), (.int w4), (.int w5)] (.int 0)
theorem rmPu3_0 (l : Launch) (Z : State) (a0 : Array Value) (hw : ∀ d ∈ tables_1, d.before a0 Z = true) (ws : List Jvm.Cond) (b : Addr) (yy : Int32) (cs : Int32) (sf : Value) (kb : ClassId) (w0 : Int32) (w1 : Int32) (w2 : Int32) (w3 : Int32) (w4 : Int32) (w5 : Int32) (h0 : Heap) (n0 : Nat) (Z0 : n0 ≤ h0.size) (hW : own_W Z h0 n0 cs sf) (gb : n0 ≤ b) (Vb : Arv Z h0 b kb .byte 6 [(.int w0), (.int w1), (.int w2), (.int w3), (.int w4), (.int w5)] (.int 0)) :
    own_Met l on1 (Jvm.Cond.code on1 jdk_52_method_4_code 3 none :: ws) orm25 #[(.ref b), (.int 0), (.int yy)] Z h0 (QPu3_0 Z b yy cs sf kb w0 w1 w2 w3 w4 w5 h0 n0) := by
  refine MetFree.of_bodySF (plainFor_of_name pn2) hisR ?_
  intro p e s m args below meth c s₁ Bd hml0 hP hK
  obtain ⟨rfl, hZ, hh⟩ := hP
  have hx := Bd.exec
  have hby := Bd.bytes
  have hlk : meth.locks = false := BodyLoose.notSynchronized Bd
  have hret := Bd.returns
  have hml : c.maxLocals = 3 := hml0
  have hown : s.vm.findClass "java/lang/StringUTF16" = some m.cls := findClass_of_methodNamed Bd.named
  have X0 : Stand p l e orm25 s m #[(.ref b), (.int 0), (.int yy)] below meth c s₁ [] 0 0 := Stand.of_body Bd
  have e0 : s₁.heap = h0 := by rw [← hh, Bd.state]; rfl
  have N0 := Fr.nil n0
  show Dn p e below s (QPu3_0 Z b yy cs sf kb w0 w1 w2 w3 w4 w5 h0 n0) orm25.cells orm25.slots (s₁.setTop (entryFrame m #[(.ref b), (.int 0), (.int yy)] 3))
  refine Dn.st (fun _ kk => castTop (ef22_rmPu3_0 m b (0 : Int32) yy) kk) ?_
  show Dn p e below s _ _ _ (s₁.setTop (mkF m 0 #[vr b, vi 0, vi yy] []))
  obtain ⟨T0z, X0z, e0z, st0z⟩ := getS2 X0 hx hZ hown (host := "") (Or.inl (tw hw 99 rfl)) Via.refl e0 hW.adt (g := (mkF m 0 #[vr b, vi 0, vi yy] [])) rfl (hb hby d22_0)
  refine Dn.st st0z ?_
  show Dn p e below s _ _ _ (T0z.setTop (mkF m 3 #[vr b, vi 0, vi yy] [(.int 1)]))
  have hc3 : ¬ ((1 : Int32) = (0 : Int32)) := by decide
  refine Dn.st (fun _ kk => XS.ifYes X0z.here hx rfl (pc0 := 3) (pc' := 28) rfl (hb hby d22_3) rfl ((if0 _ _).trans (feq hc3).2) (by decide) (by decide) (XS.iloadN X0z.here hx rfl (hb hby d22_28) rfl (XS.iconst X0z.here hx rfl (hb hby d22_29) (XS.ishl X0z.here hx rfl (hb hby d22_30) rfl (XS.istoreN X0z.here hx rfl (hb hby d22_31) rfl (l' := #[vr b, vi 0, vi yy]) rfl (XS.aloadN X0z.here hx rfl (hb hby d22_32) rfl rfl (kk))))))) ?_
  show Dn p e below s _ _ _ (T0z.setTop (mkF m 33 #[vr b, vi 0, vi yy] [(.ref b)]))
  refine Dn.st (fun _ kk => XS.iloadN X0z.here hx rfl (hb hby d22_33) rfl (XS.iinc X0z.here hx rfl (hb hby d22_34) rfl (l' := #[vr b, vi 1, vi yy]) rfl (XS.iloadN X0z.here hx rfl (hb hby d22_37) rfl (kk)))) ?_
  show Dn p e below s _ _ _ (T0z.setTop (mkF m 38 #[vr b, vi 1, vi yy] [(.int yy), (.int 0), (.ref b)]))
  obtain ⟨T38, X38, e38, st38⟩ := getS2 X0z hx hZ hown (host := "") (Or.inl (tw hw 100 rfl)) Via.refl e0z hW.hit (g := (mkF m 38 #[vr b, vi 1, vi yy] [(.int yy), (.int 0), (.ref b)])) rfl (hb hby d22_38)
  refine Dn.st st38 ?_
  show Dn p e below s _ _ _ (T38.setTop (mkF m 41 #[vr b, vi 1, vi yy] [(.int 0), (.int yy), (.int 0), (.ref b)]))
  refine Dn.st (fun _ kk => XS.ishr X38.here hx rfl (hb hby d22_41) rfl (XS.i2b X38.here hx rfl (hb hby d22_42) rfl (kk))) ?_
  show Dn p e below s _ _ _ (T38.setTop (mkF m 43 #[vr b, vi 1, vi yy] [(.int ((yy >>> ((0 : Int32) &&& 31)).toInt8.toInt32)), (.int 0), (.ref b)]))
  have Vc_b_43 := Vb
  obtain ⟨cl_b_43, Ar_b_43, q_b_43, S_b_43, N_b_43, H_b_43, G_b_43⟩ := Vc_b_43
  have hin43 : ¬ ((0 : Int32) < 0 ∨ cl_b_43.slots.size ≤ ((0 : Int32)).toNatClampNeg) := inb_of S_b_43 ⟨by decide, by decide⟩
  obtain ⟨T43, h43, X43, e43, W43, st43⟩ := stB X38 hx hZ e38 Ar_b_43 (j := (0 : Int32)) hin43 (g := (mkF m 43 #[vr b, vi 1, vi yy] [(.int ((yy >>> ((0 : Int32) &&& 31)).toInt8.toInt32)), (.int 0), (.ref b)])) rfl rfl (hb hby d22_43)
  have Wo43 := hW.wr W43 gb
  have V_b_43 := Arv.set Ar_b_43 q_b_43 S_b_43 N_b_43 H_b_43 G_b_43 (fits_nar_byte _) W43 0 rfl (Nat.le_of_ble_eq_true rfl)
  have K43 := (Keep.refl h0 [b]).wr W43 (Or.inl (List.mem_of_getElem? (i := 0) rfl))
  have N43 := Fr.snoc X43 N0 gb
  have Z43 : n0 ≤ h43.size := Nat.le_trans Z0 (Keep.of_wr W43).1
  refine Dn.st st43 ?_
  show Dn p e below s _ _ _ (T43.setTop (mkF m 44 #[vr b, vi 1, vi yy] []))
  refine Dn.st (fun _ kk => XS.aloadN X43.here hx rfl (hb hby d22_44) rfl rfl (XS.iloadN X43.here hx rfl (hb hby d22_45) rfl (XS.iloadN X43.here hx rfl (hb hby d22_46) rfl (kk)))) ?_
  show Dn p e below s _ _ _ (T43.setTop (mkF m 47 #[vr b, vi 1, vi yy] [(.int yy), (.int 1), (.ref b)]))
  obtain ⟨T47, X47, e47, st47⟩ := getS2 X43 hx hZ hown (host := "") (Or.inl (tw hw 101 rfl)) Via.refl e43 Wo43.lot (g := (mkF m 47 #[vr b, vi 1, vi yy] [(.int yy), (.int 1), (.ref b)])) rfl (hb hby d22_47)
  refine Dn.st st47 ?_
  show Dn p e below s _ _ _ (T47.setTop (mkF m 50 #[vr b, vi 1, vi yy] [(.int 8), (.int yy), (.int 1), (.ref b)]))
  refine Dn.st (fun _ kk => XS.ishr X47.here hx rfl (hb hby d22_50) rfl (XS.i2b X47.here hx rfl (hb hby d22_51) rfl (kk))) ?_
  show Dn p e below s _ _ _ (T47.setTop (mkF m 52 #[vr b, vi 1, vi yy] [(.int ((yy >>> ((8 : Int32) &&& 31)).toInt8.toInt32)), (.int 1), (.ref b)]))
  have Vc_b_52 := V_b_43
  obtain ⟨cl_b_52, Ar_b_52, q_b_52, S_b_52, N_b_52, H_b_52, G_b_52⟩ := Vc_b_52
  have hin52 : ¬ ((1 : Int32) < 0 ∨ cl_b_52.slots.size ≤ ((1 : Int32)).toNatClampNeg) := inb_of S_b_52 ⟨by decide, by decide⟩
  obtain ⟨T52, h52, X52, e52, W52, st52⟩ := stB X47 hx hZ e47 Ar_b_52 (j := (1 : Int32)) hin52 (g := (mkF m 52 #[vr b, vi 1, vi yy] [(.int ((yy >>> ((8 : Int32) &&& 31)).toInt8.toInt32)), (.int 1), (.ref b)])) rfl rfl (hb hby d22_52)
  have Wo52 := Wo43.wr W52 gb
  have V_b_52 := Arv.set Ar_b_52 q_b_52 S_b_52 N_b_52 H_b_52 G_b_52 (fits_nar_byte _) W52 1 rfl (Nat.le_of_ble_eq_true rfl)
  have K52 := K43.wr W52 (Or.inl (List.mem_of_getElem? (i := 0) rfl))
  have N52 := Fr.snoc X52 N43 gb
  have Z52 : n0 ≤ h52.size := Nat.le_trans Z43 (Keep.of_wr W52).1
  refine Dn.st st52 ?_
  show Dn p e below s _ _ _ (T52.setTop (mkF m 53 #[vr b, vi 1, vi yy] []))
  exact Dn.ret0 X52 hlk hx hret (hb hby d22_53) (by rw [e52]; exact ⟨rfl, N52, K52, V_b_52⟩) (by decide) (by decide)

theorem ef22_rmPu3_1 (m : MethodId) (x0 : Addr) (x1 : Int32) (x2 : Int32) : entryFrame m #[(.ref x0), (.int x1), (.int x2)] 3 = mkF m 0 #[vr x0, vi x1, vi x2] [] := by first | (simp [entryFrame, mkF, argsToLocals, Value.category]; done) | rfl
def QPu3_1 (Z : State) (b : Addr) (yy : Int32) (cs : Int32) (sf : Value) (kb : ClassId) (w0 : Int32) (w1 : Int32) (w2 : Int32) (w3 : Int32) (w4 : Int32) (w5 : Int32) (h0 : Heap) (n0 : Nat) (v : Option Value) (h : Heap) (L : List Loc) : Prop := v = none ∧ Fr n0 L ∧ Keep h0 h [b] ∧ Arv Z h b kb .byte 6 [(.int w0), (.int w1), (.int (own_lo yy)), (.int (own_hi yy)), (.int w4), (.int w5)] (.int 0)
theorem rmPu3_1 (l : Launch) (Z : State) (a0 : Array Value) (hw : ∀ d ∈ tables_1, d.before a0 Z = true) (ws : List Jvm.Cond) (b : Addr) (yy : Int32) (cs : Int32) (sf : Value) (kb : ClassId) (w0 : Int32) (w1 : Int32) (w2 : Int32) (w3 : Int32) (w4 : Int32) (w5 : Int32) (h0 : Heap) (n0 : Nat) (Z0 : n0 ≤ h0.size) (hW : own_W Z h0 n0 cs sf) (gb : n0 ≤ b) (Vb : Arv Z h0 b kb .byte 6 [(.int w0), (.int w1), (.int w2), (.int w3), (.int w4), (.int w5)] (.int 0)) :
    own_Met l on1 (Jvm.Cond.code on1 jdk_52_method_4_code 3 none :: ws) orm25 #[(.ref b), (.int 1), (.int yy)] Z h0 (QPu3_1 Z b yy cs sf kb w0 w1 w2 w3 w4 w5 h0 n0) := by
  refine MetFree.of_bodySF (plainFor_of_name pn2) hisR ?_
  intro p e s m args below meth c s₁ Bd hml0 hP hK
  obtain ⟨rfl, hZ, hh⟩ := hP
  have hx := Bd.exec
  have hby := Bd.bytes
  have hlk : meth.locks = false := BodyLoose.notSynchronized Bd
  have hret := Bd.returns
  have hml : c.maxLocals = 3 := hml0
  have hown : s.vm.findClass "java/lang/StringUTF16" = some m.cls := findClass_of_methodNamed Bd.named
  have X0 : Stand p l e orm25 s m #[(.ref b), (.int 1), (.int yy)] below meth c s₁ [] 0 0 := Stand.of_body Bd
  have e0 : s₁.heap = h0 := by rw [← hh, Bd.state]; rfl
  have N0 := Fr.nil n0
  show Dn p e below s (QPu3_1 Z b yy cs sf kb w0 w1 w2 w3 w4 w5 h0 n0) orm25.cells orm25.slots (s₁.setTop (entryFrame m #[(.ref b), (.int 1), (.int yy)] 3))
  refine Dn.st (fun _ kk => castTop (ef22_rmPu3_1 m b (1 : Int32) yy) kk) ?_
  show Dn p e below s _ _ _ (s₁.setTop (mkF m 0 #[vr b, vi 1, vi yy] []))
  obtain ⟨T0z, X0z, e0z, st0z⟩ := getS2 X0 hx hZ hown (host := "") (Or.inl (tw hw 99 rfl)) Via.refl e0 hW.adt (g := (mkF m 0 #[vr b, vi 1, vi yy] [])) rfl (hb hby d22_0)
  refine Dn.st st0z ?_
  show Dn p e below s _ _ _ (T0z.setTop (mkF m 3 #[vr b, vi 1, vi yy] [(.int 1)]))
  have hc3 : ¬ ((1 : Int32) = (0 : Int32)) := by decide
  refine Dn.st (fun _ kk => XS.ifYes X0z.here hx rfl (pc0 := 3) (pc' := 28) rfl (hb hby d22_3) rfl ((if0 _ _).trans (feq hc3).2) (by decide) (by decide) (XS.iloadN X0z.here hx rfl (hb hby d22_28) rfl (XS.iconst X0z.here hx rfl (hb hby d22_29) (XS.ishl X0z.here hx rfl (hb hby d22_30) rfl (XS.istoreN X0z.here hx rfl (hb hby d22_31) rfl (l' := #[vr b, vi 2, vi yy]) rfl (XS.aloadN X0z.here hx rfl (hb hby d22_32) rfl rfl (kk))))))) ?_
  show Dn p e below s _ _ _ (T0z.setTop (mkF m 33 #[vr b, vi 2, vi yy] [(.ref b)]))
  refine Dn.st (fun _ kk => XS.iloadN X0z.here hx rfl (hb hby d22_33) rfl (XS.iinc X0z.here hx rfl (hb hby d22_34) rfl (l' := #[vr b, vi 3, vi yy]) rfl (XS.iloadN X0z.here hx rfl (hb hby d22_37) rfl (kk)))) ?_
  show Dn p e below s _ _ _ (T0z.setTop (mkF m 38 #[vr b, vi 3, vi yy] [(.int yy), (.int 2), (.ref b)]))
  obtain ⟨T38, X38, e38, st38⟩ := getS2 X0z hx hZ hown (host := "") (Or.inl (tw hw 100 rfl)) Via.refl e0z hW.hit (g := (mkF m 38 #[vr b, vi 3, vi yy] [(.int yy), (.int 2), (.ref b)])) rfl (hb hby d22_38)
  refine Dn.st st38 ?_
  show Dn p e below s _ _ _ (T38.setTop (mkF m 41 #[vr b, vi 3, vi yy] [(.int 0), (.int yy), (.int 2), (.ref b)]))
  refine Dn.st (fun _ kk => XS.ishr X38.here hx rfl (hb hby d22_41) rfl (XS.i2b X38.here hx rfl (hb hby d22_42) rfl (kk))) ?_
  show Dn p e below s _ _ _ (T38.setTop (mkF m 43 #[vr b, vi 3, vi yy] [(.int ((yy >>> ((0 : Int32) &&& 31)).toInt8.toInt32)), (.int 2), (.ref b)]))
  have Vc_b_43 := Vb
  obtain ⟨cl_b_43, Ar_b_43, q_b_43, S_b_43, N_b_43, H_b_43, G_b_43⟩ := Vc_b_43
  have hin43 : ¬ ((2 : Int32) < 0 ∨ cl_b_43.slots.size ≤ ((2 : Int32)).toNatClampNeg) := inb_of S_b_43 ⟨by decide, by decide⟩
  obtain ⟨T43, h43, X43, e43, W43, st43⟩ := stB X38 hx hZ e38 Ar_b_43 (j := (2 : Int32)) hin43 (g := (mkF m 43 #[vr b, vi 3, vi yy] [(.int ((yy >>> ((0 : Int32) &&& 31)).toInt8.toInt32)), (.int 2), (.ref b)])) rfl rfl (hb hby d22_43)
  have Wo43 := hW.wr W43 gb
  have V_b_43 := Arv.set Ar_b_43 q_b_43 S_b_43 N_b_43 H_b_43 G_b_43 (fits_nar_byte _) W43 2 rfl (Nat.le_of_ble_eq_true rfl)
  have K43 := (Keep.refl h0 [b]).wr W43 (Or.inl (List.mem_of_getElem? (i := 0) rfl))
  have N43 := Fr.snoc X43 N0 gb
  have Z43 : n0 ≤ h43.size := Nat.le_trans Z0 (Keep.of_wr W43).1
  refine Dn.st st43 ?_
  show Dn p e below s _ _ _ (T43.setTop (mkF m 44 #[vr b, vi 3, vi yy] []))
  refine Dn.st (fun _ kk => XS.aloadN X43.here hx rfl (hb hby d22_44) rfl rfl (XS.iloadN X43.here hx rfl (hb hby d22_45) rfl (XS.iloadN X43.here hx rfl (hb hby d22_46) rfl (kk)))) ?_
  show Dn p e below s _ _ _ (T43.setTop (mkF m 47 #[vr b, vi 3, vi yy] [(.int yy), (.int 3), (.ref b)]))
  obtain ⟨T47, X47, e47, st47⟩ := getS2 X43 hx hZ hown (host := "") (Or.inl (tw hw 101 rfl)) Via.refl e43 Wo43.lot (g := (mkF m 47 #[vr b, vi 3, vi yy] [(.int yy), (.int 3), (.ref b)])) rfl (hb hby d22_47)
  refine Dn.st st47 ?_
  show Dn p e below s _ _ _ (T47.setTop (mkF m 50 #[vr b, vi 3, vi yy] [(.int 8), (.int yy), (.int 3), (.ref b)]))
  refine Dn.st (fun _ kk => XS.ishr X47.here hx rfl (hb hby d22_50) rfl (XS.i2b X47.here hx rfl (hb hby d22_51) rfl (kk))) ?_
  show Dn p e below s _ _ _ (T47.setTop (mkF m 52 #[vr b, vi 3, vi yy] [(.int ((yy >>> ((8 : Int32) &&& 31)).toInt8.toInt32)), (.int 3), (.ref b)]))
  have Vc_b_52 := V_b_43
  obtain ⟨cl_b_52, Ar_b_52, q_b_52, S_b_52, N_b_52, H_b_52, G_b_52⟩ := Vc_b_52
  have hin52 : ¬ ((3 : Int32) < 0 ∨ cl_b_52.slots.size ≤ ((3 : Int32)).toNatClampNeg) := inb_of S_b_52 ⟨by decide, by decide⟩
  obtain ⟨T52, h52, X52, e52, W52, st52⟩ := stB X47 hx hZ e47 Ar_b_52 (j := (3 : Int32)) hin52 (g := (mkF m 52 #[vr b, vi 3, vi yy] [(.int ((yy >>> ((8 : Int32) &&& 31)).toInt8.toInt32)), (.int 3), (.ref b)])) rfl rfl (hb hby d22_52)
  have Wo52 := Wo43.wr W52 gb
  have V_b_52 := Arv.set Ar_b_52 q_b_52 S_b_52 N_b_52 H_b_52 G_b_52 (fits_nar_byte _) W52 3 rfl (Nat.le_of_ble_eq_true rfl)
  have K52 := K43.wr W52 (Or.inl (List.mem_of_getElem? (i := 0) rfl))
  have N52 := Fr.snoc X52 N43 gb
  have Z52 : n0 ≤ h52.size := Nat.le_trans Z43 (Keep.of_wr W52).1
  refine Dn.st st52 ?_
  show Dn p e below s _ _ _ (T52.setTop (mkF m 53 #[vr b, vi 3, vi yy] []))
  exact Dn.ret0 X52 hlk hx hret (hb hby d22_53) (by rw [e52]; exact ⟨rfl, N52, K52, V_b_52⟩) (by decide) (by decide)

theorem ef22_rmPu3_2 (m : MethodId) (x0 : Addr) (x1 : Int32) (x2 : Int32) : entryFrame m #[(.ref x0), (.int x1), (.int x2)] 3 = mkF m 0 #[vr x0, vi x1, vi x2] [] := by first | (simp [entryFrame, mkF, argsToLocals, Value.category]; done) | rfl
def QPu3_2 (Z : State) (b : Addr) (yy : Int32) (cs : Int32) (sf : Value) (kb : ClassId) (w0 : Int32) (w1 : Int32) (w2 : Int32) (w3 : Int32) (w4 : Int32) (w5 : Int32) (h0 : Heap) (n0 : Nat) (v : Option Value) (h : Heap) (L : List Loc) : Prop := v = none ∧ Fr n0 L ∧ Keep h0 h [b] ∧ Arv Z h b kb .byte 6 [(.int w0), (.int w1), (.int w2), (.int w3), (.int (own_lo yy)), (.int (own_hi yy))] (.int 0)
theorem rmPu3_2 (l : Launch) (Z : State) (a0 : Array Value) (hw : ∀ d ∈ tables_1, d.before a0 Z = true) (ws : List Jvm.Cond) (b : Addr) (yy : Int32) (cs : Int32) (sf : Value) (kb : ClassId) (w0 : Int32) (w1 : Int32) (w2 : Int32) (w3 : Int32) (w4 : Int32) (w5 : Int32) (h0 : Heap) (n0 : Nat) (Z0 : n0 ≤ h0.size) (hW : own_W Z h0 n0 cs sf) (gb : n0 ≤ b) (Vb : Arv Z h0 b kb .byte 6 [(.int w0), (.int w1), (.int w2), (.int w3), (.int w4), (.int w5)] (.int 0)) :
    own_Met l on1 (Jvm.Cond.code on1 jdk_52_method_4_code 3 none :: ws) orm25 #[(.ref b), (.int 2), (.int yy)] Z h0 (QPu3_2 Z b yy cs sf kb w0 w1 w2 w3 w4 w5 h0 n0) := by
  refine MetFree.of_bodySF (plainFor_of_name pn2) hisR ?_
  intro p e s m args below meth c s₁ Bd hml0 hP hK
  obtain ⟨rfl, hZ, hh⟩ := hP
  have hx := Bd.exec
  have hby := Bd.bytes
  have hlk : meth.locks = false := BodyLoose.notSynchronized Bd
  have hret := Bd.returns
  have hml : c.maxLocals = 3 := hml0
  have hown : s.vm.findClass "java/lang/StringUTF16" = some m.cls := findClass_of_methodNamed Bd.named
  have X0 : Stand p l e orm25 s m #[(.ref b), (.int 2), (.int yy)] below meth c s₁ [] 0 0 := Stand.of_body Bd
  have e0 : s₁.heap = h0 := by rw [← hh, Bd.state]; rfl
  have N0 := Fr.nil n0
  show Dn p e below s (QPu3_2 Z b yy cs sf kb w0 w1 w2 w3 w4 w5 h0 n0) orm25.cells orm25.slots (s₁.setTop (entryFrame m #[(.ref b), (.int 2), (.int yy)] 3))
  refine Dn.st (fun _ kk => castTop (ef22_rmPu3_2 m b (2 : Int32) yy) kk) ?_
  show Dn p e below s _ _ _ (s₁.setTop (mkF m 0 #[vr b, vi 2, vi yy] []))
  obtain ⟨T0z, X0z, e0z, st0z⟩ := getS2 X0 hx hZ hown (host := "") (Or.inl (tw hw 99 rfl)) Via.refl e0 hW.adt (g := (mkF m 0 #[vr b, vi 2, vi yy] [])) rfl (hb hby d22_0)
  refine Dn.st st0z ?_
  show Dn p e below s _ _ _ (T0z.setTop (mkF m 3 #[vr b, vi 2, vi yy] [(.int 1)]))
  have hc3 : ¬ ((1 : Int32) = (0 : Int32)) := by decide
  refine Dn.st (fun _ kk => XS.ifYes X0z.here hx rfl (pc0 := 3) (pc' := 28) rfl (hb hby d22_3) rfl ((if0 _ _).trans (feq hc3).2) (by decide) (by decide) (XS.iloadN X0z.here hx rfl (hb hby d22_28) rfl (XS.iconst X0z.here hx rfl (hb hby d22_29) (XS.ishl X0z.here hx rfl (hb hby d22_30) rfl (XS.istoreN X0z.here hx rfl (hb hby d22_31) rfl (l' := #[vr b, vi 4, vi yy]) rfl (XS.aloadN X0z.here hx rfl (hb hby d22_32) rfl rfl (kk))))))) ?_
  show Dn p e below s _ _ _ (T0z.setTop (mkF m 33 #[vr b, vi 4, vi yy] [(.ref b)]))
  refine Dn.st (fun _ kk => XS.iloadN X0z.here hx rfl (hb hby d22_33) rfl (XS.iinc X0z.here hx rfl (hb hby d22_34) rfl (l' := #[vr b, vi 5, vi yy]) rfl (XS.iloadN X0z.here hx rfl (hb hby d22_37) rfl (kk)))) ?_
  show Dn p e below s _ _ _ (T0z.setTop (mkF m 38 #[vr b, vi 5, vi yy] [(.int yy), (.int 4), (.ref b)]))
  obtain ⟨T38, X38, e38, st38⟩ := getS2 X0z hx hZ hown (host := "") (Or.inl (tw hw 100 rfl)) Via.refl e0z hW.hit (g := (mkF m 38 #[vr b, vi 5, vi yy] [(.int yy), (.int 4), (.ref b)])) rfl (hb hby d22_38)
  refine Dn.st st38 ?_
  show Dn p e below s _ _ _ (T38.setTop (mkF m 41 #[vr b, vi 5, vi yy] [(.int 0), (.int yy), (.int 4), (.ref b)]))
  refine Dn.st (fun _ kk => XS.ishr X38.here hx rfl (hb hby d22_41) rfl (XS.i2b X38.here hx rfl (hb hby d22_42) rfl (kk))) ?_
  show Dn p e below s _ _ _ (T38.setTop (mkF m 43 #[vr b, vi 5, vi yy] [(.int ((yy >>> ((0 : Int32) &&& 31)).toInt8.toInt32)), (.int 4), (.ref b)]))
  have Vc_b_43 := Vb
  obtain ⟨cl_b_43, Ar_b_43, q_b_43, S_b_43, N_b_43, H_b_43, G_b_43⟩ := Vc_b_43
  have hin43 : ¬ ((4 : Int32) < 0 ∨ cl_b_43.slots.size ≤ ((4 : Int32)).toNatClampNeg) := inb_of S_b_43 ⟨by decide, by decide⟩
  obtain ⟨T43, h43, X43, e43, W43, st43⟩ := stB X38 hx hZ e38 Ar_b_43 (j := (4 : Int32)) hin43 (g := (mkF m 43 #[vr b, vi 5, vi yy] [(.int ((yy >>> ((0 : Int32) &&& 31)).toInt8.toInt32)), (.int 4), (.ref b)])) rfl rfl (hb hby d22_43)
  have Wo43 := hW.wr W43 gb
  have V_b_43 := Arv.set Ar_b_43 q_b_43 S_b_43 N_b_43 H_b_43 G_b_43 (fits_nar_byte _) W43 4 rfl (Nat.le_of_ble_eq_true rfl)
  have K43 := (Keep.refl h0 [b]).wr W43 (Or.inl (List.mem_of_getElem? (i := 0) rfl))
  have N43 := Fr.snoc X43 N0 gb
  have Z43 : n0 ≤ h43.size := Nat.le_trans Z0 (Keep.of_wr W43).1
  refine Dn.st st43 ?_
  show Dn p e below s _ _ _ (T43.setTop (mkF m 44 #[vr b, vi 5, vi yy] []))
  refine Dn.st (fun _ kk => XS.aloadN X43.here hx rfl (hb hby d22_44) rfl rfl (XS.iloadN X43.here hx rfl (hb hby d22_45) rfl (XS.iloadN X43.here hx rfl (hb hby d22_46) rfl (kk)))) ?_
  show Dn p e below s _ _ _ (T43.setTop (mkF m 47 #[vr b, vi 5, vi yy] [(.int yy), (.int 5), (.ref b)]))
  obtain ⟨T47, X47, e47, st47⟩ := getS2 X43 hx hZ hown (host := "") (Or.inl (tw hw 101 rfl)) Via.refl e43 Wo43.lot (g := (mkF m 47 #[vr b, vi 5, vi yy] [(.int yy), (.int 5), (.ref b)])) rfl (hb hby d22_47)
  refine Dn.st st47 ?_
  show Dn p e below s _ _ _ (T47.setTop (mkF m 50 #[vr b, vi 5, vi yy] [(.int 8), (.int yy), (.int 5), (.ref b)]))
  refine Dn.st (fun _ kk => XS.ishr X47.here hx rfl (hb hby d22_50) rfl (XS.i2b X47.here hx rfl (hb hby d22_51) rfl (kk))) ?_
  show Dn p e below s _ _ _ (T47.setTop (mkF m 52 #[vr b, vi 5, vi yy] [(.int ((yy >>> ((8 : Int32) &&& 31)).toInt8.toInt32)), (.int 5), (.ref b)]))
  have Vc_b_52 := V_b_43
  obtain ⟨cl_b_52, Ar_b_52, q_b_52, S_b_52, N_b_52, H_b_52, G_b_52⟩ := Vc_b_52
  have hin52 : ¬ ((5 : Int32) < 0 ∨ cl_b_52.slots.size ≤ ((5 : Int32)).toNatClampNeg) := inb_of S_b_52 ⟨by decide, by decide⟩
  obtain ⟨T52, h52, X52, e52, W52, st52⟩ := stB X47 hx hZ e47 Ar_b_52 (j := (5 : Int32)) hin52 (g := (mkF m 52 #[vr b, vi 5, vi yy] [(.int ((yy >>> ((8 : Int32) &&& 31)).toInt8.toInt32)), (.int 5), (.ref b)])) rfl rfl (hb hby d22_52)
  have Wo52 := Wo43.wr W52 gb
  have V_b_52 := Arv.set Ar_b_52 q_b_52 S_b_52 N_b_52 H_b_52 G_b_52 (fits_nar_byte _) W52 5 rfl (Nat.le_of_ble_eq_true rfl)
  have K52 := K43.wr W52 (Or.inl (List.mem_of_getElem? (i := 0) rfl))
  have N52 := Fr.snoc X52 N43 gb
  have Z52 : n0 ≤ h52.size := Nat.le_trans Z43 (Keep.of_wr W52).1
  refine Dn.st st52 ?_
  show Dn p e below s _ _ _ (T52.setTop (mkF m 53 #[vr b, vi 5, vi yy] []))
  exact Dn.ret0 X52 hlk hx hret (hb hby d22_53) (by rw [e52]; exact ⟨rfl, N52, K52, V_b_52⟩) (by decide) (by decide)

theorem ef19_rmTb3 (m : MethodId) (x0 : Addr) (x1 : Int32) (x2 : Int32) : entryFrame m #[(.ref x0), (.int x1), (.int x2)] 5 = mkF m 0 #[vr x0, vi x1, vi x2, .unset, .unset] [] := by first | (simp [entryFrame, mkF, argsToLocals, Value.category]; done) | rfl
def QTb3 (Z : State) (a : Addr) (cs : Int32) (sf : Value) (ka : ClassId) (y0 : Int32) (y1 : Int32) (y2 : Int32) (h0 : Heap) (n0 : Nat) (v : Option Value) (h : Heap) (L : List Loc) : Prop := ∃ (b : Addr) (kb : ClassId), v = some (.ref b) ∧ h0.size ≤ b ∧ Fr n0 L ∧ Keep h0 h [] ∧ Arv Z h b kb .byte 6 [(.int (own_lo y0)), (.int (own_hi y0)), (.int (own_lo y1)), (.int (own_hi y1)), (.int (own_lo y2)), (.int (own_hi y2))] (.int 0)
theorem rmTb3 (l : Launch) (Z : State) (a0 : Array Value) (hw : ∀ d ∈ tables_1, d.before a0 Z = true) (ws : List Jvm.Cond) (a : Addr) (cs : Int32) (sf : Value) (ka : ClassId) (y0 : Int32) (y1 : Int32) (y2 : Int32) (h0 : Heap) (n0 : Nat) (Z0 : n0 ≤ h0.size) (hW : own_W Z h0 n0 cs sf) (Va : Arv Z h0 a ka .char 3 [(.int y0), (.int y1), (.int y2)] (.int 0)) :
    own_Met l on7 (Jvm.Cond.code on7 jdk_52_method_14_code 5 (some (.array .byte)) :: ws) orm51 #[(.ref a), (.int 0), (.int 3)] Z h0 (QTb3 Z a cs sf ka y0 y1 y2 h0 n0) := by
  refine MetFree.of_bodySF (plainFor_of_name pn2) hisR ?_
  intro p e s m args below meth c s₁ Bd hml0 hP hK
  obtain ⟨rfl, hZ, hh⟩ := hP
  have hx := Bd.exec
  have hby := Bd.bytes
  have hlk : meth.locks = false := BodyLoose.notSynchronized Bd
  have hret := Bd.returns
  have hml : c.maxLocals = 5 := hml0
  have hown : s.vm.findClass "java/lang/StringUTF16" = some m.cls := findClass_of_methodNamed Bd.named
  have X0 : Stand p l e orm51 s m #[(.ref a), (.int 0), (.int 3)] below meth c s₁ [] 0 0 := Stand.of_body Bd
  have e0 : s₁.heap = h0 := by rw [← hh, Bd.state]; rfl
  have N0 := Fr.nil n0
  show Dn p e below s (QTb3 Z a cs sf ka y0 y1 y2 h0 n0) orm51.cells orm51.slots (s₁.setTop (entryFrame m #[(.ref a), (.int 0), (.int 3)] 5))
  refine Dn.st (fun _ kk => castTop (ef19_rmTb3 m a (0 : Int32) (3 : Int32)) kk) ?_
  show Dn p e below s _ _ _ (s₁.setTop (mkF m 0 #[vr a, vi 0, vi 3, .unset, .unset] []))
  refine Dn.st (fun _ kk => XS.iloadN X0.here hx rfl (hb hby d19_0) rfl (kk)) ?_
  show Dn p e below s _ _ _ (s₁.setTop (mkF m 1 #[vr a, vi 0, vi 3, .unset, .unset] [(.int 3)]))
  obtain ⟨_, _, ⟨T1, L1, k1, n1⟩, -, X1, ⟨Lc1, hQ1, l1, y1, z1⟩, st1⟩ := Jvm.LawKit.callS X0 hx (y := on14) hown (mvT hZ (tw hw 89 rfl)) (mvT hZ (tw hw 90 rfl)) (mvT hZ (tw hw 50 rfl)) (mvT hZ (tw hw 91 rfl)) (by decide) (backOf (W := 0) (rmNf3 l Z a0 hw []  h0 n0 Z0 ) hZ (tw hw 91 rfl) (tw hw 50 rfl) (by decide) (by decide)) (g := (mkF m 1 #[vr a, vi 0, vi 3, .unset, .unset] [(.int 3)])) rfl (by rw [hml]; rfl) (argsL := [(.int 3)]) (rest := []) (lenOf pd9 rfl) rfl (by show 2 * 0 + _ ≤ _; exact Nat.le_of_eq rfl) (hb hby d19_1) (fun _ _ => ⟨rfl, e0, (by decide : 0 + 1 ≤ _), (by decide : 0 + 6 ≤ _)⟩)
  dsimp only [Pt.U, Pt.locs, Pt.cells, Pt.slots] at X1 l1 y1 z1 st1 hQ1
  subst l1 y1 z1
  obtain ⟨bb1, kb1, rfl, gz1, Nq1, K1, V_bb1⟩ := hQ1
  have N1 := Fr.app N0 Nq1
  refine Dn.st st1 ?_
  have ne_a_bb1 : a ≠ bb1 := Nat.ne_of_lt (Nat.lt_of_lt_of_le Va.lt gz1)
  have gn_bb1 : n0 ≤ bb1 := Nat.le_trans Z0 gz1
  have gz_bb1 : h0.size ≤ bb1 := Nat.le_trans (Keep.refl h0 []).1 gz1
  have Wo1 := hW.keep K1 own_k0
  have V_a_1 := Va.keep K1 nin0
  have Kt1 := Keep.trans (Keep.refl h0 []) K1 (by simp)
  have Z1 : n0 ≤ T1.heap.size := Nat.le_trans Z0 K1.1
  show Dn p e below s _ _ _ (T1.setTop (mkF m 4 #[vr a, vi 0, vi 3, .unset, .unset] [(.ref bb1)]))
  refine Dn.st (fun _ kk => XS.astoreN X1.here hx rfl (hb hby d19_4) rfl rfl (l' := #[vr a, vi 0, vi 3, vr bb1, .unset]) rfl (XS.iconst X1.here hx rfl (hb hby d19_5) (XS.istore X1.here hx rfl (hb hby d19_6) rfl (l' := #[vr a, vi 0, vi 3, vr bb1, vi 0]) rfl (XS.iload X1.here hx rfl (hb hby d19_8) rfl (XS.iloadN X1.here hx rfl (hb hby d19_10) rfl (kk)))))) ?_
  show Dn p e below s _ _ _ (T1.setTop (mkF m 11 #[vr a, vi 0, vi 3, vr bb1, vi 0] [(.int 3), (.int 0)]))
  have hc11 : (0 : Int32) < (3 : Int32) := by decide
  refine Dn.st (fun _ kk => XS.icmpNo X1.here hx rfl (hb hby d19_11) rfl (tlt hc11).2.1 (XS.aloadN X1.here hx rfl (hb hby d19_14) rfl rfl (XS.iload X1.here hx rfl (hb hby d19_15) rfl (XS.aloadN X1.here hx rfl (hb hby d19_17) rfl rfl (XS.iloadN X1.here hx rfl (hb hby d19_18) rfl (kk)))))) ?_
  show Dn p e below s _ _ _ (T1.setTop (mkF m 19 #[vr a, vi 0, vi 3, vr bb1, vi 0] [(.int 0), (.ref a), (.int 0), (.ref bb1)]))
  have Vc_a_19 := V_a_1
  obtain ⟨cl_a_19, Ar_a_19, q_a_19, S_a_19, N_a_19, H_a_19, G_a_19⟩ := Vc_a_19
  have hin19 : ¬ ((0 : Int32) < 0 ∨ cl_a_19.slots.size ≤ ((0 : Int32)).toNatClampNeg) := inb_of S_a_19 ⟨by decide, by decide⟩
  have hat19 : cl_a_19.slots[((0 : Int32)).toNatClampNeg]? = some (.int y0) := H_a_19.at hin19 rfl
  refine Dn.st (fun _ kk => X1.caload hx (j := (0 : Int32)) (v := (.int y0)) Ar_a_19.1 (State.isArrayOf_alike hZ.alike Ar_a_19.2.1) Ar_a_19.2.2 hin19 hat19 (g := (mkF m 19 #[vr a, vi 0, vi 3, vr bb1, vi 0] [(.int 0), (.ref a), (.int 0), (.ref bb1)])) rfl rfl (hb hby d19_19) _ (kk)) ?_
  show Dn p e below s _ _ _ (T1.setTop (mkF m 20 #[vr a, vi 0, vi 3, vr bb1, vi 0] [(.int y0), (.int 0), (.ref bb1)]))
  obtain ⟨_, _, ⟨T20, L20, k20, n20⟩, -, X20, ⟨Lc20, hQ20, l20, y20, z20⟩, st20⟩ := Jvm.LawKit.callS X1 hx (y := on1) hown (mvT hZ (tw hw 96 rfl)) (mvT hZ (tw hw 97 rfl)) (mvT hZ (tw hw 50 rfl)) (mvT hZ (tw hw 98 rfl)) (by decide) (backOf (W := 0) (rmPu3_0 l Z a0 hw [] bb1 y0 cs sf kb1 (0 : Int32) (0 : Int32) (0 : Int32) (0 : Int32) (0 : Int32) (0 : Int32) T1.heap n0 Z1 Wo1 gn_bb1 V_bb1) hZ (tw hw 98 rfl) (tw hw 50 rfl) (by decide) (by decide)) (g := (mkF m 20 #[vr a, vi 0, vi 3, vr bb1, vi 0] [(.int y0), (.int 0), (.ref bb1)])) rfl (by rw [hml]; rfl) (argsL := [(.ref bb1), (.int 0), (.int y0)]) (rest := []) (lenOf pd10 rfl) rfl (by show 2 * 0 + _ ≤ _; exact Nat.le_of_eq rfl) (hb hby d19_20) (fun _ _ => ⟨rfl, rfl, (by decide : 1 + 0 ≤ _), (by decide : 6 + 0 ≤ _)⟩)
  dsimp only [Pt.U, Pt.locs, Pt.cells, Pt.slots] at X20 l20 y20 z20 st20 hQ20
  subst l20 y20 z20
  obtain ⟨rfl, Nq20, K20, V20⟩ := hQ20
  have N20 := Fr.app N1 Nq20
  refine Dn.st st20 ?_
  have Wo20 := Wo1.keep K20 (own_k1 gn_bb1)
  have V_a_20 := V_a_1.keep K20 (ninS ne_a_bb1 nin0)
  have Kt20 := Keep.trans Kt1 K20 (fun x hx => Or.inr ((List.mem_singleton.mp hx) ▸ gz_bb1))
  have Z20 : n0 ≤ T20.heap.size := Nat.le_trans Z1 K20.1
  show Dn p e below s _ _ _ (T20.setTop (mkF m 23 #[vr a, vi 0, vi 3, vr bb1, vi 0] []))
  refine Dn.st (fun _ kk => XS.iinc X20.here hx rfl (hb hby d19_23) rfl (l' := #[vr a, vi 1, vi 3, vr bb1, vi 0]) rfl (XS.iinc X20.here hx rfl (hb hby d19_26) rfl (l' := #[vr a, vi 1, vi 3, vr bb1, vi 1]) rfl (XS.goto X20.here hx rfl (pc0 := 29) (pc' := 8) rfl (hb hby d19_29) (by decide) (by decide) (XS.iload X20.here hx rfl (hb hby d19_8) rfl (XS.iloadN X20.here hx rfl (hb hby d19_10) rfl (kk)))))) ?_
  show Dn p e below s _ _ _ (T20.setTop (mkF m 11 #[vr a, vi 1, vi 3, vr bb1, vi 1] [(.int 3), (.int 1)]))
  have hc11_2 : (1 : Int32) < (3 : Int32) := by decide
  refine Dn.st (fun _ kk => XS.icmpNo X20.here hx rfl (hb hby d19_11) rfl (tlt hc11_2).2.1 (XS.aloadN X20.here hx rfl (hb hby d19_14) rfl rfl (XS.iload X20.here hx rfl (hb hby d19_15) rfl (XS.aloadN X20.here hx rfl (hb hby d19_17) rfl rfl (XS.iloadN X20.here hx rfl (hb hby d19_18) rfl (kk)))))) ?_
  show Dn p e below s _ _ _ (T20.setTop (mkF m 19 #[vr a, vi 1, vi 3, vr bb1, vi 1] [(.int 1), (.ref a), (.int 1), (.ref bb1)]))
  have Vc_a_19_2 := V_a_20
  obtain ⟨cl_a_19_2, Ar_a_19_2, q_a_19_2, S_a_19_2, N_a_19_2, H_a_19_2, G_a_19_2⟩ := Vc_a_19_2
  have hin19_2 : ¬ ((1 : Int32) < 0 ∨ cl_a_19_2.slots.size ≤ ((1 : Int32)).toNatClampNeg) := inb_of S_a_19_2 ⟨by decide, by decide⟩
  have hat19_2 : cl_a_19_2.slots[((1 : Int32)).toNatClampNeg]? = some (.int y1) := H_a_19_2.at hin19_2 rfl
  refine Dn.st (fun _ kk => X20.caload hx (j := (1 : Int32)) (v := (.int y1)) Ar_a_19_2.1 (State.isArrayOf_alike hZ.alike Ar_a_19_2.2.1) Ar_a_19_2.2.2 hin19_2 hat19_2 (g := (mkF m 19 #[vr a, vi 1, vi 3, vr bb1, vi 1] [(.int 1), (.ref a), (.int 1), (.ref bb1)])) rfl rfl (hb hby d19_19) _ (kk)) ?_
  show Dn p e below s _ _ _ (T20.setTop (mkF m 20 #[vr a, vi 1, vi 3, vr bb1, vi 1] [(.int y1), (.int 1), (.ref bb1)]))
  obtain ⟨_, _, ⟨T20_2, L20_2, k20_2, n20_2⟩, -, X20_2, ⟨Lc20_2, hQ20_2, l20_2, y20_2, z20_2⟩, st20_2⟩ := Jvm.LawKit.callS X20 hx (y := on1) hown (mvT hZ (tw hw 96 rfl)) (mvT hZ (tw hw 97 rfl)) (mvT hZ (tw hw 50 rfl)) (mvT hZ (tw hw 98 rfl)) (by decide) (backOf (W := 0) (rmPu3_1 l Z a0 hw [] bb1 y1 cs sf kb1 (own_lo y0) (own_hi y0) (0 : Int32) (0 : Int32) (0 : Int32) (0 : Int32) T20.heap n0 Z20 Wo20 gn_bb1 V20) hZ (tw hw 98 rfl) (tw hw 50 rfl) (by decide) (by decide)) (g := (mkF m 20 #[vr a, vi 1, vi 3, vr bb1, vi 1] [(.int y1), (.int 1), (.ref bb1)])) rfl (by rw [hml]; rfl) (argsL := [(.ref bb1), (.int 1), (.int y1)]) (rest := []) (lenOf pd10 rfl) rfl (by show 2 * 0 + _ ≤ _; exact Nat.le_of_eq rfl) (hb hby d19_20) (fun _ _ => ⟨rfl, rfl, (by decide : 1 + 0 ≤ _), (by decide : 6 + 0 ≤ _)⟩)
  dsimp only [Pt.U, Pt.locs, Pt.cells, Pt.slots] at X20_2 l20_2 y20_2 z20_2 st20_2 hQ20_2
  subst l20_2 y20_2 z20_2
  obtain ⟨rfl, Nq20_2, K20_2, V20_2⟩ := hQ20_2
  have N20_2 := Fr.app N20 Nq20_2
  refine Dn.st st20_2 ?_
  have Wo20_2 := Wo20.keep K20_2 (own_k1 gn_bb1)
  have V_a_20_2 := V_a_20.keep K20_2 (ninS ne_a_bb1 nin0)
  have Kt20_2 := Keep.trans Kt20 K20_2 (fun x hx => Or.inr ((List.mem_singleton.mp hx) ▸ gz_bb1))
  have Z20_2 : n0 ≤ T20_2.heap.size := Nat.le_trans Z20 K20_2.1
  show Dn p e below s _ _ _ (T20_2.setTop (mkF m 23 #[vr a, vi 1, vi 3, vr bb1, vi 1] []))
  refine Dn.st (fun _ kk => XS.iinc X20_2.here hx rfl (hb hby d19_23) rfl (l' := #[vr a, vi 2, vi 3, vr bb1, vi 1]) rfl (XS.iinc X20_2.here hx rfl (hb hby d19_26) rfl (l' := #[vr a, vi 2, vi 3, vr bb1, vi 2]) rfl (XS.goto X20_2.here hx rfl (pc0 := 29) (pc' := 8) rfl (hb hby d19_29) (by decide) (by decide) (XS.iload X20_2.here hx rfl (hb hby d19_8) rfl (XS.iloadN X20_2.here hx rfl (hb hby d19_10) rfl (kk)))))) ?_
  show Dn p e below s _ _ _ (T20_2.setTop (mkF m 11 #[vr a, vi 2, vi 3, vr bb1, vi 2] [(.int 3), (.int 2)]))
  have hc11_3 : (2 : Int32) < (3 : Int32) := by decide
  refine Dn.st (fun _ kk => XS.icmpNo X20_2.here hx rfl (hb hby d19_11) rfl (tlt hc11_3).2.1 (XS.aloadN X20_2.here hx rfl (hb hby d19_14) rfl rfl (XS.iload X20_2.here hx rfl (hb hby d19_15) rfl (XS.aloadN X20_2.here hx rfl (hb hby d19_17) rfl rfl (XS.iloadN X20_2.here hx rfl (hb hby d19_18) rfl (kk)))))) ?_
  show Dn p e below s _ _ _ (T20_2.setTop (mkF m 19 #[vr a, vi 2, vi 3, vr bb1, vi 2] [(.int 2), (.ref a), (.int 2), (.ref bb1)]))
  have Vc_a_19_3 := V_a_20_2
  obtain ⟨cl_a_19_3, Ar_a_19_3, q_a_19_3, S_a_19_3, N_a_19_3, H_a_19_3, G_a_19_3⟩ := Vc_a_19_3
  have hin19_3 : ¬ ((2 : Int32) < 0 ∨ cl_a_19_3.slots.size ≤ ((2 : Int32)).toNatClampNeg) := inb_of S_a_19_3 ⟨by decide, by decide⟩
  have hat19_3 : cl_a_19_3.slots[((2 : Int32)).toNatClampNeg]? = some (.int y2) := H_a_19_3.at hin19_3 rfl
  refine Dn.st (fun _ kk => X20_2.caload hx (j := (2 : Int32)) (v := (.int y2)) Ar_a_19_3.1 (State.isArrayOf_alike hZ.alike Ar_a_19_3.2.1) Ar_a_19_3.2.2 hin19_3 hat19_3 (g := (mkF m 19 #[vr a, vi 2, vi 3, vr bb1, vi 2] [(.int 2), (.ref a), (.int 2), (.ref bb1)])) rfl rfl (hb hby d19_19) _ (kk)) ?_
  show Dn p e below s _ _ _ (T20_2.setTop (mkF m 20 #[vr a, vi 2, vi 3, vr bb1, vi 2] [(.int y2), (.int 2), (.ref bb1)]))
  obtain ⟨_, _, ⟨T20_3, L20_3, k20_3, n20_3⟩, -, X20_3, ⟨Lc20_3, hQ20_3, l20_3, y20_3, z20_3⟩, st20_3⟩ := Jvm.LawKit.callS X20_2 hx (y := on1) hown (mvT hZ (tw hw 96 rfl)) (mvT hZ (tw hw 97 rfl)) (mvT hZ (tw hw 50 rfl)) (mvT hZ (tw hw 98 rfl)) (by decide) (backOf (W := 0) (rmPu3_2 l Z a0 hw [] bb1 y2 cs sf kb1 (own_lo y0) (own_hi y0) (own_lo y1) (own_hi y1) (0 : Int32) (0 : Int32) T20_2.heap n0 Z20_2 Wo20_2 gn_bb1 V20_2) hZ (tw hw 98 rfl) (tw hw 50 rfl) (by decide) (by decide)) (g := (mkF m 20 #[vr a, vi 2, vi 3, vr bb1, vi 2] [(.int y2), (.int 2), (.ref bb1)])) rfl (by rw [hml]; rfl) (argsL := [(.ref bb1), (.int 2), (.int y2)]) (rest := []) (lenOf pd10 rfl) rfl (by show 2 * 0 + _ ≤ _; exact Nat.le_of_eq rfl) (hb hby d19_20) (fun _ _ => ⟨rfl, rfl, (by decide : 1 + 0 ≤ _), (by decide : 6 + 0 ≤ _)⟩)
  dsimp only [Pt.U, Pt.locs, Pt.cells, Pt.slots] at X20_3 l20_3 y20_3 z20_3 st20_3 hQ20_3
  subst l20_3 y20_3 z20_3
  obtain ⟨rfl, Nq20_3, K20_3, V20_3⟩ := hQ20_3
  have N20_3 := Fr.app N20_2 Nq20_3
  refine Dn.st st20_3 ?_
  have Wo20_3 := Wo20_2.keep K20_3 (own_k1 gn_bb1)
  have V_a_20_3 := V_a_20_2.keep K20_3 (ninS ne_a_bb1 nin0)
  have Kt20_3 := Keep.trans Kt20_2 K20_3 (fun x hx => Or.inr ((List.mem_singleton.mp hx) ▸ gz_bb1))
  have Z20_3 : n0 ≤ T20_3.heap.size := Nat.le_trans Z20_2 K20_3.1
  show Dn p e below s _ _ _ (T20_3.setTop (mkF m 23 #[vr a, vi 2, vi 3, vr bb1, vi 2] []))
  refine Dn.st (fun _ kk => XS.iinc X20_3.here hx rfl (hb hby d19_23) rfl (l' := #[vr a, vi 3, vi 3, vr bb1, vi 2]) rfl (XS.iinc X20_3.here hx rfl (hb hby d19_26) rfl (l' := #[vr a, vi 3, vi 3, vr bb1, vi 3]) rfl (XS.goto X20_3.here hx rfl (pc0 := 29) (pc' := 8) rfl (hb hby d19_29) (by decide) (by decide) (XS.iload X20_3.here hx rfl (hb hby d19_8) rfl (XS.iloadN X20_3.here hx rfl (hb hby d19_10) rfl (kk)))))) ?_
  show Dn p e below s _ _ _ (T20_3.setTop (mkF m 11 #[vr a, vi 3, vi 3, vr bb1, vi 3] [(.int 3), (.int 3)]))
  have hc11_4 : ¬ ((3 : Int32) < (3 : Int32)) := by decide
  refine Dn.st (fun _ kk => XS.icmpYes X20_3.here hx rfl (pc0 := 11) (pc' := 32) rfl (hb hby d19_11) rfl (flt hc11_4).2.1 (by decide) (by decide) (XS.aloadN X20_3.here hx rfl (hb hby d19_32) rfl rfl (kk))) ?_
  show Dn p e below s _ _ _ (T20_3.setTop (mkF m 33 #[vr a, vi 3, vi 3, vr bb1, vi 3] [(.ref bb1)]))
  exact Dn.ret X20_3 hlk hx hret rfl (Or.inr (Or.inr (Or.inr (Or.inr ⟨rfl, rfl, rfl⟩)))) (hb hby d19_33) ⟨bb1, kb1, rfl, gz_bb1, N20_3, Kt20_3, V20_3⟩ (by decide) (by decide)

theorem ef10_rmC5_3 (m : MethodId) (x0 : Addr) (x1 : Int32) (x2 : Addr) (x3 : Int32) (x4 : Int32) : entryFrame m #[(.ref x0), (.int x1), (.ref x2), (.int x3), (.int x4)] 7 = mkF m 0 #[vr x0, vi x1, vr x2, vi x3, vi x4, .unset, .unset] [] := by first | (simp [entryFrame, mkF, argsToLocals, Value.category]; done) | rfl
def QC5_3 (Z : State) (a : Addr) (b : Addr) (ka kb : ClassId) (y0 : Int32) (y1 : Int32) (y2 : Int32) (h0 : Heap) (n0 : Nat) (v : Option Value) (h : Heap) (L : List Loc) : Prop := Fr n0 L ∧ Keep h0 h [b] ∧ ((v = some (.int 0) ∧ 255 < y0.toInt) ∨ (v = some (.int 1) ∧ 255 < y1.toInt) ∨ (v = some (.int 2) ∧ 255 < y2.toInt) ∨ (v = some (.int 3) ∧ (y0.toInt ≤ 255 ∧ y1.toInt ≤ 255 ∧ y2.toInt ≤ 255 ∧ True) ∧ Arv Z h b kb .byte 3 [(.int (own_b y0)), (.int (own_b y1)), (.int (own_b y2))] (.int 0)))
theorem rmC5_3 (l : Launch) (Z : State) (a0 : Array Value) (hw : ∀ d ∈ tables_1, d.before a0 Z = true) (ws : List Jvm.Cond) (a : Addr) (b : Addr) (ka kb : ClassId) (y0 : Int32) (y1 : Int32) (y2 : Int32) (h0 : Heap) (n0 : Nat) (Z0 : n0 ≤ h0.size) (Va : Arv Z h0 a ka .char 3 [(.int y0), (.int y1), (.int y2)] (.int 0)) (Vb : Arv Z h0 b kb .byte 3 [(.int 0), (.int 0), (.int 0)] (.int 0)) (gb : n0 ≤ b) (hne : a ≠ b) :
    own_Met l on18 (Jvm.Cond.code on18 jdk_52_method_21_code 7 (some .int) :: ws) orm25 #[(.ref a), (.int 0), (.ref b), (.int 0), (.int 3)] Z h0 (QC5_3 Z a b ka kb y0 y1 y2 h0 n0) := by
  refine MetFree.of_bodySF (plainFor_of_name pn2) hisR ?_
  intro p e s m args below meth c s₁ Bd hml0 hP hK
  obtain ⟨rfl, hZ, hh⟩ := hP
  have hx := Bd.exec
  have hby := Bd.bytes
  have hlk : meth.locks = false := BodyLoose.notSynchronized Bd
  have hret := Bd.returns
  have hml : c.maxLocals = 7 := hml0
  have hown : s.vm.findClass "java/lang/StringUTF16" = some m.cls := findClass_of_methodNamed Bd.named
  have X0 : Stand p l e orm25 s m #[(.ref a), (.int 0), (.ref b), (.int 0), (.int 3)] below meth c s₁ [] 0 0 := Stand.of_body Bd
  have e0 : s₁.heap = h0 := by rw [← hh, Bd.state]; rfl
  have N0 := Fr.nil n0
  show Dn p e below s (QC5_3 Z a b ka kb y0 y1 y2 h0 n0) orm25.cells orm25.slots (s₁.setTop (entryFrame m #[(.ref a), (.int 0), (.ref b), (.int 0), (.int 3)] 7))
  refine Dn.st (fun _ kk => castTop (ef10_rmC5_3 m a (0 : Int32) b (0 : Int32) (3 : Int32)) kk) ?_
  show Dn p e below s _ _ _ (s₁.setTop (mkF m 0 #[vr a, vi 0, vr b, vi 0, vi 3, .unset, .unset] []))
  refine Dn.st (fun _ kk => XS.iconst X0.here hx rfl (hb hby d10_0) (XS.istore X0.here hx rfl (hb hby d10_1) rfl (l' := #[vr a, vi 0, vr b, vi 0, vi 3, vi 0, .unset]) rfl (XS.iload X0.here hx rfl (hb hby d10_3) rfl (XS.iload X0.here hx rfl (hb hby d10_5) rfl (kk))))) ?_
  show Dn p e below s _ _ _ (s₁.setTop (mkF m 7 #[vr a, vi 0, vr b, vi 0, vi 3, vi 0, .unset] [(.int 3), (.int 0)]))
  have hc7 : (0 : Int32) < (3 : Int32) := by decide
  refine Dn.st (fun _ kk => XS.icmpNo X0.here hx rfl (hb hby d10_7) rfl (tlt hc7).2.1 (XS.aloadN X0.here hx rfl (hb hby d10_10) rfl rfl (XS.iloadN X0.here hx rfl (hb hby d10_11) rfl (kk)))) ?_
  show Dn p e below s _ _ _ (s₁.setTop (mkF m 12 #[vr a, vi 0, vr b, vi 0, vi 3, vi 0, .unset] [(.int 0), (.ref a)]))
  have Vc_a_12 := Va
  obtain ⟨cl_a_12, Ar_a_12, q_a_12, S_a_12, N_a_12, H_a_12, G_a_12⟩ := Vc_a_12
  have hin12 : ¬ ((0 : Int32) < 0 ∨ cl_a_12.slots.size ≤ ((0 : Int32)).toNatClampNeg) := inb_of S_a_12 ⟨by decide, by decide⟩
  have hat12 : cl_a_12.slots[((0 : Int32)).toNatClampNeg]? = some (.int y0) := H_a_12.at hin12 rfl
  refine Dn.st (fun _ kk => X0.caload hx (j := (0 : Int32)) (v := (.int y0)) (by rw [e0]; exact Ar_a_12.1) (State.isArrayOf_alike hZ.alike Ar_a_12.2.1) Ar_a_12.2.2 hin12 hat12 (g := (mkF m 12 #[vr a, vi 0, vr b, vi 0, vi 3, vi 0, .unset] [(.int 0), (.ref a)])) rfl rfl (hb hby d10_12) _ (XS.istore X0.here hx rfl (hb hby d10_13) rfl (l' := #[vr a, vi 0, vr b, vi 0, vi 3, vi 0, vi y0]) rfl (XS.iload X0.here hx rfl (hb hby d10_15) rfl (XS.sipush X0.here hx rfl (hb hby d10_17) (kk))))) ?_
  show Dn p e below s _ _ _ (s₁.setTop (mkF m 20 #[vr a, vi 0, vr b, vi 0, vi 3, vi 0, vi y0] [(.int 255), (.int y0)]))
  by_cases hc20 : (255 : Int32) < y0
  · have hi20 : 255 < y0.toInt := Int32.lt_iff_toInt_lt.mp hc20
    refine Dn.st (fun _ kk => XS.icmpNo X0.here hx rfl (hb hby d10_20) rfl (tlt hc20).2.2.2 (XS.iload X0.here hx rfl (hb hby d10_23) rfl (kk))) ?_
    show Dn p e below s _ _ _ (s₁.setTop (mkF m 25 #[vr a, vi 0, vr b, vi 0, vi 3, vi 0, vi y0] [(.int 0)]))
    exact Dn.ret X0 hlk hx hret rfl (Or.inl ⟨rfl, Or.inl rfl, _, rfl⟩) (hb hby d10_25) (by rw [e0]; exact ⟨N0, (Keep.refl h0 [b]), (Or.inl ⟨rfl, hi20⟩)⟩) (by decide) (by decide)
  · have hi20 : ¬ 255 < y0.toInt := fun qq => hc20 (Int32.lt_iff_toInt_lt.mpr qq)
    refine Dn.st (fun _ kk => XS.icmpYes X0.here hx rfl (pc0 := 20) (pc' := 26) rfl (hb hby d10_20) rfl (flt hc20).2.2.2 (by decide) (by decide) (XS.aloadN X0.here hx rfl (hb hby d10_26) rfl rfl (XS.iloadN X0.here hx rfl (hb hby d10_27) rfl (XS.iload X0.here hx rfl (hb hby d10_28) rfl (XS.i2b X0.here hx rfl (hb hby d10_30) rfl (kk)))))) ?_
    show Dn p e below s _ _ _ (s₁.setTop (mkF m 31 #[vr a, vi 0, vr b, vi 0, vi 3, vi 0, vi y0] [(.int (y0.toInt8.toInt32)), (.int 0), (.ref b)]))
    have Vc_b_31 := Vb
    obtain ⟨cl_b_31, Ar_b_31, q_b_31, S_b_31, N_b_31, H_b_31, G_b_31⟩ := Vc_b_31
    have hin31 : ¬ ((0 : Int32) < 0 ∨ cl_b_31.slots.size ≤ ((0 : Int32)).toNatClampNeg) := inb_of S_b_31 ⟨by decide, by decide⟩
    obtain ⟨T31, h31, X31, e31, W31, st31⟩ := stB X0 hx hZ e0 Ar_b_31 (j := (0 : Int32)) hin31 (g := (mkF m 31 #[vr a, vi 0, vr b, vi 0, vi 3, vi 0, vi y0] [(.int (y0.toInt8.toInt32)), (.int 0), (.ref b)])) rfl rfl (hb hby d10_31)
    have V_a_31 := Va.other W31 hne
    have V_b_31 := Arv.set Ar_b_31 q_b_31 S_b_31 N_b_31 H_b_31 G_b_31 (fits_nar_byte _) W31 0 rfl (Nat.le_of_ble_eq_true rfl)
    have K31 := (Keep.refl h0 [b]).wr W31 (Or.inl (List.mem_of_getElem? (i := 0) rfl))
    have N31 := Fr.snoc X31 N0 gb
    have Z31 : n0 ≤ h31.size := Nat.le_trans Z0 (Keep.of_wr W31).1
    refine Dn.st st31 ?_
    show Dn p e below s _ _ _ (T31.setTop (mkF m 32 #[vr a, vi 0, vr b, vi 0, vi 3, vi 0, vi y0] []))
    refine Dn.st (fun _ kk => XS.iinc X31.here hx rfl (hb hby d10_32) rfl (l' := #[vr a, vi 1, vr b, vi 0, vi 3, vi 0, vi y0]) rfl (XS.iinc X31.here hx rfl (hb hby d10_35) rfl (l' := #[vr a, vi 1, vr b, vi 1, vi 3, vi 0, vi y0]) rfl (XS.iinc X31.here hx rfl (hb hby d10_38) rfl (l' := #[vr a, vi 1, vr b, vi 1, vi 3, vi 1, vi y0]) rfl (XS.goto X31.here hx rfl (pc0 := 41) (pc' := 3) rfl (hb hby d10_41) (by decide) (by decide) (XS.iload X31.here hx rfl (hb hby d10_3) rfl (XS.iload X31.here hx rfl (hb hby d10_5) rfl (kk))))))) ?_
    show Dn p e below s _ _ _ (T31.setTop (mkF m 7 #[vr a, vi 1, vr b, vi 1, vi 3, vi 1, vi y0] [(.int 3), (.int 1)]))
    have hc7_2 : (1 : Int32) < (3 : Int32) := by decide
    refine Dn.st (fun _ kk => XS.icmpNo X31.here hx rfl (hb hby d10_7) rfl (tlt hc7_2).2.1 (XS.aloadN X31.here hx rfl (hb hby d10_10) rfl rfl (XS.iloadN X31.here hx rfl (hb hby d10_11) rfl (kk)))) ?_
    show Dn p e below s _ _ _ (T31.setTop (mkF m 12 #[vr a, vi 1, vr b, vi 1, vi 3, vi 1, vi y0] [(.int 1), (.ref a)]))
    have Vc_a_12_2 := V_a_31
    obtain ⟨cl_a_12_2, Ar_a_12_2, q_a_12_2, S_a_12_2, N_a_12_2, H_a_12_2, G_a_12_2⟩ := Vc_a_12_2
    have hin12_2 : ¬ ((1 : Int32) < 0 ∨ cl_a_12_2.slots.size ≤ ((1 : Int32)).toNatClampNeg) := inb_of S_a_12_2 ⟨by decide, by decide⟩
    have hat12_2 : cl_a_12_2.slots[((1 : Int32)).toNatClampNeg]? = some (.int y1) := H_a_12_2.at hin12_2 rfl
    refine Dn.st (fun _ kk => X31.caload hx (j := (1 : Int32)) (v := (.int y1)) (by rw [e31]; exact Ar_a_12_2.1) (State.isArrayOf_alike hZ.alike Ar_a_12_2.2.1) Ar_a_12_2.2.2 hin12_2 hat12_2 (g := (mkF m 12 #[vr a, vi 1, vr b, vi 1, vi 3, vi 1, vi y0] [(.int 1), (.ref a)])) rfl rfl (hb hby d10_12) _ (XS.istore X31.here hx rfl (hb hby d10_13) rfl (l' := #[vr a, vi 1, vr b, vi 1, vi 3, vi 1, vi y1]) rfl (XS.iload X31.here hx rfl (hb hby d10_15) rfl (XS.sipush X31.here hx rfl (hb hby d10_17) (kk))))) ?_
    show Dn p e below s _ _ _ (T31.setTop (mkF m 20 #[vr a, vi 1, vr b, vi 1, vi 3, vi 1, vi y1] [(.int 255), (.int y1)]))
    by_cases hc20_2 : (255 : Int32) < y1
    · have hi20_2 : 255 < y1.toInt := Int32.lt_iff_toInt_lt.mp hc20_2
      refine Dn.st (fun _ kk => XS.icmpNo X31.here hx rfl (hb hby d10_20) rfl (tlt hc20_2).2.2.2 (XS.iload X31.here hx rfl (hb hby d10_23) rfl (kk))) ?_
      show Dn p e below s _ _ _ (T31.setTop (mkF m 25 #[vr a, vi 1, vr b, vi 1, vi 3, vi 1, vi y1] [(.int 1)]))
      exact Dn.ret X31 hlk hx hret rfl (Or.inl ⟨rfl, Or.inl rfl, _, rfl⟩) (hb hby d10_25) (by rw [e31]; exact ⟨N31, K31, (Or.inr (Or.inl ⟨rfl, hi20_2⟩))⟩) (by decide) (by decide)
    · have hi20_2 : ¬ 255 < y1.toInt := fun qq => hc20_2 (Int32.lt_iff_toInt_lt.mpr qq)
      refine Dn.st (fun _ kk => XS.icmpYes X31.here hx rfl (pc0 := 20) (pc' := 26) rfl (hb hby d10_20) rfl (flt hc20_2).2.2.2 (by decide) (by decide) (XS.aloadN X31.here hx rfl (hb hby d10_26) rfl rfl (XS.iloadN X31.here hx rfl (hb hby d10_27) rfl (XS.iload X31.here hx rfl (hb hby d10_28) rfl (XS.i2b X31.here hx rfl (hb hby d10_30) rfl (kk)))))) ?_
      show Dn p e below s _ _ _ (T31.setTop (mkF m 31 #[vr a, vi 1, vr b, vi 1, vi 3, vi 1, vi y1] [(.int (y1.toInt8.toInt32)), (.int 1), (.ref b)]))
      have Vc_b_31_2 := V_b_31
      obtain ⟨cl_b_31_2, Ar_b_31_2, q_b_31_2, S_b_31_2, N_b_31_2, H_b_31_2, G_b_31_2⟩ := Vc_b_31_2
      have hin31_2 : ¬ ((1 : Int32) < 0 ∨ cl_b_31_2.slots.size ≤ ((1 : Int32)).toNatClampNeg) := inb_of S_b_31_2 ⟨by decide, by decide⟩
      obtain ⟨T31_2, h31_2, X31_2, e31_2, W31_2, st31_2⟩ := stB X31 hx hZ e31 Ar_b_31_2 (j := (1 : Int32)) hin31_2 (g := (mkF m 31 #[vr a, vi 1, vr b, vi 1, vi 3, vi 1, vi y1] [(.int (y1.toInt8.toInt32)), (.int 1), (.ref b)])) rfl rfl (hb hby d10_31)
      have V_a_31_2 := V_a_31.other W31_2 hne
      have V_b_31_2 := Arv.set Ar_b_31_2 q_b_31_2 S_b_31_2 N_b_31_2 H_b_31_2 G_b_31_2 (fits_nar_byte _) W31_2 1 rfl (Nat.le_of_ble_eq_true rfl)
      have K31_2 := K31.wr W31_2 (Or.inl (List.mem_of_getElem? (i := 0) rfl))
      have N31_2 := Fr.snoc X31_2 N31 gb
      have Z31_2 : n0 ≤ h31_2.size := Nat.le_trans Z31 (Keep.of_wr W31_2).1
      refine Dn.st st31_2 ?_
      show Dn p e below s _ _ _ (T31_2.setTop (mkF m 32 #[vr a, vi 1, vr b, vi 1, vi 3, vi 1, vi y1] []))
      refine Dn.st (fun _ kk => XS.iinc X31_2.here hx rfl (hb hby d10_32) rfl (l' := #[vr a, vi 2, vr b, vi 1, vi 3, vi 1, vi y1]) rfl (XS.iinc X31_2.here hx rfl (hb hby d10_35) rfl (l' := #[vr a, vi 2, vr b, vi 2, vi 3, vi 1, vi y1]) rfl (XS.iinc X31_2.here hx rfl (hb hby d10_38) rfl (l' := #[vr a, vi 2, vr b, vi 2, vi 3, vi 2, vi y1]) rfl (XS.goto X31_2.here hx rfl (pc0 := 41) (pc' := 3) rfl (hb hby d10_41) (by decide) (by decide) (XS.iload X31_2.here hx rfl (hb hby d10_3) rfl (XS.iload X31_2.here hx rfl (hb hby d10_5) rfl (kk))))))) ?_
      show Dn p e below s _ _ _ (T31_2.setTop (mkF m 7 #[vr a, vi 2, vr b, vi 2, vi 3, vi 2, vi y1] [(.int 3), (.int 2)]))
      have hc7_3 : (2 : Int32) < (3 : Int32) := by decide
      refine Dn.st (fun _ kk => XS.icmpNo X31_2.here hx rfl (hb hby d10_7) rfl (tlt hc7_3).2.1 (XS.aloadN X31_2.here hx rfl (hb hby d10_10) rfl rfl (XS.iloadN X31_2.here hx rfl (hb hby d10_11) rfl (kk)))) ?_
      show Dn p e below s _ _ _ (T31_2.setTop (mkF m 12 #[vr a, vi 2, vr b, vi 2, vi 3, vi 2, vi y1] [(.int 2), (.ref a)]))
      have Vc_a_12_3 := V_a_31_2
      obtain ⟨cl_a_12_3, Ar_a_12_3, q_a_12_3, S_a_12_3, N_a_12_3, H_a_12_3, G_a_12_3⟩ := Vc_a_12_3
      have hin12_3 : ¬ ((2 : Int32) < 0 ∨ cl_a_12_3.slots.size ≤ ((2 : Int32)).toNatClampNeg) := inb_of S_a_12_3 ⟨by decide, by decide⟩
      have hat12_3 : cl_a_12_3.slots[((2 : Int32)).toNatClampNeg]? = some (.int y2) := H_a_12_3.at hin12_3 rfl
      refine Dn.st (fun _ kk => X31_2.caload hx (j := (2 : Int32)) (v := (.int y2)) (by rw [e31_2]; exact Ar_a_12_3.1) (State.isArrayOf_alike hZ.alike Ar_a_12_3.2.1) Ar_a_12_3.2.2 hin12_3 hat12_3 (g := (mkF m 12 #[vr a, vi 2, vr b, vi 2, vi 3, vi 2, vi y1] [(.int 2), (.ref a)])) rfl rfl (hb hby d10_12) _ (XS.istore X31_2.here hx rfl (hb hby d10_13) rfl (l' := #[vr a, vi 2, vr b, vi 2, vi 3, vi 2, vi y2]) rfl (XS.iload X31_2.here hx rfl (hb hby d10_15) rfl (XS.sipush X31_2.here hx rfl (hb hby d10_17) (kk))))) ?_
      show Dn p e below s _ _ _ (T31_2.setTop (mkF m 20 #[vr a, vi 2, vr b, vi 2, vi 3, vi 2, vi y2] [(.int 255), (.int y2)]))
      by_cases hc20_3 : (255 : Int32) < y2
      · have hi20_3 : 255 < y2.toInt := Int32.lt_iff_toInt_lt.mp hc20_3
        refine Dn.st (fun _ kk => XS.icmpNo X31_2.here hx rfl (hb hby d10_20) rfl (tlt hc20_3).2.2.2 (XS.iload X31_2.here hx rfl (hb hby d10_23) rfl (kk))) ?_
        show Dn p e below s _ _ _ (T31_2.setTop (mkF m 25 #[vr a, vi 2, vr b, vi 2, vi 3, vi 2, vi y2] [(.int 2)]))
        exact Dn.ret X31_2 hlk hx hret rfl (Or.inl ⟨rfl, Or.inl rfl, _, rfl⟩) (hb hby d10_25) (by rw [e31_2]; exact ⟨N31_2, K31_2, (Or.inr (Or.inr (Or.inl ⟨rfl, hi20_3⟩)))⟩) (by decide) (by decide)
      · have hi20_3 : ¬ 255 < y2.toInt := fun qq => hc20_3 (Int32.lt_iff_toInt_lt.mpr qq)
        refine Dn.st (fun _ kk => XS.icmpYes X31_2.here hx rfl (pc0 := 20) (pc' := 26) rfl (hb hby d10_20) rfl (flt hc20_3).2.2.2 (by decide) (by decide) (XS.aloadN X31_2.here hx rfl (hb hby d10_26) rfl rfl (XS.iloadN X31_2.here hx rfl (hb hby d10_27) rfl (XS.iload X31_2.here hx rfl (hb hby d10_28) rfl (XS.i2b X31_2.here hx rfl (hb hby d10_30) rfl (kk)))))) ?_
        show Dn p e below s _ _ _ (T31_2.setTop (mkF m 31 #[vr a, vi 2, vr b, vi 2, vi 3, vi 2, vi y2] [(.int (y2.toInt8.toInt32)), (.int 2), (.ref b)]))
        have Vc_b_31_3 := V_b_31_2
        obtain ⟨cl_b_31_3, Ar_b_31_3, q_b_31_3, S_b_31_3, N_b_31_3, H_b_31_3, G_b_31_3⟩ := Vc_b_31_3
        have hin31_3 : ¬ ((2 : Int32) < 0 ∨ cl_b_31_3.slots.size ≤ ((2 : Int32)).toNatClampNeg) := inb_of S_b_31_3 ⟨by decide, by decide⟩
        obtain ⟨T31_3, h31_3, X31_3, e31_3, W31_3, st31_3⟩ := stB X31_2 hx hZ e31_2 Ar_b_31_3 (j := (2 : Int32)) hin31_3 (g := (mkF m 31 #[vr a, vi 2, vr b, vi 2, vi 3, vi 2, vi y2] [(.int (y2.toInt8.toInt32)), (.int 2), (.ref b)])) rfl rfl (hb hby d10_31)
        have V_a_31_3 := V_a_31_2.other W31_3 hne
        have V_b_31_3 := Arv.set Ar_b_31_3 q_b_31_3 S_b_31_3 N_b_31_3 H_b_31_3 G_b_31_3 (fits_nar_byte _) W31_3 2 rfl (Nat.le_of_ble_eq_true rfl)
        have K31_3 := K31_2.wr W31_3 (Or.inl (List.mem_of_getElem? (i := 0) rfl))
        have N31_3 := Fr.snoc X31_3 N31_2 gb
        have Z31_3 : n0 ≤ h31_3.size := Nat.le_trans Z31_2 (Keep.of_wr W31_3).1
        refine Dn.st st31_3 ?_
        show Dn p e below s _ _ _ (T31_3.setTop (mkF m 32 #[vr a, vi 2, vr b, vi 2, vi 3, vi 2, vi y2] []))
        refine Dn.st (fun _ kk => XS.iinc X31_3.here hx rfl (hb hby d10_32) rfl (l' := #[vr a, vi 3, vr b, vi 2, vi 3, vi 2, vi y2]) rfl (XS.iinc X31_3.here hx rfl (hb hby d10_35) rfl (l' := #[vr a, vi 3, vr b, vi 3, vi 3, vi 2, vi y2]) rfl (XS.iinc X31_3.here hx rfl (hb hby d10_38) rfl (l' := #[vr a, vi 3, vr b, vi 3, vi 3, vi 3, vi y2]) rfl (XS.goto X31_3.here hx rfl (pc0 := 41) (pc' := 3) rfl (hb hby d10_41) (by decide) (by decide) (XS.iload X31_3.here hx rfl (hb hby d10_3) rfl (XS.iload X31_3.here hx rfl (hb hby d10_5) rfl (kk))))))) ?_
        show Dn p e below s _ _ _ (T31_3.setTop (mkF m 7 #[vr a, vi 3, vr b, vi 3, vi 3, vi 3, vi y2] [(.int 3), (.int 3)]))
        have hc7_4 : ¬ ((3 : Int32) < (3 : Int32)) := by decide
        refine Dn.st (fun _ kk => XS.icmpYes X31_3.here hx rfl (pc0 := 7) (pc' := 44) rfl (hb hby d10_7) rfl (flt hc7_4).2.1 (by decide) (by decide) (XS.iload X31_3.here hx rfl (hb hby d10_44) rfl (kk))) ?_
        show Dn p e below s _ _ _ (T31_3.setTop (mkF m 46 #[vr a, vi 3, vr b, vi 3, vi 3, vi 3, vi y2] [(.int 3)]))
        exact Dn.ret X31_3 hlk hx hret rfl (Or.inl ⟨rfl, Or.inl rfl, _, rfl⟩) (hb hby d10_46) (by rw [e31_3]; exact ⟨N31_3, K31_3, (Or.inr (Or.inr (Or.inr ⟨rfl, ⟨Int.not_lt.mp hi20, Int.not_lt.mp hi20_2, Int.not_lt.mp hi20_3, trivial⟩, V_b_31_3⟩)))⟩) (by decide) (by decide)

theorem ef9_rmC3_3 (m : MethodId) (x0 : Addr) (x1 : Int32) (x2 : Int32) : entryFrame m #[(.ref x0), (.int x1), (.int x2)] 6 = mkF m 0 #[vr x0, vi x1, vi x2, .unset, .unset, .unset] [] := by first | (simp [entryFrame, mkF, argsToLocals, Value.category]; done) | rfl
def QC3_3 (Z : State) (a : Addr) (cs : Int32) (sf : Value) (ka : ClassId) (y0 : Int32) (y1 : Int32) (y2 : Int32) (h0 : Heap) (n0 : Nat) (v : Option Value) (h : Heap) (L : List Loc) : Prop := ∃ (b : Addr) (kb : ClassId), v = some (.ref b) ∧ h0.size ≤ b ∧ Fr n0 L ∧ Keep h0 h [] ∧ ((Arv Z h b kb .byte 3 [(.int (own_b y0)), (.int (own_b y1)), (.int (own_b y2))] (.int 0) ∧ (y0.toInt ≤ 255 ∧ y1.toInt ≤ 255 ∧ y2.toInt ≤ 255 ∧ True)) ∨ Arv Z h b kb .byte 6 [(.int (own_lo y0)), (.int (own_hi y0)), (.int (own_lo y1)), (.int (own_hi y1)), (.int (own_lo y2)), (.int (own_hi y2))] (.int 0))
theorem rmC3_3 (l : Launch) (Z : State) (a0 : Array Value) (hw : ∀ d ∈ tables_1, d.before a0 Z = true) (ws : List Jvm.Cond) (a : Addr) (cs : Int32) (sf : Value) (ka : ClassId) (y0 : Int32) (y1 : Int32) (y2 : Int32) (h0 : Heap) (n0 : Nat) (Z0 : n0 ≤ h0.size) (hW : own_W Z h0 n0 cs sf) (Va : Arv Z h0 a ka .char 3 [(.int y0), (.int y1), (.int y2)] (.int 0)) (hr0 : 0 ≤ y0.toInt ∧ y0.toInt ≤ 65535) (hr1 : 0 ≤ y1.toInt ∧ y1.toInt ≤ 65535) (hr2 : 0 ≤ y2.toInt ∧ y2.toInt ≤ 65535) :
    own_Met l on12 (Jvm.Cond.code on12 jdk_52_method_16_code 6 (some (.array .byte)) :: ws) orm40 #[(.ref a), (.int 0), (.int 3)] Z h0 (QC3_3 Z a cs sf ka y0 y1 y2 h0 n0) := by
  refine MetFree.of_bodySF (plainFor_of_name pn2) hisR ?_
  intro p e s m args below meth c s₁ Bd hml0 hP hK
  obtain ⟨rfl, hZ, hh⟩ := hP
  have hx := Bd.exec
  have hby := Bd.bytes
  have hlk : meth.locks = false := BodyLoose.notSynchronized Bd
  have hret := Bd.returns
  have hml : c.maxLocals = 6 := hml0
  have hown : s.vm.findClass "java/lang/StringUTF16" = some m.cls := findClass_of_methodNamed Bd.named
  have X0 : Stand p l e orm40 s m #[(.ref a), (.int 0), (.int 3)] below meth c s₁ [] 0 0 := Stand.of_body Bd
  have e0 : s₁.heap = h0 := by rw [← hh, Bd.state]; rfl
  have N0 := Fr.nil n0
  show Dn p e below s (QC3_3 Z a cs sf ka y0 y1 y2 h0 n0) orm40.cells orm40.slots (s₁.setTop (entryFrame m #[(.ref a), (.int 0), (.int 3)] 6))
  refine Dn.st (fun _ kk => castTop (ef9_rmC3_3 m a (0 : Int32) (3 : Int32)) kk) ?_
  show Dn p e below s _ _ _ (s₁.setTop (mkF m 0 #[vr a, vi 0, vi 3, .unset, .unset, .unset] []))
  refine Dn.st (fun _ kk => XS.iloadN X0.here hx rfl (hb hby d9_0) rfl (kk)) ?_
  show Dn p e below s _ _ _ (s₁.setTop (mkF m 1 #[vr a, vi 0, vi 3, .unset, .unset, .unset] [(.int 3)]))
  obtain ⟨T1, h1, k1, X1, e1, E1, A1, st1⟩ := newP X0 hx hZ (tw hw 21 rfl) e0 (g := (mkF m 1 #[vr a, vi 0, vi 3, .unset, .unset, .unset] [(.int 3)])) rfl (hb hby d9_1) rfl (by decide) (cap := 3) (by decide) (by decide) (by decide) (by decide)
  obtain ⟨b1, g1⟩ : ∃ z, z = h0.size := ⟨_, rfl⟩
  rw [← g1] at A1 st1
  have ne_a_b1 : a ≠ b1 := Nat.ne_of_lt (Nat.lt_of_lt_of_le Va.lt (Nat.le_of_eq g1.symm))
  have gz_b1 : h0.size ≤ b1 := Nat.le_trans (Keep.refl h0 []).1 (Nat.le_of_eq g1.symm)
  have V_a_1 := Va.ext E1
  have K1 := (Keep.refl h0 []).ext E1
  have Wo1 := hW.ext E1
  have gn_b1 : n0 ≤ b1 := Nat.le_trans Z0 (Nat.le_of_eq g1.symm)
  have Z1 : n0 ≤ h1.size := Nat.le_trans Z0 E1.1
  have V_b1 : Arv Z h1 b1 k1 .byte (3 : Int32) [(.int 0), (.int 0), (.int 0)] (.int 0) := (Arv.new A1 (by decide)).pad (pad_rep [] (.int 0) 3)
  refine Dn.st st1 ?_
  show Dn p e below s _ _ _ (T1.setTop (mkF m 3 #[vr a, vi 0, vi 3, .unset, .unset, .unset] [(.ref b1)]))
  refine Dn.st (fun _ kk => XS.astoreN X1.here hx rfl (hb hby d9_3) rfl rfl (l' := #[vr a, vi 0, vi 3, vr b1, .unset, .unset]) rfl (XS.aloadN X1.here hx rfl (hb hby d9_4) rfl rfl (XS.iloadN X1.here hx rfl (hb hby d9_5) rfl (XS.aloadN X1.here hx rfl (hb hby d9_6) rfl rfl (XS.iconst X1.here hx rfl (hb hby d9_7) (XS.iloadN X1.here hx rfl (hb hby d9_8) rfl (kk))))))) ?_
  show Dn p e below s _ _ _ (T1.setTop (mkF m 9 #[vr a, vi 0, vi 3, vr b1, .unset, .unset] [(.int 3), (.int 0), (.ref b1), (.int 0), (.ref a)]))
  obtain ⟨_, _, ⟨T9, L9, k9, n9⟩, -, X9, ⟨Lc9, hQ9, l9, y9, z9⟩, st9⟩ := Jvm.LawKit.callS X1 hx (y := on18) hown (mvT hZ (tw hw 52 rfl)) (mvT hZ (tw hw 53 rfl)) (mvT hZ (tw hw 50 rfl)) (mvT hZ (tw hw 54 rfl)) (by decide) (backOf (W := 0) (rmC5_3 l Z a0 hw [] a b1 ka k1 y0 y1 y2 h1 n0 Z1 V_a_1 V_b1 gn_b1 ne_a_b1) hZ (tw hw 54 rfl) (tw hw 50 rfl) (by decide) (by decide)) (g := (mkF m 9 #[vr a, vi 0, vi 3, vr b1, .unset, .unset] [(.int 3), (.int 0), (.ref b1), (.int 0), (.ref a)])) rfl (by rw [hml]; rfl) (argsL := [(.ref a), (.int 0), (.ref b1), (.int 0), (.int 3)]) (rest := []) (lenOf pd11 rfl) rfl (by show 2 * 0 + _ ≤ _; exact Nat.le_of_eq rfl) (hb hby d9_9) (fun _ _ => ⟨rfl, e1, (by decide : 1 + 0 ≤ _), (by decide : 3 + 0 ≤ _)⟩)
  dsimp only [Pt.U, Pt.locs, Pt.cells, Pt.slots] at X9 l9 y9 z9 st9 hQ9
  subst l9 y9 z9
  obtain ⟨Nq9, K9, hq9⟩ := hQ9
  have N9 := Fr.app N0 Nq9
  refine Dn.st st9 ?_
  have Wo9 := Wo1.keep K9 (own_k1 gn_b1)
  have V_a_9 := V_a_1.keep K9 (ninS ne_a_b1 nin0)
  have Kt9 := Keep.trans K1 K9 (fun x hx => Or.inr ((List.mem_singleton.mp hx) ▸ gz_b1))
  have Z9 : n0 ≤ T9.heap.size := Nat.le_trans Z1 K9.1
  rcases hq9 with ⟨rfl, gt9⟩ | ⟨rfl, gt9⟩ | ⟨rfl, gt9⟩ | ⟨rfl, hp9, VL9⟩
  · show Dn p e below s _ _ _ (T9.setTop (mkF m 12 #[vr a, vi 0, vi 3, vr b1, .unset, .unset] [(.int 0)]))
    refine Dn.st (fun _ kk => XS.istore X9.here hx rfl (hb hby d9_12) rfl (l' := #[vr a, vi 0, vi 3, vr b1, vi 0, .unset]) rfl (XS.iload X9.here hx rfl (hb hby d9_14) rfl (XS.iloadN X9.here hx rfl (hb hby d9_16) rfl (kk)))) ?_
    show Dn p e below s _ _ _ (T9.setTop (mkF m 17 #[vr a, vi 0, vi 3, vr b1, vi 0, .unset] [(.int 3), (.int 0)]))
    have hc17 : ¬ ((0 : Int32) = (3 : Int32)) := by decide
    refine Dn.st (fun _ kk => XS.icmpNo X9.here hx rfl (hb hby d9_17) rfl (feq hc17).1 (XS.aloadN X9.here hx rfl (hb hby d9_20) rfl rfl (XS.iloadN X9.here hx rfl (hb hby d9_21) rfl (XS.iloadN X9.here hx rfl (hb hby d9_22) rfl (kk))))) ?_
    show Dn p e below s _ _ _ (T9.setTop (mkF m 23 #[vr a, vi 0, vi 3, vr b1, vi 0, .unset] [(.int 3), (.int 0), (.ref a)]))
    obtain ⟨_, _, ⟨T23, L23, k23, n23⟩, -, X23, ⟨Lc23, hQ23, l23, y23, z23⟩, st23⟩ := Jvm.LawKit.callS X9 hx (y := on7) hown (mvT hZ (tw hw 86 rfl)) (mvT hZ (tw hw 87 rfl)) (mvT hZ (tw hw 50 rfl)) (mvT hZ (tw hw 88 rfl)) (by decide) (backOf (W := 0) (rmTb3 l Z a0 hw [] a cs sf ka y0 y1 y2 T9.heap n0 Z9 Wo9 V_a_9) hZ (tw hw 88 rfl) (tw hw 50 rfl) (by decide) (by decide)) (g := (mkF m 23 #[vr a, vi 0, vi 3, vr b1, vi 0, .unset] [(.int 3), (.int 0), (.ref a)])) rfl (by rw [hml]; rfl) (argsL := [(.ref a), (.int 0), (.int 3)]) (rest := []) (lenOf pd12 rfl) rfl (by show 2 * 0 + _ ≤ _; exact Nat.le_of_eq rfl) (hb hby d9_23) (fun _ _ => ⟨rfl, rfl, (by decide : 1 + 1 ≤ _), (by decide : 3 + 6 ≤ _)⟩)
    dsimp only [Pt.U, Pt.locs, Pt.cells, Pt.slots] at X23 l23 y23 z23 st23 hQ23
    subst l23 y23 z23
    obtain ⟨bb23, kb23, rfl, gz23, Nq23, K23, V_bb23⟩ := hQ23
    have N23 := Fr.app N9 Nq23
    refine Dn.st st23 ?_
    have ne_a_bb23 : a ≠ bb23 := Nat.ne_of_lt (Nat.lt_of_lt_of_le V_a_9.lt gz23)
    have gn_bb23 : n0 ≤ bb23 := Nat.le_trans Z9 gz23
    have gz_bb23 : h0.size ≤ bb23 := Nat.le_trans Kt9.1 gz23
    have Wo23 := Wo9.keep K23 own_k0
    have V_a_23 := V_a_9.keep K23 nin0
    have Kt23 := Keep.trans Kt9 K23 (by simp)
    have Z23 : n0 ≤ T23.heap.size := Nat.le_trans Z9 K23.1
    show Dn p e below s _ _ _ (T23.setTop (mkF m 26 #[vr a, vi 0, vi 3, vr b1, vi 0, .unset] [(.ref bb23)]))
    refine Dn.st (fun _ kk => XS.astore X23.here hx rfl (hb hby d9_26) rfl rfl (l' := #[vr a, vi 0, vi 3, vr b1, vi 0, vr bb23]) rfl (XS.aload X23.here hx rfl (hb hby d9_28) rfl rfl (XS.iload X23.here hx rfl (hb hby d9_30) rfl (kk)))) ?_
    show Dn p e below s _ _ _ (T23.setTop (mkF m 32 #[vr a, vi 0, vi 3, vr b1, vi 0, vr bb23] [(.int 0), (.ref bb23)]))
    obtain ⟨_, _, ⟨T32, L32, k32, n32⟩, -, X32, ⟨Lc32, hQ32, l32, y32, z32⟩, st32⟩ := Jvm.LawKit.callS X23 hx (y := on5) hown (mvT hZ (tw hw 102 rfl)) (mvT hZ (tw hw 103 rfl)) (mvT hZ (tw hw 50 rfl)) (mvT hZ (tw hw 104 rfl)) (by decide) (backOf (W := 0) (rmGc0 l Z a0 hw [] bb23 cs sf _ _ _ y0 T23.heap n0 Z23 Wo23 V_bb23 (by decide) (by decide) rfl rfl hr0.1 hr0.2) hZ (tw hw 104 rfl) (tw hw 50 rfl) (by decide) (by decide)) (g := (mkF m 32 #[vr a, vi 0, vi 3, vr b1, vi 0, vr bb23] [(.int 0), (.ref bb23)])) rfl (by rw [hml]; rfl) (argsL := [(.ref bb23), (.int 0)]) (rest := []) (lenOf pd6 rfl) rfl (by show 2 * 0 + _ ≤ _; exact Nat.le_of_eq rfl) (hb hby d9_32) (fun _ _ => ⟨rfl, rfl, (by decide : 2 + 0 ≤ _), (by decide : 9 + 0 ≤ _)⟩)
    dsimp only [Pt.U, Pt.locs, Pt.cells, Pt.slots] at X32 l32 y32 z32 st32 hQ32
    subst l32 y32 z32
    obtain ⟨rfl, Nq32, hh32⟩ := hQ32
    have N32 := Fr.app N23 Nq32
    refine Dn.st st32 ?_
    show Dn p e below s _ _ _ (T32.setTop (mkF m 35 #[vr a, vi 0, vi 3, vr b1, vi 0, vr bb23] [(.int y0)]))
    refine Dn.st (fun _ kk => XS.sipush X32.here hx rfl (hb hby d9_35) (kk)) ?_
    show Dn p e below s _ _ _ (T32.setTop (mkF m 38 #[vr a, vi 0, vi 3, vr b1, vi 0, vr bb23] [(.int 255), (.int y0)]))
    have hc38 : (255 : Int32) < y0 := (Int32.lt_iff_toInt_lt.mpr gt9)
    refine Dn.st (fun _ kk => XS.icmpYes X32.here hx rfl (pc0 := 38) (pc' := 54) rfl (hb hby d9_38) rfl (tlt hc38).2.2.1 (by decide) (by decide) (XS.aload X32.here hx rfl (hb hby d9_54) rfl rfl (kk))) ?_
    show Dn p e below s _ _ _ (T32.setTop (mkF m 56 #[vr a, vi 0, vi 3, vr b1, vi 0, vr bb23] [(.ref bb23)]))
    exact Dn.ret X32 hlk hx hret rfl (Or.inr (Or.inr (Or.inr (Or.inr ⟨rfl, rfl, rfl⟩)))) (hb hby d9_56) (by rw [hh32]; exact ⟨bb23, kb23, rfl, gz_bb23, N32, Kt23, Or.inr V_bb23⟩) (by decide) (by decide)
  · show Dn p e below s _ _ _ (T9.setTop (mkF m 12 #[vr a, vi 0, vi 3, vr b1, .unset, .unset] [(.int 1)]))
    refine Dn.st (fun _ kk => XS.istore X9.here hx rfl (hb hby d9_12) rfl (l' := #[vr a, vi 0, vi 3, vr b1, vi 1, .unset]) rfl (XS.iload X9.here hx rfl (hb hby d9_14) rfl (XS.iloadN X9.here hx rfl (hb hby d9_16) rfl (kk)))) ?_
    show Dn p e below s _ _ _ (T9.setTop (mkF m 17 #[vr a, vi 0, vi 3, vr b1, vi 1, .unset] [(.int 3), (.int 1)]))
    have hc17 : ¬ ((1 : Int32) = (3 : Int32)) := by decide
    refine Dn.st (fun _ kk => XS.icmpNo X9.here hx rfl (hb hby d9_17) rfl (feq hc17).1 (XS.aloadN X9.here hx rfl (hb hby d9_20) rfl rfl (XS.iloadN X9.here hx rfl (hb hby d9_21) rfl (XS.iloadN X9.here hx rfl (hb hby d9_22) rfl (kk))))) ?_
    show Dn p e below s _ _ _ (T9.setTop (mkF m 23 #[vr a, vi 0, vi 3, vr b1, vi 1, .unset] [(.int 3), (.int 0), (.ref a)]))
    obtain ⟨_, _, ⟨T23, L23, k23, n23⟩, -, X23, ⟨Lc23, hQ23, l23, y23, z23⟩, st23⟩ := Jvm.LawKit.callS X9 hx (y := on7) hown (mvT hZ (tw hw 86 rfl)) (mvT hZ (tw hw 87 rfl)) (mvT hZ (tw hw 50 rfl)) (mvT hZ (tw hw 88 rfl)) (by decide) (backOf (W := 0) (rmTb3 l Z a0 hw [] a cs sf ka y0 y1 y2 T9.heap n0 Z9 Wo9 V_a_9) hZ (tw hw 88 rfl) (tw hw 50 rfl) (by decide) (by decide)) (g := (mkF m 23 #[vr a, vi 0, vi 3, vr b1, vi 1, .unset] [(.int 3), (.int 0), (.ref a)])) rfl (by rw [hml]; rfl) (argsL := [(.ref a), (.int 0), (.int 3)]) (rest := []) (lenOf pd12 rfl) rfl (by show 2 * 0 + _ ≤ _; exact Nat.le_of_eq rfl) (hb hby d9_23) (fun _ _ => ⟨rfl, rfl, (by decide : 1 + 1 ≤ _), (by decide : 3 + 6 ≤ _)⟩)
    dsimp only [Pt.U, Pt.locs, Pt.cells, Pt.slots] at X23 l23 y23 z23 st23 hQ23
    subst l23 y23 z23
    obtain ⟨bb23, kb23, rfl, gz23, Nq23, K23, V_bb23⟩ := hQ23
    have N23 := Fr.app N9 Nq23
    refine Dn.st st23 ?_
    have ne_a_bb23 : a ≠ bb23 := Nat.ne_of_lt (Nat.lt_of_lt_of_le V_a_9.lt gz23)
    have gn_bb23 : n0 ≤ bb23 := Nat.le_trans Z9 gz23
    have gz_bb23 : h0.size ≤ bb23 := Nat.le_trans Kt9.1 gz23
    have Wo23 := Wo9.keep K23 own_k0
    have V_a_23 := V_a_9.keep K23 nin0
    have Kt23 := Keep.trans Kt9 K23 (by simp)
    have Z23 : n0 ≤ T23.heap.size := Nat.le_trans Z9 K23.1
    show Dn p e below s _ _ _ (T23.setTop (mkF m 26 #[vr a, vi 0, vi 3, vr b1, vi 1, .unset] [(.ref bb23)]))
    refine Dn.st (fun _ kk => XS.astore X23.here hx rfl (hb hby d9_26) rfl rfl (l' := #[vr a, vi 0, vi 3, vr b1, vi 1, vr bb23]) rfl (XS.aload X23.here hx rfl (hb hby d9_28) rfl rfl (XS.iload X23.here hx rfl (hb hby d9_30) rfl (kk)))) ?_
    show Dn p e below s _ _ _ (T23.setTop (mkF m 32 #[vr a, vi 0, vi 3, vr b1, vi 1, vr bb23] [(.int 1), (.ref bb23)]))
    obtain ⟨_, _, ⟨T32, L32, k32, n32⟩, -, X32, ⟨Lc32, hQ32, l32, y32, z32⟩, st32⟩ := Jvm.LawKit.callS X23 hx (y := on5) hown (mvT hZ (tw hw 102 rfl)) (mvT hZ (tw hw 103 rfl)) (mvT hZ (tw hw 50 rfl)) (mvT hZ (tw hw 104 rfl)) (by decide) (backOf (W := 0) (rmGc1 l Z a0 hw [] bb23 cs sf _ _ _ y1 T23.heap n0 Z23 Wo23 V_bb23 (by decide) (by decide) rfl rfl hr1.1 hr1.2) hZ (tw hw 104 rfl) (tw hw 50 rfl) (by decide) (by decide)) (g := (mkF m 32 #[vr a, vi 0, vi 3, vr b1, vi 1, vr bb23] [(.int 1), (.ref bb23)])) rfl (by rw [hml]; rfl) (argsL := [(.ref bb23), (.int 1)]) (rest := []) (lenOf pd6 rfl) rfl (by show 2 * 0 + _ ≤ _; exact Nat.le_of_eq rfl) (hb hby d9_32) (fun _ _ => ⟨rfl, rfl, (by decide : 2 + 0 ≤ _), (by decide : 9 + 0 ≤ _)⟩)
    dsimp only [Pt.U, Pt.locs, Pt.cells, Pt.slots] at X32 l32 y32 z32 st32 hQ32
    subst l32 y32 z32
    obtain ⟨rfl, Nq32, hh32⟩ := hQ32
    have N32 := Fr.app N23 Nq32
    refine Dn.st st32 ?_
    show Dn p e below s _ _ _ (T32.setTop (mkF m 35 #[vr a, vi 0, vi 3, vr b1, vi 1, vr bb23] [(.int y1)]))
    refine Dn.st (fun _ kk => XS.sipush X32.here hx rfl (hb hby d9_35) (kk)) ?_
    show Dn p e below s _ _ _ (T32.setTop (mkF m 38 #[vr a, vi 0, vi 3, vr b1, vi 1, vr bb23] [(.int 255), (.int y1)]))
    have hc38 : (255 : Int32) < y1 := (Int32.lt_iff_toInt_lt.mpr gt9)
    refine Dn.st (fun _ kk => XS.icmpYes X32.here hx rfl (pc0 := 38) (pc' := 54) rfl (hb hby d9_38) rfl (tlt hc38).2.2.1 (by decide) (by decide) (XS.aload X32.here hx rfl (hb hby d9_54) rfl rfl (kk))) ?_
    show Dn p e below s _ _ _ (T32.setTop (mkF m 56 #[vr a, vi 0, vi 3, vr b1, vi 1, vr bb23] [(.ref bb23)]))
    exact Dn.ret X32 hlk hx hret rfl (Or.inr (Or.inr (Or.inr (Or.inr ⟨rfl, rfl, rfl⟩)))) (hb hby d9_56) (by rw [hh32]; exact ⟨bb23, kb23, rfl, gz_bb23, N32, Kt23, Or.inr V_bb23⟩) (by decide) (by decide)
  · show Dn p e below s _ _ _ (T9.setTop (mkF m 12 #[vr a, vi 0, vi 3, vr b1, .unset, .unset] [(.int 2)]))
    refine Dn.st (fun _ kk => XS.istore X9.here hx rfl (hb hby d9_12) rfl (l' := #[vr a, vi 0, vi 3, vr b1, vi 2, .unset]) rfl (XS.iload X9.here hx rfl (hb hby d9_14) rfl (XS.iloadN X9.here hx rfl (hb hby d9_16) rfl (kk)))) ?_
    show Dn p e below s _ _ _ (T9.setTop (mkF m 17 #[vr a, vi 0, vi 3, vr b1, vi 2, .unset] [(.int 3), (.int 2)]))
    have hc17 : ¬ ((2 : Int32) = (3 : Int32)) := by decide
    refine Dn.st (fun _ kk => XS.icmpNo X9.here hx rfl (hb hby d9_17) rfl (feq hc17).1 (XS.aloadN X9.here hx rfl (hb hby d9_20) rfl rfl (XS.iloadN X9.here hx rfl (hb hby d9_21) rfl (XS.iloadN X9.here hx rfl (hb hby d9_22) rfl (kk))))) ?_
    show Dn p e below s _ _ _ (T9.setTop (mkF m 23 #[vr a, vi 0, vi 3, vr b1, vi 2, .unset] [(.int 3), (.int 0), (.ref a)]))
    obtain ⟨_, _, ⟨T23, L23, k23, n23⟩, -, X23, ⟨Lc23, hQ23, l23, y23, z23⟩, st23⟩ := Jvm.LawKit.callS X9 hx (y := on7) hown (mvT hZ (tw hw 86 rfl)) (mvT hZ (tw hw 87 rfl)) (mvT hZ (tw hw 50 rfl)) (mvT hZ (tw hw 88 rfl)) (by decide) (backOf (W := 0) (rmTb3 l Z a0 hw [] a cs sf ka y0 y1 y2 T9.heap n0 Z9 Wo9 V_a_9) hZ (tw hw 88 rfl) (tw hw 50 rfl) (by decide) (by decide)) (g := (mkF m 23 #[vr a, vi 0, vi 3, vr b1, vi 2, .unset] [(.int 3), (.int 0), (.ref a)])) rfl (by rw [hml]; rfl) (argsL := [(.ref a), (.int 0), (.int 3)]) (rest := []) (lenOf pd12 rfl) rfl (by show 2 * 0 + _ ≤ _; exact Nat.le_of_eq rfl) (hb hby d9_23) (fun _ _ => ⟨rfl, rfl, (by decide : 1 + 1 ≤ _), (by decide : 3 + 6 ≤ _)⟩)
    dsimp only [Pt.U, Pt.locs, Pt.cells, Pt.slots] at X23 l23 y23 z23 st23 hQ23
    subst l23 y23 z23
    obtain ⟨bb23, kb23, rfl, gz23, Nq23, K23, V_bb23⟩ := hQ23
    have N23 := Fr.app N9 Nq23
    refine Dn.st st23 ?_
    have ne_a_bb23 : a ≠ bb23 := Nat.ne_of_lt (Nat.lt_of_lt_of_le V_a_9.lt gz23)
    have gn_bb23 : n0 ≤ bb23 := Nat.le_trans Z9 gz23
    have gz_bb23 : h0.size ≤ bb23 := Nat.le_trans Kt9.1 gz23
    have Wo23 := Wo9.keep K23 own_k0
    have V_a_23 := V_a_9.keep K23 nin0
    have Kt23 := Keep.trans Kt9 K23 (by simp)
    have Z23 : n0 ≤ T23.heap.size := Nat.le_trans Z9 K23.1
    show Dn p e below s _ _ _ (T23.setTop (mkF m 26 #[vr a, vi 0, vi 3, vr b1, vi 2, .unset] [(.ref bb23)]))
    refine Dn.st (fun _ kk => XS.astore X23.here hx rfl (hb hby d9_26) rfl rfl (l' := #[vr a, vi 0, vi 3, vr b1, vi 2, vr bb23]) rfl (XS.aload X23.here hx rfl (hb hby d9_28) rfl rfl (XS.iload X23.here hx rfl (hb hby d9_30) rfl (kk)))) ?_
    show Dn p e below s _ _ _ (T23.setTop (mkF m 32 #[vr a, vi 0, vi 3, vr b1, vi 2, vr bb23] [(.int 2), (.ref bb23)]))
    obtain ⟨_, _, ⟨T32, L32, k32, n32⟩, -, X32, ⟨Lc32, hQ32, l32, y32, z32⟩, st32⟩ := Jvm.LawKit.callS X23 hx (y := on5) hown (mvT hZ (tw hw 102 rfl)) (mvT hZ (tw hw 103 rfl)) (mvT hZ (tw hw 50 rfl)) (mvT hZ (tw hw 104 rfl)) (by decide) (backOf (W := 0) (rmGc2 l Z a0 hw [] bb23 cs sf _ _ _ y2 T23.heap n0 Z23 Wo23 V_bb23 (by decide) (by decide) rfl rfl hr2.1 hr2.2) hZ (tw hw 104 rfl) (tw hw 50 rfl) (by decide) (by decide)) (g := (mkF m 32 #[vr a, vi 0, vi 3, vr b1, vi 2, vr bb23] [(.int 2), (.ref bb23)])) rfl (by rw [hml]; rfl) (argsL := [(.ref bb23), (.int 2)]) (rest := []) (lenOf pd6 rfl) rfl (by show 2 * 0 + _ ≤ _; exact Nat.le_of_eq rfl) (hb hby d9_32) (fun _ _ => ⟨rfl, rfl, (by decide : 2 + 0 ≤ _), (by decide : 9 + 0 ≤ _)⟩)
    dsimp only [Pt.U, Pt.locs, Pt.cells, Pt.slots] at X32 l32 y32 z32 st32 hQ32
    subst l32 y32 z32
    obtain ⟨rfl, Nq32, hh32⟩ := hQ32
    have N32 := Fr.app N23 Nq32
    refine Dn.st st32 ?_
    show Dn p e below s _ _ _ (T32.setTop (mkF m 35 #[vr a, vi 0, vi 3, vr b1, vi 2, vr bb23] [(.int y2)]))
    refine Dn.st (fun _ kk => XS.sipush X32.here hx rfl (hb hby d9_35) (kk)) ?_
    show Dn p e below s _ _ _ (T32.setTop (mkF m 38 #[vr a, vi 0, vi 3, vr b1, vi 2, vr bb23] [(.int 255), (.int y2)]))
    have hc38 : (255 : Int32) < y2 := (Int32.lt_iff_toInt_lt.mpr gt9)
    refine Dn.st (fun _ kk => XS.icmpYes X32.here hx rfl (pc0 := 38) (pc' := 54) rfl (hb hby d9_38) rfl (tlt hc38).2.2.1 (by decide) (by decide) (XS.aload X32.here hx rfl (hb hby d9_54) rfl rfl (kk))) ?_
    show Dn p e below s _ _ _ (T32.setTop (mkF m 56 #[vr a, vi 0, vi 3, vr b1, vi 2, vr bb23] [(.ref bb23)]))
    exact Dn.ret X32 hlk hx hret rfl (Or.inr (Or.inr (Or.inr (Or.inr ⟨rfl, rfl, rfl⟩)))) (hb hby d9_56) (by rw [hh32]; exact ⟨bb23, kb23, rfl, gz_bb23, N32, Kt23, Or.inr V_bb23⟩) (by decide) (by decide)
  · show Dn p e below s _ _ _ (T9.setTop (mkF m 12 #[vr a, vi 0, vi 3, vr b1, .unset, .unset] [(.int 3)]))
    refine Dn.st (fun _ kk => XS.istore X9.here hx rfl (hb hby d9_12) rfl (l' := #[vr a, vi 0, vi 3, vr b1, vi 3, .unset]) rfl (XS.iload X9.here hx rfl (hb hby d9_14) rfl (XS.iloadN X9.here hx rfl (hb hby d9_16) rfl (kk)))) ?_
    show Dn p e below s _ _ _ (T9.setTop (mkF m 17 #[vr a, vi 0, vi 3, vr b1, vi 3, .unset] [(.int 3), (.int 3)]))
    have hc17 : (3 : Int32) = (3 : Int32) := by decide
    refine Dn.st (fun _ kk => XS.icmpYes X9.here hx rfl (pc0 := 17) (pc' := 57) rfl (hb hby d9_17) rfl (teq hc17).1 (by decide) (by decide) (XS.aloadN X9.here hx rfl (hb hby d9_57) rfl rfl (kk))) ?_
    show Dn p e below s _ _ _ (T9.setTop (mkF m 58 #[vr a, vi 0, vi 3, vr b1, vi 3, .unset] [(.ref b1)]))
    exact Dn.ret X9 hlk hx hret rfl (Or.inr (Or.inr (Or.inr (Or.inr ⟨rfl, rfl, rfl⟩)))) (hb hby d9_58) ⟨b1, k1, rfl, gz_b1, N9, Kt9, Or.inl ⟨VL9, hp9⟩⟩ (by decide) (by decide)

theorem ef11_rmCl3_0 (m : MethodId) (x0 : Addr) (x1 : Int32) : entryFrame m #[(.ref x0), (.int x1)] 2 = mkF m 0 #[vr x0, vi x1] [] := by first | (simp [entryFrame, mkF, argsToLocals, Value.category]; done) | rfl
def QCl3_0 (Z : State) (b : Addr) (kb : ClassId) (ls : List Value) (h0 : Heap) (n0 : Nat) (v : Option Value) (h : Heap) (L : List Loc) : Prop := v = some (.int 0) ∧ Fr n0 L ∧ h = h0
theorem rmCl3_0 (l : Launch) (Z : State) (a0 : Array Value) (hw : ∀ d ∈ tables_1, d.before a0 Z = true) (ws : List Jvm.Cond) (b : Addr) (kb : ClassId) (ls : List Value) (h0 : Heap) (n0 : Nat) (Z0 : n0 ≤ h0.size) (Vb : Arv Z h0 b kb .byte 3 ls (.int 0)) :
    own_Met l on4 (Jvm.Cond.code on4 jdk_52_method_15_code 2 (some .byte) :: ws) orm25 #[(.ref b), (.int 3)] Z h0 (QCl3_0 Z b kb ls h0 n0) := by
  refine MetFree.of_bodySF (plainFor_of_name pn2) hisR ?_
  intro p e s m args below meth c s₁ Bd hml0 hP hK
  obtain ⟨rfl, hZ, hh⟩ := hP
  have hx := Bd.exec
  have hby := Bd.bytes
  have hlk : meth.locks = false := BodyLoose.notSynchronized Bd
  have hret := Bd.returns
  have hml : c.maxLocals = 2 := hml0
  have hown : s.vm.findClass "java/lang/StringUTF16" = some m.cls := findClass_of_methodNamed Bd.named
  have X0 : Stand p l e orm25 s m #[(.ref b), (.int 3)] below meth c s₁ [] 0 0 := Stand.of_body Bd
  have e0 : s₁.heap = h0 := by rw [← hh, Bd.state]; rfl
  have N0 := Fr.nil n0
  show Dn p e below s (QCl3_0 Z b kb ls h0 n0) orm25.cells orm25.slots (s₁.setTop (entryFrame m #[(.ref b), (.int 3)] 2))
  refine Dn.st (fun _ kk => castTop (ef11_rmCl3_0 m b (3 : Int32)) kk) ?_
  show Dn p e below s _ _ _ (s₁.setTop (mkF m 0 #[vr b, vi 3] []))
  refine Dn.st (fun _ kk => XS.iloadN X0.here hx rfl (hb hby d11_0) rfl (XS.aloadN X0.here hx rfl (hb hby d11_1) rfl rfl (kk))) ?_
  show Dn p e below s _ _ _ (s₁.setTop (mkF m 2 #[vr b, vi 3] [(.ref b), (.int 3)]))
  have Vc_b_2 := Vb
  obtain ⟨cl_b_2, Ar_b_2, q_b_2, S_b_2, N_b_2, H_b_2, G_b_2⟩ := Vc_b_2
  refine Dn.st (fun _ kk => X0.arraylength hx (by rw [e0]; exact Ar_b_2.1) (State.isArrayOf_alike hZ.alike Ar_b_2.2.1) (g := (mkF m 2 #[vr b, vi 3] [(.ref b), (.int 3)])) rfl rfl (hb hby d11_2) _ (kk)) ?_
  show Dn p e below s _ _ _ (s₁.setTop (mkF m 3 #[vr b, vi 3] [(.int cl_b_2.slots.size.toInt32), (.int 3)]))
  rw [len_of S_b_2 N_b_2]
  show Dn p e below s _ _ _ (s₁.setTop (mkF m 3 #[vr b, vi 3] [(.int 3), (.int 3)]))
  refine Dn.st (fun _ kk => XS.isub X0.here hx rfl (hb hby d11_3) rfl (XS.bipush X0.here hx rfl (hb hby d11_4) (XS.iushr X0.here hx rfl (hb hby d11_6) rfl (XS.i2b X0.here hx rfl (hb hby d11_7) rfl (kk))))) ?_
  show Dn p e below s _ _ _ (s₁.setTop (mkF m 8 #[vr b, vi 3] [(.int 0)]))
  exact Dn.ret X0 hlk hx hret rfl (Or.inl ⟨rfl, Or.inr (Or.inr (Or.inl rfl)), _, rfl⟩) (hb hby d11_8) (by rw [e0]; exact ⟨rfl, N0, rfl⟩) (by decide) (by decide)

theorem ef11_rmCl3_1 (m : MethodId) (x0 : Addr) (x1 : Int32) : entryFrame m #[(.ref x0), (.int x1)] 2 = mkF m 0 #[vr x0, vi x1] [] := by first | (simp [entryFrame, mkF, argsToLocals, Value.category]; done) | rfl
def QCl3_1 (Z : State) (b : Addr) (kb : ClassId) (ls : List Value) (h0 : Heap) (n0 : Nat) (v : Option Value) (h : Heap) (L : List Loc) : Prop := v = some (.int 1) ∧ Fr n0 L ∧ h = h0
theorem rmCl3_1 (l : Launch) (Z : State) (a0 : Array Value) (hw : ∀ d ∈ tables_1, d.before a0 Z = true) (ws : List Jvm.Cond) (b : Addr) (kb : ClassId) (ls : List Value) (h0 : Heap) (n0 : Nat) (Z0 : n0 ≤ h0.size) (Vb : Arv Z h0 b kb .byte 6 ls (.int 0)) :
    own_Met l on4 (Jvm.Cond.code on4 jdk_52_method_15_code 2 (some .byte) :: ws) orm25 #[(.ref b), (.int 3)] Z h0 (QCl3_1 Z b kb ls h0 n0) := by
  refine MetFree.of_bodySF (plainFor_of_name pn2) hisR ?_
  intro p e s m args below meth c s₁ Bd hml0 hP hK
  obtain ⟨rfl, hZ, hh⟩ := hP
  have hx := Bd.exec
  have hby := Bd.bytes
  have hlk : meth.locks = false := BodyLoose.notSynchronized Bd
  have hret := Bd.returns
  have hml : c.maxLocals = 2 := hml0
  have hown : s.vm.findClass "java/lang/StringUTF16" = some m.cls := findClass_of_methodNamed Bd.named
  have X0 : Stand p l e orm25 s m #[(.ref b), (.int 3)] below meth c s₁ [] 0 0 := Stand.of_body Bd
  have e0 : s₁.heap = h0 := by rw [← hh, Bd.state]; rfl
  have N0 := Fr.nil n0
  show Dn p e below s (QCl3_1 Z b kb ls h0 n0) orm25.cells orm25.slots (s₁.setTop (entryFrame m #[(.ref b), (.int 3)] 2))
  refine Dn.st (fun _ kk => castTop (ef11_rmCl3_1 m b (3 : Int32)) kk) ?_
  show Dn p e below s _ _ _ (s₁.setTop (mkF m 0 #[vr b, vi 3] []))
  refine Dn.st (fun _ kk => XS.iloadN X0.here hx rfl (hb hby d11_0) rfl (XS.aloadN X0.here hx rfl (hb hby d11_1) rfl rfl (kk))) ?_
  show Dn p e below s _ _ _ (s₁.setTop (mkF m 2 #[vr b, vi 3] [(.ref b), (.int 3)]))
  have Vc_b_2 := Vb
  obtain ⟨cl_b_2, Ar_b_2, q_b_2, S_b_2, N_b_2, H_b_2, G_b_2⟩ := Vc_b_2
  refine Dn.st (fun _ kk => X0.arraylength hx (by rw [e0]; exact Ar_b_2.1) (State.isArrayOf_alike hZ.alike Ar_b_2.2.1) (g := (mkF m 2 #[vr b, vi 3] [(.ref b), (.int 3)])) rfl rfl (hb hby d11_2) _ (kk)) ?_
  show Dn p e below s _ _ _ (s₁.setTop (mkF m 3 #[vr b, vi 3] [(.int cl_b_2.slots.size.toInt32), (.int 3)]))
  rw [len_of S_b_2 N_b_2]
  show Dn p e below s _ _ _ (s₁.setTop (mkF m 3 #[vr b, vi 3] [(.int 6), (.int 3)]))
  refine Dn.st (fun _ kk => XS.isub X0.here hx rfl (hb hby d11_3) rfl (XS.bipush X0.here hx rfl (hb hby d11_4) (XS.iushr X0.here hx rfl (hb hby d11_6) rfl (XS.i2b X0.here hx rfl (hb hby d11_7) rfl (kk))))) ?_
  show Dn p e below s _ _ _ (s₁.setTop (mkF m 8 #[vr b, vi 3] [(.int 1)]))
  exact Dn.ret X0 hlk hx hret rfl (Or.inl ⟨rfl, Or.inr (Or.inr (Or.inl rfl)), _, rfl⟩) (hb hby d11_8) (by rw [e0]; exact ⟨rfl, N0, rfl⟩) (by decide) (by decide)

theorem ef3_rmVc3 (m : MethodId) (x0 : Addr) (x1 : Addr) (x2 : Int32) (x3 : Int32) : entryFrame m #[(.ref x0), (.ref x1), (.int x2), (.int x3), .null] 6 = mkF m 0 #[vr x0, vr x1, vi x2, vi x3, .val .null, .unset] [] := by first | (simp [entryFrame, mkF, argsToLocals, Value.category]; done) | rfl
def QVc3 (Z : State) (a : Addr) (ar : Addr) (cs : Int32) (sf : Value) (ka : ClassId) (y0 : Int32) (y1 : Int32) (y2 : Int32) (h0 : Heap) (n0 : Nat) (v : Option Value) (h : Heap) (L : List Loc) : Prop := v = none ∧ Fr n0 L ∧ Keep h0 h [a] ∧ own_Str Z h a 3 6 [(.int (own_b y0)), (.int (own_b y1)), (.int (own_b y2))] [(.int (own_lo y0)), (.int (own_hi y0)), (.int (own_lo y1)), (.int (own_hi y1)), (.int (own_lo y2)), (.int (own_hi y2))] (y0.toInt ≤ 255 ∧ y1.toInt ≤ 255 ∧ y2.toInt ≤ 255 ∧ True)
theorem rmVc3 (l : Launch) (Z : State) (a0 : Array Value) (hw : ∀ d ∈ tables_1, d.before a0 Z = true) (ws : List Jvm.Cond) (a : Addr) (ar : Addr) (cs : Int32) (sf : Value) (ka : ClassId) (y0 : Int32) (y1 : Int32) (y2 : Int32) (h0 : Heap) (n0 : Nat) (Z0 : n0 ≤ h0.size) (hW : own_W Z h0 n0 cs sf) (ga : n0 ≤ a) (Ea : Exa Z h0 a "java/lang/String") (Fc : Fld Z h0 a "java/lang/String" "coder" "B" (.int 0)) (Fv : Fld Z h0 a "java/lang/String" "value" "[B" .null) (Vr : Arv Z h0 ar ka .char 3 [(.int y0), (.int y1), (.int y2)] (.int 0)) (hne : a ≠ ar) (hr0 : 0 ≤ y0.toInt ∧ y0.toInt ≤ 65535) (hr1 : 0 ≤ y1.toInt ∧ y1.toInt ≤ 65535) (hr2 : 0 ≤ y2.toInt ∧ y2.toInt ≤ 65535) :
    own_Met l on8 (Jvm.Cond.code on8 jdk_42_method_149_code 6 none :: ws) orm37 #[(.ref a), (.ref ar), (.int 0), (.int 3), .null] Z h0 (QVc3 Z a ar cs sf ka y0 y1 y2 h0 n0) := by
  refine MetFree.of_bodySF (plainFor_of_name pn0) hisR ?_
  intro p e s m args below meth c s₁ Bd hml0 hP hK
  obtain ⟨rfl, hZ, hh⟩ := hP
  have hx := Bd.exec
  have hby := Bd.bytes
  have hlk : meth.locks = false := BodyLoose.notSynchronized Bd
  have hret := Bd.returns
  have hml : c.maxLocals = 6 := hml0
  have hown : s.vm.findClass "java/lang/String" = some m.cls := findClass_of_methodNamed Bd.named
  have hnm := (name_of_methodNamed Bd.named Bd.method).1
  have X0 : Stand p l e orm37 s m #[(.ref a), (.ref ar), (.int 0), (.int 3), .null] below meth c s₁ [] 0 0 := Stand.of_body Bd
  have e0 : s₁.heap = h0 := by rw [← hh, Bd.state]; rfl
  have N0 := Fr.nil n0
  show Dn p e below s (QVc3 Z a ar cs sf ka y0 y1 y2 h0 n0) orm37.cells orm37.slots (s₁.setTop (entryFrame m #[(.ref a), (.ref ar), (.int 0), (.int 3), .null] 6))
  refine Dn.st (fun _ kk => castTop (ef3_rmVc3 m a ar (0 : Int32) (3 : Int32)) kk) ?_
  show Dn p e below s _ _ _ (s₁.setTop (mkF m 0 #[vr a, vr ar, vi 0, vi 3, .val .null, .unset] []))
  refine Dn.st (fun _ kk => XS.aloadN X0.here hx rfl (hb hby d3_0) rfl rfl (kk)) ?_
  show Dn p e below s _ _ _ (s₁.setTop (mkF m 1 #[vr a, vr ar, vi 0, vi 3, .val .null, .unset] [(.ref a)]))
  obtain ⟨T1, X1, e1, st1⟩ := initO X0 hx hZ hown (tw hw 17 rfl) (tw hw 18 rfl) (tw hw 19 rfl) e0 (g := (mkF m 1 #[vr a, vr ar, vi 0, vi 3, .val .null, .unset] [(.ref a)])) rfl (by rw [hml]; rfl) rfl (hb hby d3_1) (by decide) (W := 0) (by show 2 * 0 + _ ≤ _; exact Nat.le_of_eq rfl) (by decide)
  refine Dn.st st1 ?_
  show Dn p e below s _ _ _ (T1.setTop (mkF m 4 #[vr a, vr ar, vi 0, vi 3, .val .null, .unset] []))
  refine Dn.st (fun _ kk => XS.iloadN X1.here hx rfl (hb hby d3_4) rfl (kk)) ?_
  show Dn p e below s _ _ _ (T1.setTop (mkF m 5 #[vr a, vr ar, vi 0, vi 3, .val .null, .unset] [(.int 3)]))
  have hc5 : ¬ ((3 : Int32) = (0 : Int32)) := by decide
  refine Dn.st (fun _ kk => XS.ifYes X1.here hx rfl (pc0 := 5) (pc' := 27) rfl (hb hby d3_5) rfl ((if0 _ _).trans (feq hc5).2) (by decide) (by decide) (kk)) ?_
  show Dn p e below s _ _ _ (T1.setTop (mkF m 27 #[vr a, vr ar, vi 0, vi 3, .val .null, .unset] []))
  obtain ⟨T27, X27, e27, st27⟩ := getS2 X1 hx hZ hown (host := "") (Or.inl (tw hw 47 rfl)) Via.refl e1 hW.cst (g := (mkF m 27 #[vr a, vr ar, vi 0, vi 3, .val .null, .unset] [])) rfl (hb hby d3_27)
  refine Dn.st st27 ?_
  show Dn p e below s _ _ _ (T27.setTop (mkF m 30 #[vr a, vr ar, vi 0, vi 3, .val .null, .unset] [(.int cs)]))
  have hc30 : ¬ (cs = (0 : Int32)) := hW.cne
  refine Dn.st (fun _ kk => XS.ifNo X27.here hx rfl (hb hby d3_30) rfl ((if0 _ _).trans (feq hc30).1) (XS.aloadN X27.here hx rfl (hb hby d3_33) rfl rfl (XS.iloadN X27.here hx rfl (hb hby d3_34) rfl (XS.iloadN X27.here hx rfl (hb hby d3_35) rfl (kk))))) ?_
  show Dn p e below s _ _ _ (T27.setTop (mkF m 36 #[vr a, vr ar, vi 0, vi 3, .val .null, .unset] [(.int 3), (.int 0), (.ref ar)]))
  obtain ⟨_, _, ⟨T36, L36, k36, n36⟩, -, X36, ⟨Lc36, hQ36, l36, y36, z36⟩, st36⟩ := Jvm.LawKit.callS X27 hx (y := on12) hown (mvT hZ (tw hw 48 rfl)) (mvT hZ (tw hw 49 rfl)) (mvT hZ (tw hw 50 rfl)) (mvT hZ (tw hw 51 rfl)) (by decide) (backOf (W := 0) (rmC3_3 l Z a0 hw [] ar cs sf ka y0 y1 y2 h0 n0 Z0 hW Vr hr0 hr1 hr2) hZ (tw hw 51 rfl) (tw hw 50 rfl) (by decide) (by decide)) (g := (mkF m 36 #[vr a, vr ar, vi 0, vi 3, .val .null, .unset] [(.int 3), (.int 0), (.ref ar)])) rfl (by rw [hml]; rfl) (argsL := [(.ref ar), (.int 0), (.int 3)]) (rest := []) (lenOf pd12 rfl) rfl (by show 2 * 0 + _ ≤ _; exact Nat.le_of_eq rfl) (hb hby d3_36) (fun _ _ => ⟨rfl, e27, (by decide : 0 + 2 ≤ _), (by decide : 0 + 9 ≤ _)⟩)
  dsimp only [Pt.U, Pt.locs, Pt.cells, Pt.slots] at X36 l36 y36 z36 st36 hQ36
  subst l36 y36 z36
  obtain ⟨bb36, kb36, rfl, gz36, Nq36, K36, hq36⟩ := hQ36
  have N36 := Fr.app N0 Nq36
  refine Dn.st st36 ?_
  have ne_a_bb36 : a ≠ bb36 := Nat.ne_of_lt (Nat.lt_of_lt_of_le Ea.lt gz36)
  have ne_ar_bb36 : ar ≠ bb36 := Nat.ne_of_lt (Nat.lt_of_lt_of_le Vr.lt gz36)
  have gn_bb36 : n0 ≤ bb36 := Nat.le_trans Z0 gz36
  have gz_bb36 : h0.size ≤ bb36 := Nat.le_trans (Keep.refl h0 [a]).1 gz36
  have Wo36 := hW.keep K36 own_k0
  have E_a_36 := Ea.keep K36
  have F_a_coder_36 := Fc.keep K36 nin0
  have F_a_value_36 := Fv.keep K36 nin0
  have V_ar_36 := Vr.keep K36 nin0
  have Kt36 := Keep.trans (Keep.refl h0 [a]) K36 (by simp)
  have Z36 : n0 ≤ T36.heap.size := Nat.le_trans Z0 K36.1
  rcases hq36 with ⟨VL36, hp36⟩ | VU36
  · show Dn p e below s _ _ _ (T36.setTop (mkF m 39 #[vr a, vr ar, vi 0, vi 3, .val .null, .unset] [(.ref bb36)]))
    refine Dn.st (fun _ kk => XS.astore X36.here hx rfl (hb hby d3_39) rfl rfl (l' := #[vr a, vr ar, vi 0, vi 3, .val .null, vr bb36]) rfl (XS.aloadN X36.here hx rfl (hb hby d3_41) rfl rfl (XS.aload X36.here hx rfl (hb hby d3_42) rfl rfl (XS.iloadN X36.here hx rfl (hb hby d3_44) rfl (kk))))) ?_
    show Dn p e below s _ _ _ (T36.setTop (mkF m 45 #[vr a, vr ar, vi 0, vi 3, .val .null, vr bb36] [(.int 3), (.ref bb36), (.ref a)]))
    obtain ⟨_, _, ⟨T45, L45, k45, n45⟩, -, X45, ⟨Lc45, hQ45, l45, y45, z45⟩, st45⟩ := Jvm.LawKit.callS X36 hx (y := on4) hown (mvT hZ (tw hw 55 rfl)) (mvT hZ (tw hw 56 rfl)) (mvT hZ (tw hw 50 rfl)) (mvT hZ (tw hw 57 rfl)) (by decide) (backOf (W := 1) (rmCl3_0 l Z a0 hw [] bb36 kb36 [(.int (own_b y0)), (.int (own_b y1)), (.int (own_b y2))] T36.heap n0 Z36 VL36) hZ (tw hw 57 rfl) (tw hw 50 rfl) (by decide) (by decide)) (g := (mkF m 45 #[vr a, vr ar, vi 0, vi 3, .val .null, vr bb36] [(.int 3), (.ref bb36), (.ref a)])) rfl (by rw [hml]; rfl) (argsL := [(.ref bb36), (.int 3)]) (rest := [(.ref a)]) (lenOf pd13 rfl) rfl (by show 2 * 0 + _ ≤ _; exact Nat.le_of_eq rfl) (hb hby d3_45) (fun _ _ => ⟨rfl, rfl, (by decide : 2 + 0 ≤ _), (by decide : 9 + 0 ≤ _)⟩)
    dsimp only [Pt.U, Pt.locs, Pt.cells, Pt.slots] at X45 l45 y45 z45 st45 hQ45
    subst l45 y45 z45
    obtain ⟨rfl, Nq45, hh45⟩ := hQ45
    have N45 := Fr.app N36 Nq45
    refine Dn.st st45 ?_
    show Dn p e below s _ _ _ (T45.setTop (mkF m 48 #[vr a, vr ar, vi 0, vi 3, .val .null, vr bb36] [(.int 0), (.ref a)]))
    obtain ⟨T48, h48, X48, e48, W48, st48⟩ := putF X45 hx hZ hown (host := "") (Or.inl (tw hw 27 rfl)) Via.refl hh45 F_a_coder_36 E_a_36 (Or.inr ⟨(tw hw 23 rfl), rfl, hnm⟩) (tw hw 7 rfl) (ty := .byte) (by decide) rfl rfl (g := (mkF m 48 #[vr a, vr ar, vi 0, vi 3, .val .null, vr bb36] [(.int 0), (.ref a)])) rfl rfl (hb hby d3_48)
    have Wo48 := Wo36.wr W48 ga
    have E_a_48 := E_a_36.wr W48
    have F_a_value_48 := F_a_value_36.other W48 (Or.inr (slot_ne (Or.inr (tw hw 22 rfl)) (Or.inr (tw hw 23 rfl)) (by decide) (t := (.array .byte)) (t' := .byte) (by decide) (by decide)))
    have V_ar_48 := V_ar_36.other W48 (Ne.symm hne)
    have V_bb36_48 := VL36.other W48 (Ne.symm ne_a_bb36)
    have F_a_coder_48 := F_a_coder_36.same W48
    have K48 := Kt36.wr W48 (Or.inl (List.mem_of_getElem? (i := 0) rfl))
    have N48 := Fr.snoc X48 N45 ga
    have Z48 : n0 ≤ h48.size := Nat.le_trans Z36 (Keep.of_wr W48).1
    refine Dn.st st48 ?_
    show Dn p e below s _ _ _ (T48.setTop (mkF m 51 #[vr a, vr ar, vi 0, vi 3, .val .null, vr bb36] []))
    refine Dn.st (fun _ kk => XS.aloadN X48.here hx rfl (hb hby d3_51) rfl rfl (XS.aload X48.here hx rfl (hb hby d3_52) rfl rfl (kk))) ?_
    show Dn p e below s _ _ _ (T48.setTop (mkF m 54 #[vr a, vr ar, vi 0, vi 3, .val .null, vr bb36] [(.ref bb36), (.ref a)]))
    obtain ⟨T54, h54, X54, e54, W54, st54⟩ := putF X48 hx hZ hown (host := "") (Or.inl (tw hw 26 rfl)) Via.refl e48 F_a_value_48 E_a_48 (Or.inr ⟨(tw hw 22 rfl), rfl, hnm⟩) (tw hw 7 rfl) (ty := (.array .byte)) (by decide) rfl rfl (g := (mkF m 54 #[vr a, vr ar, vi 0, vi 3, .val .null, vr bb36] [(.ref bb36), (.ref a)])) rfl rfl (hb hby d3_54)
    have Wo54 := Wo48.wr W54 ga
    have E_a_54 := E_a_48.wr W54
    have F_a_coder_54 := F_a_coder_48.other W54 (Or.inr (slot_ne (Or.inr (tw hw 23 rfl)) (Or.inr (tw hw 22 rfl)) (by decide) (t := .byte) (t' := (.array .byte)) (by decide) (by decide)))
    have V_ar_54 := V_ar_48.other W54 (Ne.symm hne)
    have V_bb36_54 := V_bb36_48.other W54 (Ne.symm ne_a_bb36)
    have F_a_value_54 := F_a_value_48.same W54
    have K54 := K48.wr W54 (Or.inl (List.mem_of_getElem? (i := 0) rfl))
    have N54 := Fr.snoc X54 N48 ga
    have Z54 : n0 ≤ h54.size := Nat.le_trans Z48 (Keep.of_wr W54).1
    refine Dn.st st54 ?_
    show Dn p e below s _ _ _ (T54.setTop (mkF m 57 #[vr a, vr ar, vi 0, vi 3, .val .null, vr bb36] []))
    exact Dn.ret0 X54 hlk hx hret (hb hby d3_57) (by rw [e54]; exact ⟨rfl, N54, K54, E_a_54, Or.inl ⟨bb36, kb36, F_a_coder_54, F_a_value_54, V_bb36_54, hp36⟩⟩) (by decide) (by decide)
  · show Dn p e below s _ _ _ (T36.setTop (mkF m 39 #[vr a, vr ar, vi 0, vi 3, .val .null, .unset] [(.ref bb36)]))
    refine Dn.st (fun _ kk => XS.astore X36.here hx rfl (hb hby d3_39) rfl rfl (l' := #[vr a, vr ar, vi 0, vi 3, .val .null, vr bb36]) rfl (XS.aloadN X36.here hx rfl (hb hby d3_41) rfl rfl (XS.aload X36.here hx rfl (hb hby d3_42) rfl rfl (XS.iloadN X36.here hx rfl (hb hby d3_44) rfl (kk))))) ?_
    show Dn p e below s _ _ _ (T36.setTop (mkF m 45 #[vr a, vr ar, vi 0, vi 3, .val .null, vr bb36] [(.int 3), (.ref bb36), (.ref a)]))
    obtain ⟨_, _, ⟨T45, L45, k45, n45⟩, -, X45, ⟨Lc45, hQ45, l45, y45, z45⟩, st45⟩ := Jvm.LawKit.callS X36 hx (y := on4) hown (mvT hZ (tw hw 55 rfl)) (mvT hZ (tw hw 56 rfl)) (mvT hZ (tw hw 50 rfl)) (mvT hZ (tw hw 57 rfl)) (by decide) (backOf (W := 1) (rmCl3_1 l Z a0 hw [] bb36 kb36 [(.int (own_lo y0)), (.int (own_hi y0)), (.int (own_lo y1)), (.int (own_hi y1)), (.int (own_lo y2)), (.int (own_hi y2))] T36.heap n0 Z36 VU36) hZ (tw hw 57 rfl) (tw hw 50 rfl) (by decide) (by decide)) (g := (mkF m 45 #[vr a, vr ar, vi 0, vi 3, .val .null, vr bb36] [(.int 3), (.ref bb36), (.ref a)])) rfl (by rw [hml]; rfl) (argsL := [(.ref bb36), (.int 3)]) (rest := [(.ref a)]) (lenOf pd13 rfl) rfl (by show 2 * 0 + _ ≤ _; exact Nat.le_of_eq rfl) (hb hby d3_45) (fun _ _ => ⟨rfl, rfl, (by decide : 2 + 0 ≤ _), (by decide : 9 + 0 ≤ _)⟩)
    dsimp only [Pt.U, Pt.locs, Pt.cells, Pt.slots] at X45 l45 y45 z45 st45 hQ45
    subst l45 y45 z45
    obtain ⟨rfl, Nq45, hh45⟩ := hQ45
    have N45 := Fr.app N36 Nq45
    refine Dn.st st45 ?_
    show Dn p e below s _ _ _ (T45.setTop (mkF m 48 #[vr a, vr ar, vi 0, vi 3, .val .null, vr bb36] [(.int 1), (.ref a)]))
    obtain ⟨T48, h48, X48, e48, W48, st48⟩ := putF X45 hx hZ hown (host := "") (Or.inl (tw hw 27 rfl)) Via.refl hh45 F_a_coder_36 E_a_36 (Or.inr ⟨(tw hw 23 rfl), rfl, hnm⟩) (tw hw 7 rfl) (ty := .byte) (by decide) rfl rfl (g := (mkF m 48 #[vr a, vr ar, vi 0, vi 3, .val .null, vr bb36] [(.int 1), (.ref a)])) rfl rfl (hb hby d3_48)
    have Wo48 := Wo36.wr W48 ga
    have E_a_48 := E_a_36.wr W48
    have F_a_value_48 := F_a_value_36.other W48 (Or.inr (slot_ne (Or.inr (tw hw 22 rfl)) (Or.inr (tw hw 23 rfl)) (by decide) (t := (.array .byte)) (t' := .byte) (by decide) (by decide)))
    have V_ar_48 := V_ar_36.other W48 (Ne.symm hne)
    have V_bb36_48 := VU36.other W48 (Ne.symm ne_a_bb36)
    have F_a_coder_48 := F_a_coder_36.same W48
    have K48 := Kt36.wr W48 (Or.inl (List.mem_of_getElem? (i := 0) rfl))
    have N48 := Fr.snoc X48 N45 ga
    have Z48 : n0 ≤ h48.size := Nat.le_trans Z36 (Keep.of_wr W48).1
    refine Dn.st st48 ?_
    show Dn p e below s _ _ _ (T48.setTop (mkF m 51 #[vr a, vr ar, vi 0, vi 3, .val .null, vr bb36] []))
    refine Dn.st (fun _ kk => XS.aloadN X48.here hx rfl (hb hby d3_51) rfl rfl (XS.aload X48.here hx rfl (hb hby d3_52) rfl rfl (kk))) ?_
    show Dn p e below s _ _ _ (T48.setTop (mkF m 54 #[vr a, vr ar, vi 0, vi 3, .val .null, vr bb36] [(.ref bb36), (.ref a)]))
    obtain ⟨T54, h54, X54, e54, W54, st54⟩ := putF X48 hx hZ hown (host := "") (Or.inl (tw hw 26 rfl)) Via.refl e48 F_a_value_48 E_a_48 (Or.inr ⟨(tw hw 22 rfl), rfl, hnm⟩) (tw hw 7 rfl) (ty := (.array .byte)) (by decide) rfl rfl (g := (mkF m 54 #[vr a, vr ar, vi 0, vi 3, .val .null, vr bb36] [(.ref bb36), (.ref a)])) rfl rfl (hb hby d3_54)
    have Wo54 := Wo48.wr W54 ga
    have E_a_54 := E_a_48.wr W54
    have F_a_coder_54 := F_a_coder_48.other W54 (Or.inr (slot_ne (Or.inr (tw hw 23 rfl)) (Or.inr (tw hw 22 rfl)) (by decide) (t := .byte) (t' := (.array .byte)) (by decide) (by decide)))
    have V_ar_54 := V_ar_48.other W54 (Ne.symm hne)
    have V_bb36_54 := V_bb36_48.other W54 (Ne.symm ne_a_bb36)
    have F_a_value_54 := F_a_value_48.same W54
    have K54 := K48.wr W54 (Or.inl (List.mem_of_getElem? (i := 0) rfl))
    have N54 := Fr.snoc X54 N48 ga
    have Z54 : n0 ≤ h54.size := Nat.le_trans Z48 (Keep.of_wr W54).1
    refine Dn.st st54 ?_
    show Dn p e below s _ _ _ (T54.setTop (mkF m 57 #[vr a, vr ar, vi 0, vi 3, .val .null, vr bb36] []))
    exact Dn.ret0 X54 hlk hx hret (hb hby d3_57) (by rw [e54]; exact ⟨rfl, N54, K54, E_a_54, Or.inr ⟨bb36, kb36, F_a_coder_54, F_a_value_54, V_bb36_54⟩⟩) (by decide) (by decide)

theorem ef2_rmSc3 (m : MethodId) (x0 : Addr) (x1 : Addr) : entryFrame m #[(.ref x0), (.ref x1)] 2 = mkF m 0 #[vr x0, vr x1] [] := by first | (simp [entryFrame, mkF, argsToLocals, Value.category]; done) | rfl
def QSc3 (Z : State) (a : Addr) (ar : Addr) (cs : Int32) (sf : Value) (ka : ClassId) (y0 : Int32) (y1 : Int32) (y2 : Int32) (h0 : Heap) (n0 : Nat) (v : Option Value) (h : Heap) (L : List Loc) : Prop := v = none ∧ Fr n0 L ∧ Keep h0 h [a] ∧ own_Str Z h a 3 6 [(.int (own_b y0)), (.int (own_b y1)), (.int (own_b y2))] [(.int (own_lo y0)), (.int (own_hi y0)), (.int (own_lo y1)), (.int (own_hi y1)), (.int (own_lo y2)), (.int (own_hi y2))] (y0.toInt ≤ 255 ∧ y1.toInt ≤ 255 ∧ y2.toInt ≤ 255 ∧ True)
theorem rmSc3 (l : Launch) (Z : State) (a0 : Array Value) (hw : ∀ d ∈ tables_1, d.before a0 Z = true) (ws : List Jvm.Cond) (a : Addr) (ar : Addr) (cs : Int32) (sf : Value) (ka : ClassId) (y0 : Int32) (y1 : Int32) (y2 : Int32) (h0 : Heap) (n0 : Nat) (Z0 : n0 ≤ h0.size) (hW : own_W Z h0 n0 cs sf) (ga : n0 ≤ a) (Ea : Exa Z h0 a "java/lang/String") (Fc : Fld Z h0 a "java/lang/String" "coder" "B" (.int 0)) (Fv : Fld Z h0 a "java/lang/String" "value" "[B" .null) (Vr : Arv Z h0 ar ka .char 3 [(.int y0), (.int y1), (.int y2)] (.int 0)) (hne : a ≠ ar) (hr0 : 0 ≤ y0.toInt ∧ y0.toInt ≤ 65535) (hr1 : 0 ≤ y1.toInt ∧ y1.toInt ≤ 65535) (hr2 : 0 ≤ y2.toInt ∧ y2.toInt ≤ 65535) :
    own_Met l on9 (Jvm.Cond.code on9 jdk_42_method_3_code 2 none :: ws) orm44 #[(.ref a), (.ref ar)] Z h0 (QSc3 Z a ar cs sf ka y0 y1 y2 h0 n0) := by
  refine MetFree.of_bodySF (plainFor_of_name pn0) hisR ?_
  intro p e s m args below meth c s₁ Bd hml0 hP hK
  obtain ⟨rfl, hZ, hh⟩ := hP
  have hx := Bd.exec
  have hby := Bd.bytes
  have hlk : meth.locks = false := BodyLoose.notSynchronized Bd
  have hret := Bd.returns
  have hml : c.maxLocals = 2 := hml0
  have hown : s.vm.findClass "java/lang/String" = some m.cls := findClass_of_methodNamed Bd.named
  have X0 : Stand p l e orm44 s m #[(.ref a), (.ref ar)] below meth c s₁ [] 0 0 := Stand.of_body Bd
  have e0 : s₁.heap = h0 := by rw [← hh, Bd.state]; rfl
  have N0 := Fr.nil n0
  show Dn p e below s (QSc3 Z a ar cs sf ka y0 y1 y2 h0 n0) orm44.cells orm44.slots (s₁.setTop (entryFrame m #[(.ref a), (.ref ar)] 2))
  refine Dn.st (fun _ kk => castTop (ef2_rmSc3 m a ar) kk) ?_
  show Dn p e below s _ _ _ (s₁.setTop (mkF m 0 #[vr a, vr ar] []))
  refine Dn.st (fun _ kk => XS.aloadN X0.here hx rfl (hb hby d2_0) rfl rfl (XS.aloadN X0.here hx rfl (hb hby d2_1) rfl rfl (XS.iconst X0.here hx rfl (hb hby d2_2) (XS.aloadN X0.here hx rfl (hb hby d2_3) rfl rfl (kk))))) ?_
  show Dn p e below s _ _ _ (s₁.setTop (mkF m 4 #[vr a, vr ar] [(.ref ar), (.int 0), (.ref ar), (.ref a)]))
  have Vc_ar_4 := Vr
  obtain ⟨cl_ar_4, Ar_ar_4, q_ar_4, S_ar_4, N_ar_4, H_ar_4, G_ar_4⟩ := Vc_ar_4
  refine Dn.st (fun _ kk => X0.arraylength hx (by rw [e0]; exact Ar_ar_4.1) (State.isArrayOf_alike hZ.alike Ar_ar_4.2.1) (g := (mkF m 4 #[vr a, vr ar] [(.ref ar), (.int 0), (.ref ar), (.ref a)])) rfl rfl (hb hby d2_4) _ (kk)) ?_
  show Dn p e below s _ _ _ (s₁.setTop (mkF m 5 #[vr a, vr ar] [(.int cl_ar_4.slots.size.toInt32), (.int 0), (.ref ar), (.ref a)]))
  rw [len_of S_ar_4 N_ar_4]
  show Dn p e below s _ _ _ (s₁.setTop (mkF m 5 #[vr a, vr ar] [(.int 3), (.int 0), (.ref ar), (.ref a)]))
  refine Dn.st (fun _ kk => XS.aconstNull X0.here hx rfl (hb hby d2_5) (kk)) ?_
  show Dn p e below s _ _ _ (s₁.setTop (mkF m 6 #[vr a, vr ar] [.null, (.int 3), (.int 0), (.ref ar), (.ref a)]))
  obtain ⟨_, _, ⟨T6, L6, k6, n6⟩, -, X6, ⟨Lc6, hQ6, l6, y6, z6⟩, st6⟩ := X0.specialBack hx (y := on8) rfl hown (mvT hZ (tw hw 13 rfl)) (mvT hZ (tw hw 14 rfl)) (mvT hZ (tw hw 16 rfl)) (by decide) (backOf (W := 0) (rmVc3 l Z a0 hw [] a ar cs sf ka y0 y1 y2 h0 n0 Z0 hW ga Ea Fc Fv Vr hne hr0 hr1 hr2) hZ (tw hw 16 rfl) (tw hw 8 rfl) (by decide) (by decide)) (g := (mkF m 6 #[vr a, vr ar] [.null, (.int 3), (.int 0), (.ref ar), (.ref a)])) rfl (by rw [hml]; rfl) (Steps.refl _) (a := a) (argsL := [(.ref ar), (.int 0), (.int 3), .null]) (rest := []) (lenOf pd0 rfl) rfl (by show 2 * 0 + _ ≤ _; exact Nat.le_of_eq rfl) (hb hby d2_6) (fun _ _ => ⟨rfl, e0, (by decide : 0 + 2 ≤ _), (by decide : 0 + 9 ≤ _)⟩)
  dsimp only [Pt.U, Pt.locs, Pt.cells, Pt.slots] at X6 l6 y6 z6 st6 hQ6
  subst l6 y6 z6
  obtain ⟨rfl, Nq6, K6, S6⟩ := hQ6
  have N6 := Fr.app N0 Nq6
  refine Dn.tr st6 ?_
  show Dn p e below s _ _ _ (T6.setTop (mkF m 9 #[vr a, vr ar] []))
  exact Dn.ret0 X6 hlk hx hret (hb hby d2_9) ⟨rfl, N6, K6, S6⟩ (by decide) (by decide)

theorem ef21_rmNl4 (m : MethodId) (x0 : Int32) : entryFrame m #[(.int x0)] 1 = mkF m 0 #[vi x0] [] := by first | (simp [entryFrame, mkF, argsToLocals, Value.category]; done) | rfl
def QNl4 (Z : State)  (h0 : Heap) (n0 : Nat) (v : Option Value) (h : Heap) (L : List Loc) : Prop := v = some (.int 8) ∧ Fr n0 L ∧ h = h0
theorem rmNl4 (l : Launch) (Z : State) (a0 : Array Value) (hw : ∀ d ∈ tables_1, d.before a0 Z = true) (ws : List Jvm.Cond)  (h0 : Heap) (n0 : Nat) (Z0 : n0 ≤ h0.size) :
    own_Met l on15 (Jvm.Cond.code on15 jdk_52_method_3_code 1 (some .int) :: ws) orm25 #[(.int 4)] Z h0 (QNl4 Z  h0 n0) := by
  refine MetFree.of_bodySF (plainFor_of_name pn2) hisR ?_
  intro p e s m args below meth c s₁ Bd hml0 hP hK
  obtain ⟨rfl, hZ, hh⟩ := hP
  have hx := Bd.exec
  have hby := Bd.bytes
  have hlk : meth.locks = false := BodyLoose.notSynchronized Bd
  have hret := Bd.returns
  have hml : c.maxLocals = 1 := hml0
  have hown : s.vm.findClass "java/lang/StringUTF16" = some m.cls := findClass_of_methodNamed Bd.named
  have X0 : Stand p l e orm25 s m #[(.int 4)] below meth c s₁ [] 0 0 := Stand.of_body Bd
  have e0 : s₁.heap = h0 := by rw [← hh, Bd.state]; rfl
  have N0 := Fr.nil n0
  show Dn p e below s (QNl4 Z  h0 n0) orm25.cells orm25.slots (s₁.setTop (entryFrame m #[(.int 4)] 1))
  refine Dn.st (fun _ kk => castTop (ef21_rmNl4 m (4 : Int32)) kk) ?_
  show Dn p e below s _ _ _ (s₁.setTop (mkF m 0 #[vi 4] []))
  refine Dn.st (fun _ kk => XS.iloadN X0.here hx rfl (hb hby d21_0) rfl (kk)) ?_
  show Dn p e below s _ _ _ (s₁.setTop (mkF m 1 #[vi 4] [(.int 4)]))
  have hc1 : ¬ ((4 : Int32) < (0 : Int32)) := by decide
  refine Dn.st (fun _ kk => XS.ifYes X0.here hx rfl (pc0 := 1) (pc' := 12) rfl (hb hby d21_1) rfl ((if0 _ _).trans (flt hc1).2.1) (by decide) (by decide) (XS.iloadN X0.here hx rfl (hb hby d21_12) rfl (X0.ldcInt hx hown (mvT hZ (tw hw 95 rfl)) (g := (mkF m 13 #[vi 4] [(.int 4)])) rfl (hb hby d21_13) _ (kk)))) ?_
  show Dn p e below s _ _ _ (s₁.setTop (mkF m 15 #[vi 4] [(.int 1073741823), (.int 4)]))
  have hc15 : (4 : Int32) < (1073741823 : Int32) := by decide
  refine Dn.st (fun _ kk => XS.icmpYes X0.here hx rfl (pc0 := 15) (pc' := 55) rfl (hb hby d21_15) rfl (tlt hc15).1 (by decide) (by decide) (XS.iloadN X0.here hx rfl (hb hby d21_55) rfl (XS.iconst X0.here hx rfl (hb hby d21_56) (XS.ishl X0.here hx rfl (hb hby d21_57) rfl (kk))))) ?_
  show Dn p e below s _ _ _ (s₁.setTop (mkF m 58 #[vi 4] [(.int 8)]))
  exact Dn.ret X0 hlk hx hret rfl (Or.inl ⟨rfl, Or.inl rfl, _, rfl⟩) (hb hby d21_58) (by rw [e0]; exact ⟨rfl, N0, rfl⟩) (by decide) (by decide)

theorem ef20_rmNf4 (m : MethodId) (x0 : Int32) : entryFrame m #[(.int x0)] 1 = mkF m 0 #[vi x0] [] := by first | (simp [entryFrame, mkF, argsToLocals, Value.category]; done) | rfl
def QNf4 (Z : State)  (h0 : Heap) (n0 : Nat) (v : Option Value) (h : Heap) (L : List Loc) : Prop := ∃ (b : Addr) (kb : ClassId), v = some (.ref b) ∧ h0.size ≤ b ∧ Fr n0 L ∧ Keep h0 h [] ∧ Arv Z h b kb .byte 8 [(.int 0), (.int 0), (.int 0), (.int 0), (.int 0), (.int 0), (.int 0), (.int 0)] (.int 0)
theorem rmNf4 (l : Launch) (Z : State) (a0 : Array Value) (hw : ∀ d ∈ tables_1, d.before a0 Z = true) (ws : List Jvm.Cond)  (h0 : Heap) (n0 : Nat) (Z0 : n0 ≤ h0.size) :
    own_Met l on14 (Jvm.Cond.code on14 jdk_52_method_2_code 1 (some (.array .byte)) :: ws) orm45 #[(.int 4)] Z h0 (QNf4 Z  h0 n0) := by
  refine MetFree.of_bodySF (plainFor_of_name pn2) hisR ?_
  intro p e s m args below meth c s₁ Bd hml0 hP hK
  obtain ⟨rfl, hZ, hh⟩ := hP
  have hx := Bd.exec
  have hby := Bd.bytes
  have hlk : meth.locks = false := BodyLoose.notSynchronized Bd
  have hret := Bd.returns
  have hml : c.maxLocals = 1 := hml0
  have hown : s.vm.findClass "java/lang/StringUTF16" = some m.cls := findClass_of_methodNamed Bd.named
  have X0 : Stand p l e orm45 s m #[(.int 4)] below meth c s₁ [] 0 0 := Stand.of_body Bd
  have e0 : s₁.heap = h0 := by rw [← hh, Bd.state]; rfl
  have N0 := Fr.nil n0
  show Dn p e below s (QNf4 Z  h0 n0) orm45.cells orm45.slots (s₁.setTop (entryFrame m #[(.int 4)] 1))
  refine Dn.st (fun _ kk => castTop (ef20_rmNf4 m (4 : Int32)) kk) ?_
  show Dn p e below s _ _ _ (s₁.setTop (mkF m 0 #[vi 4] []))
  refine Dn.st (fun _ kk => XS.iloadN X0.here hx rfl (hb hby d20_0) rfl (kk)) ?_
  show Dn p e below s _ _ _ (s₁.setTop (mkF m 1 #[vi 4] [(.int 4)]))
  obtain ⟨_, _, ⟨T1, L1, k1, n1⟩, -, X1, ⟨Lc1, hQ1, l1, y1, z1⟩, st1⟩ := Jvm.LawKit.callS X0 hx (y := on15) hown (mvT hZ (tw hw 92 rfl)) (mvT hZ (tw hw 93 rfl)) (mvT hZ (tw hw 50 rfl)) (mvT hZ (tw hw 94 rfl)) (by decide) (backOf (W := 0) (rmNl4 l Z a0 hw []  h0 n0 Z0 ) hZ (tw hw 94 rfl) (tw hw 50 rfl) (by decide) (by decide)) (g := (mkF m 1 #[vi 4] [(.int 4)])) rfl (by rw [hml]; rfl) (argsL := [(.int 4)]) (rest := []) (lenOf pd8 rfl) rfl (by show 2 * 0 + _ ≤ _; exact Nat.le_of_eq rfl) (hb hby d20_1) (fun _ _ => ⟨rfl, e0, (by decide : 0 + 0 ≤ _), (by decide : 0 + 0 ≤ _)⟩)
  dsimp only [Pt.U, Pt.locs, Pt.cells, Pt.slots] at X1 l1 y1 z1 st1 hQ1
  subst l1 y1 z1
  obtain ⟨rfl, Nq1, hh1⟩ := hQ1
  have N1 := Fr.app N0 Nq1
  refine Dn.st st1 ?_
  show Dn p e below s _ _ _ (T1.setTop (mkF m 4 #[vi 4] [(.int 8)]))
  obtain ⟨T4, h4, k4, X4, e4, E4, A4, st4⟩ := newP X1 hx hZ (tw hw 21 rfl) hh1 (g := (mkF m 4 #[vi 4] [(.int 8)])) rfl (hb hby d20_4) rfl (by decide) (cap := 8) (by decide) (by decide) (by decide) (by decide)
  obtain ⟨b4, g4⟩ : ∃ z, z = h0.size := ⟨_, rfl⟩
  rw [← g4] at A4 st4
  have gz_b4 : h0.size ≤ b4 := Nat.le_trans (Keep.refl h0 []).1 (Nat.le_of_eq g4.symm)
  have K4 := (Keep.refl h0 []).ext E4
  have gn_b4 : n0 ≤ b4 := Nat.le_trans Z0 (Nat.le_of_eq g4.symm)
  have Z4 : n0 ≤ h4.size := Nat.le_trans Z0 E4.1
  have V_b4 : Arv Z h4 b4 k4 .byte (8 : Int32) [(.int 0), (.int 0), (.int 0), (.int 0), (.int 0), (.int 0), (.int 0), (.int 0)] (.int 0) := (Arv.new A4 (by decide)).pad (pad_rep [] (.int 0) 8)
  refine Dn.st st4 ?_
  show Dn p e below s _ _ _ (T4.setTop (mkF m 6 #[vi 4] [(.ref b4)]))
  exact Dn.ret X4 hlk hx hret rfl (Or.inr (Or.inr (Or.inr (Or.inr ⟨rfl, rfl, rfl⟩)))) (hb hby d20_6) (by rw [e4]; exact ⟨b4, k4, rfl, gz_b4, N1, K4, V_b4⟩) (by decide) (by decide)

theorem ef22_rmPu4_0 (m : MethodId) (x0 : Addr) (x1 : Int32) (x2 : Int32) : entryFrame m #[(.ref x0), (.int x1), (.int x2)] 3 = mkF m 0 #[vr x0, vi x1, vi x2] [] := by first | (simp [entryFrame, mkF, argsToLocals, Value.category]; done) | rfl
def QPu4_0 (Z : State) (b : Addr) (yy : Int32) (cs : Int32) (sf : Value) (kb : ClassId) (w0 : Int32) (w1 : Int32) (w2 : Int32) (w3 : Int32) (w4 : Int32) (w5 : Int32) (w6 : Int32) (w7 : Int32) (h0 : Heap) (n0 : Nat) (v : Option Value) (h : Heap) (L : List Loc) : Prop := v = none ∧ Fr n0 L ∧ Keep h0 h [b] ∧ Arv Z h b kb .byte 8 [(.int (own_lo yy)), (.int (own_hi yy)), (.int w2), (.int w3), (.int w4), (.int w5), (.int w6), (.int w7)] (.int 0)
theorem rmPu4_0 (l : Launch) (Z : State) (a0 : Array Value) (hw : ∀ d ∈ tables_1, d.before a0 Z = true) (ws : List Jvm.Cond) (b : Addr) (yy : Int32) (cs : Int32) (sf : Value) (kb : ClassId) (w0 : Int32) (w1 : Int32) (w2 : Int32) (w3 : Int32) (w4 : Int32) (w5 : Int32) (w6 : Int32) (w7 : Int32) (h0 : Heap) (n0 : Nat) (Z0 : n0 ≤ h0.size) (hW : own_W Z h0 n0 cs sf) (gb : n0 ≤ b) (Vb : Arv Z h0 b kb .byte 8 [(.int w0), (.int w1), (.int w2), (.int w3), (.int w4), (.int w5), (.int w6), (.int w7)] (.int 0)) :
    own_Met l on1 (Jvm.Cond.code on1 jdk_52_method_4_code 3 none :: ws) orm25 #[(.ref b), (.int 0), (.int yy)] Z h0 (QPu4_0 Z b yy cs sf kb w0 w1 w2 w3 w4 w5 w6 w7 h0 n0) := by
  refine MetFree.of_bodySF (plainFor_of_name pn2) hisR ?_
  intro p e s m args below meth c s₁ Bd hml0 hP hK
  obtain ⟨rfl, hZ, hh⟩ := hP
  have hx := Bd.exec
  have hby := Bd.bytes
  have hlk : meth.locks = false := BodyLoose.notSynchronized Bd
  have hret := Bd.returns
  have hml : c.maxLocals = 3 := hml0
  have hown : s.vm.findClass "java/lang/StringUTF16" = some m.cls := findClass_of_methodNamed Bd.named
  have X0 : Stand p l e orm25 s m #[(.ref b), (.int 0), (.int yy)] below meth c s₁ [] 0 0 := Stand.of_body Bd
  have e0 : s₁.heap = h0 := by rw [← hh, Bd.state]; rfl
  have N0 := Fr.nil n0
  show Dn p e below s (QPu4_0 Z b yy cs sf kb w0 w1 w2 w3 w4 w5 w6 w7 h0 n0) orm25.cells orm25.slots (s₁.setTop (entryFrame m #[(.ref b), (.int 0), (.int yy)] 3))
  refine Dn.st (fun _ kk => castTop (ef22_rmPu4_0 m b (0 : Int32) yy) kk) ?_
  show Dn p e below s _ _ _ (s₁.setTop (mkF m 0 #[vr b, vi 0, vi yy] []))
  obtain ⟨T0z, X0z, e0z, st0z⟩ := getS2 X0 hx hZ hown (host := "") (Or.inl (tw hw 99 rfl)) Via.refl e0 hW.adt (g := (mkF m 0 #[vr b, vi 0, vi yy] [])) rfl (hb hby d22_0)
  refine Dn.st st0z ?_
  show Dn p e below s _ _ _ (T0z.setTop (mkF m 3 #[vr b, vi 0, vi yy] [(.int 1)]))
  have hc3 : ¬ ((1 : Int32) = (0 : Int32)) := by decide
  refine Dn.st (fun _ kk => XS.ifYes X0z.here hx rfl (pc0 := 3) (pc' := 28) rfl (hb hby d22_3) rfl ((if0 _ _).trans (feq hc3).2) (by decide) (by decide) (XS.iloadN X0z.here hx rfl (hb hby d22_28) rfl (XS.iconst X0z.here hx rfl (hb hby d22_29) (XS.ishl X0z.here hx rfl (hb hby d22_30) rfl (XS.istoreN X0z.here hx rfl (hb hby d22_31) rfl (l' := #[vr b, vi 0, vi yy]) rfl (XS.aloadN X0z.here hx rfl (hb hby d22_32) rfl rfl (kk))))))) ?_
  show Dn p e below s _ _ _ (T0z.setTop (mkF m 33 #[vr b, vi 0, vi yy] [(.ref b)]))
  refine Dn.st (fun _ kk => XS.iloadN X0z.here hx rfl (hb hby d22_33) rfl (XS.iinc X0z.here hx rfl (hb hby d22_34) rfl (l' := #[vr b, vi 1, vi yy]) rfl (XS.iloadN X0z.here hx rfl (hb hby d22_37) rfl (kk)))) ?_
  show Dn p e below s _ _ _ (T0z.setTop (mkF m 38 #[vr b, vi 1, vi yy] [(.int yy), (.int 0), (.ref b)]))
  obtain ⟨T38, X38, e38, st38⟩ := getS2 X0z hx hZ hown (host := "") (Or.inl (tw hw 100 rfl)) Via.refl e0z hW.hit (g := (mkF m 38 #[vr b, vi 1, vi yy] [(.int yy), (.int 0), (.ref b)])) rfl (hb hby d22_38)
  refine Dn.st st38 ?_
  show Dn p e below s _ _ _ (T38.setTop (mkF m 41 #[vr b, vi 1, vi yy] [(.int 0), (.int yy), (.int 0), (.ref b)]))
  refine Dn.st (fun _ kk => XS.ishr X38.here hx rfl (hb hby d22_41) rfl (XS.i2b X38.here hx rfl (hb hby d22_42) rfl (kk))) ?_
  show Dn p e below s _ _ _ (T38.setTop (mkF m 43 #[vr b, vi 1, vi yy] [(.int ((yy >>> ((0 : Int32) &&& 31)).toInt8.toInt32)), (.int 0), (.ref b)]))
  have Vc_b_43 := Vb
  obtain ⟨cl_b_43, Ar_b_43, q_b_43, S_b_43, N_b_43, H_b_43, G_b_43⟩ := Vc_b_43
  have hin43 : ¬ ((0 : Int32) < 0 ∨ cl_b_43.slots.size ≤ ((0 : Int32)).toNatClampNeg) := inb_of S_b_43 ⟨by decide, by decide⟩
  obtain ⟨T43, h43, X43, e43, W43, st43⟩ := stB X38 hx hZ e38 Ar_b_43 (j := (0 : Int32)) hin43 (g := (mkF m 43 #[vr b, vi 1, vi yy] [(.int ((yy >>> ((0 : Int32) &&& 31)).toInt8.toInt32)), (.int 0), (.ref b)])) rfl rfl (hb hby d22_43)
  have Wo43 := hW.wr W43 gb
  have V_b_43 := Arv.set Ar_b_43 q_b_43 S_b_43 N_b_43 H_b_43 G_b_43 (fits_nar_byte _) W43 0 rfl (Nat.le_of_ble_eq_true rfl)
  have K43 := (Keep.refl h0 [b]).wr W43 (Or.inl (List.mem_of_getElem? (i := 0) rfl))
  have N43 := Fr.snoc X43 N0 gb
  have Z43 : n0 ≤ h43.size := Nat.le_trans Z0 (Keep.of_wr W43).1
  refine Dn.st st43 ?_
  show Dn p e below s _ _ _ (T43.setTop (mkF m 44 #[vr b, vi 1, vi yy] []))
  refine Dn.st (fun _ kk => XS.aloadN X43.here hx rfl (hb hby d22_44) rfl rfl (XS.iloadN X43.here hx rfl (hb hby d22_45) rfl (XS.iloadN X43.here hx rfl (hb hby d22_46) rfl (kk)))) ?_
  show Dn p e below s _ _ _ (T43.setTop (mkF m 47 #[vr b, vi 1, vi yy] [(.int yy), (.int 1), (.ref b)]))
  obtain ⟨T47, X47, e47, st47⟩ := getS2 X43 hx hZ hown (host := "") (Or.inl (tw hw 101 rfl)) Via.refl e43 Wo43.lot (g := (mkF m 47 #[vr b, vi 1, vi yy] [(.int yy), (.int 1), (.ref b)])) rfl (hb hby d22_47)
  refine Dn.st st47 ?_
  show Dn p e below s _ _ _ (T47.setTop (mkF m 50 #[vr b, vi 1, vi yy] [(.int 8), (.int yy), (.int 1), (.ref b)]))
  refine Dn.st (fun _ kk => XS.ishr X47.here hx rfl (hb hby d22_50) rfl (XS.i2b X47.here hx rfl (hb hby d22_51) rfl (kk))) ?_
  show Dn p e below s _ _ _ (T47.setTop (mkF m 52 #[vr b, vi 1, vi yy] [(.int ((yy >>> ((8 : Int32) &&& 31)).toInt8.toInt32)), (.int 1), (.ref b)]))
  have Vc_b_52 := V_b_43
  obtain ⟨cl_b_52, Ar_b_52, q_b_52, S_b_52, N_b_52, H_b_52, G_b_52⟩ := Vc_b_52
  have hin52 : ¬ ((1 : Int32) < 0 ∨ cl_b_52.slots.size ≤ ((1 : Int32)).toNatClampNeg) := inb_of S_b_52 ⟨by decide, by decide⟩
  obtain ⟨T52, h52, X52, e52, W52, st52⟩ := stB X47 hx hZ e47 Ar_b_52 (j := (1 : Int32)) hin52 (g := (mkF m 52 #[vr b, vi 1, vi yy] [(.int ((yy >>> ((8 : Int32) &&& 31)).toInt8.toInt32)), (.int 1), (.ref b)])) rfl rfl (hb hby d22_52)
  have Wo52 := Wo43.wr W52 gb
  have V_b_52 := Arv.set Ar_b_52 q_b_52 S_b_52 N_b_52 H_b_52 G_b_52 (fits_nar_byte _) W52 1 rfl (Nat.le_of_ble_eq_true rfl)
  have K52 := K43.wr W52 (Or.inl (List.mem_of_getElem? (i := 0) rfl))
  have N52 := Fr.snoc X52 N43 gb
  have Z52 : n0 ≤ h52.size := Nat.le_trans Z43 (Keep.of_wr W52).1
  refine Dn.st st52 ?_
  show Dn p e below s _ _ _ (T52.setTop (mkF m 53 #[vr b, vi 1, vi yy] []))
  exact Dn.ret0 X52 hlk hx hret (hb hby d22_53) (by rw [e52]; exact ⟨rfl, N52, K52, V_b_52⟩) (by decide) (by decide)

theorem ef22_rmPu4_1 (m : MethodId) (x0 : Addr) (x1 : Int32) (x2 : Int32) : entryFrame m #[(.ref x0), (.int x1), (.int x2)] 3 = mkF m 0 #[vr x0, vi x1, vi x2] [] := by first | (simp [entryFrame, mkF, argsToLocals, Value.category]; done) | rfl
def QPu4_1 (Z : State) (b : Addr) (yy : Int32) (cs : Int32) (sf : Value) (kb : ClassId) (w0 : Int32) (w1 : Int32) (w2 : Int32) (w3 : Int32) (w4 : Int32) (w5 : Int32) (w6 : Int32) (w7 : Int32) (h0 : Heap) (n0 : Nat) (v : Option Value) (h : Heap) (L : List Loc) : Prop := v = none ∧ Fr n0 L ∧ Keep h0 h [b] ∧ Arv Z h b kb .byte 8 [(.int w0), (.int w1), (.int (own_lo yy)), (.int (own_hi yy)), (.int w4), (.int w5), (.int w6), (.int w7)] (.int 0)
theorem rmPu4_1 (l : Launch) (Z : State) (a0 : Array Value) (hw : ∀ d ∈ tables_1, d.before a0 Z = true) (ws : List Jvm.Cond) (b : Addr) (yy : Int32) (cs : Int32) (sf : Value) (kb : ClassId) (w0 : Int32) (w1 : Int32) (w2 : Int32) (w3 : Int32) (w4 : Int32) (w5 : Int32) (w6 : Int32) (w7 : Int32) (h0 : Heap) (n0 : Nat) (Z0 : n0 ≤ h0.size) (hW : own_W Z h0 n0 cs sf) (gb : n0 ≤ b) (Vb : Arv Z h0 b kb .byte 8 [(.int w0), (.int w1), (.int w2), (.int w3), (.int w4), (.int w5), (.int w6), (.int w7)] (.int 0)) :
    own_Met l on1 (Jvm.Cond.code on1 jdk_52_method_4_code 3 none :: ws) orm25 #[(.ref b), (.int 1), (.int yy)] Z h0 (QPu4_1 Z b yy cs sf kb w0 w1 w2 w3 w4 w5 w6 w7 h0 n0) := by
  refine MetFree.of_bodySF (plainFor_of_name pn2) hisR ?_
  intro p e s m args below meth c s₁ Bd hml0 hP hK
  obtain ⟨rfl, hZ, hh⟩ := hP
  have hx := Bd.exec
  have hby := Bd.bytes
  have hlk : meth.locks = false := BodyLoose.notSynchronized Bd
  have hret := Bd.returns
  have hml : c.maxLocals = 3 := hml0
  have hown : s.vm.findClass "java/lang/StringUTF16" = some m.cls := findClass_of_methodNamed Bd.named
  have X0 : Stand p l e orm25 s m #[(.ref b), (.int 1), (.int yy)] below meth c s₁ [] 0 0 := Stand.of_body Bd
  have e0 : s₁.heap = h0 := by rw [← hh, Bd.state]; rfl
  have N0 := Fr.nil n0
  show Dn p e below s (QPu4_1 Z b yy cs sf kb w0 w1 w2 w3 w4 w5 w6 w7 h0 n0) orm25.cells orm25.slots (s₁.setTop (entryFrame m #[(.ref b), (.int 1), (.int yy)] 3))
  refine Dn.st (fun _ kk => castTop (ef22_rmPu4_1 m b (1 : Int32) yy) kk) ?_
  show Dn p e below s _ _ _ (s₁.setTop (mkF m 0 #[vr b, vi 1, vi yy] []))
  obtain ⟨T0z, X0z, e0z, st0z⟩ := getS2 X0 hx hZ hown (host := "") (Or.inl (tw hw 99 rfl)) Via.refl e0 hW.adt (g := (mkF m 0 #[vr b, vi 1, vi yy] [])) rfl (hb hby d22_0)
  refine Dn.st st0z ?_
  show Dn p e below s _ _ _ (T0z.setTop (mkF m 3 #[vr b, vi 1, vi yy] [(.int 1)]))
  have hc3 : ¬ ((1 : Int32) = (0 : Int32)) := by decide
  refine Dn.st (fun _ kk => XS.ifYes X0z.here hx rfl (pc0 := 3) (pc' := 28) rfl (hb hby d22_3) rfl ((if0 _ _).trans (feq hc3).2) (by decide) (by decide) (XS.iloadN X0z.here hx rfl (hb hby d22_28) rfl (XS.iconst X0z.here hx rfl (hb hby d22_29) (XS.ishl X0z.here hx rfl (hb hby d22_30) rfl (XS.istoreN X0z.here hx rfl (hb hby d22_31) rfl (l' := #[vr b, vi 2, vi yy]) rfl (XS.aloadN X0z.here hx rfl (hb hby d22_32) rfl rfl (kk))))))) ?_
  show Dn p e below s _ _ _ (T0z.setTop (mkF m 33 #[vr b, vi 2, vi yy] [(.ref b)]))
  refine Dn.st (fun _ kk => XS.iloadN X0z.here hx rfl (hb hby d22_33) rfl (XS.iinc X0z.here hx rfl (hb hby d22_34) rfl (l' := #[vr b, vi 3, vi yy]) rfl (XS.iloadN X0z.here hx rfl (hb hby d22_37) rfl (kk)))) ?_
  show Dn p e below s _ _ _ (T0z.setTop (mkF m 38 #[vr b, vi 3, vi yy] [(.int yy), (.int 2), (.ref b)]))
  obtain ⟨T38, X38, e38, st38⟩ := getS2 X0z hx hZ hown (host := "") (Or.inl (tw hw 100 rfl)) Via.refl e0z hW.hit (g := (mkF m 38 #[vr b, vi 3, vi yy] [(.int yy), (.int 2), (.ref b)])) rfl (hb hby d22_38)
  refine Dn.st st38 ?_
  show Dn p e below s _ _ _ (T38.setTop (mkF m 41 #[vr b, vi 3, vi yy] [(.int 0), (.int yy), (.int 2), (.ref b)]))
  refine Dn.st (fun _ kk => XS.ishr X38.here hx rfl (hb hby d22_41) rfl (XS.i2b X38.here hx rfl (hb hby d22_42) rfl (kk))) ?_
  show Dn p e below s _ _ _ (T38.setTop (mkF m 43 #[vr b, vi 3, vi yy] [(.int ((yy >>> ((0 : Int32) &&& 31)).toInt8.toInt32)), (.int 2), (.ref b)]))
  have Vc_b_43 := Vb
  obtain ⟨cl_b_43, Ar_b_43, q_b_43, S_b_43, N_b_43, H_b_43, G_b_43⟩ := Vc_b_43
  have hin43 : ¬ ((2 : Int32) < 0 ∨ cl_b_43.slots.size ≤ ((2 : Int32)).toNatClampNeg) := inb_of S_b_43 ⟨by decide, by decide⟩
  obtain ⟨T43, h43, X43, e43, W43, st43⟩ := stB X38 hx hZ e38 Ar_b_43 (j := (2 : Int32)) hin43 (g := (mkF m 43 #[vr b, vi 3, vi yy] [(.int ((yy >>> ((0 : Int32) &&& 31)).toInt8.toInt32)), (.int 2), (.ref b)])) rfl rfl (hb hby d22_43)
  have Wo43 := hW.wr W43 gb
  have V_b_43 := Arv.set Ar_b_43 q_b_43 S_b_43 N_b_43 H_b_43 G_b_43 (fits_nar_byte _) W43 2 rfl (Nat.le_of_ble_eq_true rfl)
  have K43 := (Keep.refl h0 [b]).wr W43 (Or.inl (List.mem_of_getElem? (i := 0) rfl))
  have N43 := Fr.snoc X43 N0 gb
  have Z43 : n0 ≤ h43.size := Nat.le_trans Z0 (Keep.of_wr W43).1
  refine Dn.st st43 ?_
  show Dn p e below s _ _ _ (T43.setTop (mkF m 44 #[vr b, vi 3, vi yy] []))
  refine Dn.st (fun _ kk => XS.aloadN X43.here hx rfl (hb hby d22_44) rfl rfl (XS.iloadN X43.here hx rfl (hb hby d22_45) rfl (XS.iloadN X43.here hx rfl (hb hby d22_46) rfl (kk)))) ?_
  show Dn p e below s _ _ _ (T43.setTop (mkF m 47 #[vr b, vi 3, vi yy] [(.int yy), (.int 3), (.ref b)]))
  obtain ⟨T47, X47, e47, st47⟩ := getS2 X43 hx hZ hown (host := "") (Or.inl (tw hw 101 rfl)) Via.refl e43 Wo43.lot (g := (mkF m 47 #[vr b, vi 3, vi yy] [(.int yy), (.int 3), (.ref b)])) rfl (hb hby d22_47)
  refine Dn.st st47 ?_
  show Dn p e below s _ _ _ (T47.setTop (mkF m 50 #[vr b, vi 3, vi yy] [(.int 8), (.int yy), (.int 3), (.ref b)]))
  refine Dn.st (fun _ kk => XS.ishr X47.here hx rfl (hb hby d22_50) rfl (XS.i2b X47.here hx rfl (hb hby d22_51) rfl (kk))) ?_
  show Dn p e below s _ _ _ (T47.setTop (mkF m 52 #[vr b, vi 3, vi yy] [(.int ((yy >>> ((8 : Int32) &&& 31)).toInt8.toInt32)), (.int 3), (.ref b)]))
  have Vc_b_52 := V_b_43
  obtain ⟨cl_b_52, Ar_b_52, q_b_52, S_b_52, N_b_52, H_b_52, G_b_52⟩ := Vc_b_52
  have hin52 : ¬ ((3 : Int32) < 0 ∨ cl_b_52.slots.size ≤ ((3 : Int32)).toNatClampNeg) := inb_of S_b_52 ⟨by decide, by decide⟩
  obtain ⟨T52, h52, X52, e52, W52, st52⟩ := stB X47 hx hZ e47 Ar_b_52 (j := (3 : Int32)) hin52 (g := (mkF m 52 #[vr b, vi 3, vi yy] [(.int ((yy >>> ((8 : Int32) &&& 31)).toInt8.toInt32)), (.int 3), (.ref b)])) rfl rfl (hb hby d22_52)
  have Wo52 := Wo43.wr W52 gb
  have V_b_52 := Arv.set Ar_b_52 q_b_52 S_b_52 N_b_52 H_b_52 G_b_52 (fits_nar_byte _) W52 3 rfl (Nat.le_of_ble_eq_true rfl)
  have K52 := K43.wr W52 (Or.inl (List.mem_of_getElem? (i := 0) rfl))
  have N52 := Fr.snoc X52 N43 gb
  have Z52 : n0 ≤ h52.size := Nat.le_trans Z43 (Keep.of_wr W52).1
  refine Dn.st st52 ?_
  show Dn p e below s _ _ _ (T52.setTop (mkF m 53 #[vr b, vi 3, vi yy] []))
  exact Dn.ret0 X52 hlk hx hret (hb hby d22_53) (by rw [e52]; exact ⟨rfl, N52, K52, V_b_52⟩) (by decide) (by decide)

theorem ef22_rmPu4_2 (m : MethodId) (x0 : Addr) (x1 : Int32) (x2 : Int32) : entryFrame m #[(.ref x0), (.int x1), (.int x2)] 3 = mkF m 0 #[vr x0, vi x1, vi x2] [] := by first | (simp [entryFrame, mkF, argsToLocals, Value.category]; done) | rfl
def QPu4_2 (Z : State) (b : Addr) (yy : Int32) (cs : Int32) (sf : Value) (kb : ClassId) (w0 : Int32) (w1 : Int32) (w2 : Int32) (w3 : Int32) (w4 : Int32) (w5 : Int32) (w6 : Int32) (w7 : Int32) (h0 : Heap) (n0 : Nat) (v : Option Value) (h : Heap) (L : List Loc) : Prop := v = none ∧ Fr n0 L ∧ Keep h0 h [b] ∧ Arv Z h b kb .byte 8 [(.int w0), (.int w1), (.int w2), (.int w3), (.int (own_lo yy)), (.int (own_hi yy)), (.int w6), (.int w7)] (.int 0)
theorem rmPu4_2 (l : Launch) (Z : State) (a0 : Array Value) (hw : ∀ d ∈ tables_1, d.before a0 Z = true) (ws : List Jvm.Cond) (b : Addr) (yy : Int32) (cs : Int32) (sf : Value) (kb : ClassId) (w0 : Int32) (w1 : Int32) (w2 : Int32) (w3 : Int32) (w4 : Int32) (w5 : Int32) (w6 : Int32) (w7 : Int32) (h0 : Heap) (n0 : Nat) (Z0 : n0 ≤ h0.size) (hW : own_W Z h0 n0 cs sf) (gb : n0 ≤ b) (Vb : Arv Z h0 b kb .byte 8 [(.int w0), (.int w1), (.int w2), (.int w3), (.int w4), (.int w5), (.int w6), (.int w7)] (.int 0)) :
    own_Met l on1 (Jvm.Cond.code on1 jdk_52_method_4_code 3 none :: ws) orm25 #[(.ref b), (.int 2), (.int yy)] Z h0 (QPu4_2 Z b yy cs sf kb w0 w1 w2 w3 w4 w5 w6 w7 h0 n0) := by
  refine MetFree.of_bodySF (plainFor_of_name pn2) hisR ?_
  intro p e s m args below meth c s₁ Bd hml0 hP hK
  obtain ⟨rfl, hZ, hh⟩ := hP
  have hx := Bd.exec
  have hby := Bd.bytes
  have hlk : meth.locks = false := BodyLoose.notSynchronized Bd
  have hret := Bd.returns
  have hml : c.maxLocals = 3 := hml0
  have hown : s.vm.findClass "java/lang/StringUTF16" = some m.cls := findClass_of_methodNamed Bd.named
  have X0 : Stand p l e orm25 s m #[(.ref b), (.int 2), (.int yy)] below meth c s₁ [] 0 0 := Stand.of_body Bd
  have e0 : s₁.heap = h0 := by rw [← hh, Bd.state]; rfl
  have N0 := Fr.nil n0
  show Dn p e below s (QPu4_2 Z b yy cs sf kb w0 w1 w2 w3 w4 w5 w6 w7 h0 n0) orm25.cells orm25.slots (s₁.setTop (entryFrame m #[(.ref b), (.int 2), (.int yy)] 3))
  refine Dn.st (fun _ kk => castTop (ef22_rmPu4_2 m b (2 : Int32) yy) kk) ?_
  show Dn p e below s _ _ _ (s₁.setTop (mkF m 0 #[vr b, vi 2, vi yy] []))
  obtain ⟨T0z, X0z, e0z, st0z⟩ := getS2 X0 hx hZ hown (host := "") (Or.inl (tw hw 99 rfl)) Via.refl e0 hW.adt (g := (mkF m 0 #[vr b, vi 2, vi yy] [])) rfl (hb hby d22_0)
  refine Dn.st st0z ?_
  show Dn p e below s _ _ _ (T0z.setTop (mkF m 3 #[vr b, vi 2, vi yy] [(.int 1)]))
  have hc3 : ¬ ((1 : Int32) = (0 : Int32)) := by decide
  refine Dn.st (fun _ kk => XS.ifYes X0z.here hx rfl (pc0 := 3) (pc' := 28) rfl (hb hby d22_3) rfl ((if0 _ _).trans (feq hc3).2) (by decide) (by decide) (XS.iloadN X0z.here hx rfl (hb hby d22_28) rfl (XS.iconst X0z.here hx rfl (hb hby d22_29) (XS.ishl X0z.here hx rfl (hb hby d22_30) rfl (XS.istoreN X0z.here hx rfl (hb hby d22_31) rfl (l' := #[vr b, vi 4, vi yy]) rfl (XS.aloadN X0z.here hx rfl (hb hby d22_32) rfl rfl (kk))))))) ?_
  show Dn p e below s _ _ _ (T0z.setTop (mkF m 33 #[vr b, vi 4, vi yy] [(.ref b)]))
  refine Dn.st (fun _ kk => XS.iloadN X0z.here hx rfl (hb hby d22_33) rfl (XS.iinc X0z.here hx rfl (hb hby d22_34) rfl (l' := #[vr b, vi 5, vi yy]) rfl (XS.iloadN X0z.here hx rfl (hb hby d22_37) rfl (kk)))) ?_
  show Dn p e below s _ _ _ (T0z.setTop (mkF m 38 #[vr b, vi 5, vi yy] [(.int yy), (.int 4), (.ref b)]))
  obtain ⟨T38, X38, e38, st38⟩ := getS2 X0z hx hZ hown (host := "") (Or.inl (tw hw 100 rfl)) Via.refl e0z hW.hit (g := (mkF m 38 #[vr b, vi 5, vi yy] [(.int yy), (.int 4), (.ref b)])) rfl (hb hby d22_38)
  refine Dn.st st38 ?_
  show Dn p e below s _ _ _ (T38.setTop (mkF m 41 #[vr b, vi 5, vi yy] [(.int 0), (.int yy), (.int 4), (.ref b)]))
  refine Dn.st (fun _ kk => XS.ishr X38.here hx rfl (hb hby d22_41) rfl (XS.i2b X38.here hx rfl (hb hby d22_42) rfl (kk))) ?_
  show Dn p e below s _ _ _ (T38.setTop (mkF m 43 #[vr b, vi 5, vi yy] [(.int ((yy >>> ((0 : Int32) &&& 31)).toInt8.toInt32)), (.int 4), (.ref b)]))
  have Vc_b_43 := Vb
  obtain ⟨cl_b_43, Ar_b_43, q_b_43, S_b_43, N_b_43, H_b_43, G_b_43⟩ := Vc_b_43
  have hin43 : ¬ ((4 : Int32) < 0 ∨ cl_b_43.slots.size ≤ ((4 : Int32)).toNatClampNeg) := inb_of S_b_43 ⟨by decide, by decide⟩
  obtain ⟨T43, h43, X43, e43, W43, st43⟩ := stB X38 hx hZ e38 Ar_b_43 (j := (4 : Int32)) hin43 (g := (mkF m 43 #[vr b, vi 5, vi yy] [(.int ((yy >>> ((0 : Int32) &&& 31)).toInt8.toInt32)), (.int 4), (.ref b)])) rfl rfl (hb hby d22_43)
  have Wo43 := hW.wr W43 gb
  have V_b_43 := Arv.set Ar_b_43 q_b_43 S_b_43 N_b_43 H_b_43 G_b_43 (fits_nar_byte _) W43 4 rfl (Nat.le_of_ble_eq_true rfl)
  have K43 := (Keep.refl h0 [b]).wr W43 (Or.inl (List.mem_of_getElem? (i := 0) rfl))
  have N43 := Fr.snoc X43 N0 gb
  have Z43 : n0 ≤ h43.size := Nat.le_trans Z0 (Keep.of_wr W43).1
  refine Dn.st st43 ?_
  show Dn p e below s _ _ _ (T43.setTop (mkF m 44 #[vr b, vi 5, vi yy] []))
  refine Dn.st (fun _ kk => XS.aloadN X43.here hx rfl (hb hby d22_44) rfl rfl (XS.iloadN X43.here hx rfl (hb hby d22_45) rfl (XS.iloadN X43.here hx rfl (hb hby d22_46) rfl (kk)))) ?_
  show Dn p e below s _ _ _ (T43.setTop (mkF m 47 #[vr b, vi 5, vi yy] [(.int yy), (.int 5), (.ref b)]))
  obtain ⟨T47, X47, e47, st47⟩ := getS2 X43 hx hZ hown (host := "") (Or.inl (tw hw 101 rfl)) Via.refl e43 Wo43.lot (g := (mkF m 47 #[vr b, vi 5, vi yy] [(.int yy), (.int 5), (.ref b)])) rfl (hb hby d22_47)
  refine Dn.st st47 ?_
  show Dn p e below s _ _ _ (T47.setTop (mkF m 50 #[vr b, vi 5, vi yy] [(.int 8), (.int yy), (.int 5), (.ref b)]))
  refine Dn.st (fun _ kk => XS.ishr X47.here hx rfl (hb hby d22_50) rfl (XS.i2b X47.here hx rfl (hb hby d22_51) rfl (kk))) ?_
  show Dn p e below s _ _ _ (T47.setTop (mkF m 52 #[vr b, vi 5, vi yy] [(.int ((yy >>> ((8 : Int32) &&& 31)).toInt8.toInt32)), (.int 5), (.ref b)]))
  have Vc_b_52 := V_b_43
  obtain ⟨cl_b_52, Ar_b_52, q_b_52, S_b_52, N_b_52, H_b_52, G_b_52⟩ := Vc_b_52
  have hin52 : ¬ ((5 : Int32) < 0 ∨ cl_b_52.slots.size ≤ ((5 : Int32)).toNatClampNeg) := inb_of S_b_52 ⟨by decide, by decide⟩
  obtain ⟨T52, h52, X52, e52, W52, st52⟩ := stB X47 hx hZ e47 Ar_b_52 (j := (5 : Int32)) hin52 (g := (mkF m 52 #[vr b, vi 5, vi yy] [(.int ((yy >>> ((8 : Int32) &&& 31)).toInt8.toInt32)), (.int 5), (.ref b)])) rfl rfl (hb hby d22_52)
  have Wo52 := Wo43.wr W52 gb
  have V_b_52 := Arv.set Ar_b_52 q_b_52 S_b_52 N_b_52 H_b_52 G_b_52 (fits_nar_byte _) W52 5 rfl (Nat.le_of_ble_eq_true rfl)
  have K52 := K43.wr W52 (Or.inl (List.mem_of_getElem? (i := 0) rfl))
  have N52 := Fr.snoc X52 N43 gb
  have Z52 : n0 ≤ h52.size := Nat.le_trans Z43 (Keep.of_wr W52).1
  refine Dn.st st52 ?_
  show Dn p e below s _ _ _ (T52.setTop (mkF m 53 #[vr b, vi 5, vi yy] []))
  exact Dn.ret0 X52 hlk hx hret (hb hby d22_53) (by rw [e52]; exact ⟨rfl, N52, K52, V_b_52⟩) (by decide) (by decide)

theorem ef22_rmPu4_3 (m : MethodId) (x0 : Addr) (x1 : Int32) (x2 : Int32) : entryFrame m #[(.ref x0), (.int x1), (.int x2)] 3 = mkF m 0 #[vr x0, vi x1, vi x2] [] := by first | (simp [entryFrame, mkF, argsToLocals, Value.category]; done) | rfl
def QPu4_3 (Z : State) (b : Addr) (yy : Int32) (cs : Int32) (sf : Value) (kb : ClassId) (w0 : Int32) (w1 : Int32) (w2 : Int32) (w3 : Int32) (w4 : Int32) (w5 : Int32) (w6 : Int32) (w7 : Int32) (h0 : Heap) (n0 : Nat) (v : Option Value) (h : Heap) (L : List Loc) : Prop := v = none ∧ Fr n0 L ∧ Keep h0 h [b] ∧ Arv Z h b kb .byte 8 [(.int w0), (.int w1), (.int w2), (.int w3), (.int w4), (.int w5), (.int (own_lo yy)), (.int (own_hi yy))] (.int 0)
theorem rmPu4_3 (l : Launch) (Z : State) (a0 : Array Value) (hw : ∀ d ∈ tables_1, d.before a0 Z = true) (ws : List Jvm.Cond) (b : Addr) (yy : Int32) (cs : Int32) (sf : Value) (kb : ClassId) (w0 : Int32) (w1 : Int32) (w2 : Int32) (w3 : Int32) (w4 : Int32) (w5 : Int32) (w6 : Int32) (w7 : Int32) (h0 : Heap) (n0 : Nat) (Z0 : n0 ≤ h0.size) (hW : own_W Z h0 n0 cs sf) (gb : n0 ≤ b) (Vb : Arv Z h0 b kb .byte 8 [(.int w0), (.int w1), (.int w2), (.int w3), (.int w4), (.int w5), (.int w6), (.int w7)] (.int 0)) :
    own_Met l on1 (Jvm.Cond.code on1 jdk_52_method_4_code 3 none :: ws) orm25 #[(.ref b), (.int 3), (.int yy)] Z h0 (QPu4_3 Z b yy cs sf kb w0 w1 w2 w3 w4 w5 w6 w7 h0 n0) := by
  refine MetFree.of_bodySF (plainFor_of_name pn2) hisR ?_
  intro p e s m args below meth c s₁ Bd hml0 hP hK
  obtain ⟨rfl, hZ, hh⟩ := hP
  have hx := Bd.exec
  have hby := Bd.bytes
  have hlk : meth.locks = false := BodyLoose.notSynchronized Bd
  have hret := Bd.returns
  have hml : c.maxLocals = 3 := hml0
  have hown : s.vm.findClass "java/lang/StringUTF16" = some m.cls := findClass_of_methodNamed Bd.named
  have X0 : Stand p l e orm25 s m #[(.ref b), (.int 3), (.int yy)] below meth c s₁ [] 0 0 := Stand.of_body Bd
  have e0 : s₁.heap = h0 := by rw [← hh, Bd.state]; rfl
  have N0 := Fr.nil n0
  show Dn p e below s (QPu4_3 Z b yy cs sf kb w0 w1 w2 w3 w4 w5 w6 w7 h0 n0) orm25.cells orm25.slots (s₁.setTop (entryFrame m #[(.ref b), (.int 3), (.int yy)] 3))
  refine Dn.st (fun _ kk => castTop (ef22_rmPu4_3 m b (3 : Int32) yy) kk) ?_
  show Dn p e below s _ _ _ (s₁.setTop (mkF m 0 #[vr b, vi 3, vi yy] []))
  obtain ⟨T0z, X0z, e0z, st0z⟩ := getS2 X0 hx hZ hown (host := "") (Or.inl (tw hw 99 rfl)) Via.refl e0 hW.adt (g := (mkF m 0 #[vr b, vi 3, vi yy] [])) rfl (hb hby d22_0)
  refine Dn.st st0z ?_
  show Dn p e below s _ _ _ (T0z.setTop (mkF m 3 #[vr b, vi 3, vi yy] [(.int 1)]))
  have hc3 : ¬ ((1 : Int32) = (0 : Int32)) := by decide
  refine Dn.st (fun _ kk => XS.ifYes X0z.here hx rfl (pc0 := 3) (pc' := 28) rfl (hb hby d22_3) rfl ((if0 _ _).trans (feq hc3).2) (by decide) (by decide) (XS.iloadN X0z.here hx rfl (hb hby d22_28) rfl (XS.iconst X0z.here hx rfl (hb hby d22_29) (XS.ishl X0z.here hx rfl (hb hby d22_30) rfl (XS.istoreN X0z.here hx rfl (hb hby d22_31) rfl (l' := #[vr b, vi 6, vi yy]) rfl (XS.aloadN X0z.here hx rfl (hb hby d22_32) rfl rfl (kk))))))) ?_
  show Dn p e below s _ _ _ (T0z.setTop (mkF m 33 #[vr b, vi 6, vi yy] [(.ref b)]))
  refine Dn.st (fun _ kk => XS.iloadN X0z.here hx rfl (hb hby d22_33) rfl (XS.iinc X0z.here hx rfl (hb hby d22_34) rfl (l' := #[vr b, vi 7, vi yy]) rfl (XS.iloadN X0z.here hx rfl (hb hby d22_37) rfl (kk)))) ?_
  show Dn p e below s _ _ _ (T0z.setTop (mkF m 38 #[vr b, vi 7, vi yy] [(.int yy), (.int 6), (.ref b)]))
  obtain ⟨T38, X38, e38, st38⟩ := getS2 X0z hx hZ hown (host := "") (Or.inl (tw hw 100 rfl)) Via.refl e0z hW.hit (g := (mkF m 38 #[vr b, vi 7, vi yy] [(.int yy), (.int 6), (.ref b)])) rfl (hb hby d22_38)
  refine Dn.st st38 ?_
  show Dn p e below s _ _ _ (T38.setTop (mkF m 41 #[vr b, vi 7, vi yy] [(.int 0), (.int yy), (.int 6), (.ref b)]))
  refine Dn.st (fun _ kk => XS.ishr X38.here hx rfl (hb hby d22_41) rfl (XS.i2b X38.here hx rfl (hb hby d22_42) rfl (kk))) ?_
  show Dn p e below s _ _ _ (T38.setTop (mkF m 43 #[vr b, vi 7, vi yy] [(.int ((yy >>> ((0 : Int32) &&& 31)).toInt8.toInt32)), (.int 6), (.ref b)]))
  have Vc_b_43 := Vb
  obtain ⟨cl_b_43, Ar_b_43, q_b_43, S_b_43, N_b_43, H_b_43, G_b_43⟩ := Vc_b_43
  have hin43 : ¬ ((6 : Int32) < 0 ∨ cl_b_43.slots.size ≤ ((6 : Int32)).toNatClampNeg) := inb_of S_b_43 ⟨by decide, by decide⟩
  obtain ⟨T43, h43, X43, e43, W43, st43⟩ := stB X38 hx hZ e38 Ar_b_43 (j := (6 : Int32)) hin43 (g := (mkF m 43 #[vr b, vi 7, vi yy] [(.int ((yy >>> ((0 : Int32) &&& 31)).toInt8.toInt32)), (.int 6), (.ref b)])) rfl rfl (hb hby d22_43)
  have Wo43 := hW.wr W43 gb
  have V_b_43 := Arv.set Ar_b_43 q_b_43 S_b_43 N_b_43 H_b_43 G_b_43 (fits_nar_byte _) W43 6 rfl (Nat.le_of_ble_eq_true rfl)
  have K43 := (Keep.refl h0 [b]).wr W43 (Or.inl (List.mem_of_getElem? (i := 0) rfl))
  have N43 := Fr.snoc X43 N0 gb
  have Z43 : n0 ≤ h43.size := Nat.le_trans Z0 (Keep.of_wr W43).1
  refine Dn.st st43 ?_
  show Dn p e below s _ _ _ (T43.setTop (mkF m 44 #[vr b, vi 7, vi yy] []))
  refine Dn.st (fun _ kk => XS.aloadN X43.here hx rfl (hb hby d22_44) rfl rfl (XS.iloadN X43.here hx rfl (hb hby d22_45) rfl (XS.iloadN X43.here hx rfl (hb hby d22_46) rfl (kk)))) ?_
  show Dn p e below s _ _ _ (T43.setTop (mkF m 47 #[vr b, vi 7, vi yy] [(.int yy), (.int 7), (.ref b)]))
  obtain ⟨T47, X47, e47, st47⟩ := getS2 X43 hx hZ hown (host := "") (Or.inl (tw hw 101 rfl)) Via.refl e43 Wo43.lot (g := (mkF m 47 #[vr b, vi 7, vi yy] [(.int yy), (.int 7), (.ref b)])) rfl (hb hby d22_47)
  refine Dn.st st47 ?_
  show Dn p e below s _ _ _ (T47.setTop (mkF m 50 #[vr b, vi 7, vi yy] [(.int 8), (.int yy), (.int 7), (.ref b)]))
  refine Dn.st (fun _ kk => XS.ishr X47.here hx rfl (hb hby d22_50) rfl (XS.i2b X47.here hx rfl (hb hby d22_51) rfl (kk))) ?_
  show Dn p e below s _ _ _ (T47.setTop (mkF m 52 #[vr b, vi 7, vi yy] [(.int ((yy >>> ((8 : Int32) &&& 31)).toInt8.toInt32)), (.int 7), (.ref b)]))
  have Vc_b_52 := V_b_43
  obtain ⟨cl_b_52, Ar_b_52, q_b_52, S_b_52, N_b_52, H_b_52, G_b_52⟩ := Vc_b_52
  have hin52 : ¬ ((7 : Int32) < 0 ∨ cl_b_52.slots.size ≤ ((7 : Int32)).toNatClampNeg) := inb_of S_b_52 ⟨by decide, by decide⟩
  obtain ⟨T52, h52, X52, e52, W52, st52⟩ := stB X47 hx hZ e47 Ar_b_52 (j := (7 : Int32)) hin52 (g := (mkF m 52 #[vr b, vi 7, vi yy] [(.int ((yy >>> ((8 : Int32) &&& 31)).toInt8.toInt32)), (.int 7), (.ref b)])) rfl rfl (hb hby d22_52)
  have Wo52 := Wo43.wr W52 gb
  have V_b_52 := Arv.set Ar_b_52 q_b_52 S_b_52 N_b_52 H_b_52 G_b_52 (fits_nar_byte _) W52 7 rfl (Nat.le_of_ble_eq_true rfl)
  have K52 := K43.wr W52 (Or.inl (List.mem_of_getElem? (i := 0) rfl))
  have N52 := Fr.snoc X52 N43 gb
  have Z52 : n0 ≤ h52.size := Nat.le_trans Z43 (Keep.of_wr W52).1
  refine Dn.st st52 ?_
  show Dn p e below s _ _ _ (T52.setTop (mkF m 53 #[vr b, vi 7, vi yy] []))
  exact Dn.ret0 X52 hlk hx hret (hb hby d22_53) (by rw [e52]; exact ⟨rfl, N52, K52, V_b_52⟩) (by decide) (by decide)

theorem ef19_rmTb4 (m : MethodId) (x0 : Addr) (x1 : Int32) (x2 : Int32) : entryFrame m #[(.ref x0), (.int x1), (.int x2)] 5 = mkF m 0 #[vr x0, vi x1, vi x2, .unset, .unset] [] := by first | (simp [entryFrame, mkF, argsToLocals, Value.category]; done) | rfl
def QTb4 (Z : State) (a : Addr) (cs : Int32) (sf : Value) (ka : ClassId) (y0 : Int32) (y1 : Int32) (y2 : Int32) (y3 : Int32) (h0 : Heap) (n0 : Nat) (v : Option Value) (h : Heap) (L : List Loc) : Prop := ∃ (b : Addr) (kb : ClassId), v = some (.ref b) ∧ h0.size ≤ b ∧ Fr n0 L ∧ Keep h0 h [] ∧ Arv Z h b kb .byte 8 [(.int (own_lo y0)), (.int (own_hi y0)), (.int (own_lo y1)), (.int (own_hi y1)), (.int (own_lo y2)), (.int (own_hi y2)), (.int (own_lo y3)), (.int (own_hi y3))] (.int 0)
theorem rmTb4 (l : Launch) (Z : State) (a0 : Array Value) (hw : ∀ d ∈ tables_1, d.before a0 Z = true) (ws : List Jvm.Cond) (a : Addr) (cs : Int32) (sf : Value) (ka : ClassId) (y0 : Int32) (y1 : Int32) (y2 : Int32) (y3 : Int32) (h0 : Heap) (n0 : Nat) (Z0 : n0 ≤ h0.size) (hW : own_W Z h0 n0 cs sf) (Va : Arv Z h0 a ka .char 4 [(.int y0), (.int y1), (.int y2), (.int y3)] (.int 0)) :
    own_Met l on7 (Jvm.Cond.code on7 jdk_52_method_14_code 5 (some (.array .byte)) :: ws) orm49 #[(.ref a), (.int 0), (.int 4)] Z h0 (QTb4 Z a cs sf ka y0 y1 y2 y3 h0 n0) := by
  refine MetFree.of_bodySF (plainFor_of_name pn2) hisR ?_
  intro p e s m args below meth c s₁ Bd hml0 hP hK
  obtain ⟨rfl, hZ, hh⟩ := hP
  have hx := Bd.exec
  have hby := Bd.bytes
  have hlk : meth.locks = false := BodyLoose.notSynchronized Bd
  have hret := Bd.returns
  have hml : c.maxLocals = 5 := hml0
  have hown : s.vm.findClass "java/lang/StringUTF16" = some m.cls := findClass_of_methodNamed Bd.named
  have X0 : Stand p l e orm49 s m #[(.ref a), (.int 0), (.int 4)] below meth c s₁ [] 0 0 := Stand.of_body Bd
  have e0 : s₁.heap = h0 := by rw [← hh, Bd.state]; rfl
  have N0 := Fr.nil n0
  show Dn p e below s (QTb4 Z a cs sf ka y0 y1 y2 y3 h0 n0) orm49.cells orm49.slots (s₁.setTop (entryFrame m #[(.ref a), (.int 0), (.int 4)] 5))
  refine Dn.st (fun _ kk => castTop (ef19_rmTb4 m a (0 : Int32) (4 : Int32)) kk) ?_
  show Dn p e below s _ _ _ (s₁.setTop (mkF m 0 #[vr a, vi 0, vi 4, .unset, .unset] []))
  refine Dn.st (fun _ kk => XS.iloadN X0.here hx rfl (hb hby d19_0) rfl (kk)) ?_
  show Dn p e below s _ _ _ (s₁.setTop (mkF m 1 #[vr a, vi 0, vi 4, .unset, .unset] [(.int 4)]))
  obtain ⟨_, _, ⟨T1, L1, k1, n1⟩, -, X1, ⟨Lc1, hQ1, l1, y1, z1⟩, st1⟩ := Jvm.LawKit.callS X0 hx (y := on14) hown (mvT hZ (tw hw 89 rfl)) (mvT hZ (tw hw 90 rfl)) (mvT hZ (tw hw 50 rfl)) (mvT hZ (tw hw 91 rfl)) (by decide) (backOf (W := 0) (rmNf4 l Z a0 hw []  h0 n0 Z0 ) hZ (tw hw 91 rfl) (tw hw 50 rfl) (by decide) (by decide)) (g := (mkF m 1 #[vr a, vi 0, vi 4, .unset, .unset] [(.int 4)])) rfl (by rw [hml]; rfl) (argsL := [(.int 4)]) (rest := []) (lenOf pd9 rfl) rfl (by show 2 * 0 + _ ≤ _; exact Nat.le_of_eq rfl) (hb hby d19_1) (fun _ _ => ⟨rfl, e0, (by decide : 0 + 1 ≤ _), (by decide : 0 + 8 ≤ _)⟩)
  dsimp only [Pt.U, Pt.locs, Pt.cells, Pt.slots] at X1 l1 y1 z1 st1 hQ1
  subst l1 y1 z1
  obtain ⟨bb1, kb1, rfl, gz1, Nq1, K1, V_bb1⟩ := hQ1
  have N1 := Fr.app N0 Nq1
  refine Dn.st st1 ?_
  have ne_a_bb1 : a ≠ bb1 := Nat.ne_of_lt (Nat.lt_of_lt_of_le Va.lt gz1)
  have gn_bb1 : n0 ≤ bb1 := Nat.le_trans Z0 gz1
  have gz_bb1 : h0.size ≤ bb1 := Nat.le_trans (Keep.refl h0 []).1 gz1
  have Wo1 := hW.keep K1 own_k0
  have V_a_1 := Va.keep K1 nin0
  have Kt1 := Keep.trans (Keep.refl h0 []) K1 (by simp)
  have Z1 : n0 ≤ T1.heap.size := Nat.le_trans Z0 K1.1
  show Dn p e below s _ _ _ (T1.setTop (mkF m 4 #[vr a, vi 0, vi 4, .unset, .unset] [(.ref bb1)]))
  refine Dn.st (fun _ kk => XS.astoreN X1.here hx rfl (hb hby d19_4) rfl rfl (l' := #[vr a, vi 0, vi 4, vr bb1, .unset]) rfl (XS.iconst X1.here hx rfl (hb hby d19_5) (XS.istore X1.here hx rfl (hb hby d19_6) rfl (l' := #[vr a, vi 0, vi 4, vr bb1, vi 0]) rfl (XS.iload X1.here hx rfl (hb hby d19_8) rfl (XS.iloadN X1.here hx rfl (hb hby d19_10) rfl (kk)))))) ?_
  show Dn p e below s _ _ _ (T1.setTop (mkF m 11 #[vr a, vi 0, vi 4, vr bb1, vi 0] [(.int 4), (.int 0)]))
  have hc11 : (0 : Int32) < (4 : Int32) := by decide
  refine Dn.st (fun _ kk => XS.icmpNo X1.here hx rfl (hb hby d19_11) rfl (tlt hc11).2.1 (XS.aloadN X1.here hx rfl (hb hby d19_14) rfl rfl (XS.iload X1.here hx rfl (hb hby d19_15) rfl (XS.aloadN X1.here hx rfl (hb hby d19_17) rfl rfl (XS.iloadN X1.here hx rfl (hb hby d19_18) rfl (kk)))))) ?_
  show Dn p e below s _ _ _ (T1.setTop (mkF m 19 #[vr a, vi 0, vi 4, vr bb1, vi 0] [(.int 0), (.ref a), (.int 0), (.ref bb1)]))
  have Vc_a_19 := V_a_1
  obtain ⟨cl_a_19, Ar_a_19, q_a_19, S_a_19, N_a_19, H_a_19, G_a_19⟩ := Vc_a_19
  have hin19 : ¬ ((0 : Int32) < 0 ∨ cl_a_19.slots.size ≤ ((0 : Int32)).toNatClampNeg) := inb_of S_a_19 ⟨by decide, by decide⟩
  have hat19 : cl_a_19.slots[((0 : Int32)).toNatClampNeg]? = some (.int y0) := H_a_19.at hin19 rfl
  refine Dn.st (fun _ kk => X1.caload hx (j := (0 : Int32)) (v := (.int y0)) Ar_a_19.1 (State.isArrayOf_alike hZ.alike Ar_a_19.2.1) Ar_a_19.2.2 hin19 hat19 (g := (mkF m 19 #[vr a, vi 0, vi 4, vr bb1, vi 0] [(.int 0), (.ref a), (.int 0), (.ref bb1)])) rfl rfl (hb hby d19_19) _ (kk)) ?_
  show Dn p e below s _ _ _ (T1.setTop (mkF m 20 #[vr a, vi 0, vi 4, vr bb1, vi 0] [(.int y0), (.int 0), (.ref bb1)]))
  obtain ⟨_, _, ⟨T20, L20, k20, n20⟩, -, X20, ⟨Lc20, hQ20, l20, y20, z20⟩, st20⟩ := Jvm.LawKit.callS X1 hx (y := on1) hown (mvT hZ (tw hw 96 rfl)) (mvT hZ (tw hw 97 rfl)) (mvT hZ (tw hw 50 rfl)) (mvT hZ (tw hw 98 rfl)) (by decide) (backOf (W := 0) (rmPu4_0 l Z a0 hw [] bb1 y0 cs sf kb1 (0 : Int32) (0 : Int32) (0 : Int32) (0 : Int32) (0 : Int32) (0 : Int32) (0 : Int32) (0 : Int32) T1.heap n0 Z1 Wo1 gn_bb1 V_bb1) hZ (tw hw 98 rfl) (tw hw 50 rfl) (by decide) (by decide)) (g := (mkF m 20 #[vr a, vi 0, vi 4, vr bb1, vi 0] [(.int y0), (.int 0), (.ref bb1)])) rfl (by rw [hml]; rfl) (argsL := [(.ref bb1), (.int 0), (.int y0)]) (rest := []) (lenOf pd10 rfl) rfl (by show 2 * 0 + _ ≤ _; exact Nat.le_of_eq rfl) (hb hby d19_20) (fun _ _ => ⟨rfl, rfl, (by decide : 1 + 0 ≤ _), (by decide : 8 + 0 ≤ _)⟩)
  dsimp only [Pt.U, Pt.locs, Pt.cells, Pt.slots] at X20 l20 y20 z20 st20 hQ20
  subst l20 y20 z20
  obtain ⟨rfl, Nq20, K20, V20⟩ := hQ20
  have N20 := Fr.app N1 Nq20
  refine Dn.st st20 ?_
  have Wo20 := Wo1.keep K20 (own_k1 gn_bb1)
  have V_a_20 := V_a_1.keep K20 (ninS ne_a_bb1 nin0)
  have Kt20 := Keep.trans Kt1 K20 (fun x hx => Or.inr ((List.mem_singleton.mp hx) ▸ gz_bb1))
  have Z20 : n0 ≤ T20.heap.size := Nat.le_trans Z1 K20.1
  show Dn p e below s _ _ _ (T20.setTop (mkF m 23 #[vr a, vi 0, vi 4, vr bb1, vi 0] []))
  refine Dn.st (fun _ kk => XS.iinc X20.here hx rfl (hb hby d19_23) rfl (l' := #[vr a, vi 1, vi 4, vr bb1, vi 0]) rfl (XS.iinc X20.here hx rfl (hb hby d19_26) rfl (l' := #[vr a, vi 1, vi 4, vr bb1, vi 1]) rfl (XS.goto X20.here hx rfl (pc0 := 29) (pc' := 8) rfl (hb hby d19_29) (by decide) (by decide) (XS.iload X20.here hx rfl (hb hby d19_8) rfl (XS.iloadN X20.here hx rfl (hb hby d19_10) rfl (kk)))))) ?_
  show Dn p e below s _ _ _ (T20.setTop (mkF m 11 #[vr a, vi 1, vi 4, vr bb1, vi 1] [(.int 4), (.int 1)]))
  have hc11_2 : (1 : Int32) < (4 : Int32) := by decide
  refine Dn.st (fun _ kk => XS.icmpNo X20.here hx rfl (hb hby d19_11) rfl (tlt hc11_2).2.1 (XS.aloadN X20.here hx rfl (hb hby d19_14) rfl rfl (XS.iload X20.here hx rfl (hb hby d19_15) rfl (XS.aloadN X20.here hx rfl (hb hby d19_17) rfl rfl (XS.iloadN X20.here hx rfl (hb hby d19_18) rfl (kk)))))) ?_
  show Dn p e below s _ _ _ (T20.setTop (mkF m 19 #[vr a, vi 1, vi 4, vr bb1, vi 1] [(.int 1), (.ref a), (.int 1), (.ref bb1)]))
  have Vc_a_19_2 := V_a_20
  obtain ⟨cl_a_19_2, Ar_a_19_2, q_a_19_2, S_a_19_2, N_a_19_2, H_a_19_2, G_a_19_2⟩ := Vc_a_19_2
  have hin19_2 : ¬ ((1 : Int32) < 0 ∨ cl_a_19_2.slots.size ≤ ((1 : Int32)).toNatClampNeg) := inb_of S_a_19_2 ⟨by decide, by decide⟩
  have hat19_2 : cl_a_19_2.slots[((1 : Int32)).toNatClampNeg]? = some (.int y1) := H_a_19_2.at hin19_2 rfl
  refine Dn.st (fun _ kk => X20.caload hx (j := (1 : Int32)) (v := (.int y1)) Ar_a_19_2.1 (State.isArrayOf_alike hZ.alike Ar_a_19_2.2.1) Ar_a_19_2.2.2 hin19_2 hat19_2 (g := (mkF m 19 #[vr a, vi 1, vi 4, vr bb1, vi 1] [(.int 1), (.ref a), (.int 1), (.ref bb1)])) rfl rfl (hb hby d19_19) _ (kk)) ?_
  show Dn p e below s _ _ _ (T20.setTop (mkF m 20 #[vr a, vi 1, vi 4, vr bb1, vi 1] [(.int y1), (.int 1), (.ref bb1)]))
  obtain ⟨_, _, ⟨T20_2, L20_2, k20_2, n20_2⟩, -, X20_2, ⟨Lc20_2, hQ20_2, l20_2, y20_2, z20_2⟩, st20_2⟩ := Jvm.LawKit.callS X20 hx (y := on1) hown (mvT hZ (tw hw 96 rfl)) (mvT hZ (tw hw 97 rfl)) (mvT hZ (tw hw 50 rfl)) (mvT hZ (tw hw 98 rfl)) (by decide) (backOf (W := 0) (rmPu4_1 l Z a0 hw [] bb1 y1 cs sf kb1 (own_lo y0) (own_hi y0) (0 : Int32) (0 : Int32) (0 : Int32) (0 : Int32) (0 : Int32) (0 : Int32) T20.heap n0 Z20 Wo20 gn_bb1 V20) hZ (tw hw 98 rfl) (tw hw 50 rfl) (by decide) (by decide)) (g := (mkF m 20 #[vr a, vi 1, vi 4, vr bb1, vi 1] [(.int y1), (.int 1), (.ref bb1)])) rfl (by rw [hml]; rfl) (argsL := [(.ref bb1), (.int 1), (.int y1)]) (rest := []) (lenOf pd10 rfl) rfl (by show 2 * 0 + _ ≤ _; exact Nat.le_of_eq rfl) (hb hby d19_20) (fun _ _ => ⟨rfl, rfl, (by decide : 1 + 0 ≤ _), (by decide : 8 + 0 ≤ _)⟩)
  dsimp only [Pt.U, Pt.locs, Pt.cells, Pt.slots] at X20_2 l20_2 y20_2 z20_2 st20_2 hQ20_2
  subst l20_2 y20_2 z20_2
  obtain ⟨rfl, Nq20_2, K20_2, V20_2⟩ := hQ20_2
  have N20_2 := Fr.app N20 Nq20_2
  refine Dn.st st20_2 ?_
  have Wo20_2 := Wo20.keep K20_2 (own_k1 gn_bb1)
  have V_a_20_2 := V_a_20.keep K20_2 (ninS ne_a_bb1 nin0)
  have Kt20_2 := Keep.trans Kt20 K20_2 (fun x hx => Or.inr ((List.mem_singleton.mp hx) ▸ gz_bb1))
  have Z20_2 : n0 ≤ T20_2.heap.size := Nat.le_trans Z20 K20_2.1
  show Dn p e below s _ _ _ (T20_2.setTop (mkF m 23 #[vr a, vi 1, vi 4, vr bb1, vi 1] []))
  refine Dn.st (fun _ kk => XS.iinc X20_2.here hx rfl (hb hby d19_23) rfl (l' := #[vr a, vi 2, vi 4, vr bb1, vi 1]) rfl (XS.iinc X20_2.here hx rfl (hb hby d19_26) rfl (l' := #[vr a, vi 2, vi 4, vr bb1, vi 2]) rfl (XS.goto X20_2.here hx rfl (pc0 := 29) (pc' := 8) rfl (hb hby d19_29) (by decide) (by decide) (XS.iload X20_2.here hx rfl (hb hby d19_8) rfl (XS.iloadN X20_2.here hx rfl (hb hby d19_10) rfl (kk)))))) ?_
  show Dn p e below s _ _ _ (T20_2.setTop (mkF m 11 #[vr a, vi 2, vi 4, vr bb1, vi 2] [(.int 4), (.int 2)]))
  have hc11_3 : (2 : Int32) < (4 : Int32) := by decide
  refine Dn.st (fun _ kk => XS.icmpNo X20_2.here hx rfl (hb hby d19_11) rfl (tlt hc11_3).2.1 (XS.aloadN X20_2.here hx rfl (hb hby d19_14) rfl rfl (XS.iload X20_2.here hx rfl (hb hby d19_15) rfl (XS.aloadN X20_2.here hx rfl (hb hby d19_17) rfl rfl (XS.iloadN X20_2.here hx rfl (hb hby d19_18) rfl (kk)))))) ?_
  show Dn p e below s _ _ _ (T20_2.setTop (mkF m 19 #[vr a, vi 2, vi 4, vr bb1, vi 2] [(.int 2), (.ref a), (.int 2), (.ref bb1)]))
  have Vc_a_19_3 := V_a_20_2
  obtain ⟨cl_a_19_3, Ar_a_19_3, q_a_19_3, S_a_19_3, N_a_19_3, H_a_19_3, G_a_19_3⟩ := Vc_a_19_3
  have hin19_3 : ¬ ((2 : Int32) < 0 ∨ cl_a_19_3.slots.size ≤ ((2 : Int32)).toNatClampNeg) := inb_of S_a_19_3 ⟨by decide, by decide⟩
  have hat19_3 : cl_a_19_3.slots[((2 : Int32)).toNatClampNeg]? = some (.int y2) := H_a_19_3.at hin19_3 rfl
  refine Dn.st (fun _ kk => X20_2.caload hx (j := (2 : Int32)) (v := (.int y2)) Ar_a_19_3.1 (State.isArrayOf_alike hZ.alike Ar_a_19_3.2.1) Ar_a_19_3.2.2 hin19_3 hat19_3 (g := (mkF m 19 #[vr a, vi 2, vi 4, vr bb1, vi 2] [(.int 2), (.ref a), (.int 2), (.ref bb1)])) rfl rfl (hb hby d19_19) _ (kk)) ?_
  show Dn p e below s _ _ _ (T20_2.setTop (mkF m 20 #[vr a, vi 2, vi 4, vr bb1, vi 2] [(.int y2), (.int 2), (.ref bb1)]))
  obtain ⟨_, _, ⟨T20_3, L20_3, k20_3, n20_3⟩, -, X20_3, ⟨Lc20_3, hQ20_3, l20_3, y20_3, z20_3⟩, st20_3⟩ := Jvm.LawKit.callS X20_2 hx (y := on1) hown (mvT hZ (tw hw 96 rfl)) (mvT hZ (tw hw 97 rfl)) (mvT hZ (tw hw 50 rfl)) (mvT hZ (tw hw 98 rfl)) (by decide) (backOf (W := 0) (rmPu4_2 l Z a0 hw [] bb1 y2 cs sf kb1 (own_lo y0) (own_hi y0) (own_lo y1) (own_hi y1) (0 : Int32) (0 : Int32) (0 : Int32) (0 : Int32) T20_2.heap n0 Z20_2 Wo20_2 gn_bb1 V20_2) hZ (tw hw 98 rfl) (tw hw 50 rfl) (by decide) (by decide)) (g := (mkF m 20 #[vr a, vi 2, vi 4, vr bb1, vi 2] [(.int y2), (.int 2), (.ref bb1)])) rfl (by rw [hml]; rfl) (argsL := [(.ref bb1), (.int 2), (.int y2)]) (rest := []) (lenOf pd10 rfl) rfl (by show 2 * 0 + _ ≤ _; exact Nat.le_of_eq rfl) (hb hby d19_20) (fun _ _ => ⟨rfl, rfl, (by decide : 1 + 0 ≤ _), (by decide : 8 + 0 ≤ _)⟩)
  dsimp only [Pt.U, Pt.locs, Pt.cells, Pt.slots] at X20_3 l20_3 y20_3 z20_3 st20_3 hQ20_3
  subst l20_3 y20_3 z20_3
  obtain ⟨rfl, Nq20_3, K20_3, V20_3⟩ := hQ20_3
  have N20_3 := Fr.app N20_2 Nq20_3
  refine Dn.st st20_3 ?_
  have Wo20_3 := Wo20_2.keep K20_3 (own_k1 gn_bb1)
  have V_a_20_3 := V_a_20_2.keep K20_3 (ninS ne_a_bb1 nin0)
  have Kt20_3 := Keep.trans Kt20_2 K20_3 (fun x hx => Or.inr ((List.mem_singleton.mp hx) ▸ gz_bb1))
  have Z20_3 : n0 ≤ T20_3.heap.size := Nat.le_trans Z20_2 K20_3.1
  show Dn p e below s _ _ _ (T20_3.setTop (mkF m 23 #[vr a, vi 2, vi 4, vr bb1, vi 2] []))
  refine Dn.st (fun _ kk => XS.iinc X20_3.here hx rfl (hb hby d19_23) rfl (l' := #[vr a, vi 3, vi 4, vr bb1, vi 2]) rfl (XS.iinc X20_3.here hx rfl (hb hby d19_26) rfl (l' := #[vr a, vi 3, vi 4, vr bb1, vi 3]) rfl (XS.goto X20_3.here hx rfl (pc0 := 29) (pc' := 8) rfl (hb hby d19_29) (by decide) (by decide) (XS.iload X20_3.here hx rfl (hb hby d19_8) rfl (XS.iloadN X20_3.here hx rfl (hb hby d19_10) rfl (kk)))))) ?_
  show Dn p e below s _ _ _ (T20_3.setTop (mkF m 11 #[vr a, vi 3, vi 4, vr bb1, vi 3] [(.int 4), (.int 3)]))
  have hc11_4 : (3 : Int32) < (4 : Int32) := by decide
  refine Dn.st (fun _ kk => XS.icmpNo X20_3.here hx rfl (hb hby d19_11) rfl (tlt hc11_4).2.1 (XS.aloadN X20_3.here hx rfl (hb hby d19_14) rfl rfl (XS.iload X20_3.here hx rfl (hb hby d19_15) rfl (XS.aloadN X20_3.here hx rfl (hb hby d19_17) rfl rfl (XS.iloadN X20_3.here hx rfl (hb hby d19_18) rfl (kk)))))) ?_
  show Dn p e below s _ _ _ (T20_3.setTop (mkF m 19 #[vr a, vi 3, vi 4, vr bb1, vi 3] [(.int 3), (.ref a), (.int 3), (.ref bb1)]))
  have Vc_a_19_4 := V_a_20_3
  obtain ⟨cl_a_19_4, Ar_a_19_4, q_a_19_4, S_a_19_4, N_a_19_4, H_a_19_4, G_a_19_4⟩ := Vc_a_19_4
  have hin19_4 : ¬ ((3 : Int32) < 0 ∨ cl_a_19_4.slots.size ≤ ((3 : Int32)).toNatClampNeg) := inb_of S_a_19_4 ⟨by decide, by decide⟩
  have hat19_4 : cl_a_19_4.slots[((3 : Int32)).toNatClampNeg]? = some (.int y3) := H_a_19_4.at hin19_4 rfl
  refine Dn.st (fun _ kk => X20_3.caload hx (j := (3 : Int32)) (v := (.int y3)) Ar_a_19_4.1 (State.isArrayOf_alike hZ.alike Ar_a_19_4.2.1) Ar_a_19_4.2.2 hin19_4 hat19_4 (g := (mkF m 19 #[vr a, vi 3, vi 4, vr bb1, vi 3] [(.int 3), (.ref a), (.int 3), (.ref bb1)])) rfl rfl (hb hby d19_19) _ (kk)) ?_
  show Dn p e below s _ _ _ (T20_3.setTop (mkF m 20 #[vr a, vi 3, vi 4, vr bb1, vi 3] [(.int y3), (.int 3), (.ref bb1)]))
  obtain ⟨_, _, ⟨T20_4, L20_4, k20_4, n20_4⟩, -, X20_4, ⟨Lc20_4, hQ20_4, l20_4, y20_4, z20_4⟩, st20_4⟩ := Jvm.LawKit.callS X20_3 hx (y := on1) hown (mvT hZ (tw hw 96 rfl)) (mvT hZ (tw hw 97 rfl)) (mvT hZ (tw hw 50 rfl)) (mvT hZ (tw hw 98 rfl)) (by decide) (backOf (W := 0) (rmPu4_3 l Z a0 hw [] bb1 y3 cs sf kb1 (own_lo y0) (own_hi y0) (own_lo y1) (own_hi y1) (own_lo y2) (own_hi y2) (0 : Int32) (0 : Int32) T20_3.heap n0 Z20_3 Wo20_3 gn_bb1 V20_3) hZ (tw hw 98 rfl) (tw hw 50 rfl) (by decide) (by decide)) (g := (mkF m 20 #[vr a, vi 3, vi 4, vr bb1, vi 3] [(.int y3), (.int 3), (.ref bb1)])) rfl (by rw [hml]; rfl) (argsL := [(.ref bb1), (.int 3), (.int y3)]) (rest := []) (lenOf pd10 rfl) rfl (by show 2 * 0 + _ ≤ _; exact Nat.le_of_eq rfl) (hb hby d19_20) (fun _ _ => ⟨rfl, rfl, (by decide : 1 + 0 ≤ _), (by decide : 8 + 0 ≤ _)⟩)
  dsimp only [Pt.U, Pt.locs, Pt.cells, Pt.slots] at X20_4 l20_4 y20_4 z20_4 st20_4 hQ20_4
  subst l20_4 y20_4 z20_4
  obtain ⟨rfl, Nq20_4, K20_4, V20_4⟩ := hQ20_4
  have N20_4 := Fr.app N20_3 Nq20_4
  refine Dn.st st20_4 ?_
  have Wo20_4 := Wo20_3.keep K20_4 (own_k1 gn_bb1)
  have V_a_20_4 := V_a_20_3.keep K20_4 (ninS ne_a_bb1 nin0)
  have Kt20_4 := Keep.trans Kt20_3 K20_4 (fun x hx => Or.inr ((List.mem_singleton.mp hx) ▸ gz_bb1))
  have Z20_4 : n0 ≤ T20_4.heap.size := Nat.le_trans Z20_3 K20_4.1
  show Dn p e below s _ _ _ (T20_4.setTop (mkF m 23 #[vr a, vi 3, vi 4, vr bb1, vi 3] []))
  refine Dn.st (fun _ kk => XS.iinc X20_4.here hx rfl (hb hby d19_23) rfl (l' := #[vr a, vi 4, vi 4, vr bb1, vi 3]) rfl (XS.iinc X20_4.here hx rfl (hb hby d19_26) rfl (l' := #[vr a, vi 4, vi 4, vr bb1, vi 4]) rfl (XS.goto X20_4.here hx rfl (pc0 := 29) (pc' := 8) rfl (hb hby d19_29) (by decide) (by decide) (XS.iload X20_4.here hx rfl (hb hby d19_8) rfl (XS.iloadN X20_4.here hx rfl (hb hby d19_10) rfl (kk)))))) ?_
  show Dn p e below s _ _ _ (T20_4.setTop (mkF m 11 #[vr a, vi 4, vi 4, vr bb1, vi 4] [(.int 4), (.int 4)]))
  have hc11_5 : ¬ ((4 : Int32) < (4 : Int32)) := by decide
  refine Dn.st (fun _ kk => XS.icmpYes X20_4.here hx rfl (pc0 := 11) (pc' := 32) rfl (hb hby d19_11) rfl (flt hc11_5).2.1 (by decide) (by decide) (XS.aloadN X20_4.here hx rfl (hb hby d19_32) rfl rfl (kk))) ?_
  show Dn p e below s _ _ _ (T20_4.setTop (mkF m 33 #[vr a, vi 4, vi 4, vr bb1, vi 4] [(.ref bb1)]))
  exact Dn.ret X20_4 hlk hx hret rfl (Or.inr (Or.inr (Or.inr (Or.inr ⟨rfl, rfl, rfl⟩)))) (hb hby d19_33) ⟨bb1, kb1, rfl, gz_bb1, N20_4, Kt20_4, V20_4⟩ (by decide) (by decide)

theorem ef10_rmC5_4 (m : MethodId) (x0 : Addr) (x1 : Int32) (x2 : Addr) (x3 : Int32) (x4 : Int32) : entryFrame m #[(.ref x0), (.int x1), (.ref x2), (.int x3), (.int x4)] 7 = mkF m 0 #[vr x0, vi x1, vr x2, vi x3, vi x4, .unset, .unset] [] := by first | (simp [entryFrame, mkF, argsToLocals, Value.category]; done) | rfl
def QC5_4 (Z : State) (a : Addr) (b : Addr) (ka kb : ClassId) (y0 : Int32) (y1 : Int32) (y2 : Int32) (y3 : Int32) (h0 : Heap) (n0 : Nat) (v : Option Value) (h : Heap) (L : List Loc) : Prop := Fr n0 L ∧ Keep h0 h [b] ∧ ((v = some (.int 0) ∧ 255 < y0.toInt) ∨ (v = some (.int 1) ∧ 255 < y1.toInt) ∨ (v = some (.int 2) ∧ 255 < y2.toInt) ∨ (v = some (.int 3) ∧ 255 < y3.toInt) ∨ (v = some (.int 4) ∧ (y0.toInt ≤ 255 ∧ y1.toInt ≤ 255 ∧ y2.toInt ≤ 255 ∧ y3.toInt ≤ 255 ∧ True) ∧ Arv Z h b kb .byte 4 [(.int (own_b y0)), (.int (own_b y1)), (.int (own_b y2)), (.int (own_b y3))] (.int 0)))
theorem rmC5_4 (l : Launch) (Z : State) (a0 : Array Value) (hw : ∀ d ∈ tables_1, d.before a0 Z = true) (ws : List Jvm.Cond) (a : Addr) (b : Addr) (ka kb : ClassId) (y0 : Int32) (y1 : Int32) (y2 : Int32) (y3 : Int32) (h0 : Heap) (n0 : Nat) (Z0 : n0 ≤ h0.size) (Va : Arv Z h0 a ka .char 4 [(.int y0), (.int y1), (.int y2), (.int y3)] (.int 0)) (Vb : Arv Z h0 b kb .byte 4 [(.int 0), (.int 0), (.int 0), (.int 0)] (.int 0)) (gb : n0 ≤ b) (hne : a ≠ b) :
    own_Met l on18 (Jvm.Cond.code on18 jdk_52_method_21_code 7 (some .int) :: ws) orm25 #[(.ref a), (.int 0), (.ref b), (.int 0), (.int 4)] Z h0 (QC5_4 Z a b ka kb y0 y1 y2 y3 h0 n0) := by
  refine MetFree.of_bodySF (plainFor_of_name pn2) hisR ?_
  intro p e s m args below meth c s₁ Bd hml0 hP hK
  obtain ⟨rfl, hZ, hh⟩ := hP
  have hx := Bd.exec
  have hby := Bd.bytes
  have hlk : meth.locks = false := BodyLoose.notSynchronized Bd
  have hret := Bd.returns
  have hml : c.maxLocals = 7 := hml0
  have hown : s.vm.findClass "java/lang/StringUTF16" = some m.cls := findClass_of_methodNamed Bd.named
  have X0 : Stand p l e orm25 s m #[(.ref a), (.int 0), (.ref b), (.int 0), (.int 4)] below meth c s₁ [] 0 0 := Stand.of_body Bd
  have e0 : s₁.heap = h0 := by rw [← hh, Bd.state]; rfl
  have N0 := Fr.nil n0
  show Dn p e below s (QC5_4 Z a b ka kb y0 y1 y2 y3 h0 n0) orm25.cells orm25.slots (s₁.setTop (entryFrame m #[(.ref a), (.int 0), (.ref b), (.int 0), (.int 4)] 7))
  refine Dn.st (fun _ kk => castTop (ef10_rmC5_4 m a (0 : Int32) b (0 : Int32) (4 : Int32)) kk) ?_
  show Dn p e below s _ _ _ (s₁.setTop (mkF m 0 #[vr a, vi 0, vr b, vi 0, vi 4, .unset, .unset] []))
  refine Dn.st (fun _ kk => XS.iconst X0.here hx rfl (hb hby d10_0) (XS.istore X0.here hx rfl (hb hby d10_1) rfl (l' := #[vr a, vi 0, vr b, vi 0, vi 4, vi 0, .unset]) rfl (XS.iload X0.here hx rfl (hb hby d10_3) rfl (XS.iload X0.here hx rfl (hb hby d10_5) rfl (kk))))) ?_
  show Dn p e below s _ _ _ (s₁.setTop (mkF m 7 #[vr a, vi 0, vr b, vi 0, vi 4, vi 0, .unset] [(.int 4), (.int 0)]))
  have hc7 : (0 : Int32) < (4 : Int32) := by decide
  refine Dn.st (fun _ kk => XS.icmpNo X0.here hx rfl (hb hby d10_7) rfl (tlt hc7).2.1 (XS.aloadN X0.here hx rfl (hb hby d10_10) rfl rfl (XS.iloadN X0.here hx rfl (hb hby d10_11) rfl (kk)))) ?_
  show Dn p e below s _ _ _ (s₁.setTop (mkF m 12 #[vr a, vi 0, vr b, vi 0, vi 4, vi 0, .unset] [(.int 0), (.ref a)]))
  have Vc_a_12 := Va
  obtain ⟨cl_a_12, Ar_a_12, q_a_12, S_a_12, N_a_12, H_a_12, G_a_12⟩ := Vc_a_12
  have hin12 : ¬ ((0 : Int32) < 0 ∨ cl_a_12.slots.size ≤ ((0 : Int32)).toNatClampNeg) := inb_of S_a_12 ⟨by decide, by decide⟩
  have hat12 : cl_a_12.slots[((0 : Int32)).toNatClampNeg]? = some (.int y0) := H_a_12.at hin12 rfl
  refine Dn.st (fun _ kk => X0.caload hx (j := (0 : Int32)) (v := (.int y0)) (by rw [e0]; exact Ar_a_12.1) (State.isArrayOf_alike hZ.alike Ar_a_12.2.1) Ar_a_12.2.2 hin12 hat12 (g := (mkF m 12 #[vr a, vi 0, vr b, vi 0, vi 4, vi 0, .unset] [(.int 0), (.ref a)])) rfl rfl (hb hby d10_12) _ (XS.istore X0.here hx rfl (hb hby d10_13) rfl (l' := #[vr a, vi 0, vr b, vi 0, vi 4, vi 0, vi y0]) rfl (XS.iload X0.here hx rfl (hb hby d10_15) rfl (XS.sipush X0.here hx rfl (hb hby d10_17) (kk))))) ?_
  show Dn p e below s _ _ _ (s₁.setTop (mkF m 20 #[vr a, vi 0, vr b, vi 0, vi 4, vi 0, vi y0] [(.int 255), (.int y0)]))
  by_cases hc20 : (255 : Int32) < y0
  · have hi20 : 255 < y0.toInt := Int32.lt_iff_toInt_lt.mp hc20
    refine Dn.st (fun _ kk => XS.icmpNo X0.here hx rfl (hb hby d10_20) rfl (tlt hc20).2.2.2 (XS.iload X0.here hx rfl (hb hby d10_23) rfl (kk))) ?_
    show Dn p e below s _ _ _ (s₁.setTop (mkF m 25 #[vr a, vi 0, vr b, vi 0, vi 4, vi 0, vi y0] [(.int 0)]))
    exact Dn.ret X0 hlk hx hret rfl (Or.inl ⟨rfl, Or.inl rfl, _, rfl⟩) (hb hby d10_25) (by rw [e0]; exact ⟨N0, (Keep.refl h0 [b]), (Or.inl ⟨rfl, hi20⟩)⟩) (by decide) (by decide)
  · have hi20 : ¬ 255 < y0.toInt := fun qq => hc20 (Int32.lt_iff_toInt_lt.mpr qq)
    refine Dn.st (fun _ kk => XS.icmpYes X0.here hx rfl (pc0 := 20) (pc' := 26) rfl (hb hby d10_20) rfl (flt hc20).2.2.2 (by decide) (by decide) (XS.aloadN X0.here hx rfl (hb hby d10_26) rfl rfl (XS.iloadN X0.here hx rfl (hb hby d10_27) rfl (XS.iload X0.here hx rfl (hb hby d10_28) rfl (XS.i2b X0.here hx rfl (hb hby d10_30) rfl (kk)))))) ?_
    show Dn p e below s _ _ _ (s₁.setTop (mkF m 31 #[vr a, vi 0, vr b, vi 0, vi 4, vi 0, vi y0] [(.int (y0.toInt8.toInt32)), (.int 0), (.ref b)]))
    have Vc_b_31 := Vb
    obtain ⟨cl_b_31, Ar_b_31, q_b_31, S_b_31, N_b_31, H_b_31, G_b_31⟩ := Vc_b_31
    have hin31 : ¬ ((0 : Int32) < 0 ∨ cl_b_31.slots.size ≤ ((0 : Int32)).toNatClampNeg) := inb_of S_b_31 ⟨by decide, by decide⟩
    obtain ⟨T31, h31, X31, e31, W31, st31⟩ := stB X0 hx hZ e0 Ar_b_31 (j := (0 : Int32)) hin31 (g := (mkF m 31 #[vr a, vi 0, vr b, vi 0, vi 4, vi 0, vi y0] [(.int (y0.toInt8.toInt32)), (.int 0), (.ref b)])) rfl rfl (hb hby d10_31)
    have V_a_31 := Va.other W31 hne
    have V_b_31 := Arv.set Ar_b_31 q_b_31 S_b_31 N_b_31 H_b_31 G_b_31 (fits_nar_byte _) W31 0 rfl (Nat.le_of_ble_eq_true rfl)
    have K31 := (Keep.refl h0 [b]).wr W31 (Or.inl (List.mem_of_getElem? (i := 0) rfl))
    have N31 := Fr.snoc X31 N0 gb
    have Z31 : n0 ≤ h31.size := Nat.le_trans Z0 (Keep.of_wr W31).1
    refine Dn.st st31 ?_
    show Dn p e below s _ _ _ (T31.setTop (mkF m 32 #[vr a, vi 0, vr b, vi 0, vi 4, vi 0, vi y0] []))
    refine Dn.st (fun _ kk => XS.iinc X31.here hx rfl (hb hby d10_32) rfl (l' := #[vr a, vi 1, vr b, vi 0, vi 4, vi 0, vi y0]) rfl (XS.iinc X31.here hx rfl (hb hby d10_35) rfl (l' := #[vr a, vi 1, vr b, vi 1, vi 4, vi 0, vi y0]) rfl (XS.iinc X31.here hx rfl (hb hby d10_38) rfl (l' := #[vr a, vi 1, vr b, vi 1, vi 4, vi 1, vi y0]) rfl (XS.goto X31.here hx rfl (pc0 := 41) (pc' := 3) rfl (hb hby d10_41) (by decide) (by decide) (XS.iload X31.here hx rfl (hb hby d10_3) rfl (XS.iload X31.here hx rfl (hb hby d10_5) rfl (kk))))))) ?_
    show Dn p e below s _ _ _ (T31.setTop (mkF m 7 #[vr a, vi 1, vr b, vi 1, vi 4, vi 1, vi y0] [(.int 4), (.int 1)]))
    have hc7_2 : (1 : Int32) < (4 : Int32) := by decide
    refine Dn.st (fun _ kk => XS.icmpNo X31.here hx rfl (hb hby d10_7) rfl (tlt hc7_2).2.1 (XS.aloadN X31.here hx rfl (hb hby d10_10) rfl rfl (XS.iloadN X31.here hx rfl (hb hby d10_11) rfl (kk)))) ?_
    show Dn p e below s _ _ _ (T31.setTop (mkF m 12 #[vr a, vi 1, vr b, vi 1, vi 4, vi 1, vi y0] [(.int 1), (.ref a)]))
    have Vc_a_12_2 := V_a_31
    obtain ⟨cl_a_12_2, Ar_a_12_2, q_a_12_2, S_a_12_2, N_a_12_2, H_a_12_2, G_a_12_2⟩ := Vc_a_12_2
    have hin12_2 : ¬ ((1 : Int32) < 0 ∨ cl_a_12_2.slots.size ≤ ((1 : Int32)).toNatClampNeg) := inb_of S_a_12_2 ⟨by decide, by decide⟩
    have hat12_2 : cl_a_12_2.slots[((1 : Int32)).toNatClampNeg]? = some (.int y1) := H_a_12_2.at hin12_2 rfl
    refine Dn.st (fun _ kk => X31.caload hx (j := (1 : Int32)) (v := (.int y1)) (by rw [e31]; exact Ar_a_12_2.1) (State.isArrayOf_alike hZ.alike Ar_a_12_2.2.1) Ar_a_12_2.2.2 hin12_2 hat12_2 (g := (mkF m 12 #[vr a, vi 1, vr b, vi 1, vi 4, vi 1, vi y0] [(.int 1), (.ref a)])) rfl rfl (hb hby d10_12) _ (XS.istore X31.here hx rfl (hb hby d10_13) rfl (l' := #[vr a, vi 1, vr b, vi 1, vi 4, vi 1, vi y1]) rfl (XS.iload X31.here hx rfl (hb hby d10_15) rfl (XS.sipush X31.here hx rfl (hb hby d10_17) (kk))))) ?_
    show Dn p e below s _ _ _ (T31.setTop (mkF m 20 #[vr a, vi 1, vr b, vi 1, vi 4, vi 1, vi y1] [(.int 255), (.int y1)]))
    by_cases hc20_2 : (255 : Int32) < y1
    · have hi20_2 : 255 < y1.toInt := Int32.lt_iff_toInt_lt.mp hc20_2
      refine Dn.st (fun _ kk => XS.icmpNo X31.here hx rfl (hb hby d10_20) rfl (tlt hc20_2).2.2.2 (XS.iload X31.here hx rfl (hb hby d10_23) rfl (kk))) ?_
      show Dn p e below s _ _ _ (T31.setTop (mkF m 25 #[vr a, vi 1, vr b, vi 1, vi 4, vi 1, vi y1] [(.int 1)]))
      exact Dn.ret X31 hlk hx hret rfl (Or.inl ⟨rfl, Or.inl rfl, _, rfl⟩) (hb hby d10_25) (by rw [e31]; exact ⟨N31, K31, (Or.inr (Or.inl ⟨rfl, hi20_2⟩))⟩) (by decide) (by decide)
    · have hi20_2 : ¬ 255 < y1.toInt := fun qq => hc20_2 (Int32.lt_iff_toInt_lt.mpr qq)
      refine Dn.st (fun _ kk => XS.icmpYes X31.here hx rfl (pc0 := 20) (pc' := 26) rfl (hb hby d10_20) rfl (flt hc20_2).2.2.2 (by decide) (by decide) (XS.aloadN X31.here hx rfl (hb hby d10_26) rfl rfl (XS.iloadN X31.here hx rfl (hb hby d10_27) rfl (XS.iload X31.here hx rfl (hb hby d10_28) rfl (XS.i2b X31.here hx rfl (hb hby d10_30) rfl (kk)))))) ?_
      show Dn p e below s _ _ _ (T31.setTop (mkF m 31 #[vr a, vi 1, vr b, vi 1, vi 4, vi 1, vi y1] [(.int (y1.toInt8.toInt32)), (.int 1), (.ref b)]))
      have Vc_b_31_2 := V_b_31
      obtain ⟨cl_b_31_2, Ar_b_31_2, q_b_31_2, S_b_31_2, N_b_31_2, H_b_31_2, G_b_31_2⟩ := Vc_b_31_2
      have hin31_2 : ¬ ((1 : Int32) < 0 ∨ cl_b_31_2.slots.size ≤ ((1 : Int32)).toNatClampNeg) := inb_of S_b_31_2 ⟨by decide, by decide⟩
      obtain ⟨T31_2, h31_2, X31_2, e31_2, W31_2, st31_2⟩ := stB X31 hx hZ e31 Ar_b_31_2 (j := (1 : Int32)) hin31_2 (g := (mkF m 31 #[vr a, vi 1, vr b, vi 1, vi 4, vi 1, vi y1] [(.int (y1.toInt8.toInt32)), (.int 1), (.ref b)])) rfl rfl (hb hby d10_31)
      have V_a_31_2 := V_a_31.other W31_2 hne
      have V_b_31_2 := Arv.set Ar_b_31_2 q_b_31_2 S_b_31_2 N_b_31_2 H_b_31_2 G_b_31_2 (fits_nar_byte _) W31_2 1 rfl (Nat.le_of_ble_eq_true rfl)
      have K31_2 := K31.wr W31_2 (Or.inl (List.mem_of_getElem? (i := 0) rfl))
      have N31_2 := Fr.snoc X31_2 N31 gb
      have Z31_2 : n0 ≤ h31_2.size := Nat.le_trans Z31 (Keep.of_wr W31_2).1
      refine Dn.st st31_2 ?_
      show Dn p e below s _ _ _ (T31_2.setTop (mkF m 32 #[vr a, vi 1, vr b, vi 1, vi 4, vi 1, vi y1] []))
      refine Dn.st (fun _ kk => XS.iinc X31_2.here hx rfl (hb hby d10_32) rfl (l' := #[vr a, vi 2, vr b, vi 1, vi 4, vi 1, vi y1]) rfl (XS.iinc X31_2.here hx rfl (hb hby d10_35) rfl (l' := #[vr a, vi 2, vr b, vi 2, vi 4, vi 1, vi y1]) rfl (XS.iinc X31_2.here hx rfl (hb hby d10_38) rfl (l' := #[vr a, vi 2, vr b, vi 2, vi 4, vi 2, vi y1]) rfl (XS.goto X31_2.here hx rfl (pc0 := 41) (pc' := 3) rfl (hb hby d10_41) (by decide) (by decide) (XS.iload X31_2.here hx rfl (hb hby d10_3) rfl (XS.iload X31_2.here hx rfl (hb hby d10_5) rfl (kk))))))) ?_
      show Dn p e below s _ _ _ (T31_2.setTop (mkF m 7 #[vr a, vi 2, vr b, vi 2, vi 4, vi 2, vi y1] [(.int 4), (.int 2)]))
      have hc7_3 : (2 : Int32) < (4 : Int32) := by decide
      refine Dn.st (fun _ kk => XS.icmpNo X31_2.here hx rfl (hb hby d10_7) rfl (tlt hc7_3).2.1 (XS.aloadN X31_2.here hx rfl (hb hby d10_10) rfl rfl (XS.iloadN X31_2.here hx rfl (hb hby d10_11) rfl (kk)))) ?_
      show Dn p e below s _ _ _ (T31_2.setTop (mkF m 12 #[vr a, vi 2, vr b, vi 2, vi 4, vi 2, vi y1] [(.int 2), (.ref a)]))
      have Vc_a_12_3 := V_a_31_2
      obtain ⟨cl_a_12_3, Ar_a_12_3, q_a_12_3, S_a_12_3, N_a_12_3, H_a_12_3, G_a_12_3⟩ := Vc_a_12_3
      have hin12_3 : ¬ ((2 : Int32) < 0 ∨ cl_a_12_3.slots.size ≤ ((2 : Int32)).toNatClampNeg) := inb_of S_a_12_3 ⟨by decide, by decide⟩
      have hat12_3 : cl_a_12_3.slots[((2 : Int32)).toNatClampNeg]? = some (.int y2) := H_a_12_3.at hin12_3 rfl
      refine Dn.st (fun _ kk => X31_2.caload hx (j := (2 : Int32)) (v := (.int y2)) (by rw [e31_2]; exact Ar_a_12_3.1) (State.isArrayOf_alike hZ.alike Ar_a_12_3.2.1) Ar_a_12_3.2.2 hin12_3 hat12_3 (g := (mkF m 12 #[vr a, vi 2, vr b, vi 2, vi 4, vi 2, vi y1] [(.int 2), (.ref a)])) rfl rfl (hb hby d10_12) _ (XS.istore X31_2.here hx rfl (hb hby d10_13) rfl (l' := #[vr a, vi 2, vr b, vi 2, vi 4, vi 2, vi y2]) rfl (XS.iload X31_2.here hx rfl (hb hby d10_15) rfl (XS.sipush X31_2.here hx rfl (hb hby d10_17) (kk))))) ?_
      show Dn p e below s _ _ _ (T31_2.setTop (mkF m 20 #[vr a, vi 2, vr b, vi 2, vi 4, vi 2, vi y2] [(.int 255), (.int y2)]))
      by_cases hc20_3 : (255 : Int32) < y2
      · have hi20_3 : 255 < y2.toInt := Int32.lt_iff_toInt_lt.mp hc20_3
        refine Dn.st (fun _ kk => XS.icmpNo X31_2.here hx rfl (hb hby d10_20) rfl (tlt hc20_3).2.2.2 (XS.iload X31_2.here hx rfl (hb hby d10_23) rfl (kk))) ?_
        show Dn p e below s _ _ _ (T31_2.setTop (mkF m 25 #[vr a, vi 2, vr b, vi 2, vi 4, vi 2, vi y2] [(.int 2)]))
        exact Dn.ret X31_2 hlk hx hret rfl (Or.inl ⟨rfl, Or.inl rfl, _, rfl⟩) (hb hby d10_25) (by rw [e31_2]; exact ⟨N31_2, K31_2, (Or.inr (Or.inr (Or.inl ⟨rfl, hi20_3⟩)))⟩) (by decide) (by decide)
      · have hi20_3 : ¬ 255 < y2.toInt := fun qq => hc20_3 (Int32.lt_iff_toInt_lt.mpr qq)
        refine Dn.st (fun _ kk => XS.icmpYes X31_2.here hx rfl (pc0 := 20) (pc' := 26) rfl (hb hby d10_20) rfl (flt hc20_3).2.2.2 (by decide) (by decide) (XS.aloadN X31_2.here hx rfl (hb hby d10_26) rfl rfl (XS.iloadN X31_2.here hx rfl (hb hby d10_27) rfl (XS.iload X31_2.here hx rfl (hb hby d10_28) rfl (XS.i2b X31_2.here hx rfl (hb hby d10_30) rfl (kk)))))) ?_
        show Dn p e below s _ _ _ (T31_2.setTop (mkF m 31 #[vr a, vi 2, vr b, vi 2, vi 4, vi 2, vi y2] [(.int (y2.toInt8.toInt32)), (.int 2), (.ref b)]))
        have Vc_b_31_3 := V_b_31_2
        obtain ⟨cl_b_31_3, Ar_b_31_3, q_b_31_3, S_b_31_3, N_b_31_3, H_b_31_3, G_b_31_3⟩ := Vc_b_31_3
        have hin31_3 : ¬ ((2 : Int32) < 0 ∨ cl_b_31_3.slots.size ≤ ((2 : Int32)).toNatClampNeg) := inb_of S_b_31_3 ⟨by decide, by decide⟩
        obtain ⟨T31_3, h31_3, X31_3, e31_3, W31_3, st31_3⟩ := stB X31_2 hx hZ e31_2 Ar_b_31_3 (j := (2 : Int32)) hin31_3 (g := (mkF m 31 #[vr a, vi 2, vr b, vi 2, vi 4, vi 2, vi y2] [(.int (y2.toInt8.toInt32)), (.int 2), (.ref b)])) rfl rfl (hb hby d10_31)
        have V_a_31_3 := V_a_31_2.other W31_3 hne
        have V_b_31_3 := Arv.set Ar_b_31_3 q_b_31_3 S_b_31_3 N_b_31_3 H_b_31_3 G_b_31_3 (fits_nar_byte _) W31_3 2 rfl (Nat.le_of_ble_eq_true rfl)
        have K31_3 := K31_2.wr W31_3 (Or.inl (List.mem_of_getElem? (i := 0) rfl))
        have N31_3 := Fr.snoc X31_3 N31_2 gb
        have Z31_3 : n0 ≤ h31_3.size := Nat.le_trans Z31_2 (Keep.of_wr W31_3).1
        refine Dn.st st31_3 ?_
        show Dn p e below s _ _ _ (T31_3.setTop (mkF m 32 #[vr a, vi 2, vr b, vi 2, vi 4, vi 2, vi y2] []))
        refine Dn.st (fun _ kk => XS.iinc X31_3.here hx rfl (hb hby d10_32) rfl (l' := #[vr a, vi 3, vr b, vi 2, vi 4, vi 2, vi y2]) rfl (XS.iinc X31_3.here hx rfl (hb hby d10_35) rfl (l' := #[vr a, vi 3, vr b, vi 3, vi 4, vi 2, vi y2]) rfl (XS.iinc X31_3.here hx rfl (hb hby d10_38) rfl (l' := #[vr a, vi 3, vr b, vi 3, vi 4, vi 3, vi y2]) rfl (XS.goto X31_3.here hx rfl (pc0 := 41) (pc' := 3) rfl (hb hby d10_41) (by decide) (by decide) (XS.iload X31_3.here hx rfl (hb hby d10_3) rfl (XS.iload X31_3.here hx rfl (hb hby d10_5) rfl (kk))))))) ?_
        show Dn p e below s _ _ _ (T31_3.setTop (mkF m 7 #[vr a, vi 3, vr b, vi 3, vi 4, vi 3, vi y2] [(.int 4), (.int 3)]))
        have hc7_4 : (3 : Int32) < (4 : Int32) := by decide
        refine Dn.st (fun _ kk => XS.icmpNo X31_3.here hx rfl (hb hby d10_7) rfl (tlt hc7_4).2.1 (XS.aloadN X31_3.here hx rfl (hb hby d10_10) rfl rfl (XS.iloadN X31_3.here hx rfl (hb hby d10_11) rfl (kk)))) ?_
        show Dn p e below s _ _ _ (T31_3.setTop (mkF m 12 #[vr a, vi 3, vr b, vi 3, vi 4, vi 3, vi y2] [(.int 3), (.ref a)]))
        have Vc_a_12_4 := V_a_31_3
        obtain ⟨cl_a_12_4, Ar_a_12_4, q_a_12_4, S_a_12_4, N_a_12_4, H_a_12_4, G_a_12_4⟩ := Vc_a_12_4
        have hin12_4 : ¬ ((3 : Int32) < 0 ∨ cl_a_12_4.slots.size ≤ ((3 : Int32)).toNatClampNeg) := inb_of S_a_12_4 ⟨by decide, by decide⟩
        have hat12_4 : cl_a_12_4.slots[((3 : Int32)).toNatClampNeg]? = some (.int y3) := H_a_12_4.at hin12_4 rfl
        refine Dn.st (fun _ kk => X31_3.caload hx (j := (3 : Int32)) (v := (.int y3)) (by rw [e31_3]; exact Ar_a_12_4.1) (State.isArrayOf_alike hZ.alike Ar_a_12_4.2.1) Ar_a_12_4.2.2 hin12_4 hat12_4 (g := (mkF m 12 #[vr a, vi 3, vr b, vi 3, vi 4, vi 3, vi y2] [(.int 3), (.ref a)])) rfl rfl (hb hby d10_12) _ (XS.istore X31_3.here hx rfl (hb hby d10_13) rfl (l' := #[vr a, vi 3, vr b, vi 3, vi 4, vi 3, vi y3]) rfl (XS.iload X31_3.here hx rfl (hb hby d10_15) rfl (XS.sipush X31_3.here hx rfl (hb hby d10_17) (kk))))) ?_
        show Dn p e below s _ _ _ (T31_3.setTop (mkF m 20 #[vr a, vi 3, vr b, vi 3, vi 4, vi 3, vi y3] [(.int 255), (.int y3)]))
        by_cases hc20_4 : (255 : Int32) < y3
        · have hi20_4 : 255 < y3.toInt := Int32.lt_iff_toInt_lt.mp hc20_4
          refine Dn.st (fun _ kk => XS.icmpNo X31_3.here hx rfl (hb hby d10_20) rfl (tlt hc20_4).2.2.2 (XS.iload X31_3.here hx rfl (hb hby d10_23) rfl (kk))) ?_
          show Dn p e below s _ _ _ (T31_3.setTop (mkF m 25 #[vr a, vi 3, vr b, vi 3, vi 4, vi 3, vi y3] [(.int 3)]))
          exact Dn.ret X31_3 hlk hx hret rfl (Or.inl ⟨rfl, Or.inl rfl, _, rfl⟩) (hb hby d10_25) (by rw [e31_3]; exact ⟨N31_3, K31_3, (Or.inr (Or.inr (Or.inr (Or.inl ⟨rfl, hi20_4⟩))))⟩) (by decide) (by decide)
        · have hi20_4 : ¬ 255 < y3.toInt := fun qq => hc20_4 (Int32.lt_iff_toInt_lt.mpr qq)
          refine Dn.st (fun _ kk => XS.icmpYes X31_3.here hx rfl (pc0 := 20) (pc' := 26) rfl (hb hby d10_20) rfl (flt hc20_4).2.2.2 (by decide) (by decide) (XS.aloadN X31_3.here hx rfl (hb hby d10_26) rfl rfl (XS.iloadN X31_3.here hx rfl (hb hby d10_27) rfl (XS.iload X31_3.here hx rfl (hb hby d10_28) rfl (XS.i2b X31_3.here hx rfl (hb hby d10_30) rfl (kk)))))) ?_
          show Dn p e below s _ _ _ (T31_3.setTop (mkF m 31 #[vr a, vi 3, vr b, vi 3, vi 4, vi 3, vi y3] [(.int (y3.toInt8.toInt32)), (.int 3), (.ref b)]))
          have Vc_b_31_4 := V_b_31_3
          obtain ⟨cl_b_31_4, Ar_b_31_4, q_b_31_4, S_b_31_4, N_b_31_4, H_b_31_4, G_b_31_4⟩ := Vc_b_31_4
          have hin31_4 : ¬ ((3 : Int32) < 0 ∨ cl_b_31_4.slots.size ≤ ((3 : Int32)).toNatClampNeg) := inb_of S_b_31_4 ⟨by decide, by decide⟩
          obtain ⟨T31_4, h31_4, X31_4, e31_4, W31_4, st31_4⟩ := stB X31_3 hx hZ e31_3 Ar_b_31_4 (j := (3 : Int32)) hin31_4 (g := (mkF m 31 #[vr a, vi 3, vr b, vi 3, vi 4, vi 3, vi y3] [(.int (y3.toInt8.toInt32)), (.int 3), (.ref b)])) rfl rfl (hb hby d10_31)
          have V_a_31_4 := V_a_31_3.other W31_4 hne
          have V_b_31_4 := Arv.set Ar_b_31_4 q_b_31_4 S_b_31_4 N_b_31_4 H_b_31_4 G_b_31_4 (fits_nar_byte _) W31_4 3 rfl (Nat.le_of_ble_eq_true rfl)
          have K31_4 := K31_3.wr W31_4 (Or.inl (List.mem_of_getElem? (i := 0) rfl))
          have N31_4 := Fr.snoc X31_4 N31_3 gb
          have Z31_4 : n0 ≤ h31_4.size := Nat.le_trans Z31_3 (Keep.of_wr W31_4).1
          refine Dn.st st31_4 ?_
          show Dn p e below s _ _ _ (T31_4.setTop (mkF m 32 #[vr a, vi 3, vr b, vi 3, vi 4, vi 3, vi y3] []))
          refine Dn.st (fun _ kk => XS.iinc X31_4.here hx rfl (hb hby d10_32) rfl (l' := #[vr a, vi 4, vr b, vi 3, vi 4, vi 3, vi y3]) rfl (XS.iinc X31_4.here hx rfl (hb hby d10_35) rfl (l' := #[vr a, vi 4, vr b, vi 4, vi 4, vi 3, vi y3]) rfl (XS.iinc X31_4.here hx rfl (hb hby d10_38) rfl (l' := #[vr a, vi 4, vr b, vi 4, vi 4, vi 4, vi y3]) rfl (XS.goto X31_4.here hx rfl (pc0 := 41) (pc' := 3) rfl (hb hby d10_41) (by decide) (by decide) (XS.iload X31_4.here hx rfl (hb hby d10_3) rfl (XS.iload X31_4.here hx rfl (hb hby d10_5) rfl (kk))))))) ?_
          show Dn p e below s _ _ _ (T31_4.setTop (mkF m 7 #[vr a, vi 4, vr b, vi 4, vi 4, vi 4, vi y3] [(.int 4), (.int 4)]))
          have hc7_5 : ¬ ((4 : Int32) < (4 : Int32)) := by decide
          refine Dn.st (fun _ kk => XS.icmpYes X31_4.here hx rfl (pc0 := 7) (pc' := 44) rfl (hb hby d10_7) rfl (flt hc7_5).2.1 (by decide) (by decide) (XS.iload X31_4.here hx rfl (hb hby d10_44) rfl (kk))) ?_
          show Dn p e below s _ _ _ (T31_4.setTop (mkF m 46 #[vr a, vi 4, vr b, vi 4, vi 4, vi 4, vi y3] [(.int 4)]))
          exact Dn.ret X31_4 hlk hx hret rfl (Or.inl ⟨rfl, Or.inl rfl, _, rfl⟩) (hb hby d10_46) (by rw [e31_4]; exact ⟨N31_4, K31_4, (Or.inr (Or.inr (Or.inr (Or.inr ⟨rfl, ⟨Int.not_lt.mp hi20, Int.not_lt.mp hi20_2, Int.not_lt.mp hi20_3, Int.not_lt.mp hi20_4, trivial⟩, V_b_31_4⟩))))⟩) (by decide) (by decide)

theorem ef9_rmC3_4 (m : MethodId) (x0 : Addr) (x1 : Int32) (x2 : Int32) : entryFrame m #[(.ref x0), (.int x1), (.int x2)] 6 = mkF m 0 #[vr x0, vi x1, vi x2, .unset, .unset, .unset] [] := by first | (simp [entryFrame, mkF, argsToLocals, Value.category]; done) | rfl
def QC3_4 (Z : State) (a : Addr) (cs : Int32) (sf : Value) (ka : ClassId) (y0 : Int32) (y1 : Int32) (y2 : Int32) (y3 : Int32) (h0 : Heap) (n0 : Nat) (v : Option Value) (h : Heap) (L : List Loc) : Prop := ∃ (b : Addr) (kb : ClassId), v = some (.ref b) ∧ h0.size ≤ b ∧ Fr n0 L ∧ Keep h0 h [] ∧ ((Arv Z h b kb .byte 4 [(.int (own_b y0)), (.int (own_b y1)), (.int (own_b y2)), (.int (own_b y3))] (.int 0) ∧ (y0.toInt ≤ 255 ∧ y1.toInt ≤ 255 ∧ y2.toInt ≤ 255 ∧ y3.toInt ≤ 255 ∧ True)) ∨ Arv Z h b kb .byte 8 [(.int (own_lo y0)), (.int (own_hi y0)), (.int (own_lo y1)), (.int (own_hi y1)), (.int (own_lo y2)), (.int (own_hi y2)), (.int (own_lo y3)), (.int (own_hi y3))] (.int 0))
theorem rmC3_4 (l : Launch) (Z : State) (a0 : Array Value) (hw : ∀ d ∈ tables_1, d.before a0 Z = true) (ws : List Jvm.Cond) (a : Addr) (cs : Int32) (sf : Value) (ka : ClassId) (y0 : Int32) (y1 : Int32) (y2 : Int32) (y3 : Int32) (h0 : Heap) (n0 : Nat) (Z0 : n0 ≤ h0.size) (hW : own_W Z h0 n0 cs sf) (Va : Arv Z h0 a ka .char 4 [(.int y0), (.int y1), (.int y2), (.int y3)] (.int 0)) (hr0 : 0 ≤ y0.toInt ∧ y0.toInt ≤ 65535) (hr1 : 0 ≤ y1.toInt ∧ y1.toInt ≤ 65535) (hr2 : 0 ≤ y2.toInt ∧ y2.toInt ≤ 65535) (hr3 : 0 ≤ y3.toInt ∧ y3.toInt ≤ 65535) :
    own_Met l on12 (Jvm.Cond.code on12 jdk_52_method_16_code 6 (some (.array .byte)) :: ws) orm34 #[(.ref a), (.int 0), (.int 4)] Z h0 (QC3_4 Z a cs sf ka y0 y1 y2 y3 h0 n0) := by
  refine MetFree.of_bodySF (plainFor_of_name pn2) hisR ?_
  intro p e s m args below meth c s₁ Bd hml0 hP hK
  obtain ⟨rfl, hZ, hh⟩ := hP
  have hx := Bd.exec
  have hby := Bd.bytes
  have hlk : meth.locks = false := BodyLoose.notSynchronized Bd
  have hret := Bd.returns
  have hml : c.maxLocals = 6 := hml0
  have hown : s.vm.findClass "java/lang/StringUTF16" = some m.cls := findClass_of_methodNamed Bd.named
  have X0 : Stand p l e orm34 s m #[(.ref a), (.int 0), (.int 4)] below meth c s₁ [] 0 0 := Stand.of_body Bd
  have e0 : s₁.heap = h0 := by rw [← hh, Bd.state]; rfl
  have N0 := Fr.nil n0
  show Dn p e below s (QC3_4 Z a cs sf ka y0 y1 y2 y3 h0 n0) orm34.cells orm34.slots (s₁.setTop (entryFrame m #[(.ref a), (.int 0), (.int 4)] 6))
  refine Dn.st (fun _ kk => castTop (ef9_rmC3_4 m a (0 : Int32) (4 : Int32)) kk) ?_
  show Dn p e below s _ _ _ (s₁.setTop (mkF m 0 #[vr a, vi 0, vi 4, .unset, .unset, .unset] []))
  refine Dn.st (fun _ kk => XS.iloadN X0.here hx rfl (hb hby d9_0) rfl (kk)) ?_
  show Dn p e below s _ _ _ (s₁.setTop (mkF m 1 #[vr a, vi 0, vi 4, .unset, .unset, .unset] [(.int 4)]))
  obtain ⟨T1, h1, k1, X1, e1, E1, A1, st1⟩ := newP X0 hx hZ (tw hw 21 rfl) e0 (g := (mkF m 1 #[vr a, vi 0, vi 4, .unset, .unset, .unset] [(.int 4)])) rfl (hb hby d9_1) rfl (by decide) (cap := 4) (by decide) (by decide) (by decide) (by decide)
  obtain ⟨b1, g1⟩ : ∃ z, z = h0.size := ⟨_, rfl⟩
  rw [← g1] at A1 st1
  have ne_a_b1 : a ≠ b1 := Nat.ne_of_lt (Nat.lt_of_lt_of_le Va.lt (Nat.le_of_eq g1.symm))
  have gz_b1 : h0.size ≤ b1 := Nat.le_trans (Keep.refl h0 []).1 (Nat.le_of_eq g1.symm)
  have V_a_1 := Va.ext E1
  have K1 := (Keep.refl h0 []).ext E1
  have Wo1 := hW.ext E1
  have gn_b1 : n0 ≤ b1 := Nat.le_trans Z0 (Nat.le_of_eq g1.symm)
  have Z1 : n0 ≤ h1.size := Nat.le_trans Z0 E1.1
  have V_b1 : Arv Z h1 b1 k1 .byte (4 : Int32) [(.int 0), (.int 0), (.int 0), (.int 0)] (.int 0) := (Arv.new A1 (by decide)).pad (pad_rep [] (.int 0) 4)
  refine Dn.st st1 ?_
  show Dn p e below s _ _ _ (T1.setTop (mkF m 3 #[vr a, vi 0, vi 4, .unset, .unset, .unset] [(.ref b1)]))
  refine Dn.st (fun _ kk => XS.astoreN X1.here hx rfl (hb hby d9_3) rfl rfl (l' := #[vr a, vi 0, vi 4, vr b1, .unset, .unset]) rfl (XS.aloadN X1.here hx rfl (hb hby d9_4) rfl rfl (XS.iloadN X1.here hx rfl (hb hby d9_5) rfl (XS.aloadN X1.here hx rfl (hb hby d9_6) rfl rfl (XS.iconst X1.here hx rfl (hb hby d9_7) (XS.iloadN X1.here hx rfl (hb hby d9_8) rfl (kk))))))) ?_
  show Dn p e below s _ _ _ (T1.setTop (mkF m 9 #[vr a, vi 0, vi 4, vr b1, .unset, .unset] [(.int 4), (.int 0), (.ref b1), (.int 0), (.ref a)]))
  obtain ⟨_, _, ⟨T9, L9, k9, n9⟩, -, X9, ⟨Lc9, hQ9, l9, y9, z9⟩, st9⟩ := Jvm.LawKit.callS X1 hx (y := on18) hown (mvT hZ (tw hw 52 rfl)) (mvT hZ (tw hw 53 rfl)) (mvT hZ (tw hw 50 rfl)) (mvT hZ (tw hw 54 rfl)) (by decide) (backOf (W := 0) (rmC5_4 l Z a0 hw [] a b1 ka k1 y0 y1 y2 y3 h1 n0 Z1 V_a_1 V_b1 gn_b1 ne_a_b1) hZ (tw hw 54 rfl) (tw hw 50 rfl) (by decide) (by decide)) (g := (mkF m 9 #[vr a, vi 0, vi 4, vr b1, .unset, .unset] [(.int 4), (.int 0), (.ref b1), (.int 0), (.ref a)])) rfl (by rw [hml]; rfl) (argsL := [(.ref a), (.int 0), (.ref b1), (.int 0), (.int 4)]) (rest := []) (lenOf pd11 rfl) rfl (by show 2 * 0 + _ ≤ _; exact Nat.le_of_eq rfl) (hb hby d9_9) (fun _ _ => ⟨rfl, e1, (by decide : 1 + 0 ≤ _), (by decide : 4 + 0 ≤ _)⟩)
  dsimp only [Pt.U, Pt.locs, Pt.cells, Pt.slots] at X9 l9 y9 z9 st9 hQ9
  subst l9 y9 z9
  obtain ⟨Nq9, K9, hq9⟩ := hQ9
  have N9 := Fr.app N0 Nq9
  refine Dn.st st9 ?_
  have Wo9 := Wo1.keep K9 (own_k1 gn_b1)
  have V_a_9 := V_a_1.keep K9 (ninS ne_a_b1 nin0)
  have Kt9 := Keep.trans K1 K9 (fun x hx => Or.inr ((List.mem_singleton.mp hx) ▸ gz_b1))
  have Z9 : n0 ≤ T9.heap.size := Nat.le_trans Z1 K9.1
  rcases hq9 with ⟨rfl, gt9⟩ | ⟨rfl, gt9⟩ | ⟨rfl, gt9⟩ | ⟨rfl, gt9⟩ | ⟨rfl, hp9, VL9⟩
  · show Dn p e below s _ _ _ (T9.setTop (mkF m 12 #[vr a, vi 0, vi 4, vr b1, .unset, .unset] [(.int 0)]))
    refine Dn.st (fun _ kk => XS.istore X9.here hx rfl (hb hby d9_12) rfl (l' := #[vr a, vi 0, vi 4, vr b1, vi 0, .unset]) rfl (XS.iload X9.here hx rfl (hb hby d9_14) rfl (XS.iloadN X9.here hx rfl (hb hby d9_16) rfl (kk)))) ?_
    show Dn p e below s _ _ _ (T9.setTop (mkF m 17 #[vr a, vi 0, vi 4, vr b1, vi 0, .unset] [(.int 4), (.int 0)]))
    have hc17 : ¬ ((0 : Int32) = (4 : Int32)) := by decide
    refine Dn.st (fun _ kk => XS.icmpNo X9.here hx rfl (hb hby d9_17) rfl (feq hc17).1 (XS.aloadN X9.here hx rfl (hb hby d9_20) rfl rfl (XS.iloadN X9.here hx rfl (hb hby d9_21) rfl (XS.iloadN X9.here hx rfl (hb hby d9_22) rfl (kk))))) ?_
    show Dn p e below s _ _ _ (T9.setTop (mkF m 23 #[vr a, vi 0, vi 4, vr b1, vi 0, .unset] [(.int 4), (.int 0), (.ref a)]))
    obtain ⟨_, _, ⟨T23, L23, k23, n23⟩, -, X23, ⟨Lc23, hQ23, l23, y23, z23⟩, st23⟩ := Jvm.LawKit.callS X9 hx (y := on7) hown (mvT hZ (tw hw 86 rfl)) (mvT hZ (tw hw 87 rfl)) (mvT hZ (tw hw 50 rfl)) (mvT hZ (tw hw 88 rfl)) (by decide) (backOf (W := 0) (rmTb4 l Z a0 hw [] a cs sf ka y0 y1 y2 y3 T9.heap n0 Z9 Wo9 V_a_9) hZ (tw hw 88 rfl) (tw hw 50 rfl) (by decide) (by decide)) (g := (mkF m 23 #[vr a, vi 0, vi 4, vr b1, vi 0, .unset] [(.int 4), (.int 0), (.ref a)])) rfl (by rw [hml]; rfl) (argsL := [(.ref a), (.int 0), (.int 4)]) (rest := []) (lenOf pd12 rfl) rfl (by show 2 * 0 + _ ≤ _; exact Nat.le_of_eq rfl) (hb hby d9_23) (fun _ _ => ⟨rfl, rfl, (by decide : 1 + 1 ≤ _), (by decide : 4 + 8 ≤ _)⟩)
    dsimp only [Pt.U, Pt.locs, Pt.cells, Pt.slots] at X23 l23 y23 z23 st23 hQ23
    subst l23 y23 z23
    obtain ⟨bb23, kb23, rfl, gz23, Nq23, K23, V_bb23⟩ := hQ23
    have N23 := Fr.app N9 Nq23
    refine Dn.st st23 ?_
    have ne_a_bb23 : a ≠ bb23 := Nat.ne_of_lt (Nat.lt_of_lt_of_le V_a_9.lt gz23)
    have gn_bb23 : n0 ≤ bb23 := Nat.le_trans Z9 gz23
    have gz_bb23 : h0.size ≤ bb23 := Nat.le_trans Kt9.1 gz23
    have Wo23 := Wo9.keep K23 own_k0
    have V_a_23 := V_a_9.keep K23 nin0
    have Kt23 := Keep.trans Kt9 K23 (by simp)
    have Z23 : n0 ≤ T23.heap.size := Nat.le_trans Z9 K23.1
    show Dn p e below s _ _ _ (T23.setTop (mkF m 26 #[vr a, vi 0, vi 4, vr b1, vi 0, .unset] [(.ref bb23)]))
    refine Dn.st (fun _ kk => XS.astore X23.here hx rfl (hb hby d9_26) rfl rfl (l' := #[vr a, vi 0, vi 4, vr b1, vi 0, vr bb23]) rfl (XS.aload X23.here hx rfl (hb hby d9_28) rfl rfl (XS.iload X23.here hx rfl (hb hby d9_30) rfl (kk)))) ?_
    show Dn p e below s _ _ _ (T23.setTop (mkF m 32 #[vr a, vi 0, vi 4, vr b1, vi 0, vr bb23] [(.int 0), (.ref bb23)]))
    obtain ⟨_, _, ⟨T32, L32, k32, n32⟩, -, X32, ⟨Lc32, hQ32, l32, y32, z32⟩, st32⟩ := Jvm.LawKit.callS X23 hx (y := on5) hown (mvT hZ (tw hw 102 rfl)) (mvT hZ (tw hw 103 rfl)) (mvT hZ (tw hw 50 rfl)) (mvT hZ (tw hw 104 rfl)) (by decide) (backOf (W := 0) (rmGc0 l Z a0 hw [] bb23 cs sf _ _ _ y0 T23.heap n0 Z23 Wo23 V_bb23 (by decide) (by decide) rfl rfl hr0.1 hr0.2) hZ (tw hw 104 rfl) (tw hw 50 rfl) (by decide) (by decide)) (g := (mkF m 32 #[vr a, vi 0, vi 4, vr b1, vi 0, vr bb23] [(.int 0), (.ref bb23)])) rfl (by rw [hml]; rfl) (argsL := [(.ref bb23), (.int 0)]) (rest := []) (lenOf pd6 rfl) rfl (by show 2 * 0 + _ ≤ _; exact Nat.le_of_eq rfl) (hb hby d9_32) (fun _ _ => ⟨rfl, rfl, (by decide : 2 + 0 ≤ _), (by decide : 12 + 0 ≤ _)⟩)
    dsimp only [Pt.U, Pt.locs, Pt.cells, Pt.slots] at X32 l32 y32 z32 st32 hQ32
    subst l32 y32 z32
    obtain ⟨rfl, Nq32, hh32⟩ := hQ32
    have N32 := Fr.app N23 Nq32
    refine Dn.st st32 ?_
    show Dn p e below s _ _ _ (T32.setTop (mkF m 35 #[vr a, vi 0, vi 4, vr b1, vi 0, vr bb23] [(.int y0)]))
    refine Dn.st (fun _ kk => XS.sipush X32.here hx rfl (hb hby d9_35) (kk)) ?_
    show Dn p e below s _ _ _ (T32.setTop (mkF m 38 #[vr a, vi 0, vi 4, vr b1, vi 0, vr bb23] [(.int 255), (.int y0)]))
    have hc38 : (255 : Int32) < y0 := (Int32.lt_iff_toInt_lt.mpr gt9)
    refine Dn.st (fun _ kk => XS.icmpYes X32.here hx rfl (pc0 := 38) (pc' := 54) rfl (hb hby d9_38) rfl (tlt hc38).2.2.1 (by decide) (by decide) (XS.aload X32.here hx rfl (hb hby d9_54) rfl rfl (kk))) ?_
    show Dn p e below s _ _ _ (T32.setTop (mkF m 56 #[vr a, vi 0, vi 4, vr b1, vi 0, vr bb23] [(.ref bb23)]))
    exact Dn.ret X32 hlk hx hret rfl (Or.inr (Or.inr (Or.inr (Or.inr ⟨rfl, rfl, rfl⟩)))) (hb hby d9_56) (by rw [hh32]; exact ⟨bb23, kb23, rfl, gz_bb23, N32, Kt23, Or.inr V_bb23⟩) (by decide) (by decide)
  · show Dn p e below s _ _ _ (T9.setTop (mkF m 12 #[vr a, vi 0, vi 4, vr b1, .unset, .unset] [(.int 1)]))
    refine Dn.st (fun _ kk => XS.istore X9.here hx rfl (hb hby d9_12) rfl (l' := #[vr a, vi 0, vi 4, vr b1, vi 1, .unset]) rfl (XS.iload X9.here hx rfl (hb hby d9_14) rfl (XS.iloadN X9.here hx rfl (hb hby d9_16) rfl (kk)))) ?_
    show Dn p e below s _ _ _ (T9.setTop (mkF m 17 #[vr a, vi 0, vi 4, vr b1, vi 1, .unset] [(.int 4), (.int 1)]))
    have hc17 : ¬ ((1 : Int32) = (4 : Int32)) := by decide
    refine Dn.st (fun _ kk => XS.icmpNo X9.here hx rfl (hb hby d9_17) rfl (feq hc17).1 (XS.aloadN X9.here hx rfl (hb hby d9_20) rfl rfl (XS.iloadN X9.here hx rfl (hb hby d9_21) rfl (XS.iloadN X9.here hx rfl (hb hby d9_22) rfl (kk))))) ?_
    show Dn p e below s _ _ _ (T9.setTop (mkF m 23 #[vr a, vi 0, vi 4, vr b1, vi 1, .unset] [(.int 4), (.int 0), (.ref a)]))
    obtain ⟨_, _, ⟨T23, L23, k23, n23⟩, -, X23, ⟨Lc23, hQ23, l23, y23, z23⟩, st23⟩ := Jvm.LawKit.callS X9 hx (y := on7) hown (mvT hZ (tw hw 86 rfl)) (mvT hZ (tw hw 87 rfl)) (mvT hZ (tw hw 50 rfl)) (mvT hZ (tw hw 88 rfl)) (by decide) (backOf (W := 0) (rmTb4 l Z a0 hw [] a cs sf ka y0 y1 y2 y3 T9.heap n0 Z9 Wo9 V_a_9) hZ (tw hw 88 rfl) (tw hw 50 rfl) (by decide) (by decide)) (g := (mkF m 23 #[vr a, vi 0, vi 4, vr b1, vi 1, .unset] [(.int 4), (.int 0), (.ref a)])) rfl (by rw [hml]; rfl) (argsL := [(.ref a), (.int 0), (.int 4)]) (rest := []) (lenOf pd12 rfl) rfl (by show 2 * 0 + _ ≤ _; exact Nat.le_of_eq rfl) (hb hby d9_23) (fun _ _ => ⟨rfl, rfl, (by decide : 1 + 1 ≤ _), (by decide : 4 + 8 ≤ _)⟩)
    dsimp only [Pt.U, Pt.locs, Pt.cells, Pt.slots] at X23 l23 y23 z23 st23 hQ23
    subst l23 y23 z23
    obtain ⟨bb23, kb23, rfl, gz23, Nq23, K23, V_bb23⟩ := hQ23
    have N23 := Fr.app N9 Nq23
    refine Dn.st st23 ?_
    have ne_a_bb23 : a ≠ bb23 := Nat.ne_of_lt (Nat.lt_of_lt_of_le V_a_9.lt gz23)
    have gn_bb23 : n0 ≤ bb23 := Nat.le_trans Z9 gz23
    have gz_bb23 : h0.size ≤ bb23 := Nat.le_trans Kt9.1 gz23
    have Wo23 := Wo9.keep K23 own_k0
    have V_a_23 := V_a_9.keep K23 nin0
    have Kt23 := Keep.trans Kt9 K23 (by simp)
    have Z23 : n0 ≤ T23.heap.size := Nat.le_trans Z9 K23.1
    show Dn p e below s _ _ _ (T23.setTop (mkF m 26 #[vr a, vi 0, vi 4, vr b1, vi 1, .unset] [(.ref bb23)]))
    refine Dn.st (fun _ kk => XS.astore X23.here hx rfl (hb hby d9_26) rfl rfl (l' := #[vr a, vi 0, vi 4, vr b1, vi 1, vr bb23]) rfl (XS.aload X23.here hx rfl (hb hby d9_28) rfl rfl (XS.iload X23.here hx rfl (hb hby d9_30) rfl (kk)))) ?_
    show Dn p e below s _ _ _ (T23.setTop (mkF m 32 #[vr a, vi 0, vi 4, vr b1, vi 1, vr bb23] [(.int 1), (.ref bb23)]))
    obtain ⟨_, _, ⟨T32, L32, k32, n32⟩, -, X32, ⟨Lc32, hQ32, l32, y32, z32⟩, st32⟩ := Jvm.LawKit.callS X23 hx (y := on5) hown (mvT hZ (tw hw 102 rfl)) (mvT hZ (tw hw 103 rfl)) (mvT hZ (tw hw 50 rfl)) (mvT hZ (tw hw 104 rfl)) (by decide) (backOf (W := 0) (rmGc1 l Z a0 hw [] bb23 cs sf _ _ _ y1 T23.heap n0 Z23 Wo23 V_bb23 (by decide) (by decide) rfl rfl hr1.1 hr1.2) hZ (tw hw 104 rfl) (tw hw 50 rfl) (by decide) (by decide)) (g := (mkF m 32 #[vr a, vi 0, vi 4, vr b1, vi 1, vr bb23] [(.int 1), (.ref bb23)])) rfl (by rw [hml]; rfl) (argsL := [(.ref bb23), (.int 1)]) (rest := []) (lenOf pd6 rfl) rfl (by show 2 * 0 + _ ≤ _; exact Nat.le_of_eq rfl) (hb hby d9_32) (fun _ _ => ⟨rfl, rfl, (by decide : 2 + 0 ≤ _), (by decide : 12 + 0 ≤ _)⟩)
    dsimp only [Pt.U, Pt.locs, Pt.cells, Pt.slots] at X32 l32 y32 z32 st32 hQ32
    subst l32 y32 z32
    obtain ⟨rfl, Nq32, hh32⟩ := hQ32
    have N32 := Fr.app N23 Nq32
    refine Dn.st st32 ?_
    show Dn p e below s _ _ _ (T32.setTop (mkF m 35 #[vr a, vi 0, vi 4, vr b1, vi 1, vr bb23] [(.int y1)]))
    refine Dn.st (fun _ kk => XS.sipush X32.here hx rfl (hb hby d9_35) (kk)) ?_
    show Dn p e below s _ _ _ (T32.setTop (mkF m 38 #[vr a, vi 0, vi 4, vr b1, vi 1, vr bb23] [(.int 255), (.int y1)]))
    have hc38 : (255 : Int32) < y1 := (Int32.lt_iff_toInt_lt.mpr gt9)
    refine Dn.st (fun _ kk => XS.icmpYes X32.here hx rfl (pc0 := 38) (pc' := 54) rfl (hb hby d9_38) rfl (tlt hc38).2.2.1 (by decide) (by decide) (XS.aload X32.here hx rfl (hb hby d9_54) rfl rfl (kk))) ?_
    show Dn p e below s _ _ _ (T32.setTop (mkF m 56 #[vr a, vi 0, vi 4, vr b1, vi 1, vr bb23] [(.ref bb23)]))
    exact Dn.ret X32 hlk hx hret rfl (Or.inr (Or.inr (Or.inr (Or.inr ⟨rfl, rfl, rfl⟩)))) (hb hby d9_56) (by rw [hh32]; exact ⟨bb23, kb23, rfl, gz_bb23, N32, Kt23, Or.inr V_bb23⟩) (by decide) (by decide)
  · show Dn p e below s _ _ _ (T9.setTop (mkF m 12 #[vr a, vi 0, vi 4, vr b1, .unset, .unset] [(.int 2)]))
    refine Dn.st (fun _ kk => XS.istore X9.here hx rfl (hb hby d9_12) rfl (l' := #[vr a, vi 0, vi 4, vr b1, vi 2, .unset]) rfl (XS.iload X9.here hx rfl (hb hby d9_14) rfl (XS.iloadN X9.here hx rfl (hb hby d9_16) rfl (kk)))) ?_
    show Dn p e below s _ _ _ (T9.setTop (mkF m 17 #[vr a, vi 0, vi 4, vr b1, vi 2, .unset] [(.int 4), (.int 2)]))
    have hc17 : ¬ ((2 : Int32) = (4 : Int32)) := by decide
    refine Dn.st (fun _ kk => XS.icmpNo X9.here hx rfl (hb hby d9_17) rfl (feq hc17).1 (XS.aloadN X9.here hx rfl (hb hby d9_20) rfl rfl (XS.iloadN X9.here hx rfl (hb hby d9_21) rfl (XS.iloadN X9.here hx rfl (hb hby d9_22) rfl (kk))))) ?_
    show Dn p e below s _ _ _ (T9.setTop (mkF m 23 #[vr a, vi 0, vi 4, vr b1, vi 2, .unset] [(.int 4), (.int 0), (.ref a)]))
    obtain ⟨_, _, ⟨T23, L23, k23, n23⟩, -, X23, ⟨Lc23, hQ23, l23, y23, z23⟩, st23⟩ := Jvm.LawKit.callS X9 hx (y := on7) hown (mvT hZ (tw hw 86 rfl)) (mvT hZ (tw hw 87 rfl)) (mvT hZ (tw hw 50 rfl)) (mvT hZ (tw hw 88 rfl)) (by decide) (backOf (W := 0) (rmTb4 l Z a0 hw [] a cs sf ka y0 y1 y2 y3 T9.heap n0 Z9 Wo9 V_a_9) hZ (tw hw 88 rfl) (tw hw 50 rfl) (by decide) (by decide)) (g := (mkF m 23 #[vr a, vi 0, vi 4, vr b1, vi 2, .unset] [(.int 4), (.int 0), (.ref a)])) rfl (by rw [hml]; rfl) (argsL := [(.ref a), (.int 0), (.int 4)]) (rest := []) (lenOf pd12 rfl) rfl (by show 2 * 0 + _ ≤ _; exact Nat.le_of_eq rfl) (hb hby d9_23) (fun _ _ => ⟨rfl, rfl, (by decide : 1 + 1 ≤ _), (by decide : 4 + 8 ≤ _)⟩)
    dsimp only [Pt.U, Pt.locs, Pt.cells, Pt.slots] at X23 l23 y23 z23 st23 hQ23
    subst l23 y23 z23
    obtain ⟨bb23, kb23, rfl, gz23, Nq23, K23, V_bb23⟩ := hQ23
    have N23 := Fr.app N9 Nq23
    refine Dn.st st23 ?_
    have ne_a_bb23 : a ≠ bb23 := Nat.ne_of_lt (Nat.lt_of_lt_of_le V_a_9.lt gz23)
    have gn_bb23 : n0 ≤ bb23 := Nat.le_trans Z9 gz23
    have gz_bb23 : h0.size ≤ bb23 := Nat.le_trans Kt9.1 gz23
    have Wo23 := Wo9.keep K23 own_k0
    have V_a_23 := V_a_9.keep K23 nin0
    have Kt23 := Keep.trans Kt9 K23 (by simp)
    have Z23 : n0 ≤ T23.heap.size := Nat.le_trans Z9 K23.1
    show Dn p e below s _ _ _ (T23.setTop (mkF m 26 #[vr a, vi 0, vi 4, vr b1, vi 2, .unset] [(.ref bb23)]))
    refine Dn.st (fun _ kk => XS.astore X23.here hx rfl (hb hby d9_26) rfl rfl (l' := #[vr a, vi 0, vi 4, vr b1, vi 2, vr bb23]) rfl (XS.aload X23.here hx rfl (hb hby d9_28) rfl rfl (XS.iload X23.here hx rfl (hb hby d9_30) rfl (kk)))) ?_
    show Dn p e below s _ _ _ (T23.setTop (mkF m 32 #[vr a, vi 0, vi 4, vr b1, vi 2, vr bb23] [(.int 2), (.ref bb23)]))
    obtain ⟨_, _, ⟨T32, L32, k32, n32⟩, -, X32, ⟨Lc32, hQ32, l32, y32, z32⟩, st32⟩ := Jvm.LawKit.callS X23 hx (y := on5) hown (mvT hZ (tw hw 102 rfl)) (mvT hZ (tw hw 103 rfl)) (mvT hZ (tw hw 50 rfl)) (mvT hZ (tw hw 104 rfl)) (by decide) (backOf (W := 0) (rmGc2 l Z a0 hw [] bb23 cs sf _ _ _ y2 T23.heap n0 Z23 Wo23 V_bb23 (by decide) (by decide) rfl rfl hr2.1 hr2.2) hZ (tw hw 104 rfl) (tw hw 50 rfl) (by decide) (by decide)) (g := (mkF m 32 #[vr a, vi 0, vi 4, vr b1, vi 2, vr bb23] [(.int 2), (.ref bb23)])) rfl (by rw [hml]; rfl) (argsL := [(.ref bb23), (.int 2)]) (rest := []) (lenOf pd6 rfl) rfl (by show 2 * 0 + _ ≤ _; exact Nat.le_of_eq rfl) (hb hby d9_32) (fun _ _ => ⟨rfl, rfl, (by decide : 2 + 0 ≤ _), (by decide : 12 + 0 ≤ _)⟩)
    dsimp only [Pt.U, Pt.locs, Pt.cells, Pt.slots] at X32 l32 y32 z32 st32 hQ32
    subst l32 y32 z32
    obtain ⟨rfl, Nq32, hh32⟩ := hQ32
    have N32 := Fr.app N23 Nq32
    refine Dn.st st32 ?_
    show Dn p e below s _ _ _ (T32.setTop (mkF m 35 #[vr a, vi 0, vi 4, vr b1, vi 2, vr bb23] [(.int y2)]))
    refine Dn.st (fun _ kk => XS.sipush X32.here hx rfl (hb hby d9_35) (kk)) ?_
    show Dn p e below s _ _ _ (T32.setTop (mkF m 38 #[vr a, vi 0, vi 4, vr b1, vi 2, vr bb23] [(.int 255), (.int y2)]))
    have hc38 : (255 : Int32) < y2 := (Int32.lt_iff_toInt_lt.mpr gt9)
    refine Dn.st (fun _ kk => XS.icmpYes X32.here hx rfl (pc0 := 38) (pc' := 54) rfl (hb hby d9_38) rfl (tlt hc38).2.2.1 (by decide) (by decide) (XS.aload X32.here hx rfl (hb hby d9_54) rfl rfl (kk))) ?_
    show Dn p e below s _ _ _ (T32.setTop (mkF m 56 #[vr a, vi 0, vi 4, vr b1, vi 2, vr bb23] [(.ref bb23)]))
    exact Dn.ret X32 hlk hx hret rfl (Or.inr (Or.inr (Or.inr (Or.inr ⟨rfl, rfl, rfl⟩)))) (hb hby d9_56) (by rw [hh32]; exact ⟨bb23, kb23, rfl, gz_bb23, N32, Kt23, Or.inr V_bb23⟩) (by decide) (by decide)
  · show Dn p e below s _ _ _ (T9.setTop (mkF m 12 #[vr a, vi 0, vi 4, vr b1, .unset, .unset] [(.int 3)]))
    refine Dn.st (fun _ kk => XS.istore X9.here hx rfl (hb hby d9_12) rfl (l' := #[vr a, vi 0, vi 4, vr b1, vi 3, .unset]) rfl (XS.iload X9.here hx rfl (hb hby d9_14) rfl (XS.iloadN X9.here hx rfl (hb hby d9_16) rfl (kk)))) ?_
    show Dn p e below s _ _ _ (T9.setTop (mkF m 17 #[vr a, vi 0, vi 4, vr b1, vi 3, .unset] [(.int 4), (.int 3)]))
    have hc17 : ¬ ((3 : Int32) = (4 : Int32)) := by decide
    refine Dn.st (fun _ kk => XS.icmpNo X9.here hx rfl (hb hby d9_17) rfl (feq hc17).1 (XS.aloadN X9.here hx rfl (hb hby d9_20) rfl rfl (XS.iloadN X9.here hx rfl (hb hby d9_21) rfl (XS.iloadN X9.here hx rfl (hb hby d9_22) rfl (kk))))) ?_
    show Dn p e below s _ _ _ (T9.setTop (mkF m 23 #[vr a, vi 0, vi 4, vr b1, vi 3, .unset] [(.int 4), (.int 0), (.ref a)]))
    obtain ⟨_, _, ⟨T23, L23, k23, n23⟩, -, X23, ⟨Lc23, hQ23, l23, y23, z23⟩, st23⟩ := Jvm.LawKit.callS X9 hx (y := on7) hown (mvT hZ (tw hw 86 rfl)) (mvT hZ (tw hw 87 rfl)) (mvT hZ (tw hw 50 rfl)) (mvT hZ (tw hw 88 rfl)) (by decide) (backOf (W := 0) (rmTb4 l Z a0 hw [] a cs sf ka y0 y1 y2 y3 T9.heap n0 Z9 Wo9 V_a_9) hZ (tw hw 88 rfl) (tw hw 50 rfl) (by decide) (by decide)) (g := (mkF m 23 #[vr a, vi 0, vi 4, vr b1, vi 3, .unset] [(.int 4), (.int 0), (.ref a)])) rfl (by rw [hml]; rfl) (argsL := [(.ref a), (.int 0), (.int 4)]) (rest := []) (lenOf pd12 rfl) rfl (by show 2 * 0 + _ ≤ _; exact Nat.le_of_eq rfl) (hb hby d9_23) (fun _ _ => ⟨rfl, rfl, (by decide : 1 + 1 ≤ _), (by decide : 4 + 8 ≤ _)⟩)
    dsimp only [Pt.U, Pt.locs, Pt.cells, Pt.slots] at X23 l23 y23 z23 st23 hQ23
    subst l23 y23 z23
    obtain ⟨bb23, kb23, rfl, gz23, Nq23, K23, V_bb23⟩ := hQ23
    have N23 := Fr.app N9 Nq23
    refine Dn.st st23 ?_
    have ne_a_bb23 : a ≠ bb23 := Nat.ne_of_lt (Nat.lt_of_lt_of_le V_a_9.lt gz23)
    have gn_bb23 : n0 ≤ bb23 := Nat.le_trans Z9 gz23
    have gz_bb23 : h0.size ≤ bb23 := Nat.le_trans Kt9.1 gz23
    have Wo23 := Wo9.keep K23 own_k0
    have V_a_23 := V_a_9.keep K23 nin0
    have Kt23 := Keep.trans Kt9 K23 (by simp)
    have Z23 : n0 ≤ T23.heap.size := Nat.le_trans Z9 K23.1
    show Dn p e below s _ _ _ (T23.setTop (mkF m 26 #[vr a, vi 0, vi 4, vr b1, vi 3, .unset] [(.ref bb23)]))
    refine Dn.st (fun _ kk => XS.astore X23.here hx rfl (hb hby d9_26) rfl rfl (l' := #[vr a, vi 0, vi 4, vr b1, vi 3, vr bb23]) rfl (XS.aload X23.here hx rfl (hb hby d9_28) rfl rfl (XS.iload X23.here hx rfl (hb hby d9_30) rfl (kk)))) ?_
    show Dn p e below s _ _ _ (T23.setTop (mkF m 32 #[vr a, vi 0, vi 4, vr b1, vi 3, vr bb23] [(.int 3), (.ref bb23)]))
    obtain ⟨_, _, ⟨T32, L32, k32, n32⟩, -, X32, ⟨Lc32, hQ32, l32, y32, z32⟩, st32⟩ := Jvm.LawKit.callS X23 hx (y := on5) hown (mvT hZ (tw hw 102 rfl)) (mvT hZ (tw hw 103 rfl)) (mvT hZ (tw hw 50 rfl)) (mvT hZ (tw hw 104 rfl)) (by decide) (backOf (W := 0) (rmGc3 l Z a0 hw [] bb23 cs sf _ _ _ y3 T23.heap n0 Z23 Wo23 V_bb23 (by decide) (by decide) rfl rfl hr3.1 hr3.2) hZ (tw hw 104 rfl) (tw hw 50 rfl) (by decide) (by decide)) (g := (mkF m 32 #[vr a, vi 0, vi 4, vr b1, vi 3, vr bb23] [(.int 3), (.ref bb23)])) rfl (by rw [hml]; rfl) (argsL := [(.ref bb23), (.int 3)]) (rest := []) (lenOf pd6 rfl) rfl (by show 2 * 0 + _ ≤ _; exact Nat.le_of_eq rfl) (hb hby d9_32) (fun _ _ => ⟨rfl, rfl, (by decide : 2 + 0 ≤ _), (by decide : 12 + 0 ≤ _)⟩)
    dsimp only [Pt.U, Pt.locs, Pt.cells, Pt.slots] at X32 l32 y32 z32 st32 hQ32
    subst l32 y32 z32
    obtain ⟨rfl, Nq32, hh32⟩ := hQ32
    have N32 := Fr.app N23 Nq32
    refine Dn.st st32 ?_
    show Dn p e below s _ _ _ (T32.setTop (mkF m 35 #[vr a, vi 0, vi 4, vr b1, vi 3, vr bb23] [(.int y3)]))
    refine Dn.st (fun _ kk => XS.sipush X32.here hx rfl (hb hby d9_35) (kk)) ?_
    show Dn p e below s _ _ _ (T32.setTop (mkF m 38 #[vr a, vi 0, vi 4, vr b1, vi 3, vr bb23] [(.int 255), (.int y3)]))
    have hc38 : (255 : Int32) < y3 := (Int32.lt_iff_toInt_lt.mpr gt9)
    refine Dn.st (fun _ kk => XS.icmpYes X32.here hx rfl (pc0 := 38) (pc' := 54) rfl (hb hby d9_38) rfl (tlt hc38).2.2.1 (by decide) (by decide) (XS.aload X32.here hx rfl (hb hby d9_54) rfl rfl (kk))) ?_
    show Dn p e below s _ _ _ (T32.setTop (mkF m 56 #[vr a, vi 0, vi 4, vr b1, vi 3, vr bb23] [(.ref bb23)]))
    exact Dn.ret X32 hlk hx hret rfl (Or.inr (Or.inr (Or.inr (Or.inr ⟨rfl, rfl, rfl⟩)))) (hb hby d9_56) (by rw [hh32]; exact ⟨bb23, kb23, rfl, gz_bb23, N32, Kt23, Or.inr V_bb23⟩) (by decide) (by decide)
  · show Dn p e below s _ _ _ (T9.setTop (mkF m 12 #[vr a, vi 0, vi 4, vr b1, .unset, .unset] [(.int 4)]))
    refine Dn.st (fun _ kk => XS.istore X9.here hx rfl (hb hby d9_12) rfl (l' := #[vr a, vi 0, vi 4, vr b1, vi 4, .unset]) rfl (XS.iload X9.here hx rfl (hb hby d9_14) rfl (XS.iloadN X9.here hx rfl (hb hby d9_16) rfl (kk)))) ?_
    show Dn p e below s _ _ _ (T9.setTop (mkF m 17 #[vr a, vi 0, vi 4, vr b1, vi 4, .unset] [(.int 4), (.int 4)]))
    have hc17 : (4 : Int32) = (4 : Int32) := by decide
    refine Dn.st (fun _ kk => XS.icmpYes X9.here hx rfl (pc0 := 17) (pc' := 57) rfl (hb hby d9_17) rfl (teq hc17).1 (by decide) (by decide) (XS.aloadN X9.here hx rfl (hb hby d9_57) rfl rfl (kk))) ?_
    show Dn p e below s _ _ _ (T9.setTop (mkF m 58 #[vr a, vi 0, vi 4, vr b1, vi 4, .unset] [(.ref b1)]))
    exact Dn.ret X9 hlk hx hret rfl (Or.inr (Or.inr (Or.inr (Or.inr ⟨rfl, rfl, rfl⟩)))) (hb hby d9_58) ⟨b1, k1, rfl, gz_b1, N9, Kt9, Or.inl ⟨VL9, hp9⟩⟩ (by decide) (by decide)

theorem ef11_rmCl4_0 (m : MethodId) (x0 : Addr) (x1 : Int32) : entryFrame m #[(.ref x0), (.int x1)] 2 = mkF m 0 #[vr x0, vi x1] [] := by first | (simp [entryFrame, mkF, argsToLocals, Value.category]; done) | rfl
def QCl4_0 (Z : State) (b : Addr) (kb : ClassId) (ls : List Value) (h0 : Heap) (n0 : Nat) (v : Option Value) (h : Heap) (L : List Loc) : Prop := v = some (.int 0) ∧ Fr n0 L ∧ h = h0
theorem rmCl4_0 (l : Launch) (Z : State) (a0 : Array Value) (hw : ∀ d ∈ tables_1, d.before a0 Z = true) (ws : List Jvm.Cond) (b : Addr) (kb : ClassId) (ls : List Value) (h0 : Heap) (n0 : Nat) (Z0 : n0 ≤ h0.size) (Vb : Arv Z h0 b kb .byte 4 ls (.int 0)) :
    own_Met l on4 (Jvm.Cond.code on4 jdk_52_method_15_code 2 (some .byte) :: ws) orm25 #[(.ref b), (.int 4)] Z h0 (QCl4_0 Z b kb ls h0 n0) := by
  refine MetFree.of_bodySF (plainFor_of_name pn2) hisR ?_
  intro p e s m args below meth c s₁ Bd hml0 hP hK
  obtain ⟨rfl, hZ, hh⟩ := hP
  have hx := Bd.exec
  have hby := Bd.bytes
  have hlk : meth.locks = false := BodyLoose.notSynchronized Bd
  have hret := Bd.returns
  have hml : c.maxLocals = 2 := hml0
  have hown : s.vm.findClass "java/lang/StringUTF16" = some m.cls := findClass_of_methodNamed Bd.named
  have X0 : Stand p l e orm25 s m #[(.ref b), (.int 4)] below meth c s₁ [] 0 0 := Stand.of_body Bd
  have e0 : s₁.heap = h0 := by rw [← hh, Bd.state]; rfl
  have N0 := Fr.nil n0
  show Dn p e below s (QCl4_0 Z b kb ls h0 n0) orm25.cells orm25.slots (s₁.setTop (entryFrame m #[(.ref b), (.int 4)] 2))
  refine Dn.st (fun _ kk => castTop (ef11_rmCl4_0 m b (4 : Int32)) kk) ?_
  show Dn p e below s _ _ _ (s₁.setTop (mkF m 0 #[vr b, vi 4] []))
  refine Dn.st (fun _ kk => XS.iloadN X0.here hx rfl (hb hby d11_0) rfl (XS.aloadN X0.here hx rfl (hb hby d11_1) rfl rfl (kk))) ?_
  show Dn p e below s _ _ _ (s₁.setTop (mkF m 2 #[vr b, vi 4] [(.ref b), (.int 4)]))
  have Vc_b_2 := Vb
  obtain ⟨cl_b_2, Ar_b_2, q_b_2, S_b_2, N_b_2, H_b_2, G_b_2⟩ := Vc_b_2
  refine Dn.st (fun _ kk => X0.arraylength hx (by rw [e0]; exact Ar_b_2.1) (State.isArrayOf_alike hZ.alike Ar_b_2.2.1) (g := (mkF m 2 #[vr b, vi 4] [(.ref b), (.int 4)])) rfl rfl (hb hby d11_2) _ (kk)) ?_
  show Dn p e below s _ _ _ (s₁.setTop (mkF m 3 #[vr b, vi 4] [(.int cl_b_2.slots.size.toInt32), (.int 4)]))
  rw [len_of S_b_2 N_b_2]
  show Dn p e below s _ _ _ (s₁.setTop (mkF m 3 #[vr b, vi 4] [(.int 4), (.int 4)]))
  refine Dn.st (fun _ kk => XS.isub X0.here hx rfl (hb hby d11_3) rfl (XS.bipush X0.here hx rfl (hb hby d11_4) (XS.iushr X0.here hx rfl (hb hby d11_6) rfl (XS.i2b X0.here hx rfl (hb hby d11_7) rfl (kk))))) ?_
  show Dn p e below s _ _ _ (s₁.setTop (mkF m 8 #[vr b, vi 4] [(.int 0)]))
  exact Dn.ret X0 hlk hx hret rfl (Or.inl ⟨rfl, Or.inr (Or.inr (Or.inl rfl)), _, rfl⟩) (hb hby d11_8) (by rw [e0]; exact ⟨rfl, N0, rfl⟩) (by decide) (by decide)

theorem ef11_rmCl4_1 (m : MethodId) (x0 : Addr) (x1 : Int32) : entryFrame m #[(.ref x0), (.int x1)] 2 = mkF m 0 #[vr x0, vi x1] [] := by first | (simp [entryFrame, mkF, argsToLocals, Value.category]; done) | rfl
def QCl4_1 (Z : State) (b : Addr) (kb : ClassId) (ls : List Value) (h0 : Heap) (n0 : Nat) (v : Option Value) (h : Heap) (L : List Loc) : Prop := v = some (.int 1) ∧ Fr n0 L ∧ h = h0
theorem rmCl4_1 (l : Launch) (Z : State) (a0 : Array Value) (hw : ∀ d ∈ tables_1, d.before a0 Z = true) (ws : List Jvm.Cond) (b : Addr) (kb : ClassId) (ls : List Value) (h0 : Heap) (n0 : Nat) (Z0 : n0 ≤ h0.size) (Vb : Arv Z h0 b kb .byte 8 ls (.int 0)) :
    own_Met l on4 (Jvm.Cond.code on4 jdk_52_method_15_code 2 (some .byte) :: ws) orm25 #[(.ref b), (.int 4)] Z h0 (QCl4_1 Z b kb ls h0 n0) := by
  refine MetFree.of_bodySF (plainFor_of_name pn2) hisR ?_
  intro p e s m args below meth c s₁ Bd hml0 hP hK
  obtain ⟨rfl, hZ, hh⟩ := hP
  have hx := Bd.exec
  have hby := Bd.bytes
  have hlk : meth.locks = false := BodyLoose.notSynchronized Bd
  have hret := Bd.returns
  have hml : c.maxLocals = 2 := hml0
  have hown : s.vm.findClass "java/lang/StringUTF16" = some m.cls := findClass_of_methodNamed Bd.named
  have X0 : Stand p l e orm25 s m #[(.ref b), (.int 4)] below meth c s₁ [] 0 0 := Stand.of_body Bd
  have e0 : s₁.heap = h0 := by rw [← hh, Bd.state]; rfl
  have N0 := Fr.nil n0
  show Dn p e below s (QCl4_1 Z b kb ls h0 n0) orm25.cells orm25.slots (s₁.setTop (entryFrame m #[(.ref b), (.int 4)] 2))
  refine Dn.st (fun _ kk => castTop (ef11_rmCl4_1 m b (4 : Int32)) kk) ?_
  show Dn p e below s _ _ _ (s₁.setTop (mkF m 0 #[vr b, vi 4] []))
  refine Dn.st (fun _ kk => XS.iloadN X0.here hx rfl (hb hby d11_0) rfl (XS.aloadN X0.here hx rfl (hb hby d11_1) rfl rfl (kk))) ?_
  show Dn p e below s _ _ _ (s₁.setTop (mkF m 2 #[vr b, vi 4] [(.ref b), (.int 4)]))
  have Vc_b_2 := Vb
  obtain ⟨cl_b_2, Ar_b_2, q_b_2, S_b_2, N_b_2, H_b_2, G_b_2⟩ := Vc_b_2
  refine Dn.st (fun _ kk => X0.arraylength hx (by rw [e0]; exact Ar_b_2.1) (State.isArrayOf_alike hZ.alike Ar_b_2.2.1) (g := (mkF m 2 #[vr b, vi 4] [(.ref b), (.int 4)])) rfl rfl (hb hby d11_2) _ (kk)) ?_
  show Dn p e below s _ _ _ (s₁.setTop (mkF m 3 #[vr b, vi 4] [(.int cl_b_2.slots.size.toInt32), (.int 4)]))
  rw [len_of S_b_2 N_b_2]
  show Dn p e below s _ _ _ (s₁.setTop (mkF m 3 #[vr b, vi 4] [(.int 8), (.int 4)]))
  refine Dn.st (fun _ kk => XS.isub X0.here hx rfl (hb hby d11_3) rfl (XS.bipush X0.here hx rfl (hb hby d11_4) (XS.iushr X0.here hx rfl (hb hby d11_6) rfl (XS.i2b X0.here hx rfl (hb hby d11_7) rfl (kk))))) ?_
  show Dn p e below s _ _ _ (s₁.setTop (mkF m 8 #[vr b, vi 4] [(.int 1)]))
  exact Dn.ret X0 hlk hx hret rfl (Or.inl ⟨rfl, Or.inr (Or.inr (Or.inl rfl)), _, rfl⟩) (hb hby d11_8) (by rw [e0]; exact ⟨rfl, N0, rfl⟩) (by decide) (by decide)

theorem ef3_rmVc4 (m : MethodId) (x0 : Addr) (x1 : Addr) (x2 : Int32) (x3 : Int32) : entryFrame m #[(.ref x0), (.ref x1), (.int x2), (.int x3), .null] 6 = mkF m 0 #[vr x0, vr x1, vi x2, vi x3, .val .null, .unset] [] := by first | (simp [entryFrame, mkF, argsToLocals, Value.category]; done) | rfl
def QVc4 (Z : State) (a : Addr) (ar : Addr) (cs : Int32) (sf : Value) (ka : ClassId) (y0 : Int32) (y1 : Int32) (y2 : Int32) (y3 : Int32) (h0 : Heap) (n0 : Nat) (v : Option Value) (h : Heap) (L : List Loc) : Prop := v = none ∧ Fr n0 L ∧ Keep h0 h [a] ∧ own_Str Z h a 4 8 [(.int (own_b y0)), (.int (own_b y1)), (.int (own_b y2)), (.int (own_b y3))] [(.int (own_lo y0)), (.int (own_hi y0)), (.int (own_lo y1)), (.int (own_hi y1)), (.int (own_lo y2)), (.int (own_hi y2)), (.int (own_lo y3)), (.int (own_hi y3))] (y0.toInt ≤ 255 ∧ y1.toInt ≤ 255 ∧ y2.toInt ≤ 255 ∧ y3.toInt ≤ 255 ∧ True)
theorem rmVc4 (l : Launch) (Z : State) (a0 : Array Value) (hw : ∀ d ∈ tables_1, d.before a0 Z = true) (ws : List Jvm.Cond) (a : Addr) (ar : Addr) (cs : Int32) (sf : Value) (ka : ClassId) (y0 : Int32) (y1 : Int32) (y2 : Int32) (y3 : Int32) (h0 : Heap) (n0 : Nat) (Z0 : n0 ≤ h0.size) (hW : own_W Z h0 n0 cs sf) (ga : n0 ≤ a) (Ea : Exa Z h0 a "java/lang/String") (Fc : Fld Z h0 a "java/lang/String" "coder" "B" (.int 0)) (Fv : Fld Z h0 a "java/lang/String" "value" "[B" .null) (Vr : Arv Z h0 ar ka .char 4 [(.int y0), (.int y1), (.int y2), (.int y3)] (.int 0)) (hne : a ≠ ar) (hr0 : 0 ≤ y0.toInt ∧ y0.toInt ≤ 65535) (hr1 : 0 ≤ y1.toInt ∧ y1.toInt ≤ 65535) (hr2 : 0 ≤ y2.toInt ∧ y2.toInt ≤ 65535) (hr3 : 0 ≤ y3.toInt ∧ y3.toInt ≤ 65535) :
    own_Met l on8 (Jvm.Cond.code on8 jdk_42_method_149_code 6 none :: ws) orm46 #[(.ref a), (.ref ar), (.int 0), (.int 4), .null] Z h0 (QVc4 Z a ar cs sf ka y0 y1 y2 y3 h0 n0) := by
  refine MetFree.of_bodySF (plainFor_of_name pn0) hisR ?_
  intro p e s m args below meth c s₁ Bd hml0 hP hK
  obtain ⟨rfl, hZ, hh⟩ := hP
  have hx := Bd.exec
  have hby := Bd.bytes
  have hlk : meth.locks = false := BodyLoose.notSynchronized Bd
  have hret := Bd.returns
  have hml : c.maxLocals = 6 := hml0
  have hown : s.vm.findClass "java/lang/String" = some m.cls := findClass_of_methodNamed Bd.named
  have hnm := (name_of_methodNamed Bd.named Bd.method).1
  have X0 : Stand p l e orm46 s m #[(.ref a), (.ref ar), (.int 0), (.int 4), .null] below meth c s₁ [] 0 0 := Stand.of_body Bd
  have e0 : s₁.heap = h0 := by rw [← hh, Bd.state]; rfl
  have N0 := Fr.nil n0
  show Dn p e below s (QVc4 Z a ar cs sf ka y0 y1 y2 y3 h0 n0) orm46.cells orm46.slots (s₁.setTop (entryFrame m #[(.ref a), (.ref ar), (.int 0), (.int 4), .null] 6))
  refine Dn.st (fun _ kk => castTop (ef3_rmVc4 m a ar (0 : Int32) (4 : Int32)) kk) ?_
  show Dn p e below s _ _ _ (s₁.setTop (mkF m 0 #[vr a, vr ar, vi 0, vi 4, .val .null, .unset] []))
  refine Dn.st (fun _ kk => XS.aloadN X0.here hx rfl (hb hby d3_0) rfl rfl (kk)) ?_
  show Dn p e below s _ _ _ (s₁.setTop (mkF m 1 #[vr a, vr ar, vi 0, vi 4, .val .null, .unset] [(.ref a)]))
  obtain ⟨T1, X1, e1, st1⟩ := initO X0 hx hZ hown (tw hw 17 rfl) (tw hw 18 rfl) (tw hw 19 rfl) e0 (g := (mkF m 1 #[vr a, vr ar, vi 0, vi 4, .val .null, .unset] [(.ref a)])) rfl (by rw [hml]; rfl) rfl (hb hby d3_1) (by decide) (W := 0) (by show 2 * 0 + _ ≤ _; exact Nat.le_of_eq rfl) (by decide)
  refine Dn.st st1 ?_
  show Dn p e below s _ _ _ (T1.setTop (mkF m 4 #[vr a, vr ar, vi 0, vi 4, .val .null, .unset] []))
  refine Dn.st (fun _ kk => XS.iloadN X1.here hx rfl (hb hby d3_4) rfl (kk)) ?_
  show Dn p e below s _ _ _ (T1.setTop (mkF m 5 #[vr a, vr ar, vi 0, vi 4, .val .null, .unset] [(.int 4)]))
  have hc5 : ¬ ((4 : Int32) = (0 : Int32)) := by decide
  refine Dn.st (fun _ kk => XS.ifYes X1.here hx rfl (pc0 := 5) (pc' := 27) rfl (hb hby d3_5) rfl ((if0 _ _).trans (feq hc5).2) (by decide) (by decide) (kk)) ?_
  show Dn p e below s _ _ _ (T1.setTop (mkF m 27 #[vr a, vr ar, vi 0, vi 4, .val .null, .unset] []))
  obtain ⟨T27, X27, e27, st27⟩ := getS2 X1 hx hZ hown (host := "") (Or.inl (tw hw 47 rfl)) Via.refl e1 hW.cst (g := (mkF m 27 #[vr a, vr ar, vi 0, vi 4, .val .null, .unset] [])) rfl (hb hby d3_27)
  refine Dn.st st27 ?_
  show Dn p e below s _ _ _ (T27.setTop (mkF m 30 #[vr a, vr ar, vi 0, vi 4, .val .null, .unset] [(.int cs)]))
  have hc30 : ¬ (cs = (0 : Int32)) := hW.cne
  refine Dn.st (fun _ kk => XS.ifNo X27.here hx rfl (hb hby d3_30) rfl ((if0 _ _).trans (feq hc30).1) (XS.aloadN X27.here hx rfl (hb hby d3_33) rfl rfl (XS.iloadN X27.here hx rfl (hb hby d3_34) rfl (XS.iloadN X27.here hx rfl (hb hby d3_35) rfl (kk))))) ?_
  show Dn p e below s _ _ _ (T27.setTop (mkF m 36 #[vr a, vr ar, vi 0, vi 4, .val .null, .unset] [(.int 4), (.int 0), (.ref ar)]))
  obtain ⟨_, _, ⟨T36, L36, k36, n36⟩, -, X36, ⟨Lc36, hQ36, l36, y36, z36⟩, st36⟩ := Jvm.LawKit.callS X27 hx (y := on12) hown (mvT hZ (tw hw 48 rfl)) (mvT hZ (tw hw 49 rfl)) (mvT hZ (tw hw 50 rfl)) (mvT hZ (tw hw 51 rfl)) (by decide) (backOf (W := 0) (rmC3_4 l Z a0 hw [] ar cs sf ka y0 y1 y2 y3 h0 n0 Z0 hW Vr hr0 hr1 hr2 hr3) hZ (tw hw 51 rfl) (tw hw 50 rfl) (by decide) (by decide)) (g := (mkF m 36 #[vr a, vr ar, vi 0, vi 4, .val .null, .unset] [(.int 4), (.int 0), (.ref ar)])) rfl (by rw [hml]; rfl) (argsL := [(.ref ar), (.int 0), (.int 4)]) (rest := []) (lenOf pd12 rfl) rfl (by show 2 * 0 + _ ≤ _; exact Nat.le_of_eq rfl) (hb hby d3_36) (fun _ _ => ⟨rfl, e27, (by decide : 0 + 2 ≤ _), (by decide : 0 + 12 ≤ _)⟩)
  dsimp only [Pt.U, Pt.locs, Pt.cells, Pt.slots] at X36 l36 y36 z36 st36 hQ36
  subst l36 y36 z36
  obtain ⟨bb36, kb36, rfl, gz36, Nq36, K36, hq36⟩ := hQ36
  have N36 := Fr.app N0 Nq36
  refine Dn.st st36 ?_
  have ne_a_bb36 : a ≠ bb36 := Nat.ne_of_lt (Nat.lt_of_lt_of_le Ea.lt gz36)
  have ne_ar_bb36 : ar ≠ bb36 := Nat.ne_of_lt (Nat.lt_of_lt_of_le Vr.lt gz36)
  have gn_bb36 : n0 ≤ bb36 := Nat.le_trans Z0 gz36
  have gz_bb36 : h0.size ≤ bb36 := Nat.le_trans (Keep.refl h0 [a]).1 gz36
  have Wo36 := hW.keep K36 own_k0
  have E_a_36 := Ea.keep K36
  have F_a_coder_36 := Fc.keep K36 nin0
  have F_a_value_36 := Fv.keep K36 nin0
  have V_ar_36 := Vr.keep K36 nin0
  have Kt36 := Keep.trans (Keep.refl h0 [a]) K36 (by simp)
  have Z36 : n0 ≤ T36.heap.size := Nat.le_trans Z0 K36.1
  rcases hq36 with ⟨VL36, hp36⟩ | VU36
  · show Dn p e below s _ _ _ (T36.setTop (mkF m 39 #[vr a, vr ar, vi 0, vi 4, .val .null, .unset] [(.ref bb36)]))
    refine Dn.st (fun _ kk => XS.astore X36.here hx rfl (hb hby d3_39) rfl rfl (l' := #[vr a, vr ar, vi 0, vi 4, .val .null, vr bb36]) rfl (XS.aloadN X36.here hx rfl (hb hby d3_41) rfl rfl (XS.aload X36.here hx rfl (hb hby d3_42) rfl rfl (XS.iloadN X36.here hx rfl (hb hby d3_44) rfl (kk))))) ?_
    show Dn p e below s _ _ _ (T36.setTop (mkF m 45 #[vr a, vr ar, vi 0, vi 4, .val .null, vr bb36] [(.int 4), (.ref bb36), (.ref a)]))
    obtain ⟨_, _, ⟨T45, L45, k45, n45⟩, -, X45, ⟨Lc45, hQ45, l45, y45, z45⟩, st45⟩ := Jvm.LawKit.callS X36 hx (y := on4) hown (mvT hZ (tw hw 55 rfl)) (mvT hZ (tw hw 56 rfl)) (mvT hZ (tw hw 50 rfl)) (mvT hZ (tw hw 57 rfl)) (by decide) (backOf (W := 1) (rmCl4_0 l Z a0 hw [] bb36 kb36 [(.int (own_b y0)), (.int (own_b y1)), (.int (own_b y2)), (.int (own_b y3))] T36.heap n0 Z36 VL36) hZ (tw hw 57 rfl) (tw hw 50 rfl) (by decide) (by decide)) (g := (mkF m 45 #[vr a, vr ar, vi 0, vi 4, .val .null, vr bb36] [(.int 4), (.ref bb36), (.ref a)])) rfl (by rw [hml]; rfl) (argsL := [(.ref bb36), (.int 4)]) (rest := [(.ref a)]) (lenOf pd13 rfl) rfl (by show 2 * 0 + _ ≤ _; exact Nat.le_of_eq rfl) (hb hby d3_45) (fun _ _ => ⟨rfl, rfl, (by decide : 2 + 0 ≤ _), (by decide : 12 + 0 ≤ _)⟩)
    dsimp only [Pt.U, Pt.locs, Pt.cells, Pt.slots] at X45 l45 y45 z45 st45 hQ45
    subst l45 y45 z45
    obtain ⟨rfl, Nq45, hh45⟩ := hQ45
    have N45 := Fr.app N36 Nq45
    refine Dn.st st45 ?_
    show Dn p e below s _ _ _ (T45.setTop (mkF m 48 #[vr a, vr ar, vi 0, vi 4, .val .null, vr bb36] [(.int 0), (.ref a)]))
    obtain ⟨T48, h48, X48, e48, W48, st48⟩ := putF X45 hx hZ hown (host := "") (Or.inl (tw hw 27 rfl)) Via.refl hh45 F_a_coder_36 E_a_36 (Or.inr ⟨(tw hw 23 rfl), rfl, hnm⟩) (tw hw 7 rfl) (ty := .byte) (by decide) rfl rfl (g := (mkF m 48 #[vr a, vr ar, vi 0, vi 4, .val .null, vr bb36] [(.int 0), (.ref a)])) rfl rfl (hb hby d3_48)
    have Wo48 := Wo36.wr W48 ga
    have E_a_48 := E_a_36.wr W48
    have F_a_value_48 := F_a_value_36.other W48 (Or.inr (slot_ne (Or.inr (tw hw 22 rfl)) (Or.inr (tw hw 23 rfl)) (by decide) (t := (.array .byte)) (t' := .byte) (by decide) (by decide)))
    have V_ar_48 := V_ar_36.other W48 (Ne.symm hne)
    have V_bb36_48 := VL36.other W48 (Ne.symm ne_a_bb36)
    have F_a_coder_48 := F_a_coder_36.same W48
    have K48 := Kt36.wr W48 (Or.inl (List.mem_of_getElem? (i := 0) rfl))
    have N48 := Fr.snoc X48 N45 ga
    have Z48 : n0 ≤ h48.size := Nat.le_trans Z36 (Keep.of_wr W48).1
    refine Dn.st st48 ?_
    show Dn p e below s _ _ _ (T48.setTop (mkF m 51 #[vr a, vr ar, vi 0, vi 4, .val .null, vr bb36] []))
    refine Dn.st (fun _ kk => XS.aloadN X48.here hx rfl (hb hby d3_51) rfl rfl (XS.aload X48.here hx rfl (hb hby d3_52) rfl rfl (kk))) ?_
    show Dn p e below s _ _ _ (T48.setTop (mkF m 54 #[vr a, vr ar, vi 0, vi 4, .val .null, vr bb36] [(.ref bb36), (.ref a)]))
    obtain ⟨T54, h54, X54, e54, W54, st54⟩ := putF X48 hx hZ hown (host := "") (Or.inl (tw hw 26 rfl)) Via.refl e48 F_a_value_48 E_a_48 (Or.inr ⟨(tw hw 22 rfl), rfl, hnm⟩) (tw hw 7 rfl) (ty := (.array .byte)) (by decide) rfl rfl (g := (mkF m 54 #[vr a, vr ar, vi 0, vi 4, .val .null, vr bb36] [(.ref bb36), (.ref a)])) rfl rfl (hb hby d3_54)
    have Wo54 := Wo48.wr W54 ga
    have E_a_54 := E_a_48.wr W54
    have F_a_coder_54 := F_a_coder_48.other W54 (Or.inr (slot_ne (Or.inr (tw hw 23 rfl)) (Or.inr (tw hw 22 rfl)) (by decide) (t := .byte) (t' := (.array .byte)) (by decide) (by decide)))
    have V_ar_54 := V_ar_48.other W54 (Ne.symm hne)
    have V_bb36_54 := V_bb36_48.other W54 (Ne.symm ne_a_bb36)
    have F_a_value_54 := F_a_value_48.same W54
    have K54 := K48.wr W54 (Or.inl (List.mem_of_getElem? (i := 0) rfl))
    have N54 := Fr.snoc X54 N48 ga
    have Z54 : n0 ≤ h54.size := Nat.le_trans Z48 (Keep.of_wr W54).1
    refine Dn.st st54 ?_
    show Dn p e below s _ _ _ (T54.setTop (mkF m 57 #[vr a, vr ar, vi 0, vi 4, .val .null, vr bb36] []))
    exact Dn.ret0 X54 hlk hx hret (hb hby d3_57) (by rw [e54]; exact ⟨rfl, N54, K54, E_a_54, Or.inl ⟨bb36, kb36, F_a_coder_54, F_a_value_54, V_bb36_54, hp36⟩⟩) (by decide) (by decide)
  · show Dn p e below s _ _ _ (T36.setTop (mkF m 39 #[vr a, vr ar, vi 0, vi 4, .val .null, .unset] [(.ref bb36)]))
    refine Dn.st (fun _ kk => XS.astore X36.here hx rfl (hb hby d3_39) rfl rfl (l' := #[vr a, vr ar, vi 0, vi 4, .val .null, vr bb36]) rfl (XS.aloadN X36.here hx rfl (hb hby d3_41) rfl rfl (XS.aload X36.here hx rfl (hb hby d3_42) rfl rfl (XS.iloadN X36.here hx rfl (hb hby d3_44) rfl (kk))))) ?_
    show Dn p e below s _ _ _ (T36.setTop (mkF m 45 #[vr a, vr ar, vi 0, vi 4, .val .null, vr bb36] [(.int 4), (.ref bb36), (.ref a)]))
    obtain ⟨_, _, ⟨T45, L45, k45, n45⟩, -, X45, ⟨Lc45, hQ45, l45, y45, z45⟩, st45⟩ := Jvm.LawKit.callS X36 hx (y := on4) hown (mvT hZ (tw hw 55 rfl)) (mvT hZ (tw hw 56 rfl)) (mvT hZ (tw hw 50 rfl)) (mvT hZ (tw hw 57 rfl)) (by decide) (backOf (W := 1) (rmCl4_1 l Z a0 hw [] bb36 kb36 [(.int (own_lo y0)), (.int (own_hi y0)), (.int (own_lo y1)), (.int (own_hi y1)), (.int (own_lo y2)), (.int (own_hi y2)), (.int (own_lo y3)), (.int (own_hi y3))] T36.heap n0 Z36 VU36) hZ (tw hw 57 rfl) (tw hw 50 rfl) (by decide) (by decide)) (g := (mkF m 45 #[vr a, vr ar, vi 0, vi 4, .val .null, vr bb36] [(.int 4), (.ref bb36), (.ref a)])) rfl (by rw [hml]; rfl) (argsL := [(.ref bb36), (.int 4)]) (rest := [(.ref a)]) (lenOf pd13 rfl) rfl (by show 2 * 0 + _ ≤ _; exact Nat.le_of_eq rfl) (hb hby d3_45) (fun _ _ => ⟨rfl, rfl, (by decide : 2 + 0 ≤ _), (by decide : 12 + 0 ≤ _)⟩)
    dsimp only [Pt.U, Pt.locs, Pt.cells, Pt.slots] at X45 l45 y45 z45 st45 hQ45
    subst l45 y45 z45
    obtain ⟨rfl, Nq45, hh45⟩ := hQ45
    have N45 := Fr.app N36 Nq45
    refine Dn.st st45 ?_
    show Dn p e below s _ _ _ (T45.setTop (mkF m 48 #[vr a, vr ar, vi 0, vi 4, .val .null, vr bb36] [(.int 1), (.ref a)]))
    obtain ⟨T48, h48, X48, e48, W48, st48⟩ := putF X45 hx hZ hown (host := "") (Or.inl (tw hw 27 rfl)) Via.refl hh45 F_a_coder_36 E_a_36 (Or.inr ⟨(tw hw 23 rfl), rfl, hnm⟩) (tw hw 7 rfl) (ty := .byte) (by decide) rfl rfl (g := (mkF m 48 #[vr a, vr ar, vi 0, vi 4, .val .null, vr bb36] [(.int 1), (.ref a)])) rfl rfl (hb hby d3_48)
    have Wo48 := Wo36.wr W48 ga
    have E_a_48 := E_a_36.wr W48
    have F_a_value_48 := F_a_value_36.other W48 (Or.inr (slot_ne (Or.inr (tw hw 22 rfl)) (Or.inr (tw hw 23 rfl)) (by decide) (t := (.array .byte)) (t' := .byte) (by decide) (by decide)))
    have V_ar_48 := V_ar_36.other W48 (Ne.symm hne)
    have V_bb36_48 := VU36.other W48 (Ne.symm ne_a_bb36)
    have F_a_coder_48 := F_a_coder_36.same W48
    have K48 := Kt36.wr W48 (Or.inl (List.mem_of_getElem? (i := 0) rfl))
    have N48 := Fr.snoc X48 N45 ga
    have Z48 : n0 ≤ h48.size := Nat.le_trans Z36 (Keep.of_wr W48).1
    refine Dn.st st48 ?_
    show Dn p e below s _ _ _ (T48.setTop (mkF m 51 #[vr a, vr ar, vi 0, vi 4, .val .null, vr bb36] []))
    refine Dn.st (fun _ kk => XS.aloadN X48.here hx rfl (hb hby d3_51) rfl rfl (XS.aload X48.here hx rfl (hb hby d3_52) rfl rfl (kk))) ?_
    show Dn p e below s _ _ _ (T48.setTop (mkF m 54 #[vr a, vr ar, vi 0, vi 4, .val .null, vr bb36] [(.ref bb36), (.ref a)]))
    obtain ⟨T54, h54, X54, e54, W54, st54⟩ := putF X48 hx hZ hown (host := "") (Or.inl (tw hw 26 rfl)) Via.refl e48 F_a_value_48 E_a_48 (Or.inr ⟨(tw hw 22 rfl), rfl, hnm⟩) (tw hw 7 rfl) (ty := (.array .byte)) (by decide) rfl rfl (g := (mkF m 54 #[vr a, vr ar, vi 0, vi 4, .val .null, vr bb36] [(.ref bb36), (.ref a)])) rfl rfl (hb hby d3_54)
    have Wo54 := Wo48.wr W54 ga
    have E_a_54 := E_a_48.wr W54
    have F_a_coder_54 := F_a_coder_48.other W54 (Or.inr (slot_ne (Or.inr (tw hw 23 rfl)) (Or.inr (tw hw 22 rfl)) (by decide) (t := .byte) (t' := (.array .byte)) (by decide) (by decide)))
    have V_ar_54 := V_ar_48.other W54 (Ne.symm hne)
    have V_bb36_54 := V_bb36_48.other W54 (Ne.symm ne_a_bb36)
    have F_a_value_54 := F_a_value_48.same W54
    have K54 := K48.wr W54 (Or.inl (List.mem_of_getElem? (i := 0) rfl))
    have N54 := Fr.snoc X54 N48 ga
    have Z54 : n0 ≤ h54.size := Nat.le_trans Z48 (Keep.of_wr W54).1
    refine Dn.st st54 ?_
    show Dn p e below s _ _ _ (T54.setTop (mkF m 57 #[vr a, vr ar, vi 0, vi 4, .val .null, vr bb36] []))
    exact Dn.ret0 X54 hlk hx hret (hb hby d3_57) (by rw [e54]; exact ⟨rfl, N54, K54, E_a_54, Or.inr ⟨bb36, kb36, F_a_coder_54, F_a_value_54, V_bb36_54⟩⟩) (by decide) (by decide)

theorem ef2_rmSc4 (m : MethodId) (x0 : Addr) (x1 : Addr) : entryFrame m #[(.ref x0), (.ref x1)] 2 = mkF m 0 #[vr x0, vr x1] [] := by first | (simp [entryFrame, mkF, argsToLocals, Value.category]; done) | rfl
def QSc4 (Z : State) (a : Addr) (ar : Addr) (cs : Int32) (sf : Value) (ka : ClassId) (y0 : Int32) (y1 : Int32) (y2 : Int32) (y3 : Int32) (h0 : Heap) (n0 : Nat) (v : Option Value) (h : Heap) (L : List Loc) : Prop := v = none ∧ Fr n0 L ∧ Keep h0 h [a] ∧ own_Str Z h a 4 8 [(.int (own_b y0)), (.int (own_b y1)), (.int (own_b y2)), (.int (own_b y3))] [(.int (own_lo y0)), (.int (own_hi y0)), (.int (own_lo y1)), (.int (own_hi y1)), (.int (own_lo y2)), (.int (own_hi y2)), (.int (own_lo y3)), (.int (own_hi y3))] (y0.toInt ≤ 255 ∧ y1.toInt ≤ 255 ∧ y2.toInt ≤ 255 ∧ y3.toInt ≤ 255 ∧ True)
theorem rmSc4 (l : Launch) (Z : State) (a0 : Array Value) (hw : ∀ d ∈ tables_1, d.before a0 Z = true) (ws : List Jvm.Cond) (a : Addr) (ar : Addr) (cs : Int32) (sf : Value) (ka : ClassId) (y0 : Int32) (y1 : Int32) (y2 : Int32) (y3 : Int32) (h0 : Heap) (n0 : Nat) (Z0 : n0 ≤ h0.size) (hW : own_W Z h0 n0 cs sf) (ga : n0 ≤ a) (Ea : Exa Z h0 a "java/lang/String") (Fc : Fld Z h0 a "java/lang/String" "coder" "B" (.int 0)) (Fv : Fld Z h0 a "java/lang/String" "value" "[B" .null) (Vr : Arv Z h0 ar ka .char 4 [(.int y0), (.int y1), (.int y2), (.int y3)] (.int 0)) (hne : a ≠ ar) (hr0 : 0 ≤ y0.toInt ∧ y0.toInt ≤ 65535) (hr1 : 0 ≤ y1.toInt ∧ y1.toInt ≤ 65535) (hr2 : 0 ≤ y2.toInt ∧ y2.toInt ≤ 65535) (hr3 : 0 ≤ y3.toInt ∧ y3.toInt ≤ 65535) :
    own_Met l on9 (Jvm.Cond.code on9 jdk_42_method_3_code 2 none :: ws) orm47 #[(.ref a), (.ref ar)] Z h0 (QSc4 Z a ar cs sf ka y0 y1 y2 y3 h0 n0) := by
  refine MetFree.of_bodySF (plainFor_of_name pn0) hisR ?_
  intro p e s m args below meth c s₁ Bd hml0 hP hK
  obtain ⟨rfl, hZ, hh⟩ := hP
  have hx := Bd.exec
  have hby := Bd.bytes
  have hlk : meth.locks = false := BodyLoose.notSynchronized Bd
  have hret := Bd.returns
  have hml : c.maxLocals = 2 := hml0
  have hown : s.vm.findClass "java/lang/String" = some m.cls := findClass_of_methodNamed Bd.named
  have X0 : Stand p l e orm47 s m #[(.ref a), (.ref ar)] below meth c s₁ [] 0 0 := Stand.of_body Bd
  have e0 : s₁.heap = h0 := by rw [← hh, Bd.state]; rfl
  have N0 := Fr.nil n0
  show Dn p e below s (QSc4 Z a ar cs sf ka y0 y1 y2 y3 h0 n0) orm47.cells orm47.slots (s₁.setTop (entryFrame m #[(.ref a), (.ref ar)] 2))
  refine Dn.st (fun _ kk => castTop (ef2_rmSc4 m a ar) kk) ?_
  show Dn p e below s _ _ _ (s₁.setTop (mkF m 0 #[vr a, vr ar] []))
  refine Dn.st (fun _ kk => XS.aloadN X0.here hx rfl (hb hby d2_0) rfl rfl (XS.aloadN X0.here hx rfl (hb hby d2_1) rfl rfl (XS.iconst X0.here hx rfl (hb hby d2_2) (XS.aloadN X0.here hx rfl (hb hby d2_3) rfl rfl (kk))))) ?_
  show Dn p e below s _ _ _ (s₁.setTop (mkF m 4 #[vr a, vr ar] [(.ref ar), (.int 0), (.ref ar), (.ref a)]))
  have Vc_ar_4 := Vr
  obtain ⟨cl_ar_4, Ar_ar_4, q_ar_4, S_ar_4, N_ar_4, H_ar_4, G_ar_4⟩ := Vc_ar_4
  refine Dn.st (fun _ kk => X0.arraylength hx (by rw [e0]; exact Ar_ar_4.1) (State.isArrayOf_alike hZ.alike Ar_ar_4.2.1) (g := (mkF m 4 #[vr a, vr ar] [(.ref ar), (.int 0), (.ref ar), (.ref a)])) rfl rfl (hb hby d2_4) _ (kk)) ?_
  show Dn p e below s _ _ _ (s₁.setTop (mkF m 5 #[vr a, vr ar] [(.int cl_ar_4.slots.size.toInt32), (.int 0), (.ref ar), (.ref a)]))
  rw [len_of S_ar_4 N_ar_4]
  show Dn p e below s _ _ _ (s₁.setTop (mkF m 5 #[vr a, vr ar] [(.int 4), (.int 0), (.ref ar), (.ref a)]))
  refine Dn.st (fun _ kk => XS.aconstNull X0.here hx rfl (hb hby d2_5) (kk)) ?_
  show Dn p e below s _ _ _ (s₁.setTop (mkF m 6 #[vr a, vr ar] [.null, (.int 4), (.int 0), (.ref ar), (.ref a)]))
  obtain ⟨_, _, ⟨T6, L6, k6, n6⟩, -, X6, ⟨Lc6, hQ6, l6, y6, z6⟩, st6⟩ := X0.specialBack hx (y := on8) rfl hown (mvT hZ (tw hw 13 rfl)) (mvT hZ (tw hw 14 rfl)) (mvT hZ (tw hw 16 rfl)) (by decide) (backOf (W := 0) (rmVc4 l Z a0 hw [] a ar cs sf ka y0 y1 y2 y3 h0 n0 Z0 hW ga Ea Fc Fv Vr hne hr0 hr1 hr2 hr3) hZ (tw hw 16 rfl) (tw hw 8 rfl) (by decide) (by decide)) (g := (mkF m 6 #[vr a, vr ar] [.null, (.int 4), (.int 0), (.ref ar), (.ref a)])) rfl (by rw [hml]; rfl) (Steps.refl _) (a := a) (argsL := [(.ref ar), (.int 0), (.int 4), .null]) (rest := []) (lenOf pd0 rfl) rfl (by show 2 * 0 + _ ≤ _; exact Nat.le_of_eq rfl) (hb hby d2_6) (fun _ _ => ⟨rfl, e0, (by decide : 0 + 2 ≤ _), (by decide : 0 + 12 ≤ _)⟩)
  dsimp only [Pt.U, Pt.locs, Pt.cells, Pt.slots] at X6 l6 y6 z6 st6 hQ6
  subst l6 y6 z6
  obtain ⟨rfl, Nq6, K6, S6⟩ := hQ6
  have N6 := Fr.app N0 Nq6
  refine Dn.tr st6 ?_
  show Dn p e below s _ _ _ (T6.setTop (mkF m 9 #[vr a, vr ar] []))
  exact Dn.ret0 X6 hlk hx hret (hb hby d2_9) ⟨rfl, N6, K6, S6⟩ (by decide) (by decide)

theorem d1_0 : decode method_2_code 0 = .ok (.iload_n 0, 1) := by decide +kernel
theorem d1_1 : decode method_2_code 1 = .ok (.iconst 3, 1) := by decide +kernel
theorem d1_2 : decode method_2_code 2 = .ok (.iand, 1) := by decide +kernel
theorem d1_3 : decode method_2_code 3 = .ok (.istore_n 1, 1) := by decide +kernel
theorem d1_4 : decode method_2_code 4 = .ok (.iload_n 1, 1) := by decide +kernel
theorem d1_5 : decode method_2_code 5 = .ok (.ifCond .ne 6, 3) := by decide +kernel
theorem d1_8 : decode method_2_code 8 = .ok (.bipush 32, 2) := by decide +kernel
theorem d1_10 : decode method_2_code 10 = .ok (.ireturn, 1) := by decide +kernel
theorem d1_11 : decode method_2_code 11 = .ok (.iload_n 1, 1) := by decide +kernel
theorem d1_12 : decode method_2_code 12 = .ok (.iconst 1, 1) := by decide +kernel
theorem d1_13 : decode method_2_code 13 = .ok (.if_icmp .ne 6, 3) := by decide +kernel
theorem d1_16 : decode method_2_code 16 = .ok (.bipush 9, 2) := by decide +kernel
theorem d1_18 : decode method_2_code 18 = .ok (.ireturn, 1) := by decide +kernel
theorem d1_19 : decode method_2_code 19 = .ok (.iload_n 1, 1) := by decide +kernel
theorem d1_20 : decode method_2_code 20 = .ok (.iconst 2, 1) := by decide +kernel
theorem d1_21 : decode method_2_code 21 = .ok (.if_icmp .ne 6, 3) := by decide +kernel
theorem d1_24 : decode method_2_code 24 = .ok (.bipush 35, 2) := by decide +kernel
theorem d1_26 : decode method_2_code 26 = .ok (.ireturn, 1) := by decide +kernel
theorem d1_27 : decode method_2_code 27 = .ok (.iload_n 0, 1) := by decide +kernel
theorem d1_28 : decode method_2_code 28 = .ok (.iconst 2, 1) := by decide +kernel
theorem d1_29 : decode method_2_code 29 = .ok (.iushr, 1) := by decide +kernel
theorem d1_30 : decode method_2_code 30 = .ok (.ldc 7, 2) := by decide +kernel
theorem d1_32 : decode method_2_code 32 = .ok (.iand, 1) := by decide +kernel
theorem d1_33 : decode method_2_code 33 = .ok (.i2c, 1) := by decide +kernel
theorem d1_34 : decode method_2_code 34 = .ok (.ireturn, 1) := by decide +kernel
theorem pn4 : plainName "com/example/ermon/ermon/io/LineIsWordPinLaw" = true := by first | (simp [plainName, overriddenIn]; done) | decide +kernel
theorem ef1_rmPk (m : MethodId) (x0 : Int32) : entryFrame m #[(.int x0)] 2 = mkF m 0 #[vi x0, .unset] [] := by first | (simp [entryFrame, mkF, argsToLocals, Value.category]; done) | rfl
def QPk (Z : State) (px : Int32) (h0 : Heap) (n0 : Nat) (v : Option Value) (h : Heap) (L : List Loc) : Prop := ∃ r : Int32, v = some (.int r) ∧ (0 ≤ r.toInt ∧ r.toInt ≤ 65535) ∧ Fr n0 L ∧ h = h0
theorem rmPk (l : Launch) (Z : State) (a0 : Array Value) (hw : ∀ d ∈ tables_1, d.before a0 Z = true) (ws : List Jvm.Cond) (px : Int32) (h0 : Heap) (n0 : Nat) (Z0 : n0 ≤ h0.size) :
    own_Met l on23 (Jvm.Cond.code on23 method_2_code 2 (some .char) :: ws) orm25 #[(.int px)] Z h0 (QPk Z px h0 n0) := by
  refine MetFree.of_bodySF (plainFor_of_name pn4) hisR ?_
  intro p e s m args below meth c s₁ Bd hml0 hP hK
  obtain ⟨rfl, hZ, hh⟩ := hP
  have hx := Bd.exec
  have hby := Bd.bytes
  have hlk : meth.locks = false := BodyLoose.notSynchronized Bd
  have hret := Bd.returns
  have hml : c.maxLocals = 2 := hml0
  have hown : s.vm.findClass "com/example/ermon/ermon/io/LineIsWordPinLaw" = some m.cls := findClass_of_methodNamed Bd.named
  have X0 : Stand p l e orm25 s m #[(.int px)] below meth c s₁ [] 0 0 := Stand.of_body Bd
  have e0 : s₁.heap = h0 := by rw [← hh, Bd.state]; rfl
  have N0 := Fr.nil n0
  have r_px := rng32 px
  show Dn p e below s (QPk Z px h0 n0) orm25.cells orm25.slots (s₁.setTop (entryFrame m #[(.int px)] 2))
  refine Dn.st (fun _ kk => castTop (ef1_rmPk m px) kk) ?_
  show Dn p e below s _ _ _ (s₁.setTop (mkF m 0 #[vi px, .unset] []))
  refine Dn.st (fun _ kk => XS.iloadN X0.here hx rfl (hb hby d1_0) rfl (XS.iconst X0.here hx rfl (hb hby d1_1) (XS.iand X0.here hx rfl (hb hby d1_2) rfl (kk)))) ?_
  show Dn p e below s _ _ _ (s₁.setTop (mkF m 3 #[vi px, .unset] [(.int (px &&& (3 : Int32)))]))
  generalize hv2 : ((px &&& (3 : Int32)) : Int32) = v2
  have q2 : v2.toInt = px.toInt % 4 := by have qq := c_mask px (3 : Int32) 2 (by decide) (by decide); rw [hv2] at qq; exact qq
  have r2 := rng32 v2
  show Dn p e below s _ _ _ (s₁.setTop (mkF m 3 #[vi px, .unset] [(.int v2)]))
  refine Dn.st (fun _ kk => XS.istoreN X0.here hx rfl (hb hby d1_3) rfl (l' := #[vi px, vi v2]) rfl (XS.iloadN X0.here hx rfl (hb hby d1_4) rfl (kk))) ?_
  show Dn p e below s _ _ _ (s₁.setTop (mkF m 5 #[vi px, vi v2] [(.int v2)]))
  by_cases hc5 : v2 = (0 : Int32)
  · have hi5 : v2.toInt = 0 := congrArg Int32.toInt hc5
    refine Dn.st (fun _ kk => XS.ifNo X0.here hx rfl (hb hby d1_5) rfl ((if0 _ _).trans (teq hc5).2) (XS.bipush X0.here hx rfl (hb hby d1_8) (kk))) ?_
    show Dn p e below s _ _ _ (s₁.setTop (mkF m 10 #[vi px, vi v2] [(.int 32)]))
    exact Dn.ret X0 hlk hx hret rfl (Or.inl ⟨rfl, Or.inr (Or.inr (Or.inr (Or.inl rfl))), _, rfl⟩) (hb hby d1_10) (by rw [e0]; exact ⟨_, rfl, ⟨by decide, by decide⟩, N0, rfl⟩) (by decide) (by decide)
  · have hi5 : ¬ v2.toInt = 0 := fun qq => hc5 (Int32.toInt_inj.mp qq)
    refine Dn.st (fun _ kk => XS.ifYes X0.here hx rfl (pc0 := 5) (pc' := 11) rfl (hb hby d1_5) rfl ((if0 _ _).trans (feq hc5).2) (by decide) (by decide) (XS.iloadN X0.here hx rfl (hb hby d1_11) rfl (XS.iconst X0.here hx rfl (hb hby d1_12) (kk)))) ?_
    show Dn p e below s _ _ _ (s₁.setTop (mkF m 13 #[vi px, vi v2] [(.int 1), (.int v2)]))
    by_cases hc13 : v2 = (1 : Int32)
    · have hi13 : v2.toInt = 1 := congrArg Int32.toInt hc13
      refine Dn.st (fun _ kk => XS.icmpNo X0.here hx rfl (hb hby d1_13) rfl (teq hc13).2 (XS.bipush X0.here hx rfl (hb hby d1_16) (kk))) ?_
      show Dn p e below s _ _ _ (s₁.setTop (mkF m 18 #[vi px, vi v2] [(.int 9)]))
      exact Dn.ret X0 hlk hx hret rfl (Or.inl ⟨rfl, Or.inr (Or.inr (Or.inr (Or.inl rfl))), _, rfl⟩) (hb hby d1_18) (by rw [e0]; exact ⟨_, rfl, ⟨by decide, by decide⟩, N0, rfl⟩) (by decide) (by decide)
    · have hi13 : ¬ v2.toInt = 1 := fun qq => hc13 (Int32.toInt_inj.mp qq)
      refine Dn.st (fun _ kk => XS.icmpYes X0.here hx rfl (pc0 := 13) (pc' := 19) rfl (hb hby d1_13) rfl (feq hc13).2 (by decide) (by decide) (XS.iloadN X0.here hx rfl (hb hby d1_19) rfl (XS.iconst X0.here hx rfl (hb hby d1_20) (kk)))) ?_
      show Dn p e below s _ _ _ (s₁.setTop (mkF m 21 #[vi px, vi v2] [(.int 2), (.int v2)]))
      by_cases hc21 : v2 = (2 : Int32)
      · have hi21 : v2.toInt = 2 := congrArg Int32.toInt hc21
        refine Dn.st (fun _ kk => XS.icmpNo X0.here hx rfl (hb hby d1_21) rfl (teq hc21).2 (XS.bipush X0.here hx rfl (hb hby d1_24) (kk))) ?_
        show Dn p e below s _ _ _ (s₁.setTop (mkF m 26 #[vi px, vi v2] [(.int 35)]))
        exact Dn.ret X0 hlk hx hret rfl (Or.inl ⟨rfl, Or.inr (Or.inr (Or.inr (Or.inl rfl))), _, rfl⟩) (hb hby d1_26) (by rw [e0]; exact ⟨_, rfl, ⟨by decide, by decide⟩, N0, rfl⟩) (by decide) (by decide)
      · have hi21 : ¬ v2.toInt = 2 := fun qq => hc21 (Int32.toInt_inj.mp qq)
        refine Dn.st (fun _ kk => XS.icmpYes X0.here hx rfl (pc0 := 21) (pc' := 27) rfl (hb hby d1_21) rfl (feq hc21).2 (by decide) (by decide) (XS.iloadN X0.here hx rfl (hb hby d1_27) rfl (XS.iconst X0.here hx rfl (hb hby d1_28) (XS.iushr X0.here hx rfl (hb hby d1_29) rfl (kk))))) ?_
        show Dn p e below s _ _ _ (s₁.setTop (mkF m 30 #[vi px, vi v2] [(.int ((px.toUInt32 >>> ((2 : Int32) &&& 31).toUInt32).toInt32))]))
        generalize hv29 : (((px.toUInt32 >>> ((2 : Int32) &&& 31).toUInt32).toInt32) : Int32) = v29
        have q29 : v29.toInt = (px.toInt % 4294967296) / 4 := by have qq := c_iushr px (2 : Int32) 2 (by decide) (by decide); rw [hv29] at qq; exact qq
        have r29 := rng32 v29
        show Dn p e below s _ _ _ (s₁.setTop (mkF m 30 #[vi px, vi v2] [(.int v29)]))
        refine Dn.st (fun _ kk => X0.ldcInt hx hown (mvT hZ (tw hw 5 rfl)) (g := (mkF m 30 #[vi px, vi v2] [(.int v29)])) rfl (hb hby d1_30) _ (XS.iand X0.here hx rfl (hb hby d1_32) rfl (kk))) ?_
        show Dn p e below s _ _ _ (s₁.setTop (mkF m 33 #[vi px, vi v2] [(.int (v29 &&& (65535 : Int32)))]))
        generalize hv32 : ((v29 &&& (65535 : Int32)) : Int32) = v32
        have q32 : v32.toInt = v29.toInt % 65536 := by have qq := c_mask v29 (65535 : Int32) 16 (by decide) (by decide); rw [hv32] at qq; exact qq
        have r32 := rng32 v32
        show Dn p e below s _ _ _ (s₁.setTop (mkF m 33 #[vi px, vi v2] [(.int v32)]))
        refine Dn.st (fun _ kk => XS.i2c X0.here hx rfl (hb hby d1_33) rfl (kk)) ?_
        show Dn p e below s _ _ _ (s₁.setTop (mkF m 34 #[vi px, vi v2] [(.int (v32.toUInt32.toUInt16.toUInt32.toInt32))]))
        generalize hv33 : ((v32.toUInt32.toUInt16.toUInt32.toInt32) : Int32) = v33
        have q33 : (v33.toInt - v32.toInt) % 65536 = 0 ∧ 0 ≤ v33.toInt ∧ v33.toInt < 65536 := by have qq := c_i2c v32; rw [hv33] at qq; exact qq
        have r33 := rng32 v33
        show Dn p e below s _ _ _ (s₁.setTop (mkF m 34 #[vi px, vi v2] [(.int v33)]))
        exact Dn.ret X0 hlk hx hret (own_nc (by omega) (by omega)) (Or.inl ⟨rfl, Or.inr (Or.inr (Or.inr (Or.inl rfl))), _, rfl⟩) (hb hby d1_34) (by rw [e0]; exact ⟨_, rfl, ⟨by omega, by omega⟩, N0, rfl⟩) (by decide) (by decide)

theorem d12_0 : decode method_3_code 0 = .ok (.iload_n 0, 1) := by decide +kernel
theorem d12_1 : decode method_3_code 1 = .ok (.bipush 32, 2) := by decide +kernel
theorem d12_3 : decode method_3_code 3 = .ok (.if_icmp .eq 19, 3) := by decide +kernel
theorem d12_6 : decode method_3_code 6 = .ok (.iload_n 0, 1) := by decide +kernel
theorem d12_7 : decode method_3_code 7 = .ok (.bipush 9, 2) := by decide +kernel
theorem d12_9 : decode method_3_code 9 = .ok (.if_icmp .eq 13, 3) := by decide +kernel
theorem d12_12 : decode method_3_code 12 = .ok (.iload_n 0, 1) := by decide +kernel
theorem d12_13 : decode method_3_code 13 = .ok (.bipush 35, 2) := by decide +kernel
theorem d12_15 : decode method_3_code 15 = .ok (.if_icmp .eq 7, 3) := by decide +kernel
theorem d12_18 : decode method_3_code 18 = .ok (.iconst 1, 1) := by decide +kernel
theorem d12_19 : decode method_3_code 19 = .ok (.goto 4, 3) := by decide +kernel
theorem d12_22 : decode method_3_code 22 = .ok (.iconst 0, 1) := by decide +kernel
theorem d12_23 : decode method_3_code 23 = .ok (.ireturn, 1) := by decide +kernel
theorem ef12_rmOk (m : MethodId) (x0 : Int32) : entryFrame m #[(.int x0)] 1 = mkF m 0 #[vi x0] [] := by first | (simp [entryFrame, mkF, argsToLocals, Value.category]; done) | rfl
def QOk (Z : State) (cc : Int32) (h0 : Heap) (n0 : Nat) (v : Option Value) (h : Heap) (L : List Loc) : Prop := ∃ r : Int32, v = some (.int r) ∧ ((r = 1 ∧ own_good cc) ∨ (r = 0 ∧ ¬ own_good cc)) ∧ Fr n0 L ∧ h = h0
theorem rmOk (l : Launch) (Z : State) (a0 : Array Value) (hw : ∀ d ∈ tables_1, d.before a0 Z = true) (ws : List Jvm.Cond) (cc : Int32) (h0 : Heap) (n0 : Nat) (Z0 : n0 ≤ h0.size) :
    own_Met l on17 (Jvm.Cond.code on17 method_3_code 1 (some .boolean) :: ws) orm25 #[(.int cc)] Z h0 (QOk Z cc h0 n0) := by
  refine MetFree.of_bodySF (plainFor_of_name pn4) hisR ?_
  intro p e s m args below meth c s₁ Bd hml0 hP hK
  obtain ⟨rfl, hZ, hh⟩ := hP
  have hx := Bd.exec
  have hby := Bd.bytes
  have hlk : meth.locks = false := BodyLoose.notSynchronized Bd
  have hret := Bd.returns
  have hml : c.maxLocals = 1 := hml0
  have hown : s.vm.findClass "com/example/ermon/ermon/io/LineIsWordPinLaw" = some m.cls := findClass_of_methodNamed Bd.named
  have X0 : Stand p l e orm25 s m #[(.int cc)] below meth c s₁ [] 0 0 := Stand.of_body Bd
  have e0 : s₁.heap = h0 := by rw [← hh, Bd.state]; rfl
  have N0 := Fr.nil n0
  have r_cc := rng32 cc
  show Dn p e below s (QOk Z cc h0 n0) orm25.cells orm25.slots (s₁.setTop (entryFrame m #[(.int cc)] 1))
  refine Dn.st (fun _ kk => castTop (ef12_rmOk m cc) kk) ?_
  show Dn p e below s _ _ _ (s₁.setTop (mkF m 0 #[vi cc] []))
  refine Dn.st (fun _ kk => XS.iloadN X0.here hx rfl (hb hby d12_0) rfl (XS.bipush X0.here hx rfl (hb hby d12_1) (kk))) ?_
  show Dn p e below s _ _ _ (s₁.setTop (mkF m 3 #[vi cc] [(.int 32), (.int cc)]))
  by_cases hc3 : cc = (32 : Int32)
  · have hi3 : cc.toInt = 32 := congrArg Int32.toInt hc3
    refine Dn.st (fun _ kk => XS.icmpYes X0.here hx rfl (pc0 := 3) (pc' := 22) rfl (hb hby d12_3) rfl (teq hc3).1 (by decide) (by decide) (XS.iconst X0.here hx rfl (hb hby d12_22) (kk))) ?_
    show Dn p e below s _ _ _ (s₁.setTop (mkF m 23 #[vi cc] [(.int 0)]))
    exact Dn.ret X0 hlk hx hret rfl (Or.inl ⟨rfl, Or.inr (Or.inl rfl), _, rfl⟩) (hb hby d12_23) (by rw [e0]; exact ⟨_, rfl, Or.inr ⟨rfl, fun q => q.1 (Or.inl hc3)⟩, N0, rfl⟩) (by decide) (by decide)
  · have hi3 : ¬ cc.toInt = 32 := fun qq => hc3 (Int32.toInt_inj.mp qq)
    refine Dn.st (fun _ kk => XS.icmpNo X0.here hx rfl (hb hby d12_3) rfl (feq hc3).1 (XS.iloadN X0.here hx rfl (hb hby d12_6) rfl (XS.bipush X0.here hx rfl (hb hby d12_7) (kk)))) ?_
    show Dn p e below s _ _ _ (s₁.setTop (mkF m 9 #[vi cc] [(.int 9), (.int cc)]))
    by_cases hc9 : cc = (9 : Int32)
    · have hi9 : cc.toInt = 9 := congrArg Int32.toInt hc9
      refine Dn.st (fun _ kk => XS.icmpYes X0.here hx rfl (pc0 := 9) (pc' := 22) rfl (hb hby d12_9) rfl (teq hc9).1 (by decide) (by decide) (XS.iconst X0.here hx rfl (hb hby d12_22) (kk))) ?_
      show Dn p e below s _ _ _ (s₁.setTop (mkF m 23 #[vi cc] [(.int 0)]))
      exact Dn.ret X0 hlk hx hret rfl (Or.inl ⟨rfl, Or.inr (Or.inl rfl), _, rfl⟩) (hb hby d12_23) (by rw [e0]; exact ⟨_, rfl, Or.inr ⟨rfl, fun q => q.1 (Or.inr hc9)⟩, N0, rfl⟩) (by decide) (by decide)
    · have hi9 : ¬ cc.toInt = 9 := fun qq => hc9 (Int32.toInt_inj.mp qq)
      refine Dn.st (fun _ kk => XS.icmpNo X0.here hx rfl (hb hby d12_9) rfl (feq hc9).1 (XS.iloadN X0.here hx rfl (hb hby d12_12) rfl (XS.bipush X0.here hx rfl (hb hby d12_13) (kk)))) ?_
      show Dn p e below s _ _ _ (s₁.setTop (mkF m 15 #[vi cc] [(.int 35), (.int cc)]))
      by_cases hc15 : cc = (35 : Int32)
      · have hi15 : cc.toInt = 35 := congrArg Int32.toInt hc15
        refine Dn.st (fun _ kk => XS.icmpYes X0.here hx rfl (pc0 := 15) (pc' := 22) rfl (hb hby d12_15) rfl (teq hc15).1 (by decide) (by decide) (XS.iconst X0.here hx rfl (hb hby d12_22) (kk))) ?_
        show Dn p e below s _ _ _ (s₁.setTop (mkF m 23 #[vi cc] [(.int 0)]))
        exact Dn.ret X0 hlk hx hret rfl (Or.inl ⟨rfl, Or.inr (Or.inl rfl), _, rfl⟩) (hb hby d12_23) (by rw [e0]; exact ⟨_, rfl, Or.inr ⟨rfl, fun q => q.2 hc15⟩, N0, rfl⟩) (by decide) (by decide)
      · have hi15 : ¬ cc.toInt = 35 := fun qq => hc15 (Int32.toInt_inj.mp qq)
        refine Dn.st (fun _ kk => XS.icmpNo X0.here hx rfl (hb hby d12_15) rfl (feq hc15).1 (XS.iconst X0.here hx rfl (hb hby d12_18) (XS.goto X0.here hx rfl (pc0 := 19) (pc' := 23) rfl (hb hby d12_19) (by decide) (by decide) (kk)))) ?_
        show Dn p e below s _ _ _ (s₁.setTop (mkF m 23 #[vi cc] [(.int 1)]))
        exact Dn.ret X0 hlk hx hret rfl (Or.inl ⟨rfl, Or.inr (Or.inl rfl), _, rfl⟩) (hb hby d12_23) (by rw [e0]; exact ⟨_, rfl, Or.inl ⟨rfl, fun q => q.elim hc3 hc9, hc15⟩, N0, rfl⟩) (by decide) (by decide)

theorem d18_0 : decode prog_6_method_7_code 0 = .ok (.iload_n 0, 1) := by decide +kernel
theorem d18_1 : decode prog_6_method_7_code 1 = .ok (.bipush 32, 2) := by decide +kernel
theorem d18_3 : decode prog_6_method_7_code 3 = .ok (.if_icmp .eq 9, 3) := by decide +kernel
theorem d18_6 : decode prog_6_method_7_code 6 = .ok (.iload_n 0, 1) := by decide +kernel
theorem d18_7 : decode prog_6_method_7_code 7 = .ok (.bipush 9, 2) := by decide +kernel
theorem d18_9 : decode prog_6_method_7_code 9 = .ok (.if_icmp .ne 7, 3) := by decide +kernel
theorem d18_12 : decode prog_6_method_7_code 12 = .ok (.iconst 1, 1) := by decide +kernel
theorem d18_13 : decode prog_6_method_7_code 13 = .ok (.goto 4, 3) := by decide +kernel
theorem d18_16 : decode prog_6_method_7_code 16 = .ok (.iconst 0, 1) := by decide +kernel
theorem d18_17 : decode prog_6_method_7_code 17 = .ok (.ireturn, 1) := by decide +kernel
theorem pn5 : plainName "com/example/ermon/ermon/io/Line" = true := by first | (simp [plainName, overriddenIn]; done) | decide +kernel
theorem ef18_rmSp (m : MethodId) (x0 : Int32) : entryFrame m #[(.int x0)] 1 = mkF m 0 #[vi x0] [] := by first | (simp [entryFrame, mkF, argsToLocals, Value.category]; done) | rfl
def QSp (Z : State) (cc : Int32) (h0 : Heap) (n0 : Nat) (v : Option Value) (h : Heap) (L : List Loc) : Prop := ∃ r : Int32, v = some (.int r) ∧ ((r = 1 ∧ (cc = 32 ∨ cc = 9)) ∨ (r = 0 ∧ ¬ (cc = 32 ∨ cc = 9))) ∧ Fr n0 L ∧ h = h0
theorem rmSp (l : Launch) (Z : State) (a0 : Array Value) (hw : ∀ d ∈ tables_1, d.before a0 Z = true) (ws : List Jvm.Cond) (cc : Int32) (h0 : Heap) (n0 : Nat) (Z0 : n0 ≤ h0.size) :
    own_Met l on16 (Jvm.Cond.code on16 prog_6_method_7_code 1 (some .boolean) :: ws) orm25 #[(.int cc)] Z h0 (QSp Z cc h0 n0) := by
  refine MetFree.of_bodySF (plainFor_of_name pn5) hisR ?_
  intro p e s m args below meth c s₁ Bd hml0 hP hK
  obtain ⟨rfl, hZ, hh⟩ := hP
  have hx := Bd.exec
  have hby := Bd.bytes
  have hlk : meth.locks = false := BodyLoose.notSynchronized Bd
  have hret := Bd.returns
  have hml : c.maxLocals = 1 := hml0
  have hown : s.vm.findClass "com/example/ermon/ermon/io/Line" = some m.cls := findClass_of_methodNamed Bd.named
  have X0 : Stand p l e orm25 s m #[(.int cc)] below meth c s₁ [] 0 0 := Stand.of_body Bd
  have e0 : s₁.heap = h0 := by rw [← hh, Bd.state]; rfl
  have N0 := Fr.nil n0
  have r_cc := rng32 cc
  show Dn p e below s (QSp Z cc h0 n0) orm25.cells orm25.slots (s₁.setTop (entryFrame m #[(.int cc)] 1))
  refine Dn.st (fun _ kk => castTop (ef18_rmSp m cc) kk) ?_
  show Dn p e below s _ _ _ (s₁.setTop (mkF m 0 #[vi cc] []))
  refine Dn.st (fun _ kk => XS.iloadN X0.here hx rfl (hb hby d18_0) rfl (XS.bipush X0.here hx rfl (hb hby d18_1) (kk))) ?_
  show Dn p e below s _ _ _ (s₁.setTop (mkF m 3 #[vi cc] [(.int 32), (.int cc)]))
  by_cases hc3 : cc = (32 : Int32)
  · have hi3 : cc.toInt = 32 := congrArg Int32.toInt hc3
    refine Dn.st (fun _ kk => XS.icmpYes X0.here hx rfl (pc0 := 3) (pc' := 12) rfl (hb hby d18_3) rfl (teq hc3).1 (by decide) (by decide) (XS.iconst X0.here hx rfl (hb hby d18_12) (XS.goto X0.here hx rfl (pc0 := 13) (pc' := 17) rfl (hb hby d18_13) (by decide) (by decide) (kk)))) ?_
    show Dn p e below s _ _ _ (s₁.setTop (mkF m 17 #[vi cc] [(.int 1)]))
    exact Dn.ret X0 hlk hx hret rfl (Or.inl ⟨rfl, Or.inr (Or.inl rfl), _, rfl⟩) (hb hby d18_17) (by rw [e0]; exact ⟨_, rfl, Or.inl ⟨rfl, Or.inl hc3⟩, N0, rfl⟩) (by decide) (by decide)
  · have hi3 : ¬ cc.toInt = 32 := fun qq => hc3 (Int32.toInt_inj.mp qq)
    refine Dn.st (fun _ kk => XS.icmpNo X0.here hx rfl (hb hby d18_3) rfl (feq hc3).1 (XS.iloadN X0.here hx rfl (hb hby d18_6) rfl (XS.bipush X0.here hx rfl (hb hby d18_7) (kk)))) ?_
    show Dn p e below s _ _ _ (s₁.setTop (mkF m 9 #[vi cc] [(.int 9), (.int cc)]))
    by_cases hc9 : cc = (9 : Int32)
    · have hi9 : cc.toInt = 9 := congrArg Int32.toInt hc9
      refine Dn.st (fun _ kk => XS.icmpNo X0.here hx rfl (hb hby d18_9) rfl (teq hc9).2 (XS.iconst X0.here hx rfl (hb hby d18_12) (XS.goto X0.here hx rfl (pc0 := 13) (pc' := 17) rfl (hb hby d18_13) (by decide) (by decide) (kk)))) ?_
      show Dn p e below s _ _ _ (s₁.setTop (mkF m 17 #[vi cc] [(.int 1)]))
      exact Dn.ret X0 hlk hx hret rfl (Or.inl ⟨rfl, Or.inr (Or.inl rfl), _, rfl⟩) (hb hby d18_17) (by rw [e0]; exact ⟨_, rfl, Or.inl ⟨rfl, Or.inr hc9⟩, N0, rfl⟩) (by decide) (by decide)
    · have hi9 : ¬ cc.toInt = 9 := fun qq => hc9 (Int32.toInt_inj.mp qq)
      refine Dn.st (fun _ kk => XS.icmpYes X0.here hx rfl (pc0 := 9) (pc' := 16) rfl (hb hby d18_9) rfl (feq hc9).2 (by decide) (by decide) (XS.iconst X0.here hx rfl (hb hby d18_16) (kk))) ?_
      show Dn p e below s _ _ _ (s₁.setTop (mkF m 17 #[vi cc] [(.int 0)]))
      exact Dn.ret X0 hlk hx hret rfl (Or.inl ⟨rfl, Or.inr (Or.inl rfl), _, rfl⟩) (hb hby d18_17) (by rw [e0]; exact ⟨_, rfl, Or.inr ⟨rfl, fun q => q.elim hc3 hc9⟩, N0, rfl⟩) (by decide) (by decide)

theorem d5_0 : decode prog_6_method_6_code 0 = .ok (.aload_n 0, 1) := by decide +kernel
theorem d5_1 : decode prog_6_method_6_code 1 = .ok (.invokevirtual 142, 3) := by decide +kernel
theorem d5_4 : decode prog_6_method_6_code 4 = .ok (.ifCond .ne 7, 3) := by decide +kernel
theorem d5_11 : decode prog_6_method_6_code 11 = .ok (.iconst 0, 1) := by decide +kernel
theorem d5_12 : decode prog_6_method_6_code 12 = .ok (.istore_n 1, 1) := by decide +kernel
theorem d5_13 : decode prog_6_method_6_code 13 = .ok (.iconst 0, 1) := by decide +kernel
theorem d5_14 : decode prog_6_method_6_code 14 = .ok (.istore_n 2, 1) := by decide +kernel
theorem d5_15 : decode prog_6_method_6_code 15 = .ok (.iload_n 2, 1) := by decide +kernel
theorem d5_16 : decode prog_6_method_6_code 16 = .ok (.aload_n 0, 1) := by decide +kernel
theorem d5_17 : decode prog_6_method_6_code 17 = .ok (.invokevirtual 129, 3) := by decide +kernel
theorem d5_20 : decode prog_6_method_6_code 20 = .ok (.if_icmp .ge 38, 3) := by decide +kernel
theorem d5_58 : decode prog_6_method_6_code 58 = .ok (.iload_n 1, 1) := by decide +kernel
theorem d5_59 : decode prog_6_method_6_code 59 = .ok (.ireturn, 1) := by decide +kernel
theorem pd14 : parseMethodDescriptor "()I" = some ⟨[], some .int⟩ := by decide +kernel
theorem ef5_rmIw0 (m : MethodId) (x0 : Addr) : entryFrame m #[(.ref x0)] 4 = mkF m 0 #[vr x0, .unset, .unset, .unset] [] := by first | (simp [entryFrame, mkF, argsToLocals, Value.category]; done) | rfl
def QIw0 (Z : State) (a : Addr) (cs : Int32) (sf : Value) (h0 : Heap) (n0 : Nat) (v : Option Value) (h : Heap) (L : List Loc) : Prop := v = some (.int 0) ∧ Fr n0 L ∧ h = h0
theorem rmIw0 (l : Launch) (Z : State) (a0 : Array Value) (hw : ∀ d ∈ tables_1, d.before a0 Z = true) (ws : List Jvm.Cond) (a : Addr) (cs : Int32) (sf : Value) (h0 : Heap) (n0 : Nat) (Z0 : n0 ≤ h0.size) (hW : own_W Z h0 n0 cs sf) (hS : own_Str Z h0 a 0 0 [] [] (True)) :
    own_Met l on3 (Jvm.Cond.code on3 prog_6_method_6_code 4 (some .boolean) :: ws) orm52 #[(.ref a)] Z h0 (QIw0 Z a cs sf h0 n0) := by
  refine MetFree.of_bodySF (plainFor_of_name pn5) hisR ?_
  intro p e s m args below meth c s₁ Bd hml0 hP hK
  obtain ⟨rfl, hZ, hh⟩ := hP
  have hx := Bd.exec
  have hby := Bd.bytes
  have hlk : meth.locks = false := BodyLoose.notSynchronized Bd
  have hret := Bd.returns
  have hml : c.maxLocals = 4 := hml0
  have hown : s.vm.findClass "com/example/ermon/ermon/io/Line" = some m.cls := findClass_of_methodNamed Bd.named
  have X0 : Stand p l e orm52 s m #[(.ref a)] below meth c s₁ [] 0 0 := Stand.of_body Bd
  have e0 : s₁.heap = h0 := by rw [← hh, Bd.state]; rfl
  have N0 := Fr.nil n0
  show Dn p e below s (QIw0 Z a cs sf h0 n0) orm52.cells orm52.slots (s₁.setTop (entryFrame m #[(.ref a)] 4))
  refine Dn.st (fun _ kk => castTop (ef5_rmIw0 m a) kk) ?_
  show Dn p e below s _ _ _ (s₁.setTop (mkF m 0 #[vr a, .unset, .unset, .unset] []))
  refine Dn.st (fun _ kk => XS.aloadN X0.here hx rfl (hb hby d5_0) rfl rfl (kk)) ?_
  show Dn p e below s _ _ _ (s₁.setTop (mkF m 1 #[vr a, .unset, .unset, .unset] [(.ref a)]))
  obtain ⟨cq1, kq1, q1a, q1b, q1c⟩ := isOf hZ e0 hS.1
  obtain ⟨_, _, ⟨T1, L1, k1, n1⟩, -, X1, ⟨Lc1, hQ1, l1, y1, z1⟩, st1⟩ := X0.virtualBack hx (y := on10) (z := on10) hown (mvT hZ (tw hw 32 rfl)) (mvT hZ (tw hw 33 rfl)) (notFace_of_selects (args := #[]) (mvT hZ (tw hw 35 rfl))) (mvT hZ (tw hw 35 rfl)) (mvT hZ (tw hw 34 rfl)) (by decide) (backOf (W := 0) (rmIe0 l Z a0 hw [] a cs sf _ _ _ _ _ h0 n0 Z0 hW hS (by decide)) hZ (tw hw 36 rfl) (tw hw 8 rfl) (by decide) (by decide)) q1a q1c (g := (mkF m 1 #[vr a, .unset, .unset, .unset] [(.ref a)])) rfl (by rw [hml]; rfl) (Steps.refl _) (argsL := []) (rest := []) (lenOf pd7 rfl) rfl (by show 2 * 0 + _ ≤ _; exact Nat.le_of_eq rfl) (hb hby d5_1) (fun _ _ => ⟨rfl, e0, (by decide : 0 + 0 ≤ _), (by decide : 0 + 0 ≤ _)⟩)
  dsimp only [Pt.U, Pt.locs, Pt.cells, Pt.slots] at X1 l1 y1 z1 st1 hQ1
  subst l1 y1 z1
  obtain ⟨rfl, Nq1, hh1⟩ := hQ1
  have N1 := Fr.app N0 Nq1
  refine Dn.tr st1 ?_
  show Dn p e below s _ _ _ (T1.setTop (mkF m 4 #[vr a, .unset, .unset, .unset] [(.int 1)]))
  have hc4 : ¬ ((1 : Int32) = (0 : Int32)) := by decide
  refine Dn.st (fun _ kk => XS.ifYes X1.here hx rfl (pc0 := 4) (pc' := 11) rfl (hb hby d5_4) rfl ((if0 _ _).trans (feq hc4).2) (by decide) (by decide) (XS.iconst X1.here hx rfl (hb hby d5_11) (XS.istoreN X1.here hx rfl (hb hby d5_12) rfl (l' := #[vr a, vi 0, .unset, .unset]) rfl (XS.iconst X1.here hx rfl (hb hby d5_13) (XS.istoreN X1.here hx rfl (hb hby d5_14) rfl (l' := #[vr a, vi 0, vi 0, .unset]) rfl (XS.iloadN X1.here hx rfl (hb hby d5_15) rfl (kk))))))) ?_
  show Dn p e below s _ _ _ (T1.setTop (mkF m 16 #[vr a, vi 0, vi 0, .unset] [(.int 0)]))
  refine Dn.st (fun _ kk => XS.aloadN X1.here hx rfl (hb hby d5_16) rfl rfl (kk)) ?_
  show Dn p e below s _ _ _ (T1.setTop (mkF m 17 #[vr a, vi 0, vi 0, .unset] [(.ref a), (.int 0)]))
  obtain ⟨cq17, kq17, q17a, q17b, q17c⟩ := isOf hZ hh1 hS.1
  obtain ⟨_, _, ⟨T17, L17, k17, n17⟩, -, X17, ⟨Lc17, hQ17, l17, y17, z17⟩, st17⟩ := X1.virtualBack hx (y := on0) (z := on0) hown (mvT hZ (tw hw 37 rfl)) (mvT hZ (tw hw 38 rfl)) (notFace_of_selects (args := #[]) (mvT hZ (tw hw 40 rfl))) (mvT hZ (tw hw 40 rfl)) (mvT hZ (tw hw 39 rfl)) (by decide) (backOf (W := 1) (rmLn l Z a0 hw [] a cs sf _ _ _ _ _ h0 n0 Z0 hW hS (by decide) (by decide)) hZ (tw hw 41 rfl) (tw hw 8 rfl) (by decide) (by decide)) q17a q17c (g := (mkF m 17 #[vr a, vi 0, vi 0, .unset] [(.ref a), (.int 0)])) rfl (by rw [hml]; rfl) (Steps.refl _) (argsL := []) (rest := [(.int 0)]) (lenOf pd14 rfl) rfl (by show 2 * 0 + _ ≤ _; exact Nat.le_of_eq rfl) (hb hby d5_17) (fun _ _ => ⟨rfl, hh1, (by decide : 0 + 0 ≤ _), (by decide : 0 + 0 ≤ _)⟩)
  dsimp only [Pt.U, Pt.locs, Pt.cells, Pt.slots] at X17 l17 y17 z17 st17 hQ17
  subst l17 y17 z17
  obtain ⟨rfl, Nq17, hh17⟩ := hQ17
  have N17 := Fr.app N1 Nq17
  refine Dn.tr st17 ?_
  show Dn p e below s _ _ _ (T17.setTop (mkF m 20 #[vr a, vi 0, vi 0, .unset] [(.int 0), (.int 0)]))
  have hc20 : ¬ ((0 : Int32) < (0 : Int32)) := by decide
  refine Dn.st (fun _ kk => XS.icmpYes X17.here hx rfl (pc0 := 20) (pc' := 58) rfl (hb hby d5_20) rfl (flt hc20).2.1 (by decide) (by decide) (XS.iloadN X17.here hx rfl (hb hby d5_58) rfl (kk))) ?_
  show Dn p e below s _ _ _ (T17.setTop (mkF m 59 #[vr a, vi 0, vi 0, .unset] [(.int 0)]))
  exact Dn.ret X17 hlk hx hret rfl (Or.inl ⟨rfl, Or.inr (Or.inl rfl), _, rfl⟩) (hb hby d5_59) (by rw [hh17]; exact ⟨rfl, N17, rfl⟩) (by decide) (by decide)

theorem d5_7 : decode prog_6_method_6_code 7 = .ok (.iconst 1, 1) := by decide +kernel
theorem d5_8 : decode prog_6_method_6_code 8 = .ok (.goto 4, 3) := by decide +kernel
theorem d5_23 : decode prog_6_method_6_code 23 = .ok (.iload_n 1, 1) := by decide +kernel
theorem d5_24 : decode prog_6_method_6_code 24 = .ok (.ifCond .eq 34, 3) := by decide +kernel
theorem d5_27 : decode prog_6_method_6_code 27 = .ok (.aload_n 0, 1) := by decide +kernel
theorem d5_28 : decode prog_6_method_6_code 28 = .ok (.iload_n 2, 1) := by decide +kernel
theorem d5_29 : decode prog_6_method_6_code 29 = .ok (.invokevirtual 132, 3) := by decide +kernel
theorem d5_32 : decode prog_6_method_6_code 32 = .ok (.istore_n 3, 1) := by decide +kernel
theorem d5_33 : decode prog_6_method_6_code 33 = .ok (.iload_n 3, 1) := by decide +kernel
theorem d5_34 : decode prog_6_method_6_code 34 = .ok (.invokestatic 136, 3) := by decide +kernel
theorem d5_37 : decode prog_6_method_6_code 37 = .ok (.ifCond .ne 13, 3) := by decide +kernel
theorem d5_40 : decode prog_6_method_6_code 40 = .ok (.iload_n 3, 1) := by decide +kernel
theorem d5_41 : decode prog_6_method_6_code 41 = .ok (.bipush 35, 2) := by decide +kernel
theorem d5_43 : decode prog_6_method_6_code 43 = .ok (.if_icmp .eq 7, 3) := by decide +kernel
theorem d5_46 : decode prog_6_method_6_code 46 = .ok (.iconst 1, 1) := by decide +kernel
theorem d5_47 : decode prog_6_method_6_code 47 = .ok (.goto 4, 3) := by decide +kernel
theorem d5_50 : decode prog_6_method_6_code 50 = .ok (.iconst 0, 1) := by decide +kernel
theorem d5_51 : decode prog_6_method_6_code 51 = .ok (.istore_n 1, 1) := by decide +kernel
theorem d5_52 : decode prog_6_method_6_code 52 = .ok (.iinc 2 1, 3) := by decide +kernel
theorem d5_55 : decode prog_6_method_6_code 55 = .ok (.goto (-40), 3) := by decide +kernel
theorem pd15 : parseMethodDescriptor "(I)C" = some ⟨[.int], some .char⟩ := by decide +kernel
theorem pd16 : parseMethodDescriptor "(C)Z" = some ⟨[.char], some .boolean⟩ := by decide +kernel
theorem ef5_rmIw1 (m : MethodId) (x0 : Addr) : entryFrame m #[(.ref x0)] 4 = mkF m 0 #[vr x0, .unset, .unset, .unset] [] := by first | (simp [entryFrame, mkF, argsToLocals, Value.category]; done) | rfl
def QIw1 (Z : State) (a : Addr) (cs : Int32) (sf : Value) (y0 : Int32) (h0 : Heap) (n0 : Nat) (v : Option Value) (h : Heap) (L : List Loc) : Prop := ∃ r : Int32, v = some (.int r) ∧ ((r = 1 ∧ (own_good y0 ∧ True)) ∨ (r = 0 ∧ ¬ (own_good y0 ∧ True))) ∧ Fr n0 L ∧ h = h0
theorem rmIw1 (l : Launch) (Z : State) (a0 : Array Value) (hw : ∀ d ∈ tables_1, d.before a0 Z = true) (ws : List Jvm.Cond) (a : Addr) (cs : Int32) (sf : Value) (y0 : Int32) (h0 : Heap) (n0 : Nat) (Z0 : n0 ≤ h0.size) (hW : own_W Z h0 n0 cs sf) (hS : own_Str Z h0 a 1 2 [(.int (own_b y0))] [(.int (own_lo y0)), (.int (own_hi y0))] (y0.toInt ≤ 255 ∧ True)) (hr0 : 0 ≤ y0.toInt ∧ y0.toInt ≤ 65535) :
    own_Met l on3 (Jvm.Cond.code on3 prog_6_method_6_code 4 (some .boolean) :: ws) orm29 #[(.ref a)] Z h0 (QIw1 Z a cs sf y0 h0 n0) := by
  refine MetFree.of_bodySF (plainFor_of_name pn5) hisR ?_
  intro p e s m args below meth c s₁ Bd hml0 hP hK
  obtain ⟨rfl, hZ, hh⟩ := hP
  have hx := Bd.exec
  have hby := Bd.bytes
  have hlk : meth.locks = false := BodyLoose.notSynchronized Bd
  have hret := Bd.returns
  have hml : c.maxLocals = 4 := hml0
  have hown : s.vm.findClass "com/example/ermon/ermon/io/Line" = some m.cls := findClass_of_methodNamed Bd.named
  have X0 : Stand p l e orm29 s m #[(.ref a)] below meth c s₁ [] 0 0 := Stand.of_body Bd
  have e0 : s₁.heap = h0 := by rw [← hh, Bd.state]; rfl
  have N0 := Fr.nil n0
  show Dn p e below s (QIw1 Z a cs sf y0 h0 n0) orm29.cells orm29.slots (s₁.setTop (entryFrame m #[(.ref a)] 4))
  refine Dn.st (fun _ kk => castTop (ef5_rmIw1 m a) kk) ?_
  show Dn p e below s _ _ _ (s₁.setTop (mkF m 0 #[vr a, .unset, .unset, .unset] []))
  refine Dn.st (fun _ kk => XS.aloadN X0.here hx rfl (hb hby d5_0) rfl rfl (kk)) ?_
  show Dn p e below s _ _ _ (s₁.setTop (mkF m 1 #[vr a, .unset, .unset, .unset] [(.ref a)]))
  obtain ⟨cq1, kq1, q1a, q1b, q1c⟩ := isOf hZ e0 hS.1
  obtain ⟨_, _, ⟨T1, L1, k1, n1⟩, -, X1, ⟨Lc1, hQ1, l1, y1, z1⟩, st1⟩ := X0.virtualBack hx (y := on10) (z := on10) hown (mvT hZ (tw hw 32 rfl)) (mvT hZ (tw hw 33 rfl)) (notFace_of_selects (args := #[]) (mvT hZ (tw hw 35 rfl))) (mvT hZ (tw hw 35 rfl)) (mvT hZ (tw hw 34 rfl)) (by decide) (backOf (W := 0) (rmIe1 l Z a0 hw [] a cs sf _ _ _ _ _ h0 n0 Z0 hW hS (by decide)) hZ (tw hw 36 rfl) (tw hw 8 rfl) (by decide) (by decide)) q1a q1c (g := (mkF m 1 #[vr a, .unset, .unset, .unset] [(.ref a)])) rfl (by rw [hml]; rfl) (Steps.refl _) (argsL := []) (rest := []) (lenOf pd7 rfl) rfl (by show 2 * 0 + _ ≤ _; exact Nat.le_of_eq rfl) (hb hby d5_1) (fun _ _ => ⟨rfl, e0, (by decide : 0 + 0 ≤ _), (by decide : 0 + 0 ≤ _)⟩)
  dsimp only [Pt.U, Pt.locs, Pt.cells, Pt.slots] at X1 l1 y1 z1 st1 hQ1
  subst l1 y1 z1
  obtain ⟨rfl, Nq1, hh1⟩ := hQ1
  have N1 := Fr.app N0 Nq1
  refine Dn.tr st1 ?_
  show Dn p e below s _ _ _ (T1.setTop (mkF m 4 #[vr a, .unset, .unset, .unset] [(.int 0)]))
  have hc4 : (0 : Int32) = (0 : Int32) := by decide
  refine Dn.st (fun _ kk => XS.ifNo X1.here hx rfl (hb hby d5_4) rfl ((if0 _ _).trans (teq hc4).2) (XS.iconst X1.here hx rfl (hb hby d5_7) (XS.goto X1.here hx rfl (pc0 := 8) (pc' := 12) rfl (hb hby d5_8) (by decide) (by decide) (XS.istoreN X1.here hx rfl (hb hby d5_12) rfl (l' := #[vr a, vi 1, .unset, .unset]) rfl (XS.iconst X1.here hx rfl (hb hby d5_13) (XS.istoreN X1.here hx rfl (hb hby d5_14) rfl (l' := #[vr a, vi 1, vi 0, .unset]) rfl (kk))))))) ?_
  show Dn p e below s _ _ _ (T1.setTop (mkF m 15 #[vr a, vi 1, vi 0, .unset] []))
  refine Dn.st (fun _ kk => XS.iloadN X1.here hx rfl (hb hby d5_15) rfl (XS.aloadN X1.here hx rfl (hb hby d5_16) rfl rfl (kk))) ?_
  show Dn p e below s _ _ _ (T1.setTop (mkF m 17 #[vr a, vi 1, vi 0, .unset] [(.ref a), (.int 0)]))
  obtain ⟨cq17, kq17, q17a, q17b, q17c⟩ := isOf hZ hh1 hS.1
  obtain ⟨_, _, ⟨T17, L17, k17, n17⟩, -, X17, ⟨Lc17, hQ17, l17, y17, z17⟩, st17⟩ := X1.virtualBack hx (y := on0) (z := on0) hown (mvT hZ (tw hw 37 rfl)) (mvT hZ (tw hw 38 rfl)) (notFace_of_selects (args := #[]) (mvT hZ (tw hw 40 rfl))) (mvT hZ (tw hw 40 rfl)) (mvT hZ (tw hw 39 rfl)) (by decide) (backOf (W := 1) (rmLn l Z a0 hw [] a cs sf _ _ _ _ _ h0 n0 Z0 hW hS (by decide) (by decide)) hZ (tw hw 41 rfl) (tw hw 8 rfl) (by decide) (by decide)) q17a q17c (g := (mkF m 17 #[vr a, vi 1, vi 0, .unset] [(.ref a), (.int 0)])) rfl (by rw [hml]; rfl) (Steps.refl _) (argsL := []) (rest := [(.int 0)]) (lenOf pd14 rfl) rfl (by show 2 * 0 + _ ≤ _; exact Nat.le_of_eq rfl) (hb hby d5_17) (fun _ _ => ⟨rfl, hh1, (by decide : 0 + 0 ≤ _), (by decide : 0 + 0 ≤ _)⟩)
  dsimp only [Pt.U, Pt.locs, Pt.cells, Pt.slots] at X17 l17 y17 z17 st17 hQ17
  subst l17 y17 z17
  obtain ⟨rfl, Nq17, hh17⟩ := hQ17
  have N17 := Fr.app N1 Nq17
  refine Dn.tr st17 ?_
  show Dn p e below s _ _ _ (T17.setTop (mkF m 20 #[vr a, vi 1, vi 0, .unset] [(.int 1), (.int 0)]))
  have hc20 : (0 : Int32) < (1 : Int32) := by decide
  refine Dn.st (fun _ kk => XS.icmpNo X17.here hx rfl (hb hby d5_20) rfl (tlt hc20).2.1 (XS.iloadN X17.here hx rfl (hb hby d5_23) rfl (kk))) ?_
  show Dn p e below s _ _ _ (T17.setTop (mkF m 24 #[vr a, vi 1, vi 0, .unset] [(.int 1)]))
  have hc24 : ¬ ((1 : Int32) = (0 : Int32)) := by decide
  refine Dn.st (fun _ kk => XS.ifNo X17.here hx rfl (hb hby d5_24) rfl ((if0 _ _).trans (feq hc24).1) (XS.aloadN X17.here hx rfl (hb hby d5_27) rfl rfl (XS.iloadN X17.here hx rfl (hb hby d5_28) rfl (kk)))) ?_
  show Dn p e below s _ _ _ (T17.setTop (mkF m 29 #[vr a, vi 1, vi 0, .unset] [(.int 0), (.ref a)]))
  obtain ⟨cq29, kq29, q29a, q29b, q29c⟩ := isOf hZ hh17 hS.1
  obtain ⟨_, _, ⟨T29, L29, k29, n29⟩, -, X29, ⟨Lc29, hQ29, l29, y29, z29⟩, st29⟩ := X17.virtualBack hx (y := on2) (z := on2) hown (mvT hZ (tw hw 61 rfl)) (mvT hZ (tw hw 62 rfl)) (notFace_of_selects (args := #[]) (mvT hZ (tw hw 64 rfl))) (mvT hZ (tw hw 64 rfl)) (mvT hZ (tw hw 63 rfl)) (by decide) (backOf (W := 0) (rmCh0 l Z a0 hw [] a cs sf _ _ _ _ _ y0 h0 n0 Z0 hW hS (by decide) rfl (fun q => q.1) (by decide) (by decide) rfl rfl (by decide) hr0) hZ (tw hw 65 rfl) (tw hw 8 rfl) (by decide) (by decide)) q29a q29c (g := (mkF m 29 #[vr a, vi 1, vi 0, .unset] [(.int 0), (.ref a)])) rfl (by rw [hml]; rfl) (Steps.refl _) (argsL := [(.int 0)]) (rest := []) (lenOf pd15 rfl) rfl (by show 2 * 0 + _ ≤ _; exact Nat.le_of_eq rfl) (hb hby d5_29) (fun _ _ => ⟨rfl, hh17, (by decide : 0 + 0 ≤ _), (by decide : 0 + 0 ≤ _)⟩)
  dsimp only [Pt.U, Pt.locs, Pt.cells, Pt.slots] at X29 l29 y29 z29 st29 hQ29
  subst l29 y29 z29
  obtain ⟨rfl, Nq29, hh29⟩ := hQ29
  have N29 := Fr.app N17 Nq29
  refine Dn.tr st29 ?_
  show Dn p e below s _ _ _ (T29.setTop (mkF m 32 #[vr a, vi 1, vi 0, .unset] [(.int y0)]))
  refine Dn.st (fun _ kk => XS.istoreN X29.here hx rfl (hb hby d5_32) rfl (l' := #[vr a, vi 1, vi 0, vi y0]) rfl (XS.iloadN X29.here hx rfl (hb hby d5_33) rfl (kk))) ?_
  show Dn p e below s _ _ _ (T29.setTop (mkF m 34 #[vr a, vi 1, vi 0, vi y0] [(.int y0)]))
  obtain ⟨_, _, ⟨T34, L34, k34, n34⟩, -, X34, ⟨Lc34, hQ34, l34, y34, z34⟩, st34⟩ := Jvm.LawKit.callS X29 hx (y := on16) hown (mvT hZ (tw hw 83 rfl)) (mvT hZ (tw hw 84 rfl)) (mvT hZ (tw hw 30 rfl)) (mvT hZ (tw hw 85 rfl)) (by decide) (backOf (W := 0) (rmSp l Z a0 hw [] y0  h0 n0 Z0 ) hZ (tw hw 85 rfl) (tw hw 30 rfl) (by decide) (by decide)) (g := (mkF m 34 #[vr a, vi 1, vi 0, vi y0] [(.int y0)])) rfl (by rw [hml]; rfl) (argsL := [(.int y0)]) (rest := []) (lenOf pd16 rfl) rfl (by show 2 * 0 + _ ≤ _; exact Nat.le_of_eq rfl) (hb hby d5_34) (fun _ _ => ⟨rfl, hh29, (by decide : 0 + 0 ≤ _), (by decide : 0 + 0 ≤ _)⟩)
  dsimp only [Pt.U, Pt.locs, Pt.cells, Pt.slots] at X34 l34 y34 z34 st34 hQ34
  subst l34 y34 z34
  obtain ⟨r34, rfl, hq34, Nq34, hh34⟩ := hQ34
  have N34 := Fr.app N29 Nq34
  refine Dn.st st34 ?_
  rcases hq34 with ⟨rfl, sp34⟩ | ⟨rfl, sp34⟩
  · show Dn p e below s _ _ _ (T34.setTop (mkF m 37 #[vr a, vi 1, vi 0, vi y0] [(.int 1)]))
    have hc37 : ¬ ((1 : Int32) = (0 : Int32)) := by decide
    refine Dn.st (fun _ kk => XS.ifYes X34.here hx rfl (pc0 := 37) (pc' := 50) rfl (hb hby d5_37) rfl ((if0 _ _).trans (feq hc37).2) (by decide) (by decide) (XS.iconst X34.here hx rfl (hb hby d5_50) (XS.istoreN X34.here hx rfl (hb hby d5_51) rfl (l' := #[vr a, vi 0, vi 0, vi y0]) rfl (XS.iinc X34.here hx rfl (hb hby d5_52) rfl (l' := #[vr a, vi 0, vi 1, vi y0]) rfl (XS.goto X34.here hx rfl (pc0 := 55) (pc' := 15) rfl (hb hby d5_55) (by decide) (by decide) (XS.iloadN X34.here hx rfl (hb hby d5_15) rfl (kk))))))) ?_
    show Dn p e below s _ _ _ (T34.setTop (mkF m 16 #[vr a, vi 0, vi 1, vi y0] [(.int 1)]))
    refine Dn.st (fun _ kk => XS.aloadN X34.here hx rfl (hb hby d5_16) rfl rfl (kk)) ?_
    show Dn p e below s _ _ _ (T34.setTop (mkF m 17 #[vr a, vi 0, vi 1, vi y0] [(.ref a), (.int 1)]))
    obtain ⟨cq17_2, kq17_2, q17_2a, q17_2b, q17_2c⟩ := isOf hZ hh34 hS.1
    obtain ⟨_, _, ⟨T17_2, L17_2, k17_2, n17_2⟩, -, X17_2, ⟨Lc17_2, hQ17_2, l17_2, y17_2, z17_2⟩, st17_2⟩ := X34.virtualBack hx (y := on0) (z := on0) hown (mvT hZ (tw hw 37 rfl)) (mvT hZ (tw hw 38 rfl)) (notFace_of_selects (args := #[]) (mvT hZ (tw hw 40 rfl))) (mvT hZ (tw hw 40 rfl)) (mvT hZ (tw hw 39 rfl)) (by decide) (backOf (W := 1) (rmLn l Z a0 hw [] a cs sf _ _ _ _ _ h0 n0 Z0 hW hS (by decide) (by decide)) hZ (tw hw 41 rfl) (tw hw 8 rfl) (by decide) (by decide)) q17_2a q17_2c (g := (mkF m 17 #[vr a, vi 0, vi 1, vi y0] [(.ref a), (.int 1)])) rfl (by rw [hml]; rfl) (Steps.refl _) (argsL := []) (rest := [(.int 1)]) (lenOf pd14 rfl) rfl (by show 2 * 0 + _ ≤ _; exact Nat.le_of_eq rfl) (hb hby d5_17) (fun _ _ => ⟨rfl, hh34, (by decide : 0 + 0 ≤ _), (by decide : 0 + 0 ≤ _)⟩)
    dsimp only [Pt.U, Pt.locs, Pt.cells, Pt.slots] at X17_2 l17_2 y17_2 z17_2 st17_2 hQ17_2
    subst l17_2 y17_2 z17_2
    obtain ⟨rfl, Nq17_2, hh17_2⟩ := hQ17_2
    have N17_2 := Fr.app N34 Nq17_2
    refine Dn.tr st17_2 ?_
    show Dn p e below s _ _ _ (T17_2.setTop (mkF m 20 #[vr a, vi 0, vi 1, vi y0] [(.int 1), (.int 1)]))
    have hc20_2 : ¬ ((1 : Int32) < (1 : Int32)) := by decide
    refine Dn.st (fun _ kk => XS.icmpYes X17_2.here hx rfl (pc0 := 20) (pc' := 58) rfl (hb hby d5_20) rfl (flt hc20_2).2.1 (by decide) (by decide) (XS.iloadN X17_2.here hx rfl (hb hby d5_58) rfl (kk))) ?_
    show Dn p e below s _ _ _ (T17_2.setTop (mkF m 59 #[vr a, vi 0, vi 1, vi y0] [(.int 0)]))
    exact Dn.ret X17_2 hlk hx hret rfl (Or.inl ⟨rfl, Or.inr (Or.inl rfl), _, rfl⟩) (hb hby d5_59) (by rw [hh17_2]; exact ⟨_, rfl, Or.inr ⟨rfl, fun q => q.1.1 sp34⟩, N17_2, rfl⟩) (by decide) (by decide)
  · show Dn p e below s _ _ _ (T34.setTop (mkF m 37 #[vr a, vi 1, vi 0, vi y0] [(.int 0)]))
    have hc37 : (0 : Int32) = (0 : Int32) := by decide
    refine Dn.st (fun _ kk => XS.ifNo X34.here hx rfl (hb hby d5_37) rfl ((if0 _ _).trans (teq hc37).2) (XS.iloadN X34.here hx rfl (hb hby d5_40) rfl (XS.bipush X34.here hx rfl (hb hby d5_41) (kk)))) ?_
    show Dn p e below s _ _ _ (T34.setTop (mkF m 43 #[vr a, vi 1, vi 0, vi y0] [(.int 35), (.int y0)]))
    by_cases hc43 : y0 = (35 : Int32)
    · refine Dn.st (fun _ kk => XS.icmpYes X34.here hx rfl (pc0 := 43) (pc' := 50) rfl (hb hby d5_43) rfl (teq hc43).1 (by decide) (by decide) (XS.iconst X34.here hx rfl (hb hby d5_50) (XS.istoreN X34.here hx rfl (hb hby d5_51) rfl (l' := #[vr a, vi 0, vi 0, vi y0]) rfl (XS.iinc X34.here hx rfl (hb hby d5_52) rfl (l' := #[vr a, vi 0, vi 1, vi y0]) rfl (XS.goto X34.here hx rfl (pc0 := 55) (pc' := 15) rfl (hb hby d5_55) (by decide) (by decide) (XS.iloadN X34.here hx rfl (hb hby d5_15) rfl (kk))))))) ?_
      show Dn p e below s _ _ _ (T34.setTop (mkF m 16 #[vr a, vi 0, vi 1, vi y0] [(.int 1)]))
      refine Dn.st (fun _ kk => XS.aloadN X34.here hx rfl (hb hby d5_16) rfl rfl (kk)) ?_
      show Dn p e below s _ _ _ (T34.setTop (mkF m 17 #[vr a, vi 0, vi 1, vi y0] [(.ref a), (.int 1)]))
      obtain ⟨cq17_2, kq17_2, q17_2a, q17_2b, q17_2c⟩ := isOf hZ hh34 hS.1
      obtain ⟨_, _, ⟨T17_2, L17_2, k17_2, n17_2⟩, -, X17_2, ⟨Lc17_2, hQ17_2, l17_2, y17_2, z17_2⟩, st17_2⟩ := X34.virtualBack hx (y := on0) (z := on0) hown (mvT hZ (tw hw 37 rfl)) (mvT hZ (tw hw 38 rfl)) (notFace_of_selects (args := #[]) (mvT hZ (tw hw 40 rfl))) (mvT hZ (tw hw 40 rfl)) (mvT hZ (tw hw 39 rfl)) (by decide) (backOf (W := 1) (rmLn l Z a0 hw [] a cs sf _ _ _ _ _ h0 n0 Z0 hW hS (by decide) (by decide)) hZ (tw hw 41 rfl) (tw hw 8 rfl) (by decide) (by decide)) q17_2a q17_2c (g := (mkF m 17 #[vr a, vi 0, vi 1, vi y0] [(.ref a), (.int 1)])) rfl (by rw [hml]; rfl) (Steps.refl _) (argsL := []) (rest := [(.int 1)]) (lenOf pd14 rfl) rfl (by show 2 * 0 + _ ≤ _; exact Nat.le_of_eq rfl) (hb hby d5_17) (fun _ _ => ⟨rfl, hh34, (by decide : 0 + 0 ≤ _), (by decide : 0 + 0 ≤ _)⟩)
      dsimp only [Pt.U, Pt.locs, Pt.cells, Pt.slots] at X17_2 l17_2 y17_2 z17_2 st17_2 hQ17_2
      subst l17_2 y17_2 z17_2
      obtain ⟨rfl, Nq17_2, hh17_2⟩ := hQ17_2
      have N17_2 := Fr.app N34 Nq17_2
      refine Dn.tr st17_2 ?_
      show Dn p e below s _ _ _ (T17_2.setTop (mkF m 20 #[vr a, vi 0, vi 1, vi y0] [(.int 1), (.int 1)]))
      have hc20_2 : ¬ ((1 : Int32) < (1 : Int32)) := by decide
      refine Dn.st (fun _ kk => XS.icmpYes X17_2.here hx rfl (pc0 := 20) (pc' := 58) rfl (hb hby d5_20) rfl (flt hc20_2).2.1 (by decide) (by decide) (XS.iloadN X17_2.here hx rfl (hb hby d5_58) rfl (kk))) ?_
      show Dn p e below s _ _ _ (T17_2.setTop (mkF m 59 #[vr a, vi 0, vi 1, vi y0] [(.int 0)]))
      exact Dn.ret X17_2 hlk hx hret rfl (Or.inl ⟨rfl, Or.inr (Or.inl rfl), _, rfl⟩) (hb hby d5_59) (by rw [hh17_2]; exact ⟨_, rfl, Or.inr ⟨rfl, fun q => q.1.2 hc43⟩, N17_2, rfl⟩) (by decide) (by decide)
    · refine Dn.st (fun _ kk => XS.icmpNo X34.here hx rfl (hb hby d5_43) rfl (feq hc43).1 (XS.iconst X34.here hx rfl (hb hby d5_46) (XS.goto X34.here hx rfl (pc0 := 47) (pc' := 51) rfl (hb hby d5_47) (by decide) (by decide) (XS.istoreN X34.here hx rfl (hb hby d5_51) rfl (l' := #[vr a, vi 1, vi 0, vi y0]) rfl (XS.iinc X34.here hx rfl (hb hby d5_52) rfl (l' := #[vr a, vi 1, vi 1, vi y0]) rfl (XS.goto X34.here hx rfl (pc0 := 55) (pc' := 15) rfl (hb hby d5_55) (by decide) (by decide) (kk))))))) ?_
      show Dn p e below s _ _ _ (T34.setTop (mkF m 15 #[vr a, vi 1, vi 1, vi y0] []))
      refine Dn.st (fun _ kk => XS.iloadN X34.here hx rfl (hb hby d5_15) rfl (XS.aloadN X34.here hx rfl (hb hby d5_16) rfl rfl (kk))) ?_
      show Dn p e below s _ _ _ (T34.setTop (mkF m 17 #[vr a, vi 1, vi 1, vi y0] [(.ref a), (.int 1)]))
      obtain ⟨cq17_2, kq17_2, q17_2a, q17_2b, q17_2c⟩ := isOf hZ hh34 hS.1
      obtain ⟨_, _, ⟨T17_2, L17_2, k17_2, n17_2⟩, -, X17_2, ⟨Lc17_2, hQ17_2, l17_2, y17_2, z17_2⟩, st17_2⟩ := X34.virtualBack hx (y := on0) (z := on0) hown (mvT hZ (tw hw 37 rfl)) (mvT hZ (tw hw 38 rfl)) (notFace_of_selects (args := #[]) (mvT hZ (tw hw 40 rfl))) (mvT hZ (tw hw 40 rfl)) (mvT hZ (tw hw 39 rfl)) (by decide) (backOf (W := 1) (rmLn l Z a0 hw [] a cs sf _ _ _ _ _ h0 n0 Z0 hW hS (by decide) (by decide)) hZ (tw hw 41 rfl) (tw hw 8 rfl) (by decide) (by decide)) q17_2a q17_2c (g := (mkF m 17 #[vr a, vi 1, vi 1, vi y0] [(.ref a), (.int 1)])) rfl (by rw [hml]; rfl) (Steps.refl _) (argsL := []) (rest := [(.int 1)]) (lenOf pd14 rfl) rfl (by show 2 * 0 + _ ≤ _; exact Nat.le_of_eq rfl) (hb hby d5_17) (fun _ _ => ⟨rfl, hh34, (by decide : 0 + 0 ≤ _), (by decide : 0 + 0 ≤ _)⟩)
      dsimp only [Pt.U, Pt.locs, Pt.cells, Pt.slots] at X17_2 l17_2 y17_2 z17_2 st17_2 hQ17_2
      subst l17_2 y17_2 z17_2
      obtain ⟨rfl, Nq17_2, hh17_2⟩ := hQ17_2
      have N17_2 := Fr.app N34 Nq17_2
      refine Dn.tr st17_2 ?_
      show Dn p e below s _ _ _ (T17_2.setTop (mkF m 20 #[vr a, vi 1, vi 1, vi y0] [(.int 1), (.int 1)]))
      have hc20_2 : ¬ ((1 : Int32) < (1 : Int32)) := by decide
      refine Dn.st (fun _ kk => XS.icmpYes X17_2.here hx rfl (pc0 := 20) (pc' := 58) rfl (hb hby d5_20) rfl (flt hc20_2).2.1 (by decide) (by decide) (XS.iloadN X17_2.here hx rfl (hb hby d5_58) rfl (kk))) ?_
      show Dn p e below s _ _ _ (T17_2.setTop (mkF m 59 #[vr a, vi 1, vi 1, vi y0] [(.int 1)]))
      exact Dn.ret X17_2 hlk hx hret rfl (Or.inl ⟨rfl, Or.inr (Or.inl rfl), _, rfl⟩) (hb hby d5_59) (by rw [hh17_2]; exact ⟨_, rfl, Or.inl ⟨rfl, ⟨⟨sp34, hc43⟩, trivial⟩⟩, N17_2, rfl⟩) (by decide) (by decide)

theorem ef5_rmIw2 (m : MethodId) (x0 : Addr) : entryFrame m #[(.ref x0)] 4 = mkF m 0 #[vr x0, .unset, .unset, .unset] [] := by first | (simp [entryFrame, mkF, argsToLocals, Value.category]; done) | rfl
def QIw2 (Z : State) (a : Addr) (cs : Int32) (sf : Value) (y0 : Int32) (y1 : Int32) (h0 : Heap) (n0 : Nat) (v : Option Value) (h : Heap) (L : List Loc) : Prop := ∃ r : Int32, v = some (.int r) ∧ ((r = 1 ∧ (own_good y0 ∧ own_good y1 ∧ True)) ∨ (r = 0 ∧ ¬ (own_good y0 ∧ own_good y1 ∧ True))) ∧ Fr n0 L ∧ h = h0
theorem rmIw2 (l : Launch) (Z : State) (a0 : Array Value) (hw : ∀ d ∈ tables_1, d.before a0 Z = true) (ws : List Jvm.Cond) (a : Addr) (cs : Int32) (sf : Value) (y0 : Int32) (y1 : Int32) (h0 : Heap) (n0 : Nat) (Z0 : n0 ≤ h0.size) (hW : own_W Z h0 n0 cs sf) (hS : own_Str Z h0 a 2 4 [(.int (own_b y0)), (.int (own_b y1))] [(.int (own_lo y0)), (.int (own_hi y0)), (.int (own_lo y1)), (.int (own_hi y1))] (y0.toInt ≤ 255 ∧ y1.toInt ≤ 255 ∧ True)) (hr0 : 0 ≤ y0.toInt ∧ y0.toInt ≤ 65535) (hr1 : 0 ≤ y1.toInt ∧ y1.toInt ≤ 65535) :
    own_Met l on3 (Jvm.Cond.code on3 prog_6_method_6_code 4 (some .boolean) :: ws) orm29 #[(.ref a)] Z h0 (QIw2 Z a cs sf y0 y1 h0 n0) := by
  refine MetFree.of_bodySF (plainFor_of_name pn5) hisR ?_
  intro p e s m args below meth c s₁ Bd hml0 hP hK
  obtain ⟨rfl, hZ, hh⟩ := hP
  have hx := Bd.exec
  have hby := Bd.bytes
  have hlk : meth.locks = false := BodyLoose.notSynchronized Bd
  have hret := Bd.returns
  have hml : c.maxLocals = 4 := hml0
  have hown : s.vm.findClass "com/example/ermon/ermon/io/Line" = some m.cls := findClass_of_methodNamed Bd.named
  have X0 : Stand p l e orm29 s m #[(.ref a)] below meth c s₁ [] 0 0 := Stand.of_body Bd
  have e0 : s₁.heap = h0 := by rw [← hh, Bd.state]; rfl
  have N0 := Fr.nil n0
  show Dn p e below s (QIw2 Z a cs sf y0 y1 h0 n0) orm29.cells orm29.slots (s₁.setTop (entryFrame m #[(.ref a)] 4))
  refine Dn.st (fun _ kk => castTop (ef5_rmIw2 m a) kk) ?_
  show Dn p e below s _ _ _ (s₁.setTop (mkF m 0 #[vr a, .unset, .unset, .unset] []))
  refine Dn.st (fun _ kk => XS.aloadN X0.here hx rfl (hb hby d5_0) rfl rfl (kk)) ?_
  show Dn p e below s _ _ _ (s₁.setTop (mkF m 1 #[vr a, .unset, .unset, .unset] [(.ref a)]))
  obtain ⟨cq1, kq1, q1a, q1b, q1c⟩ := isOf hZ e0 hS.1
  obtain ⟨_, _, ⟨T1, L1, k1, n1⟩, -, X1, ⟨Lc1, hQ1, l1, y1, z1⟩, st1⟩ := X0.virtualBack hx (y := on10) (z := on10) hown (mvT hZ (tw hw 32 rfl)) (mvT hZ (tw hw 33 rfl)) (notFace_of_selects (args := #[]) (mvT hZ (tw hw 35 rfl))) (mvT hZ (tw hw 35 rfl)) (mvT hZ (tw hw 34 rfl)) (by decide) (backOf (W := 0) (rmIe1 l Z a0 hw [] a cs sf _ _ _ _ _ h0 n0 Z0 hW hS (by decide)) hZ (tw hw 36 rfl) (tw hw 8 rfl) (by decide) (by decide)) q1a q1c (g := (mkF m 1 #[vr a, .unset, .unset, .unset] [(.ref a)])) rfl (by rw [hml]; rfl) (Steps.refl _) (argsL := []) (rest := []) (lenOf pd7 rfl) rfl (by show 2 * 0 + _ ≤ _; exact Nat.le_of_eq rfl) (hb hby d5_1) (fun _ _ => ⟨rfl, e0, (by decide : 0 + 0 ≤ _), (by decide : 0 + 0 ≤ _)⟩)
  dsimp only [Pt.U, Pt.locs, Pt.cells, Pt.slots] at X1 l1 y1 z1 st1 hQ1
  subst l1 y1 z1
  obtain ⟨rfl, Nq1, hh1⟩ := hQ1
  have N1 := Fr.app N0 Nq1
  refine Dn.tr st1 ?_
  show Dn p e below s _ _ _ (T1.setTop (mkF m 4 #[vr a, .unset, .unset, .unset] [(.int 0)]))
  have hc4 : (0 : Int32) = (0 : Int32) := by decide
  refine Dn.st (fun _ kk => XS.ifNo X1.here hx rfl (hb hby d5_4) rfl ((if0 _ _).trans (teq hc4).2) (XS.iconst X1.here hx rfl (hb hby d5_7) (XS.goto X1.here hx rfl (pc0 := 8) (pc' := 12) rfl (hb hby d5_8) (by decide) (by decide) (XS.istoreN X1.here hx rfl (hb hby d5_12) rfl (l' := #[vr a, vi 1, .unset, .unset]) rfl (XS.iconst X1.here hx rfl (hb hby d5_13) (XS.istoreN X1.here hx rfl (hb hby d5_14) rfl (l' := #[vr a, vi 1, vi 0, .unset]) rfl (kk))))))) ?_
  show Dn p e below s _ _ _ (T1.setTop (mkF m 15 #[vr a, vi 1, vi 0, .unset] []))
  refine Dn.st (fun _ kk => XS.iloadN X1.here hx rfl (hb hby d5_15) rfl (XS.aloadN X1.here hx rfl (hb hby d5_16) rfl rfl (kk))) ?_
  show Dn p e below s _ _ _ (T1.setTop (mkF m 17 #[vr a, vi 1, vi 0, .unset] [(.ref a), (.int 0)]))
  obtain ⟨cq17, kq17, q17a, q17b, q17c⟩ := isOf hZ hh1 hS.1
  obtain ⟨_, _, ⟨T17, L17, k17, n17⟩, -, X17, ⟨Lc17, hQ17, l17, y17, z17⟩, st17⟩ := X1.virtualBack hx (y := on0) (z := on0) hown (mvT hZ (tw hw 37 rfl)) (mvT hZ (tw hw 38 rfl)) (notFace_of_selects (args := #[]) (mvT hZ (tw hw 40 rfl))) (mvT hZ (tw hw 40 rfl)) (mvT hZ (tw hw 39 rfl)) (by decide) (backOf (W := 1) (rmLn l Z a0 hw [] a cs sf _ _ _ _ _ h0 n0 Z0 hW hS (by decide) (by decide)) hZ (tw hw 41 rfl) (tw hw 8 rfl) (by decide) (by decide)) q17a q17c (g := (mkF m 17 #[vr a, vi 1, vi 0, .unset] [(.ref a), (.int 0)])) rfl (by rw [hml]; rfl) (Steps.refl _) (argsL := []) (rest := [(.int 0)]) (lenOf pd14 rfl) rfl (by show 2 * 0 + _ ≤ _; exact Nat.le_of_eq rfl) (hb hby d5_17) (fun _ _ => ⟨rfl, hh1, (by decide : 0 + 0 ≤ _), (by decide : 0 + 0 ≤ _)⟩)
  dsimp only [Pt.U, Pt.locs, Pt.cells, Pt.slots] at X17 l17 y17 z17 st17 hQ17
  subst l17 y17 z17
  obtain ⟨rfl, Nq17, hh17⟩ := hQ17
  have N17 := Fr.app N1 Nq17
  refine Dn.tr st17 ?_
  show Dn p e below s _ _ _ (T17.setTop (mkF m 20 #[vr a, vi 1, vi 0, .unset] [(.int 2), (.int 0)]))
  have hc20 : (0 : Int32) < (2 : Int32) := by decide
  refine Dn.st (fun _ kk => XS.icmpNo X17.here hx rfl (hb hby d5_20) rfl (tlt hc20).2.1 (XS.iloadN X17.here hx rfl (hb hby d5_23) rfl (kk))) ?_
  show Dn p e below s _ _ _ (T17.setTop (mkF m 24 #[vr a, vi 1, vi 0, .unset] [(.int 1)]))
  have hc24 : ¬ ((1 : Int32) = (0 : Int32)) := by decide
  refine Dn.st (fun _ kk => XS.ifNo X17.here hx rfl (hb hby d5_24) rfl ((if0 _ _).trans (feq hc24).1) (XS.aloadN X17.here hx rfl (hb hby d5_27) rfl rfl (XS.iloadN X17.here hx rfl (hb hby d5_28) rfl (kk)))) ?_
  show Dn p e below s _ _ _ (T17.setTop (mkF m 29 #[vr a, vi 1, vi 0, .unset] [(.int 0), (.ref a)]))
  obtain ⟨cq29, kq29, q29a, q29b, q29c⟩ := isOf hZ hh17 hS.1
  obtain ⟨_, _, ⟨T29, L29, k29, n29⟩, -, X29, ⟨Lc29, hQ29, l29, y29, z29⟩, st29⟩ := X17.virtualBack hx (y := on2) (z := on2) hown (mvT hZ (tw hw 61 rfl)) (mvT hZ (tw hw 62 rfl)) (notFace_of_selects (args := #[]) (mvT hZ (tw hw 64 rfl))) (mvT hZ (tw hw 64 rfl)) (mvT hZ (tw hw 63 rfl)) (by decide) (backOf (W := 0) (rmCh0 l Z a0 hw [] a cs sf _ _ _ _ _ y0 h0 n0 Z0 hW hS (by decide) rfl (fun q => q.1) (by decide) (by decide) rfl rfl (by decide) hr0) hZ (tw hw 65 rfl) (tw hw 8 rfl) (by decide) (by decide)) q29a q29c (g := (mkF m 29 #[vr a, vi 1, vi 0, .unset] [(.int 0), (.ref a)])) rfl (by rw [hml]; rfl) (Steps.refl _) (argsL := [(.int 0)]) (rest := []) (lenOf pd15 rfl) rfl (by show 2 * 0 + _ ≤ _; exact Nat.le_of_eq rfl) (hb hby d5_29) (fun _ _ => ⟨rfl, hh17, (by decide : 0 + 0 ≤ _), (by decide : 0 + 0 ≤ _)⟩)
  dsimp only [Pt.U, Pt.locs, Pt.cells, Pt.slots] at X29 l29 y29 z29 st29 hQ29
  subst l29 y29 z29
  obtain ⟨rfl, Nq29, hh29⟩ := hQ29
  have N29 := Fr.app N17 Nq29
  refine Dn.tr st29 ?_
  show Dn p e below s _ _ _ (T29.setTop (mkF m 32 #[vr a, vi 1, vi 0, .unset] [(.int y0)]))
  refine Dn.st (fun _ kk => XS.istoreN X29.here hx rfl (hb hby d5_32) rfl (l' := #[vr a, vi 1, vi 0, vi y0]) rfl (XS.iloadN X29.here hx rfl (hb hby d5_33) rfl (kk))) ?_
  show Dn p e below s _ _ _ (T29.setTop (mkF m 34 #[vr a, vi 1, vi 0, vi y0] [(.int y0)]))
  obtain ⟨_, _, ⟨T34, L34, k34, n34⟩, -, X34, ⟨Lc34, hQ34, l34, y34, z34⟩, st34⟩ := Jvm.LawKit.callS X29 hx (y := on16) hown (mvT hZ (tw hw 83 rfl)) (mvT hZ (tw hw 84 rfl)) (mvT hZ (tw hw 30 rfl)) (mvT hZ (tw hw 85 rfl)) (by decide) (backOf (W := 0) (rmSp l Z a0 hw [] y0  h0 n0 Z0 ) hZ (tw hw 85 rfl) (tw hw 30 rfl) (by decide) (by decide)) (g := (mkF m 34 #[vr a, vi 1, vi 0, vi y0] [(.int y0)])) rfl (by rw [hml]; rfl) (argsL := [(.int y0)]) (rest := []) (lenOf pd16 rfl) rfl (by show 2 * 0 + _ ≤ _; exact Nat.le_of_eq rfl) (hb hby d5_34) (fun _ _ => ⟨rfl, hh29, (by decide : 0 + 0 ≤ _), (by decide : 0 + 0 ≤ _)⟩)
  dsimp only [Pt.U, Pt.locs, Pt.cells, Pt.slots] at X34 l34 y34 z34 st34 hQ34
  subst l34 y34 z34
  obtain ⟨r34, rfl, hq34, Nq34, hh34⟩ := hQ34
  have N34 := Fr.app N29 Nq34
  refine Dn.st st34 ?_
  rcases hq34 with ⟨rfl, sp34⟩ | ⟨rfl, sp34⟩
  · show Dn p e below s _ _ _ (T34.setTop (mkF m 37 #[vr a, vi 1, vi 0, vi y0] [(.int 1)]))
    have hc37 : ¬ ((1 : Int32) = (0 : Int32)) := by decide
    refine Dn.st (fun _ kk => XS.ifYes X34.here hx rfl (pc0 := 37) (pc' := 50) rfl (hb hby d5_37) rfl ((if0 _ _).trans (feq hc37).2) (by decide) (by decide) (XS.iconst X34.here hx rfl (hb hby d5_50) (XS.istoreN X34.here hx rfl (hb hby d5_51) rfl (l' := #[vr a, vi 0, vi 0, vi y0]) rfl (XS.iinc X34.here hx rfl (hb hby d5_52) rfl (l' := #[vr a, vi 0, vi 1, vi y0]) rfl (XS.goto X34.here hx rfl (pc0 := 55) (pc' := 15) rfl (hb hby d5_55) (by decide) (by decide) (XS.iloadN X34.here hx rfl (hb hby d5_15) rfl (kk))))))) ?_
    show Dn p e below s _ _ _ (T34.setTop (mkF m 16 #[vr a, vi 0, vi 1, vi y0] [(.int 1)]))
    refine Dn.st (fun _ kk => XS.aloadN X34.here hx rfl (hb hby d5_16) rfl rfl (kk)) ?_
    show Dn p e below s _ _ _ (T34.setTop (mkF m 17 #[vr a, vi 0, vi 1, vi y0] [(.ref a), (.int 1)]))
    obtain ⟨cq17_2, kq17_2, q17_2a, q17_2b, q17_2c⟩ := isOf hZ hh34 hS.1
    obtain ⟨_, _, ⟨T17_2, L17_2, k17_2, n17_2⟩, -, X17_2, ⟨Lc17_2, hQ17_2, l17_2, y17_2, z17_2⟩, st17_2⟩ := X34.virtualBack hx (y := on0) (z := on0) hown (mvT hZ (tw hw 37 rfl)) (mvT hZ (tw hw 38 rfl)) (notFace_of_selects (args := #[]) (mvT hZ (tw hw 40 rfl))) (mvT hZ (tw hw 40 rfl)) (mvT hZ (tw hw 39 rfl)) (by decide) (backOf (W := 1) (rmLn l Z a0 hw [] a cs sf _ _ _ _ _ h0 n0 Z0 hW hS (by decide) (by decide)) hZ (tw hw 41 rfl) (tw hw 8 rfl) (by decide) (by decide)) q17_2a q17_2c (g := (mkF m 17 #[vr a, vi 0, vi 1, vi y0] [(.ref a), (.int 1)])) rfl (by rw [hml]; rfl) (Steps.refl _) (argsL := []) (rest := [(.int 1)]) (lenOf pd14 rfl) rfl (by show 2 * 0 + _ ≤ _; exact Nat.le_of_eq rfl) (hb hby d5_17) (fun _ _ => ⟨rfl, hh34, (by decide : 0 + 0 ≤ _), (by decide : 0 + 0 ≤ _)⟩)
    dsimp only [Pt.U, Pt.locs, Pt.cells, Pt.slots] at X17_2 l17_2 y17_2 z17_2 st17_2 hQ17_2
    subst l17_2 y17_2 z17_2
    obtain ⟨rfl, Nq17_2, hh17_2⟩ := hQ17_2
    have N17_2 := Fr.app N34 Nq17_2
    refine Dn.tr st17_2 ?_
    show Dn p e below s _ _ _ (T17_2.setTop (mkF m 20 #[vr a, vi 0, vi 1, vi y0] [(.int 2), (.int 1)]))
    have hc20_2 : (1 : Int32) < (2 : Int32) := by decide
    refine Dn.st (fun _ kk => XS.icmpNo X17_2.here hx rfl (hb hby d5_20) rfl (tlt hc20_2).2.1 (XS.iloadN X17_2.here hx rfl (hb hby d5_23) rfl (kk))) ?_
    show Dn p e below s _ _ _ (T17_2.setTop (mkF m 24 #[vr a, vi 0, vi 1, vi y0] [(.int 0)]))
    have hc24_2 : (0 : Int32) = (0 : Int32) := by decide
    refine Dn.st (fun _ kk => XS.ifYes X17_2.here hx rfl (pc0 := 24) (pc' := 58) rfl (hb hby d5_24) rfl ((if0 _ _).trans (teq hc24_2).1) (by decide) (by decide) (XS.iloadN X17_2.here hx rfl (hb hby d5_58) rfl (kk))) ?_
    show Dn p e below s _ _ _ (T17_2.setTop (mkF m 59 #[vr a, vi 0, vi 1, vi y0] [(.int 0)]))
    exact Dn.ret X17_2 hlk hx hret rfl (Or.inl ⟨rfl, Or.inr (Or.inl rfl), _, rfl⟩) (hb hby d5_59) (by rw [hh17_2]; exact ⟨_, rfl, Or.inr ⟨rfl, fun q => q.1.1 sp34⟩, N17_2, rfl⟩) (by decide) (by decide)
  · show Dn p e below s _ _ _ (T34.setTop (mkF m 37 #[vr a, vi 1, vi 0, vi y0] [(.int 0)]))
    have hc37 : (0 : Int32) = (0 : Int32) := by decide
    refine Dn.st (fun _ kk => XS.ifNo X34.here hx rfl (hb hby d5_37) rfl ((if0 _ _).trans (teq hc37).2) (XS.iloadN X34.here hx rfl (hb hby d5_40) rfl (XS.bipush X34.here hx rfl (hb hby d5_41) (kk)))) ?_
    show Dn p e below s _ _ _ (T34.setTop (mkF m 43 #[vr a, vi 1, vi 0, vi y0] [(.int 35), (.int y0)]))
    by_cases hc43 : y0 = (35 : Int32)
    · refine Dn.st (fun _ kk => XS.icmpYes X34.here hx rfl (pc0 := 43) (pc' := 50) rfl (hb hby d5_43) rfl (teq hc43).1 (by decide) (by decide) (XS.iconst X34.here hx rfl (hb hby d5_50) (XS.istoreN X34.here hx rfl (hb hby d5_51) rfl (l' := #[vr a, vi 0, vi 0, vi y0]) rfl (XS.iinc X34.here hx rfl (hb hby d5_52) rfl (l' := #[vr a, vi 0, vi 1, vi y0]) rfl (XS.goto X34.here hx rfl (pc0 := 55) (pc' := 15) rfl (hb hby d5_55) (by decide) (by decide) (XS.iloadN X34.here hx rfl (hb hby d5_15) rfl (kk))))))) ?_
      show Dn p e below s _ _ _ (T34.setTop (mkF m 16 #[vr a, vi 0, vi 1, vi y0] [(.int 1)]))
      refine Dn.st (fun _ kk => XS.aloadN X34.here hx rfl (hb hby d5_16) rfl rfl (kk)) ?_
      show Dn p e below s _ _ _ (T34.setTop (mkF m 17 #[vr a, vi 0, vi 1, vi y0] [(.ref a), (.int 1)]))
      obtain ⟨cq17_2, kq17_2, q17_2a, q17_2b, q17_2c⟩ := isOf hZ hh34 hS.1
      obtain ⟨_, _, ⟨T17_2, L17_2, k17_2, n17_2⟩, -, X17_2, ⟨Lc17_2, hQ17_2, l17_2, y17_2, z17_2⟩, st17_2⟩ := X34.virtualBack hx (y := on0) (z := on0) hown (mvT hZ (tw hw 37 rfl)) (mvT hZ (tw hw 38 rfl)) (notFace_of_selects (args := #[]) (mvT hZ (tw hw 40 rfl))) (mvT hZ (tw hw 40 rfl)) (mvT hZ (tw hw 39 rfl)) (by decide) (backOf (W := 1) (rmLn l Z a0 hw [] a cs sf _ _ _ _ _ h0 n0 Z0 hW hS (by decide) (by decide)) hZ (tw hw 41 rfl) (tw hw 8 rfl) (by decide) (by decide)) q17_2a q17_2c (g := (mkF m 17 #[vr a, vi 0, vi 1, vi y0] [(.ref a), (.int 1)])) rfl (by rw [hml]; rfl) (Steps.refl _) (argsL := []) (rest := [(.int 1)]) (lenOf pd14 rfl) rfl (by show 2 * 0 + _ ≤ _; exact Nat.le_of_eq rfl) (hb hby d5_17) (fun _ _ => ⟨rfl, hh34, (by decide : 0 + 0 ≤ _), (by decide : 0 + 0 ≤ _)⟩)
      dsimp only [Pt.U, Pt.locs, Pt.cells, Pt.slots] at X17_2 l17_2 y17_2 z17_2 st17_2 hQ17_2
      subst l17_2 y17_2 z17_2
      obtain ⟨rfl, Nq17_2, hh17_2⟩ := hQ17_2
      have N17_2 := Fr.app N34 Nq17_2
      refine Dn.tr st17_2 ?_
      show Dn p e below s _ _ _ (T17_2.setTop (mkF m 20 #[vr a, vi 0, vi 1, vi y0] [(.int 2), (.int 1)]))
      have hc20_2 : (1 : Int32) < (2 : Int32) := by decide
      refine Dn.st (fun _ kk => XS.icmpNo X17_2.here hx rfl (hb hby d5_20) rfl (tlt hc20_2).2.1 (XS.iloadN X17_2.here hx rfl (hb hby d5_23) rfl (kk))) ?_
      show Dn p e below s _ _ _ (T17_2.setTop (mkF m 24 #[vr a, vi 0, vi 1, vi y0] [(.int 0)]))
      have hc24_2 : (0 : Int32) = (0 : Int32) := by decide
      refine Dn.st (fun _ kk => XS.ifYes X17_2.here hx rfl (pc0 := 24) (pc' := 58) rfl (hb hby d5_24) rfl ((if0 _ _).trans (teq hc24_2).1) (by decide) (by decide) (XS.iloadN X17_2.here hx rfl (hb hby d5_58) rfl (kk))) ?_
      show Dn p e below s _ _ _ (T17_2.setTop (mkF m 59 #[vr a, vi 0, vi 1, vi y0] [(.int 0)]))
      exact Dn.ret X17_2 hlk hx hret rfl (Or.inl ⟨rfl, Or.inr (Or.inl rfl), _, rfl⟩) (hb hby d5_59) (by rw [hh17_2]; exact ⟨_, rfl, Or.inr ⟨rfl, fun q => q.1.2 hc43⟩, N17_2, rfl⟩) (by decide) (by decide)
    · refine Dn.st (fun _ kk => XS.icmpNo X34.here hx rfl (hb hby d5_43) rfl (feq hc43).1 (XS.iconst X34.here hx rfl (hb hby d5_46) (XS.goto X34.here hx rfl (pc0 := 47) (pc' := 51) rfl (hb hby d5_47) (by decide) (by decide) (XS.istoreN X34.here hx rfl (hb hby d5_51) rfl (l' := #[vr a, vi 1, vi 0, vi y0]) rfl (XS.iinc X34.here hx rfl (hb hby d5_52) rfl (l' := #[vr a, vi 1, vi 1, vi y0]) rfl (XS.goto X34.here hx rfl (pc0 := 55) (pc' := 15) rfl (hb hby d5_55) (by decide) (by decide) (kk))))))) ?_
      show Dn p e below s _ _ _ (T34.setTop (mkF m 15 #[vr a, vi 1, vi 1, vi y0] []))
      refine Dn.st (fun _ kk => XS.iloadN X34.here hx rfl (hb hby d5_15) rfl (XS.aloadN X34.here hx rfl (hb hby d5_16) rfl rfl (kk))) ?_
      show Dn p e below s _ _ _ (T34.setTop (mkF m 17 #[vr a, vi 1, vi 1, vi y0] [(.ref a), (.int 1)]))
      obtain ⟨cq17_2, kq17_2, q17_2a, q17_2b, q17_2c⟩ := isOf hZ hh34 hS.1
      obtain ⟨_, _, ⟨T17_2, L17_2, k17_2, n17_2⟩, -, X17_2, ⟨Lc17_2, hQ17_2, l17_2, y17_2, z17_2⟩, st17_2⟩ := X34.virtualBack hx (y := on0) (z := on0) hown (mvT hZ (tw hw 37 rfl)) (mvT hZ (tw hw 38 rfl)) (notFace_of_selects (args := #[]) (mvT hZ (tw hw 40 rfl))) (mvT hZ (tw hw 40 rfl)) (mvT hZ (tw hw 39 rfl)) (by decide) (backOf (W := 1) (rmLn l Z a0 hw [] a cs sf _ _ _ _ _ h0 n0 Z0 hW hS (by decide) (by decide)) hZ (tw hw 41 rfl) (tw hw 8 rfl) (by decide) (by decide)) q17_2a q17_2c (g := (mkF m 17 #[vr a, vi 1, vi 1, vi y0] [(.ref a), (.int 1)])) rfl (by rw [hml]; rfl) (Steps.refl _) (argsL := []) (rest := [(.int 1)]) (lenOf pd14 rfl) rfl (by show 2 * 0 + _ ≤ _; exact Nat.le_of_eq rfl) (hb hby d5_17) (fun _ _ => ⟨rfl, hh34, (by decide : 0 + 0 ≤ _), (by decide : 0 + 0 ≤ _)⟩)
      dsimp only [Pt.U, Pt.locs, Pt.cells, Pt.slots] at X17_2 l17_2 y17_2 z17_2 st17_2 hQ17_2
      subst l17_2 y17_2 z17_2
      obtain ⟨rfl, Nq17_2, hh17_2⟩ := hQ17_2
      have N17_2 := Fr.app N34 Nq17_2
      refine Dn.tr st17_2 ?_
      show Dn p e below s _ _ _ (T17_2.setTop (mkF m 20 #[vr a, vi 1, vi 1, vi y0] [(.int 2), (.int 1)]))
      have hc20_2 : (1 : Int32) < (2 : Int32) := by decide
      refine Dn.st (fun _ kk => XS.icmpNo X17_2.here hx rfl (hb hby d5_20) rfl (tlt hc20_2).2.1 (XS.iloadN X17_2.here hx rfl (hb hby d5_23) rfl (kk))) ?_
      show Dn p e below s _ _ _ (T17_2.setTop (mkF m 24 #[vr a, vi 1, vi 1, vi y0] [(.int 1)]))
      have hc24_2 : ¬ ((1 : Int32) = (0 : Int32)) := by decide
      refine Dn.st (fun _ kk => XS.ifNo X17_2.here hx rfl (hb hby d5_24) rfl ((if0 _ _).trans (feq hc24_2).1) (XS.aloadN X17_2.here hx rfl (hb hby d5_27) rfl rfl (XS.iloadN X17_2.here hx rfl (hb hby d5_28) rfl (kk)))) ?_
      show Dn p e below s _ _ _ (T17_2.setTop (mkF m 29 #[vr a, vi 1, vi 1, vi y0] [(.int 1), (.ref a)]))
      obtain ⟨cq29_2, kq29_2, q29_2a, q29_2b, q29_2c⟩ := isOf hZ hh17_2 hS.1
      obtain ⟨_, _, ⟨T29_2, L29_2, k29_2, n29_2⟩, -, X29_2, ⟨Lc29_2, hQ29_2, l29_2, y29_2, z29_2⟩, st29_2⟩ := X17_2.virtualBack hx (y := on2) (z := on2) hown (mvT hZ (tw hw 61 rfl)) (mvT hZ (tw hw 62 rfl)) (notFace_of_selects (args := #[]) (mvT hZ (tw hw 64 rfl))) (mvT hZ (tw hw 64 rfl)) (mvT hZ (tw hw 63 rfl)) (by decide) (backOf (W := 0) (rmCh1 l Z a0 hw [] a cs sf _ _ _ _ _ y1 h0 n0 Z0 hW hS (by decide) rfl (fun q => q.2.1) (by decide) (by decide) rfl rfl (by decide) hr1) hZ (tw hw 65 rfl) (tw hw 8 rfl) (by decide) (by decide)) q29_2a q29_2c (g := (mkF m 29 #[vr a, vi 1, vi 1, vi y0] [(.int 1), (.ref a)])) rfl (by rw [hml]; rfl) (Steps.refl _) (argsL := [(.int 1)]) (rest := []) (lenOf pd15 rfl) rfl (by show 2 * 0 + _ ≤ _; exact Nat.le_of_eq rfl) (hb hby d5_29) (fun _ _ => ⟨rfl, hh17_2, (by decide : 0 + 0 ≤ _), (by decide : 0 + 0 ≤ _)⟩)
      dsimp only [Pt.U, Pt.locs, Pt.cells, Pt.slots] at X29_2 l29_2 y29_2 z29_2 st29_2 hQ29_2
      subst l29_2 y29_2 z29_2
      obtain ⟨rfl, Nq29_2, hh29_2⟩ := hQ29_2
      have N29_2 := Fr.app N17_2 Nq29_2
      refine Dn.tr st29_2 ?_
      show Dn p e below s _ _ _ (T29_2.setTop (mkF m 32 #[vr a, vi 1, vi 1, vi y0] [(.int y1)]))
      refine Dn.st (fun _ kk => XS.istoreN X29_2.here hx rfl (hb hby d5_32) rfl (l' := #[vr a, vi 1, vi 1, vi y1]) rfl (XS.iloadN X29_2.here hx rfl (hb hby d5_33) rfl (kk))) ?_
      show Dn p e below s _ _ _ (T29_2.setTop (mkF m 34 #[vr a, vi 1, vi 1, vi y1] [(.int y1)]))
      obtain ⟨_, _, ⟨T34_2, L34_2, k34_2, n34_2⟩, -, X34_2, ⟨Lc34_2, hQ34_2, l34_2, y34_2, z34_2⟩, st34_2⟩ := Jvm.LawKit.callS X29_2 hx (y := on16) hown (mvT hZ (tw hw 83 rfl)) (mvT hZ (tw hw 84 rfl)) (mvT hZ (tw hw 30 rfl)) (mvT hZ (tw hw 85 rfl)) (by decide) (backOf (W := 0) (rmSp l Z a0 hw [] y1  h0 n0 Z0 ) hZ (tw hw 85 rfl) (tw hw 30 rfl) (by decide) (by decide)) (g := (mkF m 34 #[vr a, vi 1, vi 1, vi y1] [(.int y1)])) rfl (by rw [hml]; rfl) (argsL := [(.int y1)]) (rest := []) (lenOf pd16 rfl) rfl (by show 2 * 0 + _ ≤ _; exact Nat.le_of_eq rfl) (hb hby d5_34) (fun _ _ => ⟨rfl, hh29_2, (by decide : 0 + 0 ≤ _), (by decide : 0 + 0 ≤ _)⟩)
      dsimp only [Pt.U, Pt.locs, Pt.cells, Pt.slots] at X34_2 l34_2 y34_2 z34_2 st34_2 hQ34_2
      subst l34_2 y34_2 z34_2
      obtain ⟨r34_2, rfl, hq34_2, Nq34_2, hh34_2⟩ := hQ34_2
      have N34_2 := Fr.app N29_2 Nq34_2
      refine Dn.st st34_2 ?_
      rcases hq34_2 with ⟨rfl, sp34_2⟩ | ⟨rfl, sp34_2⟩
      · show Dn p e below s _ _ _ (T34_2.setTop (mkF m 37 #[vr a, vi 1, vi 1, vi y1] [(.int 1)]))
        have hc37_2 : ¬ ((1 : Int32) = (0 : Int32)) := by decide
        refine Dn.st (fun _ kk => XS.ifYes X34_2.here hx rfl (pc0 := 37) (pc' := 50) rfl (hb hby d5_37) rfl ((if0 _ _).trans (feq hc37_2).2) (by decide) (by decide) (XS.iconst X34_2.here hx rfl (hb hby d5_50) (XS.istoreN X34_2.here hx rfl (hb hby d5_51) rfl (l' := #[vr a, vi 0, vi 1, vi y1]) rfl (XS.iinc X34_2.here hx rfl (hb hby d5_52) rfl (l' := #[vr a, vi 0, vi 2, vi y1]) rfl (XS.goto X34_2.here hx rfl (pc0 := 55) (pc' := 15) rfl (hb hby d5_55) (by decide) (by decide) (XS.iloadN X34_2.here hx rfl (hb hby d5_15) rfl (kk))))))) ?_
        show Dn p e below s _ _ _ (T34_2.setTop (mkF m 16 #[vr a, vi 0, vi 2, vi y1] [(.int 2)]))
        refine Dn.st (fun _ kk => XS.aloadN X34_2.here hx rfl (hb hby d5_16) rfl rfl (kk)) ?_
        show Dn p e below s _ _ _ (T34_2.setTop (mkF m 17 #[vr a, vi 0, vi 2, vi y1] [(.ref a), (.int 2)]))
        obtain ⟨cq17_3, kq17_3, q17_3a, q17_3b, q17_3c⟩ := isOf hZ hh34_2 hS.1
        obtain ⟨_, _, ⟨T17_3, L17_3, k17_3, n17_3⟩, -, X17_3, ⟨Lc17_3, hQ17_3, l17_3, y17_3, z17_3⟩, st17_3⟩ := X34_2.virtualBack hx (y := on0) (z := on0) hown (mvT hZ (tw hw 37 rfl)) (mvT hZ (tw hw 38 rfl)) (notFace_of_selects (args := #[]) (mvT hZ (tw hw 40 rfl))) (mvT hZ (tw hw 40 rfl)) (mvT hZ (tw hw 39 rfl)) (by decide) (backOf (W := 1) (rmLn l Z a0 hw [] a cs sf _ _ _ _ _ h0 n0 Z0 hW hS (by decide) (by decide)) hZ (tw hw 41 rfl) (tw hw 8 rfl) (by decide) (by decide)) q17_3a q17_3c (g := (mkF m 17 #[vr a, vi 0, vi 2, vi y1] [(.ref a), (.int 2)])) rfl (by rw [hml]; rfl) (Steps.refl _) (argsL := []) (rest := [(.int 2)]) (lenOf pd14 rfl) rfl (by show 2 * 0 + _ ≤ _; exact Nat.le_of_eq rfl) (hb hby d5_17) (fun _ _ => ⟨rfl, hh34_2, (by decide : 0 + 0 ≤ _), (by decide : 0 + 0 ≤ _)⟩)
        dsimp only [Pt.U, Pt.locs, Pt.cells, Pt.slots] at X17_3 l17_3 y17_3 z17_3 st17_3 hQ17_3
        subst l17_3 y17_3 z17_3
        obtain ⟨rfl, Nq17_3, hh17_3⟩ := hQ17_3
        have N17_3 := Fr.app N34_2 Nq17_3
        refine Dn.tr st17_3 ?_
        show Dn p e below s _ _ _ (T17_3.setTop (mkF m 20 #[vr a, vi 0, vi 2, vi y1] [(.int 2), (.int 2)]))
        have hc20_3 : ¬ ((2 : Int32) < (2 : Int32)) := by decide
        refine Dn.st (fun _ kk => XS.icmpYes X17_3.here hx rfl (pc0 := 20) (pc' := 58) rfl (hb hby d5_20) rfl (flt hc20_3).2.1 (by decide) (by decide) (XS.iloadN X17_3.here hx rfl (hb hby d5_58) rfl (kk))) ?_
        show Dn p e below s _ _ _ (T17_3.setTop (mkF m 59 #[vr a, vi 0, vi 2, vi y1] [(.int 0)]))
        exact Dn.ret X17_3 hlk hx hret rfl (Or.inl ⟨rfl, Or.inr (Or.inl rfl), _, rfl⟩) (hb hby d5_59) (by rw [hh17_3]; exact ⟨_, rfl, Or.inr ⟨rfl, fun q => q.2.1.1 sp34_2⟩, N17_3, rfl⟩) (by decide) (by decide)
      · show Dn p e below s _ _ _ (T34_2.setTop (mkF m 37 #[vr a, vi 1, vi 1, vi y1] [(.int 0)]))
        have hc37_2 : (0 : Int32) = (0 : Int32) := by decide
        refine Dn.st (fun _ kk => XS.ifNo X34_2.here hx rfl (hb hby d5_37) rfl ((if0 _ _).trans (teq hc37_2).2) (XS.iloadN X34_2.here hx rfl (hb hby d5_40) rfl (XS.bipush X34_2.here hx rfl (hb hby d5_41) (kk)))) ?_
        show Dn p e below s _ _ _ (T34_2.setTop (mkF m 43 #[vr a, vi 1, vi 1, vi y1] [(.int 35), (.int y1)]))
        by_cases hc43_2 : y1 = (35 : Int32)
        · refine Dn.st (fun _ kk => XS.icmpYes X34_2.here hx rfl (pc0 := 43) (pc' := 50) rfl (hb hby d5_43) rfl (teq hc43_2).1 (by decide) (by decide) (XS.iconst X34_2.here hx rfl (hb hby d5_50) (XS.istoreN X34_2.here hx rfl (hb hby d5_51) rfl (l' := #[vr a, vi 0, vi 1, vi y1]) rfl (XS.iinc X34_2.here hx rfl (hb hby d5_52) rfl (l' := #[vr a, vi 0, vi 2, vi y1]) rfl (XS.goto X34_2.here hx rfl (pc0 := 55) (pc' := 15) rfl (hb hby d5_55) (by decide) (by decide) (XS.iloadN X34_2.here hx rfl (hb hby d5_15) rfl (kk))))))) ?_
          show Dn p e below s _ _ _ (T34_2.setTop (mkF m 16 #[vr a, vi 0, vi 2, vi y1] [(.int 2)]))
          refine Dn.st (fun _ kk => XS.aloadN X34_2.here hx rfl (hb hby d5_16) rfl rfl (kk)) ?_
          show Dn p e below s _ _ _ (T34_2.setTop (mkF m 17 #[vr a, vi 0, vi 2, vi y1] [(.ref a), (.int 2)]))
          obtain ⟨cq17_3, kq17_3, q17_3a, q17_3b, q17_3c⟩ := isOf hZ hh34_2 hS.1
          obtain ⟨_, _, ⟨T17_3, L17_3, k17_3, n17_3⟩, -, X17_3, ⟨Lc17_3, hQ17_3, l17_3, y17_3, z17_3⟩, st17_3⟩ := X34_2.virtualBack hx (y := on0) (z := on0) hown (mvT hZ (tw hw 37 rfl)) (mvT hZ (tw hw 38 rfl)) (notFace_of_selects (args := #[]) (mvT hZ (tw hw 40 rfl))) (mvT hZ (tw hw 40 rfl)) (mvT hZ (tw hw 39 rfl)) (by decide) (backOf (W := 1) (rmLn l Z a0 hw [] a cs sf _ _ _ _ _ h0 n0 Z0 hW hS (by decide) (by decide)) hZ (tw hw 41 rfl) (tw hw 8 rfl) (by decide) (by decide)) q17_3a q17_3c (g := (mkF m 17 #[vr a, vi 0, vi 2, vi y1] [(.ref a), (.int 2)])) rfl (by rw [hml]; rfl) (Steps.refl _) (argsL := []) (rest := [(.int 2)]) (lenOf pd14 rfl) rfl (by show 2 * 0 + _ ≤ _; exact Nat.le_of_eq rfl) (hb hby d5_17) (fun _ _ => ⟨rfl, hh34_2, (by decide : 0 + 0 ≤ _), (by decide : 0 + 0 ≤ _)⟩)
          dsimp only [Pt.U, Pt.locs, Pt.cells, Pt.slots] at X17_3 l17_3 y17_3 z17_3 st17_3 hQ17_3
          subst l17_3 y17_3 z17_3
          obtain ⟨rfl, Nq17_3, hh17_3⟩ := hQ17_3
          have N17_3 := Fr.app N34_2 Nq17_3
          refine Dn.tr st17_3 ?_
          show Dn p e below s _ _ _ (T17_3.setTop (mkF m 20 #[vr a, vi 0, vi 2, vi y1] [(.int 2), (.int 2)]))
          have hc20_3 : ¬ ((2 : Int32) < (2 : Int32)) := by decide
          refine Dn.st (fun _ kk => XS.icmpYes X17_3.here hx rfl (pc0 := 20) (pc' := 58) rfl (hb hby d5_20) rfl (flt hc20_3).2.1 (by decide) (by decide) (XS.iloadN X17_3.here hx rfl (hb hby d5_58) rfl (kk))) ?_
          show Dn p e below s _ _ _ (T17_3.setTop (mkF m 59 #[vr a, vi 0, vi 2, vi y1] [(.int 0)]))
          exact Dn.ret X17_3 hlk hx hret rfl (Or.inl ⟨rfl, Or.inr (Or.inl rfl), _, rfl⟩) (hb hby d5_59) (by rw [hh17_3]; exact ⟨_, rfl, Or.inr ⟨rfl, fun q => q.2.1.2 hc43_2⟩, N17_3, rfl⟩) (by decide) (by decide)
        · refine Dn.st (fun _ kk => XS.icmpNo X34_2.here hx rfl (hb hby d5_43) rfl (feq hc43_2).1 (XS.iconst X34_2.here hx rfl (hb hby d5_46) (XS.goto X34_2.here hx rfl (pc0 := 47) (pc' := 51) rfl (hb hby d5_47) (by decide) (by decide) (XS.istoreN X34_2.here hx rfl (hb hby d5_51) rfl (l' := #[vr a, vi 1, vi 1, vi y1]) rfl (XS.iinc X34_2.here hx rfl (hb hby d5_52) rfl (l' := #[vr a, vi 1, vi 2, vi y1]) rfl (XS.goto X34_2.here hx rfl (pc0 := 55) (pc' := 15) rfl (hb hby d5_55) (by decide) (by decide) (kk))))))) ?_
          show Dn p e below s _ _ _ (T34_2.setTop (mkF m 15 #[vr a, vi 1, vi 2, vi y1] []))
          refine Dn.st (fun _ kk => XS.iloadN X34_2.here hx rfl (hb hby d5_15) rfl (XS.aloadN X34_2.here hx rfl (hb hby d5_16) rfl rfl (kk))) ?_
          show Dn p e below s _ _ _ (T34_2.setTop (mkF m 17 #[vr a, vi 1, vi 2, vi y1] [(.ref a), (.int 2)]))
          obtain ⟨cq17_3, kq17_3, q17_3a, q17_3b, q17_3c⟩ := isOf hZ hh34_2 hS.1
          obtain ⟨_, _, ⟨T17_3, L17_3, k17_3, n17_3⟩, -, X17_3, ⟨Lc17_3, hQ17_3, l17_3, y17_3, z17_3⟩, st17_3⟩ := X34_2.virtualBack hx (y := on0) (z := on0) hown (mvT hZ (tw hw 37 rfl)) (mvT hZ (tw hw 38 rfl)) (notFace_of_selects (args := #[]) (mvT hZ (tw hw 40 rfl))) (mvT hZ (tw hw 40 rfl)) (mvT hZ (tw hw 39 rfl)) (by decide) (backOf (W := 1) (rmLn l Z a0 hw [] a cs sf _ _ _ _ _ h0 n0 Z0 hW hS (by decide) (by decide)) hZ (tw hw 41 rfl) (tw hw 8 rfl) (by decide) (by decide)) q17_3a q17_3c (g := (mkF m 17 #[vr a, vi 1, vi 2, vi y1] [(.ref a), (.int 2)])) rfl (by rw [hml]; rfl) (Steps.refl _) (argsL := []) (rest := [(.int 2)]) (lenOf pd14 rfl) rfl (by show 2 * 0 + _ ≤ _; exact Nat.le_of_eq rfl) (hb hby d5_17) (fun _ _ => ⟨rfl, hh34_2, (by decide : 0 + 0 ≤ _), (by decide : 0 + 0 ≤ _)⟩)
          dsimp only [Pt.U, Pt.locs, Pt.cells, Pt.slots] at X17_3 l17_3 y17_3 z17_3 st17_3 hQ17_3
          subst l17_3 y17_3 z17_3
          obtain ⟨rfl, Nq17_3, hh17_3⟩ := hQ17_3
          have N17_3 := Fr.app N34_2 Nq17_3
          refine Dn.tr st17_3 ?_
          show Dn p e below s _ _ _ (T17_3.setTop (mkF m 20 #[vr a, vi 1, vi 2, vi y1] [(.int 2), (.int 2)]))
          have hc20_3 : ¬ ((2 : Int32) < (2 : Int32)) := by decide
          refine Dn.st (fun _ kk => XS.icmpYes X17_3.here hx rfl (pc0 := 20) (pc' := 58) rfl (hb hby d5_20) rfl (flt hc20_3).2.1 (by decide) (by decide) (XS.iloadN X17_3.here hx rfl (hb hby d5_58) rfl (kk))) ?_
          show Dn p e below s _ _ _ (T17_3.setTop (mkF m 59 #[vr a, vi 1, vi 2, vi y1] [(.int 1)]))
          exact Dn.ret X17_3 hlk hx hret rfl (Or.inl ⟨rfl, Or.inr (Or.inl rfl), _, rfl⟩) (hb hby d5_59) (by rw [hh17_3]; exact ⟨_, rfl, Or.inl ⟨rfl, ⟨⟨sp34, hc43⟩, ⟨sp34_2, hc43_2⟩, trivial⟩⟩, N17_3, rfl⟩) (by decide) (by decide)

theorem ef5_rmIw3 (m : MethodId) (x0 : Addr) : entryFrame m #[(.ref x0)] 4 = mkF m 0 #[vr x0, .unset, .unset, .unset] [] := by first | (simp [entryFrame, mkF, argsToLocals, Value.category]; done) | rfl
def QIw3 (Z : State) (a : Addr) (cs : Int32) (sf : Value) (y0 : Int32) (y1 : Int32) (y2 : Int32) (h0 : Heap) (n0 : Nat) (v : Option Value) (h : Heap) (L : List Loc) : Prop := ∃ r : Int32, v = some (.int r) ∧ ((r = 1 ∧ (own_good y0 ∧ own_good y1 ∧ own_good y2 ∧ True)) ∨ (r = 0 ∧ ¬ (own_good y0 ∧ own_good y1 ∧ own_good y2 ∧ True))) ∧ Fr n0 L ∧ h = h0
theorem rmIw3 (l : Launch) (Z : State) (a0 : Array Value) (hw : ∀ d ∈ tables_1, d.before a0 Z = true) (ws : List Jvm.Cond) (a : Addr) (cs : Int32) (sf : Value) (y0 : Int32) (y1 : Int32) (y2 : Int32) (h0 : Heap) (n0 : Nat) (Z0 : n0 ≤ h0.size) (hW : own_W Z h0 n0 cs sf) (hS : own_Str Z h0 a 3 6 [(.int (own_b y0)), (.int (own_b y1)), (.int (own_b y2))] [(.int (own_lo y0)), (.int (own_hi y0)), (.int (own_lo y1)), (.int (own_hi y1)), (.int (own_lo y2)), (.int (own_hi y2))] (y0.toInt ≤ 255 ∧ y1.toInt ≤ 255 ∧ y2.toInt ≤ 255 ∧ True)) (hr0 : 0 ≤ y0.toInt ∧ y0.toInt ≤ 65535) (hr1 : 0 ≤ y1.toInt ∧ y1.toInt ≤ 65535) (hr2 : 0 ≤ y2.toInt ∧ y2.toInt ≤ 65535) :
    own_Met l on3 (Jvm.Cond.code on3 prog_6_method_6_code 4 (some .boolean) :: ws) orm29 #[(.ref a)] Z h0 (QIw3 Z a cs sf y0 y1 y2 h0 n0) := by
  refine MetFree.of_bodySF (plainFor_of_name pn5) hisR ?_
  intro p e s m args below meth c s₁ Bd hml0 hP hK
  obtain ⟨rfl, hZ, hh⟩ := hP
  have hx := Bd.exec
  have hby := Bd.bytes
  have hlk : meth.locks = false := BodyLoose.notSynchronized Bd
  have hret := Bd.returns
  have hml : c.maxLocals = 4 := hml0
  have hown : s.vm.findClass "com/example/ermon/ermon/io/Line" = some m.cls := findClass_of_methodNamed Bd.named
  have X0 : Stand p l e orm29 s m #[(.ref a)] below meth c s₁ [] 0 0 := Stand.of_body Bd
  have e0 : s₁.heap = h0 := by rw [← hh, Bd.state]; rfl
  have N0 := Fr.nil n0
  show Dn p e below s (QIw3 Z a cs sf y0 y1 y2 h0 n0) orm29.cells orm29.slots (s₁.setTop (entryFrame m #[(.ref a)] 4))
  refine Dn.st (fun _ kk => castTop (ef5_rmIw3 m a) kk) ?_
  show Dn p e below s _ _ _ (s₁.setTop (mkF m 0 #[vr a, .unset, .unset, .unset] []))
  refine Dn.st (fun _ kk => XS.aloadN X0.here hx rfl (hb hby d5_0) rfl rfl (kk)) ?_
  show Dn p e below s _ _ _ (s₁.setTop (mkF m 1 #[vr a, .unset, .unset, .unset] [(.ref a)]))
  obtain ⟨cq1, kq1, q1a, q1b, q1c⟩ := isOf hZ e0 hS.1
  obtain ⟨_, _, ⟨T1, L1, k1, n1⟩, -, X1, ⟨Lc1, hQ1, l1, y1, z1⟩, st1⟩ := X0.virtualBack hx (y := on10) (z := on10) hown (mvT hZ (tw hw 32 rfl)) (mvT hZ (tw hw 33 rfl)) (notFace_of_selects (args := #[]) (mvT hZ (tw hw 35 rfl))) (mvT hZ (tw hw 35 rfl)) (mvT hZ (tw hw 34 rfl)) (by decide) (backOf (W := 0) (rmIe1 l Z a0 hw [] a cs sf _ _ _ _ _ h0 n0 Z0 hW hS (by decide)) hZ (tw hw 36 rfl) (tw hw 8 rfl) (by decide) (by decide)) q1a q1c (g := (mkF m 1 #[vr a, .unset, .unset, .unset] [(.ref a)])) rfl (by rw [hml]; rfl) (Steps.refl _) (argsL := []) (rest := []) (lenOf pd7 rfl) rfl (by show 2 * 0 + _ ≤ _; exact Nat.le_of_eq rfl) (hb hby d5_1) (fun _ _ => ⟨rfl, e0, (by decide : 0 + 0 ≤ _), (by decide : 0 + 0 ≤ _)⟩)
  dsimp only [Pt.U, Pt.locs, Pt.cells, Pt.slots] at X1 l1 y1 z1 st1 hQ1
  subst l1 y1 z1
  obtain ⟨rfl, Nq1, hh1⟩ := hQ1
  have N1 := Fr.app N0 Nq1
  refine Dn.tr st1 ?_
  show Dn p e below s _ _ _ (T1.setTop (mkF m 4 #[vr a, .unset, .unset, .unset] [(.int 0)]))
  have hc4 : (0 : Int32) = (0 : Int32) := by decide
  refine Dn.st (fun _ kk => XS.ifNo X1.here hx rfl (hb hby d5_4) rfl ((if0 _ _).trans (teq hc4).2) (XS.iconst X1.here hx rfl (hb hby d5_7) (XS.goto X1.here hx rfl (pc0 := 8) (pc' := 12) rfl (hb hby d5_8) (by decide) (by decide) (XS.istoreN X1.here hx rfl (hb hby d5_12) rfl (l' := #[vr a, vi 1, .unset, .unset]) rfl (XS.iconst X1.here hx rfl (hb hby d5_13) (XS.istoreN X1.here hx rfl (hb hby d5_14) rfl (l' := #[vr a, vi 1, vi 0, .unset]) rfl (kk))))))) ?_
  show Dn p e below s _ _ _ (T1.setTop (mkF m 15 #[vr a, vi 1, vi 0, .unset] []))
  refine Dn.st (fun _ kk => XS.iloadN X1.here hx rfl (hb hby d5_15) rfl (XS.aloadN X1.here hx rfl (hb hby d5_16) rfl rfl (kk))) ?_
  show Dn p e below s _ _ _ (T1.setTop (mkF m 17 #[vr a, vi 1, vi 0, .unset] [(.ref a), (.int 0)]))
  obtain ⟨cq17, kq17, q17a, q17b, q17c⟩ := isOf hZ hh1 hS.1
  obtain ⟨_, _, ⟨T17, L17, k17, n17⟩, -, X17, ⟨Lc17, hQ17, l17, y17, z17⟩, st17⟩ := X1.virtualBack hx (y := on0) (z := on0) hown (mvT hZ (tw hw 37 rfl)) (mvT hZ (tw hw 38 rfl)) (notFace_of_selects (args := #[]) (mvT hZ (tw hw 40 rfl))) (mvT hZ (tw hw 40 rfl)) (mvT hZ (tw hw 39 rfl)) (by decide) (backOf (W := 1) (rmLn l Z a0 hw [] a cs sf _ _ _ _ _ h0 n0 Z0 hW hS (by decide) (by decide)) hZ (tw hw 41 rfl) (tw hw 8 rfl) (by decide) (by decide)) q17a q17c (g := (mkF m 17 #[vr a, vi 1, vi 0, .unset] [(.ref a), (.int 0)])) rfl (by rw [hml]; rfl) (Steps.refl _) (argsL := []) (rest := [(.int 0)]) (lenOf pd14 rfl) rfl (by show 2 * 0 + _ ≤ _; exact Nat.le_of_eq rfl) (hb hby d5_17) (fun _ _ => ⟨rfl, hh1, (by decide : 0 + 0 ≤ _), (by decide : 0 + 0 ≤ _)⟩)
  dsimp only [Pt.U, Pt.locs, Pt.cells, Pt.slots] at X17 l17 y17 z17 st17 hQ17
  subst l17 y17 z17
  obtain ⟨rfl, Nq17, hh17⟩ := hQ17
  have N17 := Fr.app N1 Nq17
  refine Dn.tr st17 ?_
  show Dn p e below s _ _ _ (T17.setTop (mkF m 20 #[vr a, vi 1, vi 0, .unset] [(.int 3), (.int 0)]))
  have hc20 : (0 : Int32) < (3 : Int32) := by decide
  refine Dn.st (fun _ kk => XS.icmpNo X17.here hx rfl (hb hby d5_20) rfl (tlt hc20).2.1 (XS.iloadN X17.here hx rfl (hb hby d5_23) rfl (kk))) ?_
  show Dn p e below s _ _ _ (T17.setTop (mkF m 24 #[vr a, vi 1, vi 0, .unset] [(.int 1)]))
  have hc24 : ¬ ((1 : Int32) = (0 : Int32)) := by decide
  refine Dn.st (fun _ kk => XS.ifNo X17.here hx rfl (hb hby d5_24) rfl ((if0 _ _).trans (feq hc24).1) (XS.aloadN X17.here hx rfl (hb hby d5_27) rfl rfl (XS.iloadN X17.here hx rfl (hb hby d5_28) rfl (kk)))) ?_
  show Dn p e below s _ _ _ (T17.setTop (mkF m 29 #[vr a, vi 1, vi 0, .unset] [(.int 0), (.ref a)]))
  obtain ⟨cq29, kq29, q29a, q29b, q29c⟩ := isOf hZ hh17 hS.1
  obtain ⟨_, _, ⟨T29, L29, k29, n29⟩, -, X29, ⟨Lc29, hQ29, l29, y29, z29⟩, st29⟩ := X17.virtualBack hx (y := on2) (z := on2) hown (mvT hZ (tw hw 61 rfl)) (mvT hZ (tw hw 62 rfl)) (notFace_of_selects (args := #[]) (mvT hZ (tw hw 64 rfl))) (mvT hZ (tw hw 64 rfl)) (mvT hZ (tw hw 63 rfl)) (by decide) (backOf (W := 0) (rmCh0 l Z a0 hw [] a cs sf _ _ _ _ _ y0 h0 n0 Z0 hW hS (by decide) rfl (fun q => q.1) (by decide) (by decide) rfl rfl (by decide) hr0) hZ (tw hw 65 rfl) (tw hw 8 rfl) (by decide) (by decide)) q29a q29c (g := (mkF m 29 #[vr a, vi 1, vi 0, .unset] [(.int 0), (.ref a)])) rfl (by rw [hml]; rfl) (Steps.refl _) (argsL := [(.int 0)]) (rest := []) (lenOf pd15 rfl) rfl (by show 2 * 0 + _ ≤ _; exact Nat.le_of_eq rfl) (hb hby d5_29) (fun _ _ => ⟨rfl, hh17, (by decide : 0 + 0 ≤ _), (by decide : 0 + 0 ≤ _)⟩)
  dsimp only [Pt.U, Pt.locs, Pt.cells, Pt.slots] at X29 l29 y29 z29 st29 hQ29
  subst l29 y29 z29
  obtain ⟨rfl, Nq29, hh29⟩ := hQ29
  have N29 := Fr.app N17 Nq29
  refine Dn.tr st29 ?_
  show Dn p e below s _ _ _ (T29.setTop (mkF m 32 #[vr a, vi 1, vi 0, .unset] [(.int y0)]))
  refine Dn.st (fun _ kk => XS.istoreN X29.here hx rfl (hb hby d5_32) rfl (l' := #[vr a, vi 1, vi 0, vi y0]) rfl (XS.iloadN X29.here hx rfl (hb hby d5_33) rfl (kk))) ?_
  show Dn p e below s _ _ _ (T29.setTop (mkF m 34 #[vr a, vi 1, vi 0, vi y0] [(.int y0)]))
  obtain ⟨_, _, ⟨T34, L34, k34, n34⟩, -, X34, ⟨Lc34, hQ34, l34, y34, z34⟩, st34⟩ := Jvm.LawKit.callS X29 hx (y := on16) hown (mvT hZ (tw hw 83 rfl)) (mvT hZ (tw hw 84 rfl)) (mvT hZ (tw hw 30 rfl)) (mvT hZ (tw hw 85 rfl)) (by decide) (backOf (W := 0) (rmSp l Z a0 hw [] y0  h0 n0 Z0 ) hZ (tw hw 85 rfl) (tw hw 30 rfl) (by decide) (by decide)) (g := (mkF m 34 #[vr a, vi 1, vi 0, vi y0] [(.int y0)])) rfl (by rw [hml]; rfl) (argsL := [(.int y0)]) (rest := []) (lenOf pd16 rfl) rfl (by show 2 * 0 + _ ≤ _; exact Nat.le_of_eq rfl) (hb hby d5_34) (fun _ _ => ⟨rfl, hh29, (by decide : 0 + 0 ≤ _), (by decide : 0 + 0 ≤ _)⟩)
  dsimp only [Pt.U, Pt.locs, Pt.cells, Pt.slots] at X34 l34 y34 z34 st34 hQ34
  subst l34 y34 z34
  obtain ⟨r34, rfl, hq34, Nq34, hh34⟩ := hQ34
  have N34 := Fr.app N29 Nq34
  refine Dn.st st34 ?_
  rcases hq34 with ⟨rfl, sp34⟩ | ⟨rfl, sp34⟩
  · show Dn p e below s _ _ _ (T34.setTop (mkF m 37 #[vr a, vi 1, vi 0, vi y0] [(.int 1)]))
    have hc37 : ¬ ((1 : Int32) = (0 : Int32)) := by decide
    refine Dn.st (fun _ kk => XS.ifYes X34.here hx rfl (pc0 := 37) (pc' := 50) rfl (hb hby d5_37) rfl ((if0 _ _).trans (feq hc37).2) (by decide) (by decide) (XS.iconst X34.here hx rfl (hb hby d5_50) (XS.istoreN X34.here hx rfl (hb hby d5_51) rfl (l' := #[vr a, vi 0, vi 0, vi y0]) rfl (XS.iinc X34.here hx rfl (hb hby d5_52) rfl (l' := #[vr a, vi 0, vi 1, vi y0]) rfl (XS.goto X34.here hx rfl (pc0 := 55) (pc' := 15) rfl (hb hby d5_55) (by decide) (by decide) (XS.iloadN X34.here hx rfl (hb hby d5_15) rfl (kk))))))) ?_
    show Dn p e below s _ _ _ (T34.setTop (mkF m 16 #[vr a, vi 0, vi 1, vi y0] [(.int 1)]))
    refine Dn.st (fun _ kk => XS.aloadN X34.here hx rfl (hb hby d5_16) rfl rfl (kk)) ?_
    show Dn p e below s _ _ _ (T34.setTop (mkF m 17 #[vr a, vi 0, vi 1, vi y0] [(.ref a), (.int 1)]))
    obtain ⟨cq17_2, kq17_2, q17_2a, q17_2b, q17_2c⟩ := isOf hZ hh34 hS.1
    obtain ⟨_, _, ⟨T17_2, L17_2, k17_2, n17_2⟩, -, X17_2, ⟨Lc17_2, hQ17_2, l17_2, y17_2, z17_2⟩, st17_2⟩ := X34.virtualBack hx (y := on0) (z := on0) hown (mvT hZ (tw hw 37 rfl)) (mvT hZ (tw hw 38 rfl)) (notFace_of_selects (args := #[]) (mvT hZ (tw hw 40 rfl))) (mvT hZ (tw hw 40 rfl)) (mvT hZ (tw hw 39 rfl)) (by decide) (backOf (W := 1) (rmLn l Z a0 hw [] a cs sf _ _ _ _ _ h0 n0 Z0 hW hS (by decide) (by decide)) hZ (tw hw 41 rfl) (tw hw 8 rfl) (by decide) (by decide)) q17_2a q17_2c (g := (mkF m 17 #[vr a, vi 0, vi 1, vi y0] [(.ref a), (.int 1)])) rfl (by rw [hml]; rfl) (Steps.refl _) (argsL := []) (rest := [(.int 1)]) (lenOf pd14 rfl) rfl (by show 2 * 0 + _ ≤ _; exact Nat.le_of_eq rfl) (hb hby d5_17) (fun _ _ => ⟨rfl, hh34, (by decide : 0 + 0 ≤ _), (by decide : 0 + 0 ≤ _)⟩)
    dsimp only [Pt.U, Pt.locs, Pt.cells, Pt.slots] at X17_2 l17_2 y17_2 z17_2 st17_2 hQ17_2
    subst l17_2 y17_2 z17_2
    obtain ⟨rfl, Nq17_2, hh17_2⟩ := hQ17_2
    have N17_2 := Fr.app N34 Nq17_2
    refine Dn.tr st17_2 ?_
    show Dn p e below s _ _ _ (T17_2.setTop (mkF m 20 #[vr a, vi 0, vi 1, vi y0] [(.int 3), (.int 1)]))
    have hc20_2 : (1 : Int32) < (3 : Int32) := by decide
    refine Dn.st (fun _ kk => XS.icmpNo X17_2.here hx rfl (hb hby d5_20) rfl (tlt hc20_2).2.1 (XS.iloadN X17_2.here hx rfl (hb hby d5_23) rfl (kk))) ?_
    show Dn p e below s _ _ _ (T17_2.setTop (mkF m 24 #[vr a, vi 0, vi 1, vi y0] [(.int 0)]))
    have hc24_2 : (0 : Int32) = (0 : Int32) := by decide
    refine Dn.st (fun _ kk => XS.ifYes X17_2.here hx rfl (pc0 := 24) (pc' := 58) rfl (hb hby d5_24) rfl ((if0 _ _).trans (teq hc24_2).1) (by decide) (by decide) (XS.iloadN X17_2.here hx rfl (hb hby d5_58) rfl (kk))) ?_
    show Dn p e below s _ _ _ (T17_2.setTop (mkF m 59 #[vr a, vi 0, vi 1, vi y0] [(.int 0)]))
    exact Dn.ret X17_2 hlk hx hret rfl (Or.inl ⟨rfl, Or.inr (Or.inl rfl), _, rfl⟩) (hb hby d5_59) (by rw [hh17_2]; exact ⟨_, rfl, Or.inr ⟨rfl, fun q => q.1.1 sp34⟩, N17_2, rfl⟩) (by decide) (by decide)
  · show Dn p e below s _ _ _ (T34.setTop (mkF m 37 #[vr a, vi 1, vi 0, vi y0] [(.int 0)]))
    have hc37 : (0 : Int32) = (0 : Int32) := by decide
    refine Dn.st (fun _ kk => XS.ifNo X34.here hx rfl (hb hby d5_37) rfl ((if0 _ _).trans (teq hc37).2) (XS.iloadN X34.here hx rfl (hb hby d5_40) rfl (XS.bipush X34.here hx rfl (hb hby d5_41) (kk)))) ?_
    show Dn p e below s _ _ _ (T34.setTop (mkF m 43 #[vr a, vi 1, vi 0, vi y0] [(.int 35), (.int y0)]))
    by_cases hc43 : y0 = (35 : Int32)
    · refine Dn.st (fun _ kk => XS.icmpYes X34.here hx rfl (pc0 := 43) (pc' := 50) rfl (hb hby d5_43) rfl (teq hc43).1 (by decide) (by decide) (XS.iconst X34.here hx rfl (hb hby d5_50) (XS.istoreN X34.here hx rfl (hb hby d5_51) rfl (l' := #[vr a, vi 0, vi 0, vi y0]) rfl (XS.iinc X34.here hx rfl (hb hby d5_52) rfl (l' := #[vr a, vi 0, vi 1, vi y0]) rfl (XS.goto X34.here hx rfl (pc0 := 55) (pc' := 15) rfl (hb hby d5_55) (by decide) (by decide) (XS.iloadN X34.here hx rfl (hb hby d5_15) rfl (kk))))))) ?_
      show Dn p e below s _ _ _ (T34.setTop (mkF m 16 #[vr a, vi 0, vi 1, vi y0] [(.int 1)]))
      refine Dn.st (fun _ kk => XS.aloadN X34.here hx rfl (hb hby d5_16) rfl rfl (kk)) ?_
      show Dn p e below s _ _ _ (T34.setTop (mkF m 17 #[vr a, vi 0, vi 1, vi y0] [(.ref a), (.int 1)]))
      obtain ⟨cq17_2, kq17_2, q17_2a, q17_2b, q17_2c⟩ := isOf hZ hh34 hS.1
      obtain ⟨_, _, ⟨T17_2, L17_2, k17_2, n17_2⟩, -, X17_2, ⟨Lc17_2, hQ17_2, l17_2, y17_2, z17_2⟩, st17_2⟩ := X34.virtualBack hx (y := on0) (z := on0) hown (mvT hZ (tw hw 37 rfl)) (mvT hZ (tw hw 38 rfl)) (notFace_of_selects (args := #[]) (mvT hZ (tw hw 40 rfl))) (mvT hZ (tw hw 40 rfl)) (mvT hZ (tw hw 39 rfl)) (by decide) (backOf (W := 1) (rmLn l Z a0 hw [] a cs sf _ _ _ _ _ h0 n0 Z0 hW hS (by decide) (by decide)) hZ (tw hw 41 rfl) (tw hw 8 rfl) (by decide) (by decide)) q17_2a q17_2c (g := (mkF m 17 #[vr a, vi 0, vi 1, vi y0] [(.ref a), (.int 1)])) rfl (by rw [hml]; rfl) (Steps.refl _) (argsL := []) (rest := [(.int 1)]) (lenOf pd14 rfl) rfl (by show 2 * 0 + _ ≤ _; exact Nat.le_of_eq rfl) (hb hby d5_17) (fun _ _ => ⟨rfl, hh34, (by decide : 0 + 0 ≤ _), (by decide : 0 + 0 ≤ _)⟩)
      dsimp only [Pt.U, Pt.locs, Pt.cells, Pt.slots] at X17_2 l17_2 y17_2 z17_2 st17_2 hQ17_2
      subst l17_2 y17_2 z17_2
      obtain ⟨rfl, Nq17_2, hh17_2⟩ := hQ17_2
      have N17_2 := Fr.app N34 Nq17_2
      refine Dn.tr st17_2 ?_
      show Dn p e below s _ _ _ (T17_2.setTop (mkF m 20 #[vr a, vi 0, vi 1, vi y0] [(.int 3), (.int 1)]))
      have hc20_2 : (1 : Int32) < (3 : Int32) := by decide
      refine Dn.st (fun _ kk => XS.icmpNo X17_2.here hx rfl (hb hby d5_20) rfl (tlt hc20_2).2.1 (XS.iloadN X17_2.here hx rfl (hb hby d5_23) rfl (kk))) ?_
      show Dn p e below s _ _ _ (T17_2.setTop (mkF m 24 #[vr a, vi 0, vi 1, vi y0] [(.int 0)]))
      have hc24_2 : (0 : Int32) = (0 : Int32) := by decide
      refine Dn.st (fun _ kk => XS.ifYes X17_2.here hx rfl (pc0 := 24) (pc' := 58) rfl (hb hby d5_24) rfl ((if0 _ _).trans (teq hc24_2).1) (by decide) (by decide) (XS.iloadN X17_2.here hx rfl (hb hby d5_58) rfl (kk))) ?_
      show Dn p e below s _ _ _ (T17_2.setTop (mkF m 59 #[vr a, vi 0, vi 1, vi y0] [(.int 0)]))
      exact Dn.ret X17_2 hlk hx hret rfl (Or.inl ⟨rfl, Or.inr (Or.inl rfl), _, rfl⟩) (hb hby d5_59) (by rw [hh17_2]; exact ⟨_, rfl, Or.inr ⟨rfl, fun q => q.1.2 hc43⟩, N17_2, rfl⟩) (by decide) (by decide)
    · refine Dn.st (fun _ kk => XS.icmpNo X34.here hx rfl (hb hby d5_43) rfl (feq hc43).1 (XS.iconst X34.here hx rfl (hb hby d5_46) (XS.goto X34.here hx rfl (pc0 := 47) (pc' := 51) rfl (hb hby d5_47) (by decide) (by decide) (XS.istoreN X34.here hx rfl (hb hby d5_51) rfl (l' := #[vr a, vi 1, vi 0, vi y0]) rfl (XS.iinc X34.here hx rfl (hb hby d5_52) rfl (l' := #[vr a, vi 1, vi 1, vi y0]) rfl (XS.goto X34.here hx rfl (pc0 := 55) (pc' := 15) rfl (hb hby d5_55) (by decide) (by decide) (kk))))))) ?_
      show Dn p e below s _ _ _ (T34.setTop (mkF m 15 #[vr a, vi 1, vi 1, vi y0] []))
      refine Dn.st (fun _ kk => XS.iloadN X34.here hx rfl (hb hby d5_15) rfl (XS.aloadN X34.here hx rfl (hb hby d5_16) rfl rfl (kk))) ?_
      show Dn p e below s _ _ _ (T34.setTop (mkF m 17 #[vr a, vi 1, vi 1, vi y0] [(.ref a), (.int 1)]))
      obtain ⟨cq17_2, kq17_2, q17_2a, q17_2b, q17_2c⟩ := isOf hZ hh34 hS.1
      obtain ⟨_, _, ⟨T17_2, L17_2, k17_2, n17_2⟩, -, X17_2, ⟨Lc17_2, hQ17_2, l17_2, y17_2, z17_2⟩, st17_2⟩ := X34.virtualBack hx (y := on0) (z := on0) hown (mvT hZ (tw hw 37 rfl)) (mvT hZ (tw hw 38 rfl)) (notFace_of_selects (args := #[]) (mvT hZ (tw hw 40 rfl))) (mvT hZ (tw hw 40 rfl)) (mvT hZ (tw hw 39 rfl)) (by decide) (backOf (W := 1) (rmLn l Z a0 hw [] a cs sf _ _ _ _ _ h0 n0 Z0 hW hS (by decide) (by decide)) hZ (tw hw 41 rfl) (tw hw 8 rfl) (by decide) (by decide)) q17_2a q17_2c (g := (mkF m 17 #[vr a, vi 1, vi 1, vi y0] [(.ref a), (.int 1)])) rfl (by rw [hml]; rfl) (Steps.refl _) (argsL := []) (rest := [(.int 1)]) (lenOf pd14 rfl) rfl (by show 2 * 0 + _ ≤ _; exact Nat.le_of_eq rfl) (hb hby d5_17) (fun _ _ => ⟨rfl, hh34, (by decide : 0 + 0 ≤ _), (by decide : 0 + 0 ≤ _)⟩)
      dsimp only [Pt.U, Pt.locs, Pt.cells, Pt.slots] at X17_2 l17_2 y17_2 z17_2 st17_2 hQ17_2
      subst l17_2 y17_2 z17_2
      obtain ⟨rfl, Nq17_2, hh17_2⟩ := hQ17_2
      have N17_2 := Fr.app N34 Nq17_2
      refine Dn.tr st17_2 ?_
      show Dn p e below s _ _ _ (T17_2.setTop (mkF m 20 #[vr a, vi 1, vi 1, vi y0] [(.int 3), (.int 1)]))
      have hc20_2 : (1 : Int32) < (3 : Int32) := by decide
      refine Dn.st (fun _ kk => XS.icmpNo X17_2.here hx rfl (hb hby d5_20) rfl (tlt hc20_2).2.1 (XS.iloadN X17_2.here hx rfl (hb hby d5_23) rfl (kk))) ?_
      show Dn p e below s _ _ _ (T17_2.setTop (mkF m 24 #[vr a, vi 1, vi 1, vi y0] [(.int 1)]))
      have hc24_2 : ¬ ((1 : Int32) = (0 : Int32)) := by decide
      refine Dn.st (fun _ kk => XS.ifNo X17_2.here hx rfl (hb hby d5_24) rfl ((if0 _ _).trans (feq hc24_2).1) (XS.aloadN X17_2.here hx rfl (hb hby d5_27) rfl rfl (XS.iloadN X17_2.here hx rfl (hb hby d5_28) rfl (kk)))) ?_
      show Dn p e below s _ _ _ (T17_2.setTop (mkF m 29 #[vr a, vi 1, vi 1, vi y0] [(.int 1), (.ref a)]))
      obtain ⟨cq29_2, kq29_2, q29_2a, q29_2b, q29_2c⟩ := isOf hZ hh17_2 hS.1
      obtain ⟨_, _, ⟨T29_2, L29_2, k29_2, n29_2⟩, -, X29_2, ⟨Lc29_2, hQ29_2, l29_2, y29_2, z29_2⟩, st29_2⟩ := X17_2.virtualBack hx (y := on2) (z := on2) hown (mvT hZ (tw hw 61 rfl)) (mvT hZ (tw hw 62 rfl)) (notFace_of_selects (args := #[]) (mvT hZ (tw hw 64 rfl))) (mvT hZ (tw hw 64 rfl)) (mvT hZ (tw hw 63 rfl)) (by decide) (backOf (W := 0) (rmCh1 l Z a0 hw [] a cs sf _ _ _ _ _ y1 h0 n0 Z0 hW hS (by decide) rfl (fun q => q.2.1) (by decide) (by decide) rfl rfl (by decide) hr1) hZ (tw hw 65 rfl) (tw hw 8 rfl) (by decide) (by decide)) q29_2a q29_2c (g := (mkF m 29 #[vr a, vi 1, vi 1, vi y0] [(.int 1), (.ref a)])) rfl (by rw [hml]; rfl) (Steps.refl _) (argsL := [(.int 1)]) (rest := []) (lenOf pd15 rfl) rfl (by show 2 * 0 + _ ≤ _; exact Nat.le_of_eq rfl) (hb hby d5_29) (fun _ _ => ⟨rfl, hh17_2, (by decide : 0 + 0 ≤ _), (by decide : 0 + 0 ≤ _)⟩)
      dsimp only [Pt.U, Pt.locs, Pt.cells, Pt.slots] at X29_2 l29_2 y29_2 z29_2 st29_2 hQ29_2
      subst l29_2 y29_2 z29_2
      obtain ⟨rfl, Nq29_2, hh29_2⟩ := hQ29_2
      have N29_2 := Fr.app N17_2 Nq29_2
      refine Dn.tr st29_2 ?_
      show Dn p e below s _ _ _ (T29_2.setTop (mkF m 32 #[vr a, vi 1, vi 1, vi y0] [(.int y1)]))
      refine Dn.st (fun _ kk => XS.istoreN X29_2.here hx rfl (hb hby d5_32) rfl (l' := #[vr a, vi 1, vi 1, vi y1]) rfl (XS.iloadN X29_2.here hx rfl (hb hby d5_33) rfl (kk))) ?_
      show Dn p e below s _ _ _ (T29_2.setTop (mkF m 34 #[vr a, vi 1, vi 1, vi y1] [(.int y1)]))
      obtain ⟨_, _, ⟨T34_2, L34_2, k34_2, n34_2⟩, -, X34_2, ⟨Lc34_2, hQ34_2, l34_2, y34_2, z34_2⟩, st34_2⟩ := Jvm.LawKit.callS X29_2 hx (y := on16) hown (mvT hZ (tw hw 83 rfl)) (mvT hZ (tw hw 84 rfl)) (mvT hZ (tw hw 30 rfl)) (mvT hZ (tw hw 85 rfl)) (by decide) (backOf (W := 0) (rmSp l Z a0 hw [] y1  h0 n0 Z0 ) hZ (tw hw 85 rfl) (tw hw 30 rfl) (by decide) (by decide)) (g := (mkF m 34 #[vr a, vi 1, vi 1, vi y1] [(.int y1)])) rfl (by rw [hml]; rfl) (argsL := [(.int y1)]) (rest := []) (lenOf pd16 rfl) rfl (by show 2 * 0 + _ ≤ _; exact Nat.le_of_eq rfl) (hb hby d5_34) (fun _ _ => ⟨rfl, hh29_2, (by decide : 0 + 0 ≤ _), (by decide : 0 + 0 ≤ _)⟩)
      dsimp only [Pt.U, Pt.locs, Pt.cells, Pt.slots] at X34_2 l34_2 y34_2 z34_2 st34_2 hQ34_2
      subst l34_2 y34_2 z34_2
      obtain ⟨r34_2, rfl, hq34_2, Nq34_2, hh34_2⟩ := hQ34_2
      have N34_2 := Fr.app N29_2 Nq34_2
      refine Dn.st st34_2 ?_
      rcases hq34_2 with ⟨rfl, sp34_2⟩ | ⟨rfl, sp34_2⟩
      · show Dn p e below s _ _ _ (T34_2.setTop (mkF m 37 #[vr a, vi 1, vi 1, vi y1] [(.int 1)]))
        have hc37_2 : ¬ ((1 : Int32) = (0 : Int32)) := by decide
        refine Dn.st (fun _ kk => XS.ifYes X34_2.here hx rfl (pc0 := 37) (pc' := 50) rfl (hb hby d5_37) rfl ((if0 _ _).trans (feq hc37_2).2) (by decide) (by decide) (XS.iconst X34_2.here hx rfl (hb hby d5_50) (XS.istoreN X34_2.here hx rfl (hb hby d5_51) rfl (l' := #[vr a, vi 0, vi 1, vi y1]) rfl (XS.iinc X34_2.here hx rfl (hb hby d5_52) rfl (l' := #[vr a, vi 0, vi 2, vi y1]) rfl (XS.goto X34_2.here hx rfl (pc0 := 55) (pc' := 15) rfl (hb hby d5_55) (by decide) (by decide) (XS.iloadN X34_2.here hx rfl (hb hby d5_15) rfl (kk))))))) ?_
        show Dn p e below s _ _ _ (T34_2.setTop (mkF m 16 #[vr a, vi 0, vi 2, vi y1] [(.int 2)]))
        refine Dn.st (fun _ kk => XS.aloadN X34_2.here hx rfl (hb hby d5_16) rfl rfl (kk)) ?_
        show Dn p e below s _ _ _ (T34_2.setTop (mkF m 17 #[vr a, vi 0, vi 2, vi y1] [(.ref a), (.int 2)]))
        obtain ⟨cq17_3, kq17_3, q17_3a, q17_3b, q17_3c⟩ := isOf hZ hh34_2 hS.1
        obtain ⟨_, _, ⟨T17_3, L17_3, k17_3, n17_3⟩, -, X17_3, ⟨Lc17_3, hQ17_3, l17_3, y17_3, z17_3⟩, st17_3⟩ := X34_2.virtualBack hx (y := on0) (z := on0) hown (mvT hZ (tw hw 37 rfl)) (mvT hZ (tw hw 38 rfl)) (notFace_of_selects (args := #[]) (mvT hZ (tw hw 40 rfl))) (mvT hZ (tw hw 40 rfl)) (mvT hZ (tw hw 39 rfl)) (by decide) (backOf (W := 1) (rmLn l Z a0 hw [] a cs sf _ _ _ _ _ h0 n0 Z0 hW hS (by decide) (by decide)) hZ (tw hw 41 rfl) (tw hw 8 rfl) (by decide) (by decide)) q17_3a q17_3c (g := (mkF m 17 #[vr a, vi 0, vi 2, vi y1] [(.ref a), (.int 2)])) rfl (by rw [hml]; rfl) (Steps.refl _) (argsL := []) (rest := [(.int 2)]) (lenOf pd14 rfl) rfl (by show 2 * 0 + _ ≤ _; exact Nat.le_of_eq rfl) (hb hby d5_17) (fun _ _ => ⟨rfl, hh34_2, (by decide : 0 + 0 ≤ _), (by decide : 0 + 0 ≤ _)⟩)
        dsimp only [Pt.U, Pt.locs, Pt.cells, Pt.slots] at X17_3 l17_3 y17_3 z17_3 st17_3 hQ17_3
        subst l17_3 y17_3 z17_3
        obtain ⟨rfl, Nq17_3, hh17_3⟩ := hQ17_3
        have N17_3 := Fr.app N34_2 Nq17_3
        refine Dn.tr st17_3 ?_
        show Dn p e below s _ _ _ (T17_3.setTop (mkF m 20 #[vr a, vi 0, vi 2, vi y1] [(.int 3), (.int 2)]))
        have hc20_3 : (2 : Int32) < (3 : Int32) := by decide
        refine Dn.st (fun _ kk => XS.icmpNo X17_3.here hx rfl (hb hby d5_20) rfl (tlt hc20_3).2.1 (XS.iloadN X17_3.here hx rfl (hb hby d5_23) rfl (kk))) ?_
        show Dn p e below s _ _ _ (T17_3.setTop (mkF m 24 #[vr a, vi 0, vi 2, vi y1] [(.int 0)]))
        have hc24_3 : (0 : Int32) = (0 : Int32) := by decide
        refine Dn.st (fun _ kk => XS.ifYes X17_3.here hx rfl (pc0 := 24) (pc' := 58) rfl (hb hby d5_24) rfl ((if0 _ _).trans (teq hc24_3).1) (by decide) (by decide) (XS.iloadN X17_3.here hx rfl (hb hby d5_58) rfl (kk))) ?_
        show Dn p e below s _ _ _ (T17_3.setTop (mkF m 59 #[vr a, vi 0, vi 2, vi y1] [(.int 0)]))
        exact Dn.ret X17_3 hlk hx hret rfl (Or.inl ⟨rfl, Or.inr (Or.inl rfl), _, rfl⟩) (hb hby d5_59) (by rw [hh17_3]; exact ⟨_, rfl, Or.inr ⟨rfl, fun q => q.2.1.1 sp34_2⟩, N17_3, rfl⟩) (by decide) (by decide)
      · show Dn p e below s _ _ _ (T34_2.setTop (mkF m 37 #[vr a, vi 1, vi 1, vi y1] [(.int 0)]))
        have hc37_2 : (0 : Int32) = (0 : Int32) := by decide
        refine Dn.st (fun _ kk => XS.ifNo X34_2.here hx rfl (hb hby d5_37) rfl ((if0 _ _).trans (teq hc37_2).2) (XS.iloadN X34_2.here hx rfl (hb hby d5_40) rfl (XS.bipush X34_2.here hx rfl (hb hby d5_41) (kk)))) ?_
        show Dn p e below s _ _ _ (T34_2.setTop (mkF m 43 #[vr a, vi 1, vi 1, vi y1] [(.int 35), (.int y1)]))
        by_cases hc43_2 : y1 = (35 : Int32)
        · refine Dn.st (fun _ kk => XS.icmpYes X34_2.here hx rfl (pc0 := 43) (pc' := 50) rfl (hb hby d5_43) rfl (teq hc43_2).1 (by decide) (by decide) (XS.iconst X34_2.here hx rfl (hb hby d5_50) (XS.istoreN X34_2.here hx rfl (hb hby d5_51) rfl (l' := #[vr a, vi 0, vi 1, vi y1]) rfl (XS.iinc X34_2.here hx rfl (hb hby d5_52) rfl (l' := #[vr a, vi 0, vi 2, vi y1]) rfl (XS.goto X34_2.here hx rfl (pc0 := 55) (pc' := 15) rfl (hb hby d5_55) (by decide) (by decide) (XS.iloadN X34_2.here hx rfl (hb hby d5_15) rfl (kk))))))) ?_
          show Dn p e below s _ _ _ (T34_2.setTop (mkF m 16 #[vr a, vi 0, vi 2, vi y1] [(.int 2)]))
          refine Dn.st (fun _ kk => XS.aloadN X34_2.here hx rfl (hb hby d5_16) rfl rfl (kk)) ?_
          show Dn p e below s _ _ _ (T34_2.setTop (mkF m 17 #[vr a, vi 0, vi 2, vi y1] [(.ref a), (.int 2)]))
          obtain ⟨cq17_3, kq17_3, q17_3a, q17_3b, q17_3c⟩ := isOf hZ hh34_2 hS.1
          obtain ⟨_, _, ⟨T17_3, L17_3, k17_3, n17_3⟩, -, X17_3, ⟨Lc17_3, hQ17_3, l17_3, y17_3, z17_3⟩, st17_3⟩ := X34_2.virtualBack hx (y := on0) (z := on0) hown (mvT hZ (tw hw 37 rfl)) (mvT hZ (tw hw 38 rfl)) (notFace_of_selects (args := #[]) (mvT hZ (tw hw 40 rfl))) (mvT hZ (tw hw 40 rfl)) (mvT hZ (tw hw 39 rfl)) (by decide) (backOf (W := 1) (rmLn l Z a0 hw [] a cs sf _ _ _ _ _ h0 n0 Z0 hW hS (by decide) (by decide)) hZ (tw hw 41 rfl) (tw hw 8 rfl) (by decide) (by decide)) q17_3a q17_3c (g := (mkF m 17 #[vr a, vi 0, vi 2, vi y1] [(.ref a), (.int 2)])) rfl (by rw [hml]; rfl) (Steps.refl _) (argsL := []) (rest := [(.int 2)]) (lenOf pd14 rfl) rfl (by show 2 * 0 + _ ≤ _; exact Nat.le_of_eq rfl) (hb hby d5_17) (fun _ _ => ⟨rfl, hh34_2, (by decide : 0 + 0 ≤ _), (by decide : 0 + 0 ≤ _)⟩)
          dsimp only [Pt.U, Pt.locs, Pt.cells, Pt.slots] at X17_3 l17_3 y17_3 z17_3 st17_3 hQ17_3
          subst l17_3 y17_3 z17_3
          obtain ⟨rfl, Nq17_3, hh17_3⟩ := hQ17_3
          have N17_3 := Fr.app N34_2 Nq17_3
          refine Dn.tr st17_3 ?_
          show Dn p e below s _ _ _ (T17_3.setTop (mkF m 20 #[vr a, vi 0, vi 2, vi y1] [(.int 3), (.int 2)]))
          have hc20_3 : (2 : Int32) < (3 : Int32) := by decide
          refine Dn.st (fun _ kk => XS.icmpNo X17_3.here hx rfl (hb hby d5_20) rfl (tlt hc20_3).2.1 (XS.iloadN X17_3.here hx rfl (hb hby d5_23) rfl (kk))) ?_
          show Dn p e below s _ _ _ (T17_3.setTop (mkF m 24 #[vr a, vi 0, vi 2, vi y1] [(.int 0)]))
          have hc24_3 : (0 : Int32) = (0 : Int32) := by decide
          refine Dn.st (fun _ kk => XS.ifYes X17_3.here hx rfl (pc0 := 24) (pc' := 58) rfl (hb hby d5_24) rfl ((if0 _ _).trans (teq hc24_3).1) (by decide) (by decide) (XS.iloadN X17_3.here hx rfl (hb hby d5_58) rfl (kk))) ?_
          show Dn p e below s _ _ _ (T17_3.setTop (mkF m 59 #[vr a, vi 0, vi 2, vi y1] [(.int 0)]))
          exact Dn.ret X17_3 hlk hx hret rfl (Or.inl ⟨rfl, Or.inr (Or.inl rfl), _, rfl⟩) (hb hby d5_59) (by rw [hh17_3]; exact ⟨_, rfl, Or.inr ⟨rfl, fun q => q.2.1.2 hc43_2⟩, N17_3, rfl⟩) (by decide) (by decide)
        · refine Dn.st (fun _ kk => XS.icmpNo X34_2.here hx rfl (hb hby d5_43) rfl (feq hc43_2).1 (XS.iconst X34_2.here hx rfl (hb hby d5_46) (XS.goto X34_2.here hx rfl (pc0 := 47) (pc' := 51) rfl (hb hby d5_47) (by decide) (by decide) (XS.istoreN X34_2.here hx rfl (hb hby d5_51) rfl (l' := #[vr a, vi 1, vi 1, vi y1]) rfl (XS.iinc X34_2.here hx rfl (hb hby d5_52) rfl (l' := #[vr a, vi 1, vi 2, vi y1]) rfl (XS.goto X34_2.here hx rfl (pc0 := 55) (pc' := 15) rfl (hb hby d5_55) (by decide) (by decide) (kk))))))) ?_
          show Dn p e below s _ _ _ (T34_2.setTop (mkF m 15 #[vr a, vi 1, vi 2, vi y1] []))
          refine Dn.st (fun _ kk => XS.iloadN X34_2.here hx rfl (hb hby d5_15) rfl (XS.aloadN X34_2.here hx rfl (hb hby d5_16) rfl rfl (kk))) ?_
          show Dn p e below s _ _ _ (T34_2.setTop (mkF m 17 #[vr a, vi 1, vi 2, vi y1] [(.ref a), (.int 2)]))
          obtain ⟨cq17_3, kq17_3, q17_3a, q17_3b, q17_3c⟩ := isOf hZ hh34_2 hS.1
          obtain ⟨_, _, ⟨T17_3, L17_3, k17_3, n17_3⟩, -, X17_3, ⟨Lc17_3, hQ17_3, l17_3, y17_3, z17_3⟩, st17_3⟩ := X34_2.virtualBack hx (y := on0) (z := on0) hown (mvT hZ (tw hw 37 rfl)) (mvT hZ (tw hw 38 rfl)) (notFace_of_selects (args := #[]) (mvT hZ (tw hw 40 rfl))) (mvT hZ (tw hw 40 rfl)) (mvT hZ (tw hw 39 rfl)) (by decide) (backOf (W := 1) (rmLn l Z a0 hw [] a cs sf _ _ _ _ _ h0 n0 Z0 hW hS (by decide) (by decide)) hZ (tw hw 41 rfl) (tw hw 8 rfl) (by decide) (by decide)) q17_3a q17_3c (g := (mkF m 17 #[vr a, vi 1, vi 2, vi y1] [(.ref a), (.int 2)])) rfl (by rw [hml]; rfl) (Steps.refl _) (argsL := []) (rest := [(.int 2)]) (lenOf pd14 rfl) rfl (by show 2 * 0 + _ ≤ _; exact Nat.le_of_eq rfl) (hb hby d5_17) (fun _ _ => ⟨rfl, hh34_2, (by decide : 0 + 0 ≤ _), (by decide : 0 + 0 ≤ _)⟩)
          dsimp only [Pt.U, Pt.locs, Pt.cells, Pt.slots] at X17_3 l17_3 y17_3 z17_3 st17_3 hQ17_3
          subst l17_3 y17_3 z17_3
          obtain ⟨rfl, Nq17_3, hh17_3⟩ := hQ17_3
          have N17_3 := Fr.app N34_2 Nq17_3
          refine Dn.tr st17_3 ?_
          show Dn p e below s _ _ _ (T17_3.setTop (mkF m 20 #[vr a, vi 1, vi 2, vi y1] [(.int 3), (.int 2)]))
          have hc20_3 : (2 : Int32) < (3 : Int32) := by decide
          refine Dn.st (fun _ kk => XS.icmpNo X17_3.here hx rfl (hb hby d5_20) rfl (tlt hc20_3).2.1 (XS.iloadN X17_3.here hx rfl (hb hby d5_23) rfl (kk))) ?_
          show Dn p e below s _ _ _ (T17_3.setTop (mkF m 24 #[vr a, vi 1, vi 2, vi y1] [(.int 1)]))
          have hc24_3 : ¬ ((1 : Int32) = (0 : Int32)) := by decide
          refine Dn.st (fun _ kk => XS.ifNo X17_3.here hx rfl (hb hby d5_24) rfl ((if0 _ _).trans (feq hc24_3).1) (XS.aloadN X17_3.here hx rfl (hb hby d5_27) rfl rfl (XS.iloadN X17_3.here hx rfl (hb hby d5_28) rfl (kk)))) ?_
          show Dn p e below s _ _ _ (T17_3.setTop (mkF m 29 #[vr a, vi 1, vi 2, vi y1] [(.int 2), (.ref a)]))
          obtain ⟨cq29_3, kq29_3, q29_3a, q29_3b, q29_3c⟩ := isOf hZ hh17_3 hS.1
          obtain ⟨_, _, ⟨T29_3, L29_3, k29_3, n29_3⟩, -, X29_3, ⟨Lc29_3, hQ29_3, l29_3, y29_3, z29_3⟩, st29_3⟩ := X17_3.virtualBack hx (y := on2) (z := on2) hown (mvT hZ (tw hw 61 rfl)) (mvT hZ (tw hw 62 rfl)) (notFace_of_selects (args := #[]) (mvT hZ (tw hw 64 rfl))) (mvT hZ (tw hw 64 rfl)) (mvT hZ (tw hw 63 rfl)) (by decide) (backOf (W := 0) (rmCh2 l Z a0 hw [] a cs sf _ _ _ _ _ y2 h0 n0 Z0 hW hS (by decide) rfl (fun q => q.2.2.1) (by decide) (by decide) rfl rfl (by decide) hr2) hZ (tw hw 65 rfl) (tw hw 8 rfl) (by decide) (by decide)) q29_3a q29_3c (g := (mkF m 29 #[vr a, vi 1, vi 2, vi y1] [(.int 2), (.ref a)])) rfl (by rw [hml]; rfl) (Steps.refl _) (argsL := [(.int 2)]) (rest := []) (lenOf pd15 rfl) rfl (by show 2 * 0 + _ ≤ _; exact Nat.le_of_eq rfl) (hb hby d5_29) (fun _ _ => ⟨rfl, hh17_3, (by decide : 0 + 0 ≤ _), (by decide : 0 + 0 ≤ _)⟩)
          dsimp only [Pt.U, Pt.locs, Pt.cells, Pt.slots] at X29_3 l29_3 y29_3 z29_3 st29_3 hQ29_3
          subst l29_3 y29_3 z29_3
          obtain ⟨rfl, Nq29_3, hh29_3⟩ := hQ29_3
          have N29_3 := Fr.app N17_3 Nq29_3
          refine Dn.tr st29_3 ?_
          show Dn p e below s _ _ _ (T29_3.setTop (mkF m 32 #[vr a, vi 1, vi 2, vi y1] [(.int y2)]))
          refine Dn.st (fun _ kk => XS.istoreN X29_3.here hx rfl (hb hby d5_32) rfl (l' := #[vr a, vi 1, vi 2, vi y2]) rfl (XS.iloadN X29_3.here hx rfl (hb hby d5_33) rfl (kk))) ?_
          show Dn p e below s _ _ _ (T29_3.setTop (mkF m 34 #[vr a, vi 1, vi 2, vi y2] [(.int y2)]))
          obtain ⟨_, _, ⟨T34_3, L34_3, k34_3, n34_3⟩, -, X34_3, ⟨Lc34_3, hQ34_3, l34_3, y34_3, z34_3⟩, st34_3⟩ := Jvm.LawKit.callS X29_3 hx (y := on16) hown (mvT hZ (tw hw 83 rfl)) (mvT hZ (tw hw 84 rfl)) (mvT hZ (tw hw 30 rfl)) (mvT hZ (tw hw 85 rfl)) (by decide) (backOf (W := 0) (rmSp l Z a0 hw [] y2  h0 n0 Z0 ) hZ (tw hw 85 rfl) (tw hw 30 rfl) (by decide) (by decide)) (g := (mkF m 34 #[vr a, vi 1, vi 2, vi y2] [(.int y2)])) rfl (by rw [hml]; rfl) (argsL := [(.int y2)]) (rest := []) (lenOf pd16 rfl) rfl (by show 2 * 0 + _ ≤ _; exact Nat.le_of_eq rfl) (hb hby d5_34) (fun _ _ => ⟨rfl, hh29_3, (by decide : 0 + 0 ≤ _), (by decide : 0 + 0 ≤ _)⟩)
          dsimp only [Pt.U, Pt.locs, Pt.cells, Pt.slots] at X34_3 l34_3 y34_3 z34_3 st34_3 hQ34_3
          subst l34_3 y34_3 z34_3
          obtain ⟨r34_3, rfl, hq34_3, Nq34_3, hh34_3⟩ := hQ34_3
          have N34_3 := Fr.app N29_3 Nq34_3
          refine Dn.st st34_3 ?_
          rcases hq34_3 with ⟨rfl, sp34_3⟩ | ⟨rfl, sp34_3⟩
          · show Dn p e below s _ _ _ (T34_3.setTop (mkF m 37 #[vr a, vi 1, vi 2, vi y2] [(.int 1)]))
            have hc37_3 : ¬ ((1 : Int32) = (0 : Int32)) := by decide
            refine Dn.st (fun _ kk => XS.ifYes X34_3.here hx rfl (pc0 := 37) (pc' := 50) rfl (hb hby d5_37) rfl ((if0 _ _).trans (feq hc37_3).2) (by decide) (by decide) (XS.iconst X34_3.here hx rfl (hb hby d5_50) (XS.istoreN X34_3.here hx rfl (hb hby d5_51) rfl (l' := #[vr a, vi 0, vi 2, vi y2]) rfl (XS.iinc X34_3.here hx rfl (hb hby d5_52) rfl (l' := #[vr a, vi 0, vi 3, vi y2]) rfl (XS.goto X34_3.here hx rfl (pc0 := 55) (pc' := 15) rfl (hb hby d5_55) (by decide) (by decide) (XS.iloadN X34_3.here hx rfl (hb hby d5_15) rfl (kk))))))) ?_
            show Dn p e below s _ _ _ (T34_3.setTop (mkF m 16 #[vr a, vi 0, vi 3, vi y2] [(.int 3)]))
            refine Dn.st (fun _ kk => XS.aloadN X34_3.here hx rfl (hb hby d5_16) rfl rfl (kk)) ?_
            show Dn p e below s _ _ _ (T34_3.setTop (mkF m 17 #[vr a, vi 0, vi 3, vi y2] [(.ref a), (.int 3)]))
            obtain ⟨cq17_4, kq17_4, q17_4a, q17_4b, q17_4c⟩ := isOf hZ hh34_3 hS.1
            obtain ⟨_, _, ⟨T17_4, L17_4, k17_4, n17_4⟩, -, X17_4, ⟨Lc17_4, hQ17_4, l17_4, y17_4, z17_4⟩, st17_4⟩ := X34_3.virtualBack hx (y := on0) (z := on0) hown (mvT hZ (tw hw 37 rfl)) (mvT hZ (tw hw 38 rfl)) (notFace_of_selects (args := #[]) (mvT hZ (tw hw 40 rfl))) (mvT hZ (tw hw 40 rfl)) (mvT hZ (tw hw 39 rfl)) (by decide) (backOf (W := 1) (rmLn l Z a0 hw [] a cs sf _ _ _ _ _ h0 n0 Z0 hW hS (by decide) (by decide)) hZ (tw hw 41 rfl) (tw hw 8 rfl) (by decide) (by decide)) q17_4a q17_4c (g := (mkF m 17 #[vr a, vi 0, vi 3, vi y2] [(.ref a), (.int 3)])) rfl (by rw [hml]; rfl) (Steps.refl _) (argsL := []) (rest := [(.int 3)]) (lenOf pd14 rfl) rfl (by show 2 * 0 + _ ≤ _; exact Nat.le_of_eq rfl) (hb hby d5_17) (fun _ _ => ⟨rfl, hh34_3, (by decide : 0 + 0 ≤ _), (by decide : 0 + 0 ≤ _)⟩)
            dsimp only [Pt.U, Pt.locs, Pt.cells, Pt.slots] at X17_4 l17_4 y17_4 z17_4 st17_4 hQ17_4
            subst l17_4 y17_4 z17_4
            obtain ⟨rfl, Nq17_4, hh17_4⟩ := hQ17_4
            have N17_4 := Fr.app N34_3 Nq17_4
            refine Dn.tr st17_4 ?_
            show Dn p e below s _ _ _ (T17_4.setTop (mkF m 20 #[vr a, vi 0, vi 3, vi y2] [(.int 3), (.int 3)]))
            have hc20_4 : ¬ ((3 : Int32) < (3 : Int32)) := by decide
            refine Dn.st (fun _ kk => XS.icmpYes X17_4.here hx rfl (pc0 := 20) (pc' := 58) rfl (hb hby d5_20) rfl (flt hc20_4).2.1 (by decide) (by decide) (XS.iloadN X17_4.here hx rfl (hb hby d5_58) rfl (kk))) ?_
            show Dn p e below s _ _ _ (T17_4.setTop (mkF m 59 #[vr a, vi 0, vi 3, vi y2] [(.int 0)]))
            exact Dn.ret X17_4 hlk hx hret rfl (Or.inl ⟨rfl, Or.inr (Or.inl rfl), _, rfl⟩) (hb hby d5_59) (by rw [hh17_4]; exact ⟨_, rfl, Or.inr ⟨rfl, fun q => q.2.2.1.1 sp34_3⟩, N17_4, rfl⟩) (by decide) (by decide)
          · show Dn p e below s _ _ _ (T34_3.setTop (mkF m 37 #[vr a, vi 1, vi 2, vi y2] [(.int 0)]))
            have hc37_3 : (0 : Int32) = (0 : Int32) := by decide
            refine Dn.st (fun _ kk => XS.ifNo X34_3.here hx rfl (hb hby d5_37) rfl ((if0 _ _).trans (teq hc37_3).2) (XS.iloadN X34_3.here hx rfl (hb hby d5_40) rfl (XS.bipush X34_3.here hx rfl (hb hby d5_41) (kk)))) ?_
            show Dn p e below s _ _ _ (T34_3.setTop (mkF m 43 #[vr a, vi 1, vi 2, vi y2] [(.int 35), (.int y2)]))
            by_cases hc43_3 : y2 = (35 : Int32)
            · refine Dn.st (fun _ kk => XS.icmpYes X34_3.here hx rfl (pc0 := 43) (pc' := 50) rfl (hb hby d5_43) rfl (teq hc43_3).1 (by decide) (by decide) (XS.iconst X34_3.here hx rfl (hb hby d5_50) (XS.istoreN X34_3.here hx rfl (hb hby d5_51) rfl (l' := #[vr a, vi 0, vi 2, vi y2]) rfl (XS.iinc X34_3.here hx rfl (hb hby d5_52) rfl (l' := #[vr a, vi 0, vi 3, vi y2]) rfl (XS.goto X34_3.here hx rfl (pc0 := 55) (pc' := 15) rfl (hb hby d5_55) (by decide) (by decide) (XS.iloadN X34_3.here hx rfl (hb hby d5_15) rfl (kk))))))) ?_
              show Dn p e below s _ _ _ (T34_3.setTop (mkF m 16 #[vr a, vi 0, vi 3, vi y2] [(.int 3)]))
              refine Dn.st (fun _ kk => XS.aloadN X34_3.here hx rfl (hb hby d5_16) rfl rfl (kk)) ?_
              show Dn p e below s _ _ _ (T34_3.setTop (mkF m 17 #[vr a, vi 0, vi 3, vi y2] [(.ref a), (.int 3)]))
              obtain ⟨cq17_4, kq17_4, q17_4a, q17_4b, q17_4c⟩ := isOf hZ hh34_3 hS.1
              obtain ⟨_, _, ⟨T17_4, L17_4, k17_4, n17_4⟩, -, X17_4, ⟨Lc17_4, hQ17_4, l17_4, y17_4, z17_4⟩, st17_4⟩ := X34_3.virtualBack hx (y := on0) (z := on0) hown (mvT hZ (tw hw 37 rfl)) (mvT hZ (tw hw 38 rfl)) (notFace_of_selects (args := #[]) (mvT hZ (tw hw 40 rfl))) (mvT hZ (tw hw 40 rfl)) (mvT hZ (tw hw 39 rfl)) (by decide) (backOf (W := 1) (rmLn l Z a0 hw [] a cs sf _ _ _ _ _ h0 n0 Z0 hW hS (by decide) (by decide)) hZ (tw hw 41 rfl) (tw hw 8 rfl) (by decide) (by decide)) q17_4a q17_4c (g := (mkF m 17 #[vr a, vi 0, vi 3, vi y2] [(.ref a), (.int 3)])) rfl (by rw [hml]; rfl) (Steps.refl _) (argsL := []) (rest := [(.int 3)]) (lenOf pd14 rfl) rfl (by show 2 * 0 + _ ≤ _; exact Nat.le_of_eq rfl) (hb hby d5_17) (fun _ _ => ⟨rfl, hh34_3, (by decide : 0 + 0 ≤ _), (by decide : 0 + 0 ≤ _)⟩)
              dsimp only [Pt.U, Pt.locs, Pt.cells, Pt.slots] at X17_4 l17_4 y17_4 z17_4 st17_4 hQ17_4
              subst l17_4 y17_4 z17_4
              obtain ⟨rfl, Nq17_4, hh17_4⟩ := hQ17_4
              have N17_4 := Fr.app N34_3 Nq17_4
              refine Dn.tr st17_4 ?_
              show Dn p e below s _ _ _ (T17_4.setTop (mkF m 20 #[vr a, vi 0, vi 3, vi y2] [(.int 3), (.int 3)]))
              have hc20_4 : ¬ ((3 : Int32) < (3 : Int32)) := by decide
              refine Dn.st (fun _ kk => XS.icmpYes X17_4.here hx rfl (pc0 := 20) (pc' := 58) rfl (hb hby d5_20) rfl (flt hc20_4).2.1 (by decide) (by decide) (XS.iloadN X17_4.here hx rfl (hb hby d5_58) rfl (kk))) ?_
              show Dn p e below s _ _ _ (T17_4.setTop (mkF m 59 #[vr a, vi 0, vi 3, vi y2] [(.int 0)]))
              exact Dn.ret X17_4 hlk hx hret rfl (Or.inl ⟨rfl, Or.inr (Or.inl rfl), _, rfl⟩) (hb hby d5_59) (by rw [hh17_4]; exact ⟨_, rfl, Or.inr ⟨rfl, fun q => q.2.2.1.2 hc43_3⟩, N17_4, rfl⟩) (by decide) (by decide)
            · refine Dn.st (fun _ kk => XS.icmpNo X34_3.here hx rfl (hb hby d5_43) rfl (feq hc43_3).1 (XS.iconst X34_3.here hx rfl (hb hby d5_46) (XS.goto X34_3.here hx rfl (pc0 := 47) (pc' := 51) rfl (hb hby d5_47) (by decide) (by decide) (XS.istoreN X34_3.here hx rfl (hb hby d5_51) rfl (l' := #[vr a, vi 1, vi 2, vi y2]) rfl (XS.iinc X34_3.here hx rfl (hb hby d5_52) rfl (l' := #[vr a, vi 1, vi 3, vi y2]) rfl (XS.goto X34_3.here hx rfl (pc0 := 55) (pc' := 15) rfl (hb hby d5_55) (by decide) (by decide) (kk))))))) ?_
              show Dn p e below s _ _ _ (T34_3.setTop (mkF m 15 #[vr a, vi 1, vi 3, vi y2] []))
              refine Dn.st (fun _ kk => XS.iloadN X34_3.here hx rfl (hb hby d5_15) rfl (XS.aloadN X34_3.here hx rfl (hb hby d5_16) rfl rfl (kk))) ?_
              show Dn p e below s _ _ _ (T34_3.setTop (mkF m 17 #[vr a, vi 1, vi 3, vi y2] [(.ref a), (.int 3)]))
              obtain ⟨cq17_4, kq17_4, q17_4a, q17_4b, q17_4c⟩ := isOf hZ hh34_3 hS.1
              obtain ⟨_, _, ⟨T17_4, L17_4, k17_4, n17_4⟩, -, X17_4, ⟨Lc17_4, hQ17_4, l17_4, y17_4, z17_4⟩, st17_4⟩ := X34_3.virtualBack hx (y := on0) (z := on0) hown (mvT hZ (tw hw 37 rfl)) (mvT hZ (tw hw 38 rfl)) (notFace_of_selects (args := #[]) (mvT hZ (tw hw 40 rfl))) (mvT hZ (tw hw 40 rfl)) (mvT hZ (tw hw 39 rfl)) (by decide) (backOf (W := 1) (rmLn l Z a0 hw [] a cs sf _ _ _ _ _ h0 n0 Z0 hW hS (by decide) (by decide)) hZ (tw hw 41 rfl) (tw hw 8 rfl) (by decide) (by decide)) q17_4a q17_4c (g := (mkF m 17 #[vr a, vi 1, vi 3, vi y2] [(.ref a), (.int 3)])) rfl (by rw [hml]; rfl) (Steps.refl _) (argsL := []) (rest := [(.int 3)]) (lenOf pd14 rfl) rfl (by show 2 * 0 + _ ≤ _; exact Nat.le_of_eq rfl) (hb hby d5_17) (fun _ _ => ⟨rfl, hh34_3, (by decide : 0 + 0 ≤ _), (by decide : 0 + 0 ≤ _)⟩)
              dsimp only [Pt.U, Pt.locs, Pt.cells, Pt.slots] at X17_4 l17_4 y17_4 z17_4 st17_4 hQ17_4
              subst l17_4 y17_4 z17_4
              obtain ⟨rfl, Nq17_4, hh17_4⟩ := hQ17_4
              have N17_4 := Fr.app N34_3 Nq17_4
              refine Dn.tr st17_4 ?_
              show Dn p e below s _ _ _ (T17_4.setTop (mkF m 20 #[vr a, vi 1, vi 3, vi y2] [(.int 3), (.int 3)]))
              have hc20_4 : ¬ ((3 : Int32) < (3 : Int32)) := by decide
              refine Dn.st (fun _ kk => XS.icmpYes X17_4.here hx rfl (pc0 := 20) (pc' := 58) rfl (hb hby d5_20) rfl (flt hc20_4).2.1 (by decide) (by decide) (XS.iloadN X17_4.here hx rfl (hb hby d5_58) rfl (kk))) ?_
              show Dn p e below s _ _ _ (T17_4.setTop (mkF m 59 #[vr a, vi 1, vi 3, vi y2] [(.int 1)]))
              exact Dn.ret X17_4 hlk hx hret rfl (Or.inl ⟨rfl, Or.inr (Or.inl rfl), _, rfl⟩) (hb hby d5_59) (by rw [hh17_4]; exact ⟨_, rfl, Or.inl ⟨rfl, ⟨⟨sp34, hc43⟩, ⟨sp34_2, hc43_2⟩, ⟨sp34_3, hc43_3⟩, trivial⟩⟩, N17_4, rfl⟩) (by decide) (by decide)

theorem ef5_rmIw4 (m : MethodId) (x0 : Addr) : entryFrame m #[(.ref x0)] 4 = mkF m 0 #[vr x0, .unset, .unset, .unset] [] := by first | (simp [entryFrame, mkF, argsToLocals, Value.category]; done) | rfl
def QIw4 (Z : State) (a : Addr) (cs : Int32) (sf : Value) (y0 : Int32) (y1 : Int32) (y2 : Int32) (y3 : Int32) (h0 : Heap) (n0 : Nat) (v : Option Value) (h : Heap) (L : List Loc) : Prop := ∃ r : Int32, v = some (.int r) ∧ ((r = 1 ∧ (own_good y0 ∧ own_good y1 ∧ own_good y2 ∧ own_good y3 ∧ True)) ∨ (r = 0 ∧ ¬ (own_good y0 ∧ own_good y1 ∧ own_good y2 ∧ own_good y3 ∧ True))) ∧ Fr n0 L ∧ h = h0
theorem rmIw4 (l : Launch) (Z : State) (a0 : Array Value) (hw : ∀ d ∈ tables_1, d.before a0 Z = true) (ws : List Jvm.Cond) (a : Addr) (cs : Int32) (sf : Value) (y0 : Int32) (y1 : Int32) (y2 : Int32) (y3 : Int32) (h0 : Heap) (n0 : Nat) (Z0 : n0 ≤ h0.size) (hW : own_W Z h0 n0 cs sf) (hS : own_Str Z h0 a 4 8 [(.int (own_b y0)), (.int (own_b y1)), (.int (own_b y2)), (.int (own_b y3))] [(.int (own_lo y0)), (.int (own_hi y0)), (.int (own_lo y1)), (.int (own_hi y1)), (.int (own_lo y2)), (.int (own_hi y2)), (.int (own_lo y3)), (.int (own_hi y3))] (y0.toInt ≤ 255 ∧ y1.toInt ≤ 255 ∧ y2.toInt ≤ 255 ∧ y3.toInt ≤ 255 ∧ True)) (hr0 : 0 ≤ y0.toInt ∧ y0.toInt ≤ 65535) (hr1 : 0 ≤ y1.toInt ∧ y1.toInt ≤ 65535) (hr2 : 0 ≤ y2.toInt ∧ y2.toInt ≤ 65535) (hr3 : 0 ≤ y3.toInt ∧ y3.toInt ≤ 65535) :
    own_Met l on3 (Jvm.Cond.code on3 prog_6_method_6_code 4 (some .boolean) :: ws) orm29 #[(.ref a)] Z h0 (QIw4 Z a cs sf y0 y1 y2 y3 h0 n0) := by
  refine MetFree.of_bodySF (plainFor_of_name pn5) hisR ?_
  intro p e s m args below meth c s₁ Bd hml0 hP hK
  obtain ⟨rfl, hZ, hh⟩ := hP
  have hx := Bd.exec
  have hby := Bd.bytes
  have hlk : meth.locks = false := BodyLoose.notSynchronized Bd
  have hret := Bd.returns
  have hml : c.maxLocals = 4 := hml0
  have hown : s.vm.findClass "com/example/ermon/ermon/io/Line" = some m.cls := findClass_of_methodNamed Bd.named
  have X0 : Stand p l e orm29 s m #[(.ref a)] below meth c s₁ [] 0 0 := Stand.of_body Bd
  have e0 : s₁.heap = h0 := by rw [← hh, Bd.state]; rfl
  have N0 := Fr.nil n0
  show Dn p e below s (QIw4 Z a cs sf y0 y1 y2 y3 h0 n0) orm29.cells orm29.slots (s₁.setTop (entryFrame m #[(.ref a)] 4))
  refine Dn.st (fun _ kk => castTop (ef5_rmIw4 m a) kk) ?_
  show Dn p e below s _ _ _ (s₁.setTop (mkF m 0 #[vr a, .unset, .unset, .unset] []))
  refine Dn.st (fun _ kk => XS.aloadN X0.here hx rfl (hb hby d5_0) rfl rfl (kk)) ?_
  show Dn p e below s _ _ _ (s₁.setTop (mkF m 1 #[vr a, .unset, .unset, .unset] [(.ref a)]))
  obtain ⟨cq1, kq1, q1a, q1b, q1c⟩ := isOf hZ e0 hS.1
  obtain ⟨_, _, ⟨T1, L1, k1, n1⟩, -, X1, ⟨Lc1, hQ1, l1, y1, z1⟩, st1⟩ := X0.virtualBack hx (y := on10) (z := on10) hown (mvT hZ (tw hw 32 rfl)) (mvT hZ (tw hw 33 rfl)) (notFace_of_selects (args := #[]) (mvT hZ (tw hw 35 rfl))) (mvT hZ (tw hw 35 rfl)) (mvT hZ (tw hw 34 rfl)) (by decide) (backOf (W := 0) (rmIe1 l Z a0 hw [] a cs sf _ _ _ _ _ h0 n0 Z0 hW hS (by decide)) hZ (tw hw 36 rfl) (tw hw 8 rfl) (by decide) (by decide)) q1a q1c (g := (mkF m 1 #[vr a, .unset, .unset, .unset] [(.ref a)])) rfl (by rw [hml]; rfl) (Steps.refl _) (argsL := []) (rest := []) (lenOf pd7 rfl) rfl (by show 2 * 0 + _ ≤ _; exact Nat.le_of_eq rfl) (hb hby d5_1) (fun _ _ => ⟨rfl, e0, (by decide : 0 + 0 ≤ _), (by decide : 0 + 0 ≤ _)⟩)
  dsimp only [Pt.U, Pt.locs, Pt.cells, Pt.slots] at X1 l1 y1 z1 st1 hQ1
  subst l1 y1 z1
  obtain ⟨rfl, Nq1, hh1⟩ := hQ1
  have N1 := Fr.app N0 Nq1
  refine Dn.tr st1 ?_
  show Dn p e below s _ _ _ (T1.setTop (mkF m 4 #[vr a, .unset, .unset, .unset] [(.int 0)]))
  have hc4 : (0 : Int32) = (0 : Int32) := by decide
  refine Dn.st (fun _ kk => XS.ifNo X1.here hx rfl (hb hby d5_4) rfl ((if0 _ _).trans (teq hc4).2) (XS.iconst X1.here hx rfl (hb hby d5_7) (XS.goto X1.here hx rfl (pc0 := 8) (pc' := 12) rfl (hb hby d5_8) (by decide) (by decide) (XS.istoreN X1.here hx rfl (hb hby d5_12) rfl (l' := #[vr a, vi 1, .unset, .unset]) rfl (XS.iconst X1.here hx rfl (hb hby d5_13) (XS.istoreN X1.here hx rfl (hb hby d5_14) rfl (l' := #[vr a, vi 1, vi 0, .unset]) rfl (kk))))))) ?_
  show Dn p e below s _ _ _ (T1.setTop (mkF m 15 #[vr a, vi 1, vi 0, .unset] []))
  refine Dn.st (fun _ kk => XS.iloadN X1.here hx rfl (hb hby d5_15) rfl (XS.aloadN X1.here hx rfl (hb hby d5_16) rfl rfl (kk))) ?_
  show Dn p e below s _ _ _ (T1.setTop (mkF m 17 #[vr a, vi 1, vi 0, .unset] [(.ref a), (.int 0)]))
  obtain ⟨cq17, kq17, q17a, q17b, q17c⟩ := isOf hZ hh1 hS.1
  obtain ⟨_, _, ⟨T17, L17, k17, n17⟩, -, X17, ⟨Lc17, hQ17, l17, y17, z17⟩, st17⟩ := X1.virtualBack hx (y := on0) (z := on0) hown (mvT hZ (tw hw 37 rfl)) (mvT hZ (tw hw 38 rfl)) (notFace_of_selects (args := #[]) (mvT hZ (tw hw 40 rfl))) (mvT hZ (tw hw 40 rfl)) (mvT hZ (tw hw 39 rfl)) (by decide) (backOf (W := 1) (rmLn l Z a0 hw [] a cs sf _ _ _ _ _ h0 n0 Z0 hW hS (by decide) (by decide)) hZ (tw hw 41 rfl) (tw hw 8 rfl) (by decide) (by decide)) q17a q17c (g := (mkF m 17 #[vr a, vi 1, vi 0, .unset] [(.ref a), (.int 0)])) rfl (by rw [hml]; rfl) (Steps.refl _) (argsL := []) (rest := [(.int 0)]) (lenOf pd14 rfl) rfl (by show 2 * 0 + _ ≤ _; exact Nat.le_of_eq rfl) (hb hby d5_17) (fun _ _ => ⟨rfl, hh1, (by decide : 0 + 0 ≤ _), (by decide : 0 + 0 ≤ _)⟩)
  dsimp only [Pt.U, Pt.locs, Pt.cells, Pt.slots] at X17 l17 y17 z17 st17 hQ17
  subst l17 y17 z17
  obtain ⟨rfl, Nq17, hh17⟩ := hQ17
  have N17 := Fr.app N1 Nq17
  refine Dn.tr st17 ?_
  show Dn p e below s _ _ _ (T17.setTop (mkF m 20 #[vr a, vi 1, vi 0, .unset] [(.int 4), (.int 0)]))
  have hc20 : (0 : Int32) < (4 : Int32) := by decide
  refine Dn.st (fun _ kk => XS.icmpNo X17.here hx rfl (hb hby d5_20) rfl (tlt hc20).2.1 (XS.iloadN X17.here hx rfl (hb hby d5_23) rfl (kk))) ?_
  show Dn p e below s _ _ _ (T17.setTop (mkF m 24 #[vr a, vi 1, vi 0, .unset] [(.int 1)]))
  have hc24 : ¬ ((1 : Int32) = (0 : Int32)) := by decide
  refine Dn.st (fun _ kk => XS.ifNo X17.here hx rfl (hb hby d5_24) rfl ((if0 _ _).trans (feq hc24).1) (XS.aloadN X17.here hx rfl (hb hby d5_27) rfl rfl (XS.iloadN X17.here hx rfl (hb hby d5_28) rfl (kk)))) ?_
  show Dn p e below s _ _ _ (T17.setTop (mkF m 29 #[vr a, vi 1, vi 0, .unset] [(.int 0), (.ref a)]))
  obtain ⟨cq29, kq29, q29a, q29b, q29c⟩ := isOf hZ hh17 hS.1
  obtain ⟨_, _, ⟨T29, L29, k29, n29⟩, -, X29, ⟨Lc29, hQ29, l29, y29, z29⟩, st29⟩ := X17.virtualBack hx (y := on2) (z := on2) hown (mvT hZ (tw hw 61 rfl)) (mvT hZ (tw hw 62 rfl)) (notFace_of_selects (args := #[]) (mvT hZ (tw hw 64 rfl))) (mvT hZ (tw hw 64 rfl)) (mvT hZ (tw hw 63 rfl)) (by decide) (backOf (W := 0) (rmCh0 l Z a0 hw [] a cs sf _ _ _ _ _ y0 h0 n0 Z0 hW hS (by decide) rfl (fun q => q.1) (by decide) (by decide) rfl rfl (by decide) hr0) hZ (tw hw 65 rfl) (tw hw 8 rfl) (by decide) (by decide)) q29a q29c (g := (mkF m 29 #[vr a, vi 1, vi 0, .unset] [(.int 0), (.ref a)])) rfl (by rw [hml]; rfl) (Steps.refl _) (argsL := [(.int 0)]) (rest := []) (lenOf pd15 rfl) rfl (by show 2 * 0 + _ ≤ _; exact Nat.le_of_eq rfl) (hb hby d5_29) (fun _ _ => ⟨rfl, hh17, (by decide : 0 + 0 ≤ _), (by decide : 0 + 0 ≤ _)⟩)
  dsimp only [Pt.U, Pt.locs, Pt.cells, Pt.slots] at X29 l29 y29 z29 st29 hQ29
  subst l29 y29 z29
  obtain ⟨rfl, Nq29, hh29⟩ := hQ29
  have N29 := Fr.app N17 Nq29
  refine Dn.tr st29 ?_
  show Dn p e below s _ _ _ (T29.setTop (mkF m 32 #[vr a, vi 1, vi 0, .unset] [(.int y0)]))
  refine Dn.st (fun _ kk => XS.istoreN X29.here hx rfl (hb hby d5_32) rfl (l' := #[vr a, vi 1, vi 0, vi y0]) rfl (XS.iloadN X29.here hx rfl (hb hby d5_33) rfl (kk))) ?_
  show Dn p e below s _ _ _ (T29.setTop (mkF m 34 #[vr a, vi 1, vi 0, vi y0] [(.int y0)]))
  obtain ⟨_, _, ⟨T34, L34, k34, n34⟩, -, X34, ⟨Lc34, hQ34, l34, y34, z34⟩, st34⟩ := Jvm.LawKit.callS X29 hx (y := on16) hown (mvT hZ (tw hw 83 rfl)) (mvT hZ (tw hw 84 rfl)) (mvT hZ (tw hw 30 rfl)) (mvT hZ (tw hw 85 rfl)) (by decide) (backOf (W := 0) (rmSp l Z a0 hw [] y0  h0 n0 Z0 ) hZ (tw hw 85 rfl) (tw hw 30 rfl) (by decide) (by decide)) (g := (mkF m 34 #[vr a, vi 1, vi 0, vi y0] [(.int y0)])) rfl (by rw [hml]; rfl) (argsL := [(.int y0)]) (rest := []) (lenOf pd16 rfl) rfl (by show 2 * 0 + _ ≤ _; exact Nat.le_of_eq rfl) (hb hby d5_34) (fun _ _ => ⟨rfl, hh29, (by decide : 0 + 0 ≤ _), (by decide : 0 + 0 ≤ _)⟩)
  dsimp only [Pt.U, Pt.locs, Pt.cells, Pt.slots] at X34 l34 y34 z34 st34 hQ34
  subst l34 y34 z34
  obtain ⟨r34, rfl, hq34, Nq34, hh34⟩ := hQ34
  have N34 := Fr.app N29 Nq34
  refine Dn.st st34 ?_
  rcases hq34 with ⟨rfl, sp34⟩ | ⟨rfl, sp34⟩
  · show Dn p e below s _ _ _ (T34.setTop (mkF m 37 #[vr a, vi 1, vi 0, vi y0] [(.int 1)]))
    have hc37 : ¬ ((1 : Int32) = (0 : Int32)) := by decide
    refine Dn.st (fun _ kk => XS.ifYes X34.here hx rfl (pc0 := 37) (pc' := 50) rfl (hb hby d5_37) rfl ((if0 _ _).trans (feq hc37).2) (by decide) (by decide) (XS.iconst X34.here hx rfl (hb hby d5_50) (XS.istoreN X34.here hx rfl (hb hby d5_51) rfl (l' := #[vr a, vi 0, vi 0, vi y0]) rfl (XS.iinc X34.here hx rfl (hb hby d5_52) rfl (l' := #[vr a, vi 0, vi 1, vi y0]) rfl (XS.goto X34.here hx rfl (pc0 := 55) (pc' := 15) rfl (hb hby d5_55) (by decide) (by decide) (XS.iloadN X34.here hx rfl (hb hby d5_15) rfl (kk))))))) ?_
    show Dn p e below s _ _ _ (T34.setTop (mkF m 16 #[vr a, vi 0, vi 1, vi y0] [(.int 1)]))
    refine Dn.st (fun _ kk => XS.aloadN X34.here hx rfl (hb hby d5_16) rfl rfl (kk)) ?_
    show Dn p e below s _ _ _ (T34.setTop (mkF m 17 #[vr a, vi 0, vi 1, vi y0] [(.ref a), (.int 1)]))
    obtain ⟨cq17_2, kq17_2, q17_2a, q17_2b, q17_2c⟩ := isOf hZ hh34 hS.1
    obtain ⟨_, _, ⟨T17_2, L17_2, k17_2, n17_2⟩, -, X17_2, ⟨Lc17_2, hQ17_2, l17_2, y17_2, z17_2⟩, st17_2⟩ := X34.virtualBack hx (y := on0) (z := on0) hown (mvT hZ (tw hw 37 rfl)) (mvT hZ (tw hw 38 rfl)) (notFace_of_selects (args := #[]) (mvT hZ (tw hw 40 rfl))) (mvT hZ (tw hw 40 rfl)) (mvT hZ (tw hw 39 rfl)) (by decide) (backOf (W := 1) (rmLn l Z a0 hw [] a cs sf _ _ _ _ _ h0 n0 Z0 hW hS (by decide) (by decide)) hZ (tw hw 41 rfl) (tw hw 8 rfl) (by decide) (by decide)) q17_2a q17_2c (g := (mkF m 17 #[vr a, vi 0, vi 1, vi y0] [(.ref a), (.int 1)])) rfl (by rw [hml]; rfl) (Steps.refl _) (argsL := []) (rest := [(.int 1)]) (lenOf pd14 rfl) rfl (by show 2 * 0 + _ ≤ _; exact Nat.le_of_eq rfl) (hb hby d5_17) (fun _ _ => ⟨rfl, hh34, (by decide : 0 + 0 ≤ _), (by decide : 0 + 0 ≤ _)⟩)
    dsimp only [Pt.U, Pt.locs, Pt.cells, Pt.slots] at X17_2 l17_2 y17_2 z17_2 st17_2 hQ17_2
    subst l17_2 y17_2 z17_2
    obtain ⟨rfl, Nq17_2, hh17_2⟩ := hQ17_2
    have N17_2 := Fr.app N34 Nq17_2
    refine Dn.tr st17_2 ?_
    show Dn p e below s _ _ _ (T17_2.setTop (mkF m 20 #[vr a, vi 0, vi 1, vi y0] [(.int 4), (.int 1)]))
    have hc20_2 : (1 : Int32) < (4 : Int32) := by decide
    refine Dn.st (fun _ kk => XS.icmpNo X17_2.here hx rfl (hb hby d5_20) rfl (tlt hc20_2).2.1 (XS.iloadN X17_2.here hx rfl (hb hby d5_23) rfl (kk))) ?_
    show Dn p e below s _ _ _ (T17_2.setTop (mkF m 24 #[vr a, vi 0, vi 1, vi y0] [(.int 0)]))
    have hc24_2 : (0 : Int32) = (0 : Int32) := by decide
    refine Dn.st (fun _ kk => XS.ifYes X17_2.here hx rfl (pc0 := 24) (pc' := 58) rfl (hb hby d5_24) rfl ((if0 _ _).trans (teq hc24_2).1) (by decide) (by decide) (XS.iloadN X17_2.here hx rfl (hb hby d5_58) rfl (kk))) ?_
    show Dn p e below s _ _ _ (T17_2.setTop (mkF m 59 #[vr a, vi 0, vi 1, vi y0] [(.int 0)]))
    exact Dn.ret X17_2 hlk hx hret rfl (Or.inl ⟨rfl, Or.inr (Or.inl rfl), _, rfl⟩) (hb hby d5_59) (by rw [hh17_2]; exact ⟨_, rfl, Or.inr ⟨rfl, fun q => q.1.1 sp34⟩, N17_2, rfl⟩) (by decide) (by decide)
  · show Dn p e below s _ _ _ (T34.setTop (mkF m 37 #[vr a, vi 1, vi 0, vi y0] [(.int 0)]))
    have hc37 : (0 : Int32) = (0 : Int32) := by decide
    refine Dn.st (fun _ kk => XS.ifNo X34.here hx rfl (hb hby d5_37) rfl ((if0 _ _).trans (teq hc37).2) (XS.iloadN X34.here hx rfl (hb hby d5_40) rfl (XS.bipush X34.here hx rfl (hb hby d5_41) (kk)))) ?_
    show Dn p e below s _ _ _ (T34.setTop (mkF m 43 #[vr a, vi 1, vi 0, vi y0] [(.int 35), (.int y0)]))
    by_cases hc43 : y0 = (35 : Int32)
    · refine Dn.st (fun _ kk => XS.icmpYes X34.here hx rfl (pc0 := 43) (pc' := 50) rfl (hb hby d5_43) rfl (teq hc43).1 (by decide) (by decide) (XS.iconst X34.here hx rfl (hb hby d5_50) (XS.istoreN X34.here hx rfl (hb hby d5_51) rfl (l' := #[vr a, vi 0, vi 0, vi y0]) rfl (XS.iinc X34.here hx rfl (hb hby d5_52) rfl (l' := #[vr a, vi 0, vi 1, vi y0]) rfl (XS.goto X34.here hx rfl (pc0 := 55) (pc' := 15) rfl (hb hby d5_55) (by decide) (by decide) (XS.iloadN X34.here hx rfl (hb hby d5_15) rfl (kk))))))) ?_
      show Dn p e below s _ _ _ (T34.setTop (mkF m 16 #[vr a, vi 0, vi 1, vi y0] [(.int 1)]))
      refine Dn.st (fun _ kk => XS.aloadN X34.here hx rfl (hb hby d5_16) rfl rfl (kk)) ?_
      show Dn p e below s _ _ _ (T34.setTop (mkF m 17 #[vr a, vi 0, vi 1, vi y0] [(.ref a), (.int 1)]))
      obtain ⟨cq17_2, kq17_2, q17_2a, q17_2b, q17_2c⟩ := isOf hZ hh34 hS.1
      obtain ⟨_, _, ⟨T17_2, L17_2, k17_2, n17_2⟩, -, X17_2, ⟨Lc17_2, hQ17_2, l17_2, y17_2, z17_2⟩, st17_2⟩ := X34.virtualBack hx (y := on0) (z := on0) hown (mvT hZ (tw hw 37 rfl)) (mvT hZ (tw hw 38 rfl)) (notFace_of_selects (args := #[]) (mvT hZ (tw hw 40 rfl))) (mvT hZ (tw hw 40 rfl)) (mvT hZ (tw hw 39 rfl)) (by decide) (backOf (W := 1) (rmLn l Z a0 hw [] a cs sf _ _ _ _ _ h0 n0 Z0 hW hS (by decide) (by decide)) hZ (tw hw 41 rfl) (tw hw 8 rfl) (by decide) (by decide)) q17_2a q17_2c (g := (mkF m 17 #[vr a, vi 0, vi 1, vi y0] [(.ref a), (.int 1)])) rfl (by rw [hml]; rfl) (Steps.refl _) (argsL := []) (rest := [(.int 1)]) (lenOf pd14 rfl) rfl (by show 2 * 0 + _ ≤ _; exact Nat.le_of_eq rfl) (hb hby d5_17) (fun _ _ => ⟨rfl, hh34, (by decide : 0 + 0 ≤ _), (by decide : 0 + 0 ≤ _)⟩)
      dsimp only [Pt.U, Pt.locs, Pt.cells, Pt.slots] at X17_2 l17_2 y17_2 z17_2 st17_2 hQ17_2
      subst l17_2 y17_2 z17_2
      obtain ⟨rfl, Nq17_2, hh17_2⟩ := hQ17_2
      have N17_2 := Fr.app N34 Nq17_2
      refine Dn.tr st17_2 ?_
      show Dn p e below s _ _ _ (T17_2.setTop (mkF m 20 #[vr a, vi 0, vi 1, vi y0] [(.int 4), (.int 1)]))
      have hc20_2 : (1 : Int32) < (4 : Int32) := by decide
      refine Dn.st (fun _ kk => XS.icmpNo X17_2.here hx rfl (hb hby d5_20) rfl (tlt hc20_2).2.1 (XS.iloadN X17_2.here hx rfl (hb hby d5_23) rfl (kk))) ?_
      show Dn p e below s _ _ _ (T17_2.setTop (mkF m 24 #[vr a, vi 0, vi 1, vi y0] [(.int 0)]))
      have hc24_2 : (0 : Int32) = (0 : Int32) := by decide
      refine Dn.st (fun _ kk => XS.ifYes X17_2.here hx rfl (pc0 := 24) (pc' := 58) rfl (hb hby d5_24) rfl ((if0 _ _).trans (teq hc24_2).1) (by decide) (by decide) (XS.iloadN X17_2.here hx rfl (hb hby d5_58) rfl (kk))) ?_
      show Dn p e below s _ _ _ (T17_2.setTop (mkF m 59 #[vr a, vi 0, vi 1, vi y0] [(.int 0)]))
      exact Dn.ret X17_2 hlk hx hret rfl (Or.inl ⟨rfl, Or.inr (Or.inl rfl), _, rfl⟩) (hb hby d5_59) (by rw [hh17_2]; exact ⟨_, rfl, Or.inr ⟨rfl, fun q => q.1.2 hc43⟩, N17_2, rfl⟩) (by decide) (by decide)
    · refine Dn.st (fun _ kk => XS.icmpNo X34.here hx rfl (hb hby d5_43) rfl (feq hc43).1 (XS.iconst X34.here hx rfl (hb hby d5_46) (XS.goto X34.here hx rfl (pc0 := 47) (pc' := 51) rfl (hb hby d5_47) (by decide) (by decide) (XS.istoreN X34.here hx rfl (hb hby d5_51) rfl (l' := #[vr a, vi 1, vi 0, vi y0]) rfl (XS.iinc X34.here hx rfl (hb hby d5_52) rfl (l' := #[vr a, vi 1, vi 1, vi y0]) rfl (XS.goto X34.here hx rfl (pc0 := 55) (pc' := 15) rfl (hb hby d5_55) (by decide) (by decide) (kk))))))) ?_
      show Dn p e below s _ _ _ (T34.setTop (mkF m 15 #[vr a, vi 1, vi 1, vi y0] []))
      refine Dn.st (fun _ kk => XS.iloadN X34.here hx rfl (hb hby d5_15) rfl (XS.aloadN X34.here hx rfl (hb hby d5_16) rfl rfl (kk))) ?_
      show Dn p e below s _ _ _ (T34.setTop (mkF m 17 #[vr a, vi 1, vi 1, vi y0] [(.ref a), (.int 1)]))
      obtain ⟨cq17_2, kq17_2, q17_2a, q17_2b, q17_2c⟩ := isOf hZ hh34 hS.1
      obtain ⟨_, _, ⟨T17_2, L17_2, k17_2, n17_2⟩, -, X17_2, ⟨Lc17_2, hQ17_2, l17_2, y17_2, z17_2⟩, st17_2⟩ := X34.virtualBack hx (y := on0) (z := on0) hown (mvT hZ (tw hw 37 rfl)) (mvT hZ (tw hw 38 rfl)) (notFace_of_selects (args := #[]) (mvT hZ (tw hw 40 rfl))) (mvT hZ (tw hw 40 rfl)) (mvT hZ (tw hw 39 rfl)) (by decide) (backOf (W := 1) (rmLn l Z a0 hw [] a cs sf _ _ _ _ _ h0 n0 Z0 hW hS (by decide) (by decide)) hZ (tw hw 41 rfl) (tw hw 8 rfl) (by decide) (by decide)) q17_2a q17_2c (g := (mkF m 17 #[vr a, vi 1, vi 1, vi y0] [(.ref a), (.int 1)])) rfl (by rw [hml]; rfl) (Steps.refl _) (argsL := []) (rest := [(.int 1)]) (lenOf pd14 rfl) rfl (by show 2 * 0 + _ ≤ _; exact Nat.le_of_eq rfl) (hb hby d5_17) (fun _ _ => ⟨rfl, hh34, (by decide : 0 + 0 ≤ _), (by decide : 0 + 0 ≤ _)⟩)
      dsimp only [Pt.U, Pt.locs, Pt.cells, Pt.slots] at X17_2 l17_2 y17_2 z17_2 st17_2 hQ17_2
      subst l17_2 y17_2 z17_2
      obtain ⟨rfl, Nq17_2, hh17_2⟩ := hQ17_2
      have N17_2 := Fr.app N34 Nq17_2
      refine Dn.tr st17_2 ?_
      show Dn p e below s _ _ _ (T17_2.setTop (mkF m 20 #[vr a, vi 1, vi 1, vi y0] [(.int 4), (.int 1)]))
      have hc20_2 : (1 : Int32) < (4 : Int32) := by decide
      refine Dn.st (fun _ kk => XS.icmpNo X17_2.here hx rfl (hb hby d5_20) rfl (tlt hc20_2).2.1 (XS.iloadN X17_2.here hx rfl (hb hby d5_23) rfl (kk))) ?_
      show Dn p e below s _ _ _ (T17_2.setTop (mkF m 24 #[vr a, vi 1, vi 1, vi y0] [(.int 1)]))
      have hc24_2 : ¬ ((1 : Int32) = (0 : Int32)) := by decide
      refine Dn.st (fun _ kk => XS.ifNo X17_2.here hx rfl (hb hby d5_24) rfl ((if0 _ _).trans (feq hc24_2).1) (XS.aloadN X17_2.here hx rfl (hb hby d5_27) rfl rfl (XS.iloadN X17_2.here hx rfl (hb hby d5_28) rfl (kk)))) ?_
      show Dn p e below s _ _ _ (T17_2.setTop (mkF m 29 #[vr a, vi 1, vi 1, vi y0] [(.int 1), (.ref a)]))
      obtain ⟨cq29_2, kq29_2, q29_2a, q29_2b, q29_2c⟩ := isOf hZ hh17_2 hS.1
      obtain ⟨_, _, ⟨T29_2, L29_2, k29_2, n29_2⟩, -, X29_2, ⟨Lc29_2, hQ29_2, l29_2, y29_2, z29_2⟩, st29_2⟩ := X17_2.virtualBack hx (y := on2) (z := on2) hown (mvT hZ (tw hw 61 rfl)) (mvT hZ (tw hw 62 rfl)) (notFace_of_selects (args := #[]) (mvT hZ (tw hw 64 rfl))) (mvT hZ (tw hw 64 rfl)) (mvT hZ (tw hw 63 rfl)) (by decide) (backOf (W := 0) (rmCh1 l Z a0 hw [] a cs sf _ _ _ _ _ y1 h0 n0 Z0 hW hS (by decide) rfl (fun q => q.2.1) (by decide) (by decide) rfl rfl (by decide) hr1) hZ (tw hw 65 rfl) (tw hw 8 rfl) (by decide) (by decide)) q29_2a q29_2c (g := (mkF m 29 #[vr a, vi 1, vi 1, vi y0] [(.int 1), (.ref a)])) rfl (by rw [hml]; rfl) (Steps.refl _) (argsL := [(.int 1)]) (rest := []) (lenOf pd15 rfl) rfl (by show 2 * 0 + _ ≤ _; exact Nat.le_of_eq rfl) (hb hby d5_29) (fun _ _ => ⟨rfl, hh17_2, (by decide : 0 + 0 ≤ _), (by decide : 0 + 0 ≤ _)⟩)
      dsimp only [Pt.U, Pt.locs, Pt.cells, Pt.slots] at X29_2 l29_2 y29_2 z29_2 st29_2 hQ29_2
      subst l29_2 y29_2 z29_2
      obtain ⟨rfl, Nq29_2, hh29_2⟩ := hQ29_2
      have N29_2 := Fr.app N17_2 Nq29_2
      refine Dn.tr st29_2 ?_
      show Dn p e below s _ _ _ (T29_2.setTop (mkF m 32 #[vr a, vi 1, vi 1, vi y0] [(.int y1)]))
      refine Dn.st (fun _ kk => XS.istoreN X29_2.here hx rfl (hb hby d5_32) rfl (l' := #[vr a, vi 1, vi 1, vi y1]) rfl (XS.iloadN X29_2.here hx rfl (hb hby d5_33) rfl (kk))) ?_
      show Dn p e below s _ _ _ (T29_2.setTop (mkF m 34 #[vr a, vi 1, vi 1, vi y1] [(.int y1)]))
      obtain ⟨_, _, ⟨T34_2, L34_2, k34_2, n34_2⟩, -, X34_2, ⟨Lc34_2, hQ34_2, l34_2, y34_2, z34_2⟩, st34_2⟩ := Jvm.LawKit.callS X29_2 hx (y := on16) hown (mvT hZ (tw hw 83 rfl)) (mvT hZ (tw hw 84 rfl)) (mvT hZ (tw hw 30 rfl)) (mvT hZ (tw hw 85 rfl)) (by decide) (backOf (W := 0) (rmSp l Z a0 hw [] y1  h0 n0 Z0 ) hZ (tw hw 85 rfl) (tw hw 30 rfl) (by decide) (by decide)) (g := (mkF m 34 #[vr a, vi 1, vi 1, vi y1] [(.int y1)])) rfl (by rw [hml]; rfl) (argsL := [(.int y1)]) (rest := []) (lenOf pd16 rfl) rfl (by show 2 * 0 + _ ≤ _; exact Nat.le_of_eq rfl) (hb hby d5_34) (fun _ _ => ⟨rfl, hh29_2, (by decide : 0 + 0 ≤ _), (by decide : 0 + 0 ≤ _)⟩)
      dsimp only [Pt.U, Pt.locs, Pt.cells, Pt.slots] at X34_2 l34_2 y34_2 z34_2 st34_2 hQ34_2
      subst l34_2 y34_2 z34_2
      obtain ⟨r34_2, rfl, hq34_2, Nq34_2, hh34_2⟩ := hQ34_2
      have N34_2 := Fr.app N29_2 Nq34_2
      refine Dn.st st34_2 ?_
      rcases hq34_2 with ⟨rfl, sp34_2⟩ | ⟨rfl, sp34_2⟩
      · show Dn p e below s _ _ _ (T34_2.setTop (mkF m 37 #[vr a, vi 1, vi 1, vi y1] [(.int 1)]))
        have hc37_2 : ¬ ((1 : Int32) = (0 : Int32)) := by decide
        refine Dn.st (fun _ kk => XS.ifYes X34_2.here hx rfl (pc0 := 37) (pc' := 50) rfl (hb hby d5_37) rfl ((if0 _ _).trans (feq hc37_2).2) (by decide) (by decide) (XS.iconst X34_2.here hx rfl (hb hby d5_50) (XS.istoreN X34_2.here hx rfl (hb hby d5_51) rfl (l' := #[vr a, vi 0, vi 1, vi y1]) rfl (XS.iinc X34_2.here hx rfl (hb hby d5_52) rfl (l' := #[vr a, vi 0, vi 2, vi y1]) rfl (XS.goto X34_2.here hx rfl (pc0 := 55) (pc' := 15) rfl (hb hby d5_55) (by decide) (by decide) (XS.iloadN X34_2.here hx rfl (hb hby d5_15) rfl (kk))))))) ?_
        show Dn p e below s _ _ _ (T34_2.setTop (mkF m 16 #[vr a, vi 0, vi 2, vi y1] [(.int 2)]))
        refine Dn.st (fun _ kk => XS.aloadN X34_2.here hx rfl (hb hby d5_16) rfl rfl (kk)) ?_
        show Dn p e below s _ _ _ (T34_2.setTop (mkF m 17 #[vr a, vi 0, vi 2, vi y1] [(.ref a), (.int 2)]))
        obtain ⟨cq17_3, kq17_3, q17_3a, q17_3b, q17_3c⟩ := isOf hZ hh34_2 hS.1
        obtain ⟨_, _, ⟨T17_3, L17_3, k17_3, n17_3⟩, -, X17_3, ⟨Lc17_3, hQ17_3, l17_3, y17_3, z17_3⟩, st17_3⟩ := X34_2.virtualBack hx (y := on0) (z := on0) hown (mvT hZ (tw hw 37 rfl)) (mvT hZ (tw hw 38 rfl)) (notFace_of_selects (args := #[]) (mvT hZ (tw hw 40 rfl))) (mvT hZ (tw hw 40 rfl)) (mvT hZ (tw hw 39 rfl)) (by decide) (backOf (W := 1) (rmLn l Z a0 hw [] a cs sf _ _ _ _ _ h0 n0 Z0 hW hS (by decide) (by decide)) hZ (tw hw 41 rfl) (tw hw 8 rfl) (by decide) (by decide)) q17_3a q17_3c (g := (mkF m 17 #[vr a, vi 0, vi 2, vi y1] [(.ref a), (.int 2)])) rfl (by rw [hml]; rfl) (Steps.refl _) (argsL := []) (rest := [(.int 2)]) (lenOf pd14 rfl) rfl (by show 2 * 0 + _ ≤ _; exact Nat.le_of_eq rfl) (hb hby d5_17) (fun _ _ => ⟨rfl, hh34_2, (by decide : 0 + 0 ≤ _), (by decide : 0 + 0 ≤ _)⟩)
        dsimp only [Pt.U, Pt.locs, Pt.cells, Pt.slots] at X17_3 l17_3 y17_3 z17_3 st17_3 hQ17_3
        subst l17_3 y17_3 z17_3
        obtain ⟨rfl, Nq17_3, hh17_3⟩ := hQ17_3
        have N17_3 := Fr.app N34_2 Nq17_3
        refine Dn.tr st17_3 ?_
        show Dn p e below s _ _ _ (T17_3.setTop (mkF m 20 #[vr a, vi 0, vi 2, vi y1] [(.int 4), (.int 2)]))
        have hc20_3 : (2 : Int32) < (4 : Int32) := by decide
        refine Dn.st (fun _ kk => XS.icmpNo X17_3.here hx rfl (hb hby d5_20) rfl (tlt hc20_3).2.1 (XS.iloadN X17_3.here hx rfl (hb hby d5_23) rfl (kk))) ?_
        show Dn p e below s _ _ _ (T17_3.setTop (mkF m 24 #[vr a, vi 0, vi 2, vi y1] [(.int 0)]))
        have hc24_3 : (0 : Int32) = (0 : Int32) := by decide
        refine Dn.st (fun _ kk => XS.ifYes X17_3.here hx rfl (pc0 := 24) (pc' := 58) rfl (hb hby d5_24) rfl ((if0 _ _).trans (teq hc24_3).1) (by decide) (by decide) (XS.iloadN X17_3.here hx rfl (hb hby d5_58) rfl (kk))) ?_
        show Dn p e below s _ _ _ (T17_3.setTop (mkF m 59 #[vr a, vi 0, vi 2, vi y1] [(.int 0)]))
        exact Dn.ret X17_3 hlk hx hret rfl (Or.inl ⟨rfl, Or.inr (Or.inl rfl), _, rfl⟩) (hb hby d5_59) (by rw [hh17_3]; exact ⟨_, rfl, Or.inr ⟨rfl, fun q => q.2.1.1 sp34_2⟩, N17_3, rfl⟩) (by decide) (by decide)
      · show Dn p e below s _ _ _ (T34_2.setTop (mkF m 37 #[vr a, vi 1, vi 1, vi y1] [(.int 0)]))
        have hc37_2 : (0 : Int32) = (0 : Int32) := by decide
        refine Dn.st (fun _ kk => XS.ifNo X34_2.here hx rfl (hb hby d5_37) rfl ((if0 _ _).trans (teq hc37_2).2) (XS.iloadN X34_2.here hx rfl (hb hby d5_40) rfl (XS.bipush X34_2.here hx rfl (hb hby d5_41) (kk)))) ?_
        show Dn p e below s _ _ _ (T34_2.setTop (mkF m 43 #[vr a, vi 1, vi 1, vi y1] [(.int 35), (.int y1)]))
        by_cases hc43_2 : y1 = (35 : Int32)
        · refine Dn.st (fun _ kk => XS.icmpYes X34_2.here hx rfl (pc0 := 43) (pc' := 50) rfl (hb hby d5_43) rfl (teq hc43_2).1 (by decide) (by decide) (XS.iconst X34_2.here hx rfl (hb hby d5_50) (XS.istoreN X34_2.here hx rfl (hb hby d5_51) rfl (l' := #[vr a, vi 0, vi 1, vi y1]) rfl (XS.iinc X34_2.here hx rfl (hb hby d5_52) rfl (l' := #[vr a, vi 0, vi 2, vi y1]) rfl (XS.goto X34_2.here hx rfl (pc0 := 55) (pc' := 15) rfl (hb hby d5_55) (by decide) (by decide) (XS.iloadN X34_2.here hx rfl (hb hby d5_15) rfl (kk))))))) ?_
          show Dn p e below s _ _ _ (T34_2.setTop (mkF m 16 #[vr a, vi 0, vi 2, vi y1] [(.int 2)]))
          refine Dn.st (fun _ kk => XS.aloadN X34_2.here hx rfl (hb hby d5_16) rfl rfl (kk)) ?_
          show Dn p e below s _ _ _ (T34_2.setTop (mkF m 17 #[vr a, vi 0, vi 2, vi y1] [(.ref a), (.int 2)]))
          obtain ⟨cq17_3, kq17_3, q17_3a, q17_3b, q17_3c⟩ := isOf hZ hh34_2 hS.1
          obtain ⟨_, _, ⟨T17_3, L17_3, k17_3, n17_3⟩, -, X17_3, ⟨Lc17_3, hQ17_3, l17_3, y17_3, z17_3⟩, st17_3⟩ := X34_2.virtualBack hx (y := on0) (z := on0) hown (mvT hZ (tw hw 37 rfl)) (mvT hZ (tw hw 38 rfl)) (notFace_of_selects (args := #[]) (mvT hZ (tw hw 40 rfl))) (mvT hZ (tw hw 40 rfl)) (mvT hZ (tw hw 39 rfl)) (by decide) (backOf (W := 1) (rmLn l Z a0 hw [] a cs sf _ _ _ _ _ h0 n0 Z0 hW hS (by decide) (by decide)) hZ (tw hw 41 rfl) (tw hw 8 rfl) (by decide) (by decide)) q17_3a q17_3c (g := (mkF m 17 #[vr a, vi 0, vi 2, vi y1] [(.ref a), (.int 2)])) rfl (by rw [hml]; rfl) (Steps.refl _) (argsL := []) (rest := [(.int 2)]) (lenOf pd14 rfl) rfl (by show 2 * 0 + _ ≤ _; exact Nat.le_of_eq rfl) (hb hby d5_17) (fun _ _ => ⟨rfl, hh34_2, (by decide : 0 + 0 ≤ _), (by decide : 0 + 0 ≤ _)⟩)
          dsimp only [Pt.U, Pt.locs, Pt.cells, Pt.slots] at X17_3 l17_3 y17_3 z17_3 st17_3 hQ17_3
          subst l17_3 y17_3 z17_3
          obtain ⟨rfl, Nq17_3, hh17_3⟩ := hQ17_3
          have N17_3 := Fr.app N34_2 Nq17_3
          refine Dn.tr st17_3 ?_
          show Dn p e below s _ _ _ (T17_3.setTop (mkF m 20 #[vr a, vi 0, vi 2, vi y1] [(.int 4), (.int 2)]))
          have hc20_3 : (2 : Int32) < (4 : Int32) := by decide
          refine Dn.st (fun _ kk => XS.icmpNo X17_3.here hx rfl (hb hby d5_20) rfl (tlt hc20_3).2.1 (XS.iloadN X17_3.here hx rfl (hb hby d5_23) rfl (kk))) ?_
          show Dn p e below s _ _ _ (T17_3.setTop (mkF m 24 #[vr a, vi 0, vi 2, vi y1] [(.int 0)]))
          have hc24_3 : (0 : Int32) = (0 : Int32) := by decide
          refine Dn.st (fun _ kk => XS.ifYes X17_3.here hx rfl (pc0 := 24) (pc' := 58) rfl (hb hby d5_24) rfl ((if0 _ _).trans (teq hc24_3).1) (by decide) (by decide) (XS.iloadN X17_3.here hx rfl (hb hby d5_58) rfl (kk))) ?_
          show Dn p e below s _ _ _ (T17_3.setTop (mkF m 59 #[vr a, vi 0, vi 2, vi y1] [(.int 0)]))
          exact Dn.ret X17_3 hlk hx hret rfl (Or.inl ⟨rfl, Or.inr (Or.inl rfl), _, rfl⟩) (hb hby d5_59) (by rw [hh17_3]; exact ⟨_, rfl, Or.inr ⟨rfl, fun q => q.2.1.2 hc43_2⟩, N17_3, rfl⟩) (by decide) (by decide)
        · refine Dn.st (fun _ kk => XS.icmpNo X34_2.here hx rfl (hb hby d5_43) rfl (feq hc43_2).1 (XS.iconst X34_2.here hx rfl (hb hby d5_46) (XS.goto X34_2.here hx rfl (pc0 := 47) (pc' := 51) rfl (hb hby d5_47) (by decide) (by decide) (XS.istoreN X34_2.here hx rfl (hb hby d5_51) rfl (l' := #[vr a, vi 1, vi 1, vi y1]) rfl (XS.iinc X34_2.here hx rfl (hb hby d5_52) rfl (l' := #[vr a, vi 1, vi 2, vi y1]) rfl (XS.goto X34_2.here hx rfl (pc0 := 55) (pc' := 15) rfl (hb hby d5_55) (by decide) (by decide) (kk))))))) ?_
          show Dn p e below s _ _ _ (T34_2.setTop (mkF m 15 #[vr a, vi 1, vi 2, vi y1] []))
          refine Dn.st (fun _ kk => XS.iloadN X34_2.here hx rfl (hb hby d5_15) rfl (XS.aloadN X34_2.here hx rfl (hb hby d5_16) rfl rfl (kk))) ?_
          show Dn p e below s _ _ _ (T34_2.setTop (mkF m 17 #[vr a, vi 1, vi 2, vi y1] [(.ref a), (.int 2)]))
          obtain ⟨cq17_3, kq17_3, q17_3a, q17_3b, q17_3c⟩ := isOf hZ hh34_2 hS.1
          obtain ⟨_, _, ⟨T17_3, L17_3, k17_3, n17_3⟩, -, X17_3, ⟨Lc17_3, hQ17_3, l17_3, y17_3, z17_3⟩, st17_3⟩ := X34_2.virtualBack hx (y := on0) (z := on0) hown (mvT hZ (tw hw 37 rfl)) (mvT hZ (tw hw 38 rfl)) (notFace_of_selects (args := #[]) (mvT hZ (tw hw 40 rfl))) (mvT hZ (tw hw 40 rfl)) (mvT hZ (tw hw 39 rfl)) (by decide) (backOf (W := 1) (rmLn l Z a0 hw [] a cs sf _ _ _ _ _ h0 n0 Z0 hW hS (by decide) (by decide)) hZ (tw hw 41 rfl) (tw hw 8 rfl) (by decide) (by decide)) q17_3a q17_3c (g := (mkF m 17 #[vr a, vi 1, vi 2, vi y1] [(.ref a), (.int 2)])) rfl (by rw [hml]; rfl) (Steps.refl _) (argsL := []) (rest := [(.int 2)]) (lenOf pd14 rfl) rfl (by show 2 * 0 + _ ≤ _; exact Nat.le_of_eq rfl) (hb hby d5_17) (fun _ _ => ⟨rfl, hh34_2, (by decide : 0 + 0 ≤ _), (by decide : 0 + 0 ≤ _)⟩)
          dsimp only [Pt.U, Pt.locs, Pt.cells, Pt.slots] at X17_3 l17_3 y17_3 z17_3 st17_3 hQ17_3
          subst l17_3 y17_3 z17_3
          obtain ⟨rfl, Nq17_3, hh17_3⟩ := hQ17_3
          have N17_3 := Fr.app N34_2 Nq17_3
          refine Dn.tr st17_3 ?_
          show Dn p e below s _ _ _ (T17_3.setTop (mkF m 20 #[vr a, vi 1, vi 2, vi y1] [(.int 4), (.int 2)]))
          have hc20_3 : (2 : Int32) < (4 : Int32) := by decide
          refine Dn.st (fun _ kk => XS.icmpNo X17_3.here hx rfl (hb hby d5_20) rfl (tlt hc20_3).2.1 (XS.iloadN X17_3.here hx rfl (hb hby d5_23) rfl (kk))) ?_
          show Dn p e below s _ _ _ (T17_3.setTop (mkF m 24 #[vr a, vi 1, vi 2, vi y1] [(.int 1)]))
          have hc24_3 : ¬ ((1 : Int32) = (0 : Int32)) := by decide
          refine Dn.st (fun _ kk => XS.ifNo X17_3.here hx rfl (hb hby d5_24) rfl ((if0 _ _).trans (feq hc24_3).1) (XS.aloadN X17_3.here hx rfl (hb hby d5_27) rfl rfl (XS.iloadN X17_3.here hx rfl (hb hby d5_28) rfl (kk)))) ?_
          show Dn p e below s _ _ _ (T17_3.setTop (mkF m 29 #[vr a, vi 1, vi 2, vi y1] [(.int 2), (.ref a)]))
          obtain ⟨cq29_3, kq29_3, q29_3a, q29_3b, q29_3c⟩ := isOf hZ hh17_3 hS.1
          obtain ⟨_, _, ⟨T29_3, L29_3, k29_3, n29_3⟩, -, X29_3, ⟨Lc29_3, hQ29_3, l29_3, y29_3, z29_3⟩, st29_3⟩ := X17_3.virtualBack hx (y := on2) (z := on2) hown (mvT hZ (tw hw 61 rfl)) (mvT hZ (tw hw 62 rfl)) (notFace_of_selects (args := #[]) (mvT hZ (tw hw 64 rfl))) (mvT hZ (tw hw 64 rfl)) (mvT hZ (tw hw 63 rfl)) (by decide) (backOf (W := 0) (rmCh2 l Z a0 hw [] a cs sf _ _ _ _ _ y2 h0 n0 Z0 hW hS (by decide) rfl (fun q => q.2.2.1) (by decide) (by decide) rfl rfl (by decide) hr2) hZ (tw hw 65 rfl) (tw hw 8 rfl) (by decide) (by decide)) q29_3a q29_3c (g := (mkF m 29 #[vr a, vi 1, vi 2, vi y1] [(.int 2), (.ref a)])) rfl (by rw [hml]; rfl) (Steps.refl _) (argsL := [(.int 2)]) (rest := []) (lenOf pd15 rfl) rfl (by show 2 * 0 + _ ≤ _; exact Nat.le_of_eq rfl) (hb hby d5_29) (fun _ _ => ⟨rfl, hh17_3, (by decide : 0 + 0 ≤ _), (by decide : 0 + 0 ≤ _)⟩)
          dsimp only [Pt.U, Pt.locs, Pt.cells, Pt.slots] at X29_3 l29_3 y29_3 z29_3 st29_3 hQ29_3
          subst l29_3 y29_3 z29_3
          obtain ⟨rfl, Nq29_3, hh29_3⟩ := hQ29_3
          have N29_3 := Fr.app N17_3 Nq29_3
          refine Dn.tr st29_3 ?_
          show Dn p e below s _ _ _ (T29_3.setTop (mkF m 32 #[vr a, vi 1, vi 2, vi y1] [(.int y2)]))
          refine Dn.st (fun _ kk => XS.istoreN X29_3.here hx rfl (hb hby d5_32) rfl (l' := #[vr a, vi 1, vi 2, vi y2]) rfl (XS.iloadN X29_3.here hx rfl (hb hby d5_33) rfl (kk))) ?_
          show Dn p e below s _ _ _ (T29_3.setTop (mkF m 34 #[vr a, vi 1, vi 2, vi y2] [(.int y2)]))
          obtain ⟨_, _, ⟨T34_3, L34_3, k34_3, n34_3⟩, -, X34_3, ⟨Lc34_3, hQ34_3, l34_3, y34_3, z34_3⟩, st34_3⟩ := Jvm.LawKit.callS X29_3 hx (y := on16) hown (mvT hZ (tw hw 83 rfl)) (mvT hZ (tw hw 84 rfl)) (mvT hZ (tw hw 30 rfl)) (mvT hZ (tw hw 85 rfl)) (by decide) (backOf (W := 0) (rmSp l Z a0 hw [] y2  h0 n0 Z0 ) hZ (tw hw 85 rfl) (tw hw 30 rfl) (by decide) (by decide)) (g := (mkF m 34 #[vr a, vi 1, vi 2, vi y2] [(.int y2)])) rfl (by rw [hml]; rfl) (argsL := [(.int y2)]) (rest := []) (lenOf pd16 rfl) rfl (by show 2 * 0 + _ ≤ _; exact Nat.le_of_eq rfl) (hb hby d5_34) (fun _ _ => ⟨rfl, hh29_3, (by decide : 0 + 0 ≤ _), (by decide : 0 + 0 ≤ _)⟩)
          dsimp only [Pt.U, Pt.locs, Pt.cells, Pt.slots] at X34_3 l34_3 y34_3 z34_3 st34_3 hQ34_3
          subst l34_3 y34_3 z34_3
          obtain ⟨r34_3, rfl, hq34_3, Nq34_3, hh34_3⟩ := hQ34_3
          have N34_3 := Fr.app N29_3 Nq34_3
          refine Dn.st st34_3 ?_
          rcases hq34_3 with ⟨rfl, sp34_3⟩ | ⟨rfl, sp34_3⟩
          · show Dn p e below s _ _ _ (T34_3.setTop (mkF m 37 #[vr a, vi 1, vi 2, vi y2] [(.int 1)]))
            have hc37_3 : ¬ ((1 : Int32) = (0 : Int32)) := by decide
            refine Dn.st (fun _ kk => XS.ifYes X34_3.here hx rfl (pc0 := 37) (pc' := 50) rfl (hb hby d5_37) rfl ((if0 _ _).trans (feq hc37_3).2) (by decide) (by decide) (XS.iconst X34_3.here hx rfl (hb hby d5_50) (XS.istoreN X34_3.here hx rfl (hb hby d5_51) rfl (l' := #[vr a, vi 0, vi 2, vi y2]) rfl (XS.iinc X34_3.here hx rfl (hb hby d5_52) rfl (l' := #[vr a, vi 0, vi 3, vi y2]) rfl (XS.goto X34_3.here hx rfl (pc0 := 55) (pc' := 15) rfl (hb hby d5_55) (by decide) (by decide) (XS.iloadN X34_3.here hx rfl (hb hby d5_15) rfl (kk))))))) ?_
            show Dn p e below s _ _ _ (T34_3.setTop (mkF m 16 #[vr a, vi 0, vi 3, vi y2] [(.int 3)]))
            refine Dn.st (fun _ kk => XS.aloadN X34_3.here hx rfl (hb hby d5_16) rfl rfl (kk)) ?_
            show Dn p e below s _ _ _ (T34_3.setTop (mkF m 17 #[vr a, vi 0, vi 3, vi y2] [(.ref a), (.int 3)]))
            obtain ⟨cq17_4, kq17_4, q17_4a, q17_4b, q17_4c⟩ := isOf hZ hh34_3 hS.1
            obtain ⟨_, _, ⟨T17_4, L17_4, k17_4, n17_4⟩, -, X17_4, ⟨Lc17_4, hQ17_4, l17_4, y17_4, z17_4⟩, st17_4⟩ := X34_3.virtualBack hx (y := on0) (z := on0) hown (mvT hZ (tw hw 37 rfl)) (mvT hZ (tw hw 38 rfl)) (notFace_of_selects (args := #[]) (mvT hZ (tw hw 40 rfl))) (mvT hZ (tw hw 40 rfl)) (mvT hZ (tw hw 39 rfl)) (by decide) (backOf (W := 1) (rmLn l Z a0 hw [] a cs sf _ _ _ _ _ h0 n0 Z0 hW hS (by decide) (by decide)) hZ (tw hw 41 rfl) (tw hw 8 rfl) (by decide) (by decide)) q17_4a q17_4c (g := (mkF m 17 #[vr a, vi 0, vi 3, vi y2] [(.ref a), (.int 3)])) rfl (by rw [hml]; rfl) (Steps.refl _) (argsL := []) (rest := [(.int 3)]) (lenOf pd14 rfl) rfl (by show 2 * 0 + _ ≤ _; exact Nat.le_of_eq rfl) (hb hby d5_17) (fun _ _ => ⟨rfl, hh34_3, (by decide : 0 + 0 ≤ _), (by decide : 0 + 0 ≤ _)⟩)
            dsimp only [Pt.U, Pt.locs, Pt.cells, Pt.slots] at X17_4 l17_4 y17_4 z17_4 st17_4 hQ17_4
            subst l17_4 y17_4 z17_4
            obtain ⟨rfl, Nq17_4, hh17_4⟩ := hQ17_4
            have N17_4 := Fr.app N34_3 Nq17_4
            refine Dn.tr st17_4 ?_
            show Dn p e below s _ _ _ (T17_4.setTop (mkF m 20 #[vr a, vi 0, vi 3, vi y2] [(.int 4), (.int 3)]))
            have hc20_4 : (3 : Int32) < (4 : Int32) := by decide
            refine Dn.st (fun _ kk => XS.icmpNo X17_4.here hx rfl (hb hby d5_20) rfl (tlt hc20_4).2.1 (XS.iloadN X17_4.here hx rfl (hb hby d5_23) rfl (kk))) ?_
            show Dn p e below s _ _ _ (T17_4.setTop (mkF m 24 #[vr a, vi 0, vi 3, vi y2] [(.int 0)]))
            have hc24_4 : (0 : Int32) = (0 : Int32) := by decide
            refine Dn.st (fun _ kk => XS.ifYes X17_4.here hx rfl (pc0 := 24) (pc' := 58) rfl (hb hby d5_24) rfl ((if0 _ _).trans (teq hc24_4).1) (by decide) (by decide) (XS.iloadN X17_4.here hx rfl (hb hby d5_58) rfl (kk))) ?_
            show Dn p e below s _ _ _ (T17_4.setTop (mkF m 59 #[vr a, vi 0, vi 3, vi y2] [(.int 0)]))
            exact Dn.ret X17_4 hlk hx hret rfl (Or.inl ⟨rfl, Or.inr (Or.inl rfl), _, rfl⟩) (hb hby d5_59) (by rw [hh17_4]; exact ⟨_, rfl, Or.inr ⟨rfl, fun q => q.2.2.1.1 sp34_3⟩, N17_4, rfl⟩) (by decide) (by decide)
          · show Dn p e below s _ _ _ (T34_3.setTop (mkF m 37 #[vr a, vi 1, vi 2, vi y2] [(.int 0)]))
            have hc37_3 : (0 : Int32) = (0 : Int32) := by decide
            refine Dn.st (fun _ kk => XS.ifNo X34_3.here hx rfl (hb hby d5_37) rfl ((if0 _ _).trans (teq hc37_3).2) (XS.iloadN X34_3.here hx rfl (hb hby d5_40) rfl (XS.bipush X34_3.here hx rfl (hb hby d5_41) (kk)))) ?_
            show Dn p e below s _ _ _ (T34_3.setTop (mkF m 43 #[vr a, vi 1, vi 2, vi y2] [(.int 35), (.int y2)]))
            by_cases hc43_3 : y2 = (35 : Int32)
            · refine Dn.st (fun _ kk => XS.icmpYes X34_3.here hx rfl (pc0 := 43) (pc' := 50) rfl (hb hby d5_43) rfl (teq hc43_3).1 (by decide) (by decide) (XS.iconst X34_3.here hx rfl (hb hby d5_50) (XS.istoreN X34_3.here hx rfl (hb hby d5_51) rfl (l' := #[vr a, vi 0, vi 2, vi y2]) rfl (XS.iinc X34_3.here hx rfl (hb hby d5_52) rfl (l' := #[vr a, vi 0, vi 3, vi y2]) rfl (XS.goto X34_3.here hx rfl (pc0 := 55) (pc' := 15) rfl (hb hby d5_55) (by decide) (by decide) (XS.iloadN X34_3.here hx rfl (hb hby d5_15) rfl (kk))))))) ?_
              show Dn p e below s _ _ _ (T34_3.setTop (mkF m 16 #[vr a, vi 0, vi 3, vi y2] [(.int 3)]))
              refine Dn.st (fun _ kk => XS.aloadN X34_3.here hx rfl (hb hby d5_16) rfl rfl (kk)) ?_
              show Dn p e below s _ _ _ (T34_3.setTop (mkF m 17 #[vr a, vi 0, vi 3, vi y2] [(.ref a), (.int 3)]))
              obtain ⟨cq17_4, kq17_4, q17_4a, q17_4b, q17_4c⟩ := isOf hZ hh34_3 hS.1
              obtain ⟨_, _, ⟨T17_4, L17_4, k17_4, n17_4⟩, -, X17_4, ⟨Lc17_4, hQ17_4, l17_4, y17_4, z17_4⟩, st17_4⟩ := X34_3.virtualBack hx (y := on0) (z := on0) hown (mvT hZ (tw hw 37 rfl)) (mvT hZ (tw hw 38 rfl)) (notFace_of_selects (args := #[]) (mvT hZ (tw hw 40 rfl))) (mvT hZ (tw hw 40 rfl)) (mvT hZ (tw hw 39 rfl)) (by decide) (backOf (W := 1) (rmLn l Z a0 hw [] a cs sf _ _ _ _ _ h0 n0 Z0 hW hS (by decide) (by decide)) hZ (tw hw 41 rfl) (tw hw 8 rfl) (by decide) (by decide)) q17_4a q17_4c (g := (mkF m 17 #[vr a, vi 0, vi 3, vi y2] [(.ref a), (.int 3)])) rfl (by rw [hml]; rfl) (Steps.refl _) (argsL := []) (rest := [(.int 3)]) (lenOf pd14 rfl) rfl (by show 2 * 0 + _ ≤ _; exact Nat.le_of_eq rfl) (hb hby d5_17) (fun _ _ => ⟨rfl, hh34_3, (by decide : 0 + 0 ≤ _), (by decide : 0 + 0 ≤ _)⟩)
              dsimp only [Pt.U, Pt.locs, Pt.cells, Pt.slots] at X17_4 l17_4 y17_4 z17_4 st17_4 hQ17_4
              subst l17_4 y17_4 z17_4
              obtain ⟨rfl, Nq17_4, hh17_4⟩ := hQ17_4
              have N17_4 := Fr.app N34_3 Nq17_4
              refine Dn.tr st17_4 ?_
              show Dn p e below s _ _ _ (T17_4.setTop (mkF m 20 #[vr a, vi 0, vi 3, vi y2] [(.int 4), (.int 3)]))
              have hc20_4 : (3 : Int32) < (4 : Int32) := by decide
              refine Dn.st (fun _ kk => XS.icmpNo X17_4.here hx rfl (hb hby d5_20) rfl (tlt hc20_4).2.1 (XS.iloadN X17_4.here hx rfl (hb hby d5_23) rfl (kk))) ?_
              show Dn p e below s _ _ _ (T17_4.setTop (mkF m 24 #[vr a, vi 0, vi 3, vi y2] [(.int 0)]))
              have hc24_4 : (0 : Int32) = (0 : Int32) := by decide
              refine Dn.st (fun _ kk => XS.ifYes X17_4.here hx rfl (pc0 := 24) (pc' := 58) rfl (hb hby d5_24) rfl ((if0 _ _).trans (teq hc24_4).1) (by decide) (by decide) (XS.iloadN X17_4.here hx rfl (hb hby d5_58) rfl (kk))) ?_
              show Dn p e below s _ _ _ (T17_4.setTop (mkF m 59 #[vr a, vi 0, vi 3, vi y2] [(.int 0)]))
              exact Dn.ret X17_4 hlk hx hret rfl (Or.inl ⟨rfl, Or.inr (Or.inl rfl), _, rfl⟩) (hb hby d5_59) (by rw [hh17_4]; exact ⟨_, rfl, Or.inr ⟨rfl, fun q => q.2.2.1.2 hc43_3⟩, N17_4, rfl⟩) (by decide) (by decide)
            · refine Dn.st (fun _ kk => XS.icmpNo X34_3.here hx rfl (hb hby d5_43) rfl (feq hc43_3).1 (XS.iconst X34_3.here hx rfl (hb hby d5_46) (XS.goto X34_3.here hx rfl (pc0 := 47) (pc' := 51) rfl (hb hby d5_47) (by decide) (by decide) (XS.istoreN X34_3.here hx rfl (hb hby d5_51) rfl (l' := #[vr a, vi 1, vi 2, vi y2]) rfl (XS.iinc X34_3.here hx rfl (hb hby d5_52) rfl (l' := #[vr a, vi 1, vi 3, vi y2]) rfl (XS.goto X34_3.here hx rfl (pc0 := 55) (pc' := 15) rfl (hb hby d5_55) (by decide) (by decide) (kk))))))) ?_
              show Dn p e below s _ _ _ (T34_3.setTop (mkF m 15 #[vr a, vi 1, vi 3, vi y2] []))
              refine Dn.st (fun _ kk => XS.iloadN X34_3.here hx rfl (hb hby d5_15) rfl (XS.aloadN X34_3.here hx rfl (hb hby d5_16) rfl rfl (kk))) ?_
              show Dn p e below s _ _ _ (T34_3.setTop (mkF m 17 #[vr a, vi 1, vi 3, vi y2] [(.ref a), (.int 3)]))
              obtain ⟨cq17_4, kq17_4, q17_4a, q17_4b, q17_4c⟩ := isOf hZ hh34_3 hS.1
              obtain ⟨_, _, ⟨T17_4, L17_4, k17_4, n17_4⟩, -, X17_4, ⟨Lc17_4, hQ17_4, l17_4, y17_4, z17_4⟩, st17_4⟩ := X34_3.virtualBack hx (y := on0) (z := on0) hown (mvT hZ (tw hw 37 rfl)) (mvT hZ (tw hw 38 rfl)) (notFace_of_selects (args := #[]) (mvT hZ (tw hw 40 rfl))) (mvT hZ (tw hw 40 rfl)) (mvT hZ (tw hw 39 rfl)) (by decide) (backOf (W := 1) (rmLn l Z a0 hw [] a cs sf _ _ _ _ _ h0 n0 Z0 hW hS (by decide) (by decide)) hZ (tw hw 41 rfl) (tw hw 8 rfl) (by decide) (by decide)) q17_4a q17_4c (g := (mkF m 17 #[vr a, vi 1, vi 3, vi y2] [(.ref a), (.int 3)])) rfl (by rw [hml]; rfl) (Steps.refl _) (argsL := []) (rest := [(.int 3)]) (lenOf pd14 rfl) rfl (by show 2 * 0 + _ ≤ _; exact Nat.le_of_eq rfl) (hb hby d5_17) (fun _ _ => ⟨rfl, hh34_3, (by decide : 0 + 0 ≤ _), (by decide : 0 + 0 ≤ _)⟩)
              dsimp only [Pt.U, Pt.locs, Pt.cells, Pt.slots] at X17_4 l17_4 y17_4 z17_4 st17_4 hQ17_4
              subst l17_4 y17_4 z17_4
              obtain ⟨rfl, Nq17_4, hh17_4⟩ := hQ17_4
              have N17_4 := Fr.app N34_3 Nq17_4
              refine Dn.tr st17_4 ?_
              show Dn p e below s _ _ _ (T17_4.setTop (mkF m 20 #[vr a, vi 1, vi 3, vi y2] [(.int 4), (.int 3)]))
              have hc20_4 : (3 : Int32) < (4 : Int32) := by decide
              refine Dn.st (fun _ kk => XS.icmpNo X17_4.here hx rfl (hb hby d5_20) rfl (tlt hc20_4).2.1 (XS.iloadN X17_4.here hx rfl (hb hby d5_23) rfl (kk))) ?_
              show Dn p e below s _ _ _ (T17_4.setTop (mkF m 24 #[vr a, vi 1, vi 3, vi y2] [(.int 1)]))
              have hc24_4 : ¬ ((1 : Int32) = (0 : Int32)) := by decide
              refine Dn.st (fun _ kk => XS.ifNo X17_4.here hx rfl (hb hby d5_24) rfl ((if0 _ _).trans (feq hc24_4).1) (XS.aloadN X17_4.here hx rfl (hb hby d5_27) rfl rfl (XS.iloadN X17_4.here hx rfl (hb hby d5_28) rfl (kk)))) ?_
              show Dn p e below s _ _ _ (T17_4.setTop (mkF m 29 #[vr a, vi 1, vi 3, vi y2] [(.int 3), (.ref a)]))
              obtain ⟨cq29_4, kq29_4, q29_4a, q29_4b, q29_4c⟩ := isOf hZ hh17_4 hS.1
              obtain ⟨_, _, ⟨T29_4, L29_4, k29_4, n29_4⟩, -, X29_4, ⟨Lc29_4, hQ29_4, l29_4, y29_4, z29_4⟩, st29_4⟩ := X17_4.virtualBack hx (y := on2) (z := on2) hown (mvT hZ (tw hw 61 rfl)) (mvT hZ (tw hw 62 rfl)) (notFace_of_selects (args := #[]) (mvT hZ (tw hw 64 rfl))) (mvT hZ (tw hw 64 rfl)) (mvT hZ (tw hw 63 rfl)) (by decide) (backOf (W := 0) (rmCh3 l Z a0 hw [] a cs sf _ _ _ _ _ y3 h0 n0 Z0 hW hS (by decide) rfl (fun q => q.2.2.2.1) (by decide) (by decide) rfl rfl (by decide) hr3) hZ (tw hw 65 rfl) (tw hw 8 rfl) (by decide) (by decide)) q29_4a q29_4c (g := (mkF m 29 #[vr a, vi 1, vi 3, vi y2] [(.int 3), (.ref a)])) rfl (by rw [hml]; rfl) (Steps.refl _) (argsL := [(.int 3)]) (rest := []) (lenOf pd15 rfl) rfl (by show 2 * 0 + _ ≤ _; exact Nat.le_of_eq rfl) (hb hby d5_29) (fun _ _ => ⟨rfl, hh17_4, (by decide : 0 + 0 ≤ _), (by decide : 0 + 0 ≤ _)⟩)
              dsimp only [Pt.U, Pt.locs, Pt.cells, Pt.slots] at X29_4 l29_4 y29_4 z29_4 st29_4 hQ29_4
              subst l29_4 y29_4 z29_4
              obtain ⟨rfl, Nq29_4, hh29_4⟩ := hQ29_4
              have N29_4 := Fr.app N17_4 Nq29_4
              refine Dn.tr st29_4 ?_
              show Dn p e below s _ _ _ (T29_4.setTop (mkF m 32 #[vr a, vi 1, vi 3, vi y2] [(.int y3)]))
              refine Dn.st (fun _ kk => XS.istoreN X29_4.here hx rfl (hb hby d5_32) rfl (l' := #[vr a, vi 1, vi 3, vi y3]) rfl (XS.iloadN X29_4.here hx rfl (hb hby d5_33) rfl (kk))) ?_
              show Dn p e below s _ _ _ (T29_4.setTop (mkF m 34 #[vr a, vi 1, vi 3, vi y3] [(.int y3)]))
              obtain ⟨_, _, ⟨T34_4, L34_4, k34_4, n34_4⟩, -, X34_4, ⟨Lc34_4, hQ34_4, l34_4, y34_4, z34_4⟩, st34_4⟩ := Jvm.LawKit.callS X29_4 hx (y := on16) hown (mvT hZ (tw hw 83 rfl)) (mvT hZ (tw hw 84 rfl)) (mvT hZ (tw hw 30 rfl)) (mvT hZ (tw hw 85 rfl)) (by decide) (backOf (W := 0) (rmSp l Z a0 hw [] y3  h0 n0 Z0 ) hZ (tw hw 85 rfl) (tw hw 30 rfl) (by decide) (by decide)) (g := (mkF m 34 #[vr a, vi 1, vi 3, vi y3] [(.int y3)])) rfl (by rw [hml]; rfl) (argsL := [(.int y3)]) (rest := []) (lenOf pd16 rfl) rfl (by show 2 * 0 + _ ≤ _; exact Nat.le_of_eq rfl) (hb hby d5_34) (fun _ _ => ⟨rfl, hh29_4, (by decide : 0 + 0 ≤ _), (by decide : 0 + 0 ≤ _)⟩)
              dsimp only [Pt.U, Pt.locs, Pt.cells, Pt.slots] at X34_4 l34_4 y34_4 z34_4 st34_4 hQ34_4
              subst l34_4 y34_4 z34_4
              obtain ⟨r34_4, rfl, hq34_4, Nq34_4, hh34_4⟩ := hQ34_4
              have N34_4 := Fr.app N29_4 Nq34_4
              refine Dn.st st34_4 ?_
              rcases hq34_4 with ⟨rfl, sp34_4⟩ | ⟨rfl, sp34_4⟩
              · show Dn p e below s _ _ _ (T34_4.setTop (mkF m 37 #[vr a, vi 1, vi 3, vi y3] [(.int 1)]))
                have hc37_4 : ¬ ((1 : Int32) = (0 : Int32)) := by decide
                refine Dn.st (fun _ kk => XS.ifYes X34_4.here hx rfl (pc0 := 37) (pc' := 50) rfl (hb hby d5_37) rfl ((if0 _ _).trans (feq hc37_4).2) (by decide) (by decide) (XS.iconst X34_4.here hx rfl (hb hby d5_50) (XS.istoreN X34_4.here hx rfl (hb hby d5_51) rfl (l' := #[vr a, vi 0, vi 3, vi y3]) rfl (XS.iinc X34_4.here hx rfl (hb hby d5_52) rfl (l' := #[vr a, vi 0, vi 4, vi y3]) rfl (XS.goto X34_4.here hx rfl (pc0 := 55) (pc' := 15) rfl (hb hby d5_55) (by decide) (by decide) (XS.iloadN X34_4.here hx rfl (hb hby d5_15) rfl (kk))))))) ?_
                show Dn p e below s _ _ _ (T34_4.setTop (mkF m 16 #[vr a, vi 0, vi 4, vi y3] [(.int 4)]))
                refine Dn.st (fun _ kk => XS.aloadN X34_4.here hx rfl (hb hby d5_16) rfl rfl (kk)) ?_
                show Dn p e below s _ _ _ (T34_4.setTop (mkF m 17 #[vr a, vi 0, vi 4, vi y3] [(.ref a), (.int 4)]))
                obtain ⟨cq17_5, kq17_5, q17_5a, q17_5b, q17_5c⟩ := isOf hZ hh34_4 hS.1
                obtain ⟨_, _, ⟨T17_5, L17_5, k17_5, n17_5⟩, -, X17_5, ⟨Lc17_5, hQ17_5, l17_5, y17_5, z17_5⟩, st17_5⟩ := X34_4.virtualBack hx (y := on0) (z := on0) hown (mvT hZ (tw hw 37 rfl)) (mvT hZ (tw hw 38 rfl)) (notFace_of_selects (args := #[]) (mvT hZ (tw hw 40 rfl))) (mvT hZ (tw hw 40 rfl)) (mvT hZ (tw hw 39 rfl)) (by decide) (backOf (W := 1) (rmLn l Z a0 hw [] a cs sf _ _ _ _ _ h0 n0 Z0 hW hS (by decide) (by decide)) hZ (tw hw 41 rfl) (tw hw 8 rfl) (by decide) (by decide)) q17_5a q17_5c (g := (mkF m 17 #[vr a, vi 0, vi 4, vi y3] [(.ref a), (.int 4)])) rfl (by rw [hml]; rfl) (Steps.refl _) (argsL := []) (rest := [(.int 4)]) (lenOf pd14 rfl) rfl (by show 2 * 0 + _ ≤ _; exact Nat.le_of_eq rfl) (hb hby d5_17) (fun _ _ => ⟨rfl, hh34_4, (by decide : 0 + 0 ≤ _), (by decide : 0 + 0 ≤ _)⟩)
                dsimp only [Pt.U, Pt.locs, Pt.cells, Pt.slots] at X17_5 l17_5 y17_5 z17_5 st17_5 hQ17_5
                subst l17_5 y17_5 z17_5
                obtain ⟨rfl, Nq17_5, hh17_5⟩ := hQ17_5
                have N17_5 := Fr.app N34_4 Nq17_5
                refine Dn.tr st17_5 ?_
                show Dn p e below s _ _ _ (T17_5.setTop (mkF m 20 #[vr a, vi 0, vi 4, vi y3] [(.int 4), (.int 4)]))
                have hc20_5 : ¬ ((4 : Int32) < (4 : Int32)) := by decide
                refine Dn.st (fun _ kk => XS.icmpYes X17_5.here hx rfl (pc0 := 20) (pc' := 58) rfl (hb hby d5_20) rfl (flt hc20_5).2.1 (by decide) (by decide) (XS.iloadN X17_5.here hx rfl (hb hby d5_58) rfl (kk))) ?_
                show Dn p e below s _ _ _ (T17_5.setTop (mkF m 59 #[vr a, vi 0, vi 4, vi y3] [(.int 0)]))
                exact Dn.ret X17_5 hlk hx hret rfl (Or.inl ⟨rfl, Or.inr (Or.inl rfl), _, rfl⟩) (hb hby d5_59) (by rw [hh17_5]; exact ⟨_, rfl, Or.inr ⟨rfl, fun q => q.2.2.2.1.1 sp34_4⟩, N17_5, rfl⟩) (by decide) (by decide)
              · show Dn p e below s _ _ _ (T34_4.setTop (mkF m 37 #[vr a, vi 1, vi 3, vi y3] [(.int 0)]))
                have hc37_4 : (0 : Int32) = (0 : Int32) := by decide
                refine Dn.st (fun _ kk => XS.ifNo X34_4.here hx rfl (hb hby d5_37) rfl ((if0 _ _).trans (teq hc37_4).2) (XS.iloadN X34_4.here hx rfl (hb hby d5_40) rfl (XS.bipush X34_4.here hx rfl (hb hby d5_41) (kk)))) ?_
                show Dn p e below s _ _ _ (T34_4.setTop (mkF m 43 #[vr a, vi 1, vi 3, vi y3] [(.int 35), (.int y3)]))
                by_cases hc43_4 : y3 = (35 : Int32)
                · refine Dn.st (fun _ kk => XS.icmpYes X34_4.here hx rfl (pc0 := 43) (pc' := 50) rfl (hb hby d5_43) rfl (teq hc43_4).1 (by decide) (by decide) (XS.iconst X34_4.here hx rfl (hb hby d5_50) (XS.istoreN X34_4.here hx rfl (hb hby d5_51) rfl (l' := #[vr a, vi 0, vi 3, vi y3]) rfl (XS.iinc X34_4.here hx rfl (hb hby d5_52) rfl (l' := #[vr a, vi 0, vi 4, vi y3]) rfl (XS.goto X34_4.here hx rfl (pc0 := 55) (pc' := 15) rfl (hb hby d5_55) (by decide) (by decide) (XS.iloadN X34_4.here hx rfl (hb hby d5_15) rfl (kk))))))) ?_
                  show Dn p e below s _ _ _ (T34_4.setTop (mkF m 16 #[vr a, vi 0, vi 4, vi y3] [(.int 4)]))
                  refine Dn.st (fun _ kk => XS.aloadN X34_4.here hx rfl (hb hby d5_16) rfl rfl (kk)) ?_
                  show Dn p e below s _ _ _ (T34_4.setTop (mkF m 17 #[vr a, vi 0, vi 4, vi y3] [(.ref a), (.int 4)]))
                  obtain ⟨cq17_5, kq17_5, q17_5a, q17_5b, q17_5c⟩ := isOf hZ hh34_4 hS.1
                  obtain ⟨_, _, ⟨T17_5, L17_5, k17_5, n17_5⟩, -, X17_5, ⟨Lc17_5, hQ17_5, l17_5, y17_5, z17_5⟩, st17_5⟩ := X34_4.virtualBack hx (y := on0) (z := on0) hown (mvT hZ (tw hw 37 rfl)) (mvT hZ (tw hw 38 rfl)) (notFace_of_selects (args := #[]) (mvT hZ (tw hw 40 rfl))) (mvT hZ (tw hw 40 rfl)) (mvT hZ (tw hw 39 rfl)) (by decide) (backOf (W := 1) (rmLn l Z a0 hw [] a cs sf _ _ _ _ _ h0 n0 Z0 hW hS (by decide) (by decide)) hZ (tw hw 41 rfl) (tw hw 8 rfl) (by decide) (by decide)) q17_5a q17_5c (g := (mkF m 17 #[vr a, vi 0, vi 4, vi y3] [(.ref a), (.int 4)])) rfl (by rw [hml]; rfl) (Steps.refl _) (argsL := []) (rest := [(.int 4)]) (lenOf pd14 rfl) rfl (by show 2 * 0 + _ ≤ _; exact Nat.le_of_eq rfl) (hb hby d5_17) (fun _ _ => ⟨rfl, hh34_4, (by decide : 0 + 0 ≤ _), (by decide : 0 + 0 ≤ _)⟩)
                  dsimp only [Pt.U, Pt.locs, Pt.cells, Pt.slots] at X17_5 l17_5 y17_5 z17_5 st17_5 hQ17_5
                  subst l17_5 y17_5 z17_5
                  obtain ⟨rfl, Nq17_5, hh17_5⟩ := hQ17_5
                  have N17_5 := Fr.app N34_4 Nq17_5
                  refine Dn.tr st17_5 ?_
                  show Dn p e below s _ _ _ (T17_5.setTop (mkF m 20 #[vr a, vi 0, vi 4, vi y3] [(.int 4), (.int 4)]))
                  have hc20_5 : ¬ ((4 : Int32) < (4 : Int32)) := by decide
                  refine Dn.st (fun _ kk => XS.icmpYes X17_5.here hx rfl (pc0 := 20) (pc' := 58) rfl (hb hby d5_20) rfl (flt hc20_5).2.1 (by decide) (by decide) (XS.iloadN X17_5.here hx rfl (hb hby d5_58) rfl (kk))) ?_
                  show Dn p e below s _ _ _ (T17_5.setTop (mkF m 59 #[vr a, vi 0, vi 4, vi y3] [(.int 0)]))
                  exact Dn.ret X17_5 hlk hx hret rfl (Or.inl ⟨rfl, Or.inr (Or.inl rfl), _, rfl⟩) (hb hby d5_59) (by rw [hh17_5]; exact ⟨_, rfl, Or.inr ⟨rfl, fun q => q.2.2.2.1.2 hc43_4⟩, N17_5, rfl⟩) (by decide) (by decide)
                · refine Dn.st (fun _ kk => XS.icmpNo X34_4.here hx rfl (hb hby d5_43) rfl (feq hc43_4).1 (XS.iconst X34_4.here hx rfl (hb hby d5_46) (XS.goto X34_4.here hx rfl (pc0 := 47) (pc' := 51) rfl (hb hby d5_47) (by decide) (by decide) (XS.istoreN X34_4.here hx rfl (hb hby d5_51) rfl (l' := #[vr a, vi 1, vi 3, vi y3]) rfl (XS.iinc X34_4.here hx rfl (hb hby d5_52) rfl (l' := #[vr a, vi 1, vi 4, vi y3]) rfl (XS.goto X34_4.here hx rfl (pc0 := 55) (pc' := 15) rfl (hb hby d5_55) (by decide) (by decide) (kk))))))) ?_
                  show Dn p e below s _ _ _ (T34_4.setTop (mkF m 15 #[vr a, vi 1, vi 4, vi y3] []))
                  refine Dn.st (fun _ kk => XS.iloadN X34_4.here hx rfl (hb hby d5_15) rfl (XS.aloadN X34_4.here hx rfl (hb hby d5_16) rfl rfl (kk))) ?_
                  show Dn p e below s _ _ _ (T34_4.setTop (mkF m 17 #[vr a, vi 1, vi 4, vi y3] [(.ref a), (.int 4)]))
                  obtain ⟨cq17_5, kq17_5, q17_5a, q17_5b, q17_5c⟩ := isOf hZ hh34_4 hS.1
                  obtain ⟨_, _, ⟨T17_5, L17_5, k17_5, n17_5⟩, -, X17_5, ⟨Lc17_5, hQ17_5, l17_5, y17_5, z17_5⟩, st17_5⟩ := X34_4.virtualBack hx (y := on0) (z := on0) hown (mvT hZ (tw hw 37 rfl)) (mvT hZ (tw hw 38 rfl)) (notFace_of_selects (args := #[]) (mvT hZ (tw hw 40 rfl))) (mvT hZ (tw hw 40 rfl)) (mvT hZ (tw hw 39 rfl)) (by decide) (backOf (W := 1) (rmLn l Z a0 hw [] a cs sf _ _ _ _ _ h0 n0 Z0 hW hS (by decide) (by decide)) hZ (tw hw 41 rfl) (tw hw 8 rfl) (by decide) (by decide)) q17_5a q17_5c (g := (mkF m 17 #[vr a, vi 1, vi 4, vi y3] [(.ref a), (.int 4)])) rfl (by rw [hml]; rfl) (Steps.refl _) (argsL := []) (rest := [(.int 4)]) (lenOf pd14 rfl) rfl (by show 2 * 0 + _ ≤ _; exact Nat.le_of_eq rfl) (hb hby d5_17) (fun _ _ => ⟨rfl, hh34_4, (by decide : 0 + 0 ≤ _), (by decide : 0 + 0 ≤ _)⟩)
                  dsimp only [Pt.U, Pt.locs, Pt.cells, Pt.slots] at X17_5 l17_5 y17_5 z17_5 st17_5 hQ17_5
                  subst l17_5 y17_5 z17_5
                  obtain ⟨rfl, Nq17_5, hh17_5⟩ := hQ17_5
                  have N17_5 := Fr.app N34_4 Nq17_5
                  refine Dn.tr st17_5 ?_
                  show Dn p e below s _ _ _ (T17_5.setTop (mkF m 20 #[vr a, vi 1, vi 4, vi y3] [(.int 4), (.int 4)]))
                  have hc20_5 : ¬ ((4 : Int32) < (4 : Int32)) := by decide
                  refine Dn.st (fun _ kk => XS.icmpYes X17_5.here hx rfl (pc0 := 20) (pc' := 58) rfl (hb hby d5_20) rfl (flt hc20_5).2.1 (by decide) (by decide) (XS.iloadN X17_5.here hx rfl (hb hby d5_58) rfl (kk))) ?_
                  show Dn p e below s _ _ _ (T17_5.setTop (mkF m 59 #[vr a, vi 1, vi 4, vi y3] [(.int 1)]))
                  exact Dn.ret X17_5 hlk hx hret rfl (Or.inl ⟨rfl, Or.inr (Or.inl rfl), _, rfl⟩) (hb hby d5_59) (by rw [hh17_5]; exact ⟨_, rfl, Or.inl ⟨rfl, ⟨⟨sp34, hc43⟩, ⟨sp34_2, hc43_2⟩, ⟨sp34_3, hc43_3⟩, ⟨sp34_4, hc43_4⟩, trivial⟩⟩, N17_5, rfl⟩) (by decide) (by decide)

theorem pd17 : parseMethodDescriptor "([C)V" = some ⟨[(.array .char)], none⟩ := by decide +kernel
theorem pd18 : parseMethodDescriptor "(Ljava/lang/String;)Z" = some ⟨[(.object "java/lang/String")], some .boolean⟩ := by decide +kernel
theorem ef0_rm0 (m : MethodId) (x0 : Int32) (x1 : Int32) (x2 : Int32) (x3 : Int32) (x4 : Int32) : entryFrame m #[(.int x0), (.int x1), (.int x2), (.int x3), (.int x4)] maxLocals = mkF m 0 #[vi x0, vi x1, vi x2, vi x3, vi x4, .unset, .unset, .unset, .unset, .unset, .unset, .unset] [] := by first | (simp [entryFrame, mkF, argsToLocals, Value.category, maxLocals]; done) | rfl
def Q0 (Z : State) (p0 : Int32) (p1 : Int32) (p2 : Int32) (p3 : Int32) (p4 : Int32) (cs : Int32) (sf : Value) (h0 : Heap) (n0 : Nat) (v : Option Value) (h : Heap) (L : List Loc) : Prop := v = some (.int 1) ∧ Fr n0 L
theorem rm0 (l : Launch) (Z : State) (a0 : Array Value) (hw : ∀ d ∈ tables_1, d.before a0 Z = true) (ws : List Jvm.Cond) (p0 : Int32) (p1 : Int32) (p2 : Int32) (p3 : Int32) (p4 : Int32) (cs : Int32) (sf : Value) (h0 : Heap) (n0 : Nat) (Z0 : n0 ≤ h0.size) (hW : own_W Z h0 n0 cs sf) (hH : Jvm.Lit.constHeld Z "java/lang/String" 7) (hcw : Jvm.Lit.compactW.before a0 Z = true) :
    MetFree l x (head1 (Jvm.Cond.code x code maxLocals ret :: ws) room_1) (fun aa UU => aa = #[(.int p0), (.int p1), (.int p2), (.int p3), (.int p4)] ∧ Z.Warmed39 UU.vm ∧ UU.heap = h0 ∧ IB Z UU.vm []) (fun _ _ _ _ _ => True) (fun _ UU oo UU' => ∃ vv LL, oo = .returned vv ∧ Q0 Z p0 p1 p2 p3 p4 cs sf h0 n0 vv UU'.heap LL ∧ ReturnedEndW UU oo UU' LL 24 1152) := by
  refine MetFree.of_bodySF (plainFor_of_name pn4) hisR ?_
  intro p e s m args below meth c s₁ Bd hml0 hP hK
  obtain ⟨rfl, hZ, hh, hI⟩ := hP
  have hx := Bd.exec
  have hby := Bd.bytes
  have hlk : meth.locks = false := BodyLoose.notSynchronized Bd
  have hret := Bd.returns
  have hml : c.maxLocals = 12 := hml0
  have hown : s.vm.findClass "com/example/ermon/ermon/io/LineIsWordPinLaw" = some m.cls := findClass_of_methodNamed Bd.named
  have X0 : Stand p l e room_1 s m #[(.int p0), (.int p1), (.int p2), (.int p3), (.int p4)] below meth c s₁ [] 0 0 := Stand.of_body Bd
  have e0 : s₁.heap = h0 := by rw [← hh, Bd.state]; rfl
  have N0 := Fr.nil n0
  have r_p0 := rng32 p0
  have r_p1 := rng32 p1
  have r_p2 := rng32 p2
  have r_p3 := rng32 p3
  have r_p4 := rng32 p4
  show Dw p e below s (Q0 Z p0 p1 p2 p3 p4 cs sf h0 n0) 24 1152 (s₁.setTop (entryFrame m #[(.int p0), (.int p1), (.int p2), (.int p3), (.int p4)] maxLocals))
  refine Dw.st (fun _ kk => castTop (ef0_rm0 m p0 p1 p2 p3 p4) kk) ?_
  show Dw p e below s _ _ _ (s₁.setTop (mkF m 0 #[vi p0, vi p1, vi p2, vi p3, vi p4, .unset, .unset, .unset, .unset, .unset, .unset, .unset] []))
  refine Dw.st (fun _ kk => XS.iloadN X0.here hx rfl (hb hby at_0) rfl (X0.ldcInt hx hown (mvT hZ (tw hw 0 rfl)) (g := (mkF m 1 #[vi p0, vi p1, vi p2, vi p3, vi p4, .unset, .unset, .unset, .unset, .unset, .unset, .unset] [(.int p0)])) rfl (hb hby at_1) _ (XS.iand X0.here hx rfl (hb hby at_3) rfl (kk)))) ?_
  show Dw p e below s _ _ _ (s₁.setTop (mkF m 4 #[vi p0, vi p1, vi p2, vi p3, vi p4, .unset, .unset, .unset, .unset, .unset, .unset, .unset] [(.int (p0 &&& (2147483647 : Int32)))]))
  generalize hv3 : ((p0 &&& (2147483647 : Int32)) : Int32) = v3
  have q3 : v3.toInt = p0.toInt % 2147483648 := by have qq := c_mask p0 (2147483647 : Int32) 31 (by decide) (by decide); rw [hv3] at qq; exact qq
  have r3 := rng32 v3
  show Dw p e below s _ _ _ (s₁.setTop (mkF m 4 #[vi p0, vi p1, vi p2, vi p3, vi p4, .unset, .unset, .unset, .unset, .unset, .unset, .unset] [(.int v3)]))
  refine Dw.st (fun _ kk => XS.iconst X0.here hx rfl (hb hby at_4) (iremM X0 hx rfl (hb hby at_5) rfl (by decide) (kk))) ?_
  show Dw p e below s _ _ _ (s₁.setTop (mkF m 6 #[vi p0, vi p1, vi p2, vi p3, vi p4, .unset, .unset, .unset, .unset, .unset, .unset, .unset] [(.int (v3 % (5 : Int32)))]))
  generalize hv5 : ((v3 % (5 : Int32)) : Int32) = v5
  have q5 : (0 ≤ v3.toInt → v5.toInt = v3.toInt % 5) ∧ (v3.toInt < 0 → v5.toInt = -((-v3.toInt) % 5)) := by have qq := c_irem v3 (5 : Int32) 5 rfl; rw [hv5] at qq; exact qq
  have r5 := rng32 v5
  show Dw p e below s _ _ _ (s₁.setTop (mkF m 6 #[vi p0, vi p1, vi p2, vi p3, vi p4, .unset, .unset, .unset, .unset, .unset, .unset, .unset] [(.int v5)]))
  refine Dw.st (fun _ kk => XS.istore X0.here hx rfl (hb hby at_6) rfl (l' := #[vi p0, vi p1, vi p2, vi p3, vi p4, vi v5, .unset, .unset, .unset, .unset, .unset, .unset]) rfl (XS.iloadN X0.here hx rfl (hb hby at_8) rfl (kk))) ?_
  show Dw p e below s _ _ _ (s₁.setTop (mkF m 9 #[vi p0, vi p1, vi p2, vi p3, vi p4, vi v5, .unset, .unset, .unset, .unset, .unset, .unset] [(.int p1)]))
  obtain ⟨_, _, ⟨T9, L9, k9, n9⟩, -, X9, ⟨Lc9, hQ9, l9, y9, z9⟩, st9⟩ := Jvm.LawKit.callS X0 hx (y := on23) hown (mvT hZ (tw hw 1 rfl)) (mvT hZ (tw hw 2 rfl)) (mvT hZ (tw hw 3 rfl)) (mvT hZ (tw hw 4 rfl)) (by decide) (backOf (W := 0) (rmPk l Z a0 hw [] p1  h0 n0 Z0 ) hZ (tw hw 4 rfl) (tw hw 3 rfl) (by decide) (by decide)) (g := (mkF m 9 #[vi p0, vi p1, vi p2, vi p3, vi p4, vi v5, .unset, .unset, .unset, .unset, .unset, .unset] [(.int p1)])) rfl (by rw [hml]; rfl) (argsL := [(.int p1)]) (rest := []) (lenOf pd15 rfl) rfl (by show 2 * 0 + _ ≤ _; exact Nat.le_of_eq rfl) (hb hby at_9) (fun _ _ => ⟨rfl, e0, (by decide : 0 + 0 ≤ _), (by decide : 0 + 0 ≤ _)⟩)
  dsimp only [Pt.U, Pt.locs, Pt.cells, Pt.slots] at X9 l9 y9 z9 st9 hQ9
  subst l9 y9 z9
  obtain ⟨r9, rfl, hr9, Nq9, hh9⟩ := hQ9
  have N9 := Fr.app N0 Nq9
  refine Dw.st st9 ?_
  show Dw p e below s _ _ _ (T9.setTop (mkF m 12 #[vi p0, vi p1, vi p2, vi p3, vi p4, vi v5, .unset, .unset, .unset, .unset, .unset, .unset] [(.int r9)]))
  refine Dw.st (fun _ kk => XS.istore X9.here hx rfl (hb hby at_12) rfl (l' := #[vi p0, vi p1, vi p2, vi p3, vi p4, vi v5, vi r9, .unset, .unset, .unset, .unset, .unset]) rfl (XS.iloadN X9.here hx rfl (hb hby at_14) rfl (kk))) ?_
  show Dw p e below s _ _ _ (T9.setTop (mkF m 15 #[vi p0, vi p1, vi p2, vi p3, vi p4, vi v5, vi r9, .unset, .unset, .unset, .unset, .unset] [(.int p2)]))
  obtain ⟨_, _, ⟨T15, L15, k15, n15⟩, -, X15, ⟨Lc15, hQ15, l15, y15, z15⟩, st15⟩ := Jvm.LawKit.callS X9 hx (y := on23) hown (mvT hZ (tw hw 1 rfl)) (mvT hZ (tw hw 2 rfl)) (mvT hZ (tw hw 3 rfl)) (mvT hZ (tw hw 4 rfl)) (by decide) (backOf (W := 0) (rmPk l Z a0 hw [] p2  h0 n0 Z0 ) hZ (tw hw 4 rfl) (tw hw 3 rfl) (by decide) (by decide)) (g := (mkF m 15 #[vi p0, vi p1, vi p2, vi p3, vi p4, vi v5, vi r9, .unset, .unset, .unset, .unset, .unset] [(.int p2)])) rfl (by rw [hml]; rfl) (argsL := [(.int p2)]) (rest := []) (lenOf pd15 rfl) rfl (by show 2 * 0 + _ ≤ _; exact Nat.le_of_eq rfl) (hb hby at_15) (fun _ _ => ⟨rfl, hh9, (by decide : 0 + 0 ≤ _), (by decide : 0 + 0 ≤ _)⟩)
  dsimp only [Pt.U, Pt.locs, Pt.cells, Pt.slots] at X15 l15 y15 z15 st15 hQ15
  subst l15 y15 z15
  obtain ⟨r15, rfl, hr15, Nq15, hh15⟩ := hQ15
  have N15 := Fr.app N9 Nq15
  refine Dw.st st15 ?_
  show Dw p e below s _ _ _ (T15.setTop (mkF m 18 #[vi p0, vi p1, vi p2, vi p3, vi p4, vi v5, vi r9, .unset, .unset, .unset, .unset, .unset] [(.int r15)]))
  refine Dw.st (fun _ kk => XS.istore X15.here hx rfl (hb hby at_18) rfl (l' := #[vi p0, vi p1, vi p2, vi p3, vi p4, vi v5, vi r9, vi r15, .unset, .unset, .unset, .unset]) rfl (XS.iloadN X15.here hx rfl (hb hby at_20) rfl (kk))) ?_
  show Dw p e below s _ _ _ (T15.setTop (mkF m 21 #[vi p0, vi p1, vi p2, vi p3, vi p4, vi v5, vi r9, vi r15, .unset, .unset, .unset, .unset] [(.int p3)]))
  obtain ⟨_, _, ⟨T21, L21, k21, n21⟩, -, X21, ⟨Lc21, hQ21, l21, y21, z21⟩, st21⟩ := Jvm.LawKit.callS X15 hx (y := on23) hown (mvT hZ (tw hw 1 rfl)) (mvT hZ (tw hw 2 rfl)) (mvT hZ (tw hw 3 rfl)) (mvT hZ (tw hw 4 rfl)) (by decide) (backOf (W := 0) (rmPk l Z a0 hw [] p3  h0 n0 Z0 ) hZ (tw hw 4 rfl) (tw hw 3 rfl) (by decide) (by decide)) (g := (mkF m 21 #[vi p0, vi p1, vi p2, vi p3, vi p4, vi v5, vi r9, vi r15, .unset, .unset, .unset, .unset] [(.int p3)])) rfl (by rw [hml]; rfl) (argsL := [(.int p3)]) (rest := []) (lenOf pd15 rfl) rfl (by show 2 * 0 + _ ≤ _; exact Nat.le_of_eq rfl) (hb hby at_21) (fun _ _ => ⟨rfl, hh15, (by decide : 0 + 0 ≤ _), (by decide : 0 + 0 ≤ _)⟩)
  dsimp only [Pt.U, Pt.locs, Pt.cells, Pt.slots] at X21 l21 y21 z21 st21 hQ21
  subst l21 y21 z21
  obtain ⟨r21, rfl, hr21, Nq21, hh21⟩ := hQ21
  have N21 := Fr.app N15 Nq21
  refine Dw.st st21 ?_
  show Dw p e below s _ _ _ (T21.setTop (mkF m 24 #[vi p0, vi p1, vi p2, vi p3, vi p4, vi v5, vi r9, vi r15, .unset, .unset, .unset, .unset] [(.int r21)]))
  refine Dw.st (fun _ kk => XS.istore X21.here hx rfl (hb hby at_24) rfl (l' := #[vi p0, vi p1, vi p2, vi p3, vi p4, vi v5, vi r9, vi r15, vi r21, .unset, .unset, .unset]) rfl (XS.iload X21.here hx rfl (hb hby at_26) rfl (kk))) ?_
  show Dw p e below s _ _ _ (T21.setTop (mkF m 28 #[vi p0, vi p1, vi p2, vi p3, vi p4, vi v5, vi r9, vi r15, vi r21, .unset, .unset, .unset] [(.int p4)]))
  obtain ⟨_, _, ⟨T28, L28, k28, n28⟩, -, X28, ⟨Lc28, hQ28, l28, y28, z28⟩, st28⟩ := Jvm.LawKit.callS X21 hx (y := on23) hown (mvT hZ (tw hw 1 rfl)) (mvT hZ (tw hw 2 rfl)) (mvT hZ (tw hw 3 rfl)) (mvT hZ (tw hw 4 rfl)) (by decide) (backOf (W := 0) (rmPk l Z a0 hw [] p4  h0 n0 Z0 ) hZ (tw hw 4 rfl) (tw hw 3 rfl) (by decide) (by decide)) (g := (mkF m 28 #[vi p0, vi p1, vi p2, vi p3, vi p4, vi v5, vi r9, vi r15, vi r21, .unset, .unset, .unset] [(.int p4)])) rfl (by rw [hml]; rfl) (argsL := [(.int p4)]) (rest := []) (lenOf pd15 rfl) rfl (by show 2 * 0 + _ ≤ _; exact Nat.le_of_eq rfl) (hb hby at_28) (fun _ _ => ⟨rfl, hh21, (by decide : 0 + 0 ≤ _), (by decide : 0 + 0 ≤ _)⟩)
  dsimp only [Pt.U, Pt.locs, Pt.cells, Pt.slots] at X28 l28 y28 z28 st28 hQ28
  subst l28 y28 z28
  obtain ⟨r28, rfl, hr28, Nq28, hh28⟩ := hQ28
  have N28 := Fr.app N21 Nq28
  refine Dw.st st28 ?_
  show Dw p e below s _ _ _ (T28.setTop (mkF m 31 #[vi p0, vi p1, vi p2, vi p3, vi p4, vi v5, vi r9, vi r15, vi r21, .unset, .unset, .unset] [(.int r28)]))
  refine Dw.st (fun _ kk => XS.istore X28.here hx rfl (hb hby at_31) rfl (l' := #[vi p0, vi p1, vi p2, vi p3, vi p4, vi v5, vi r9, vi r15, vi r21, vi r28, .unset, .unset]) rfl (kk)) ?_
  show Dw p e below s _ _ _ (T28.setTop (mkF m 33 #[vi p0, vi p1, vi p2, vi p3, vi p4, vi v5, vi r9, vi r15, vi r21, vi r28, .unset, .unset] []))
  rcases own_c5 (v := v5) (by omega) (by omega) with hk33 | hk33 | hk33 | hk33 | hk33
  · subst hk33
    show Dw p e below s _ _ _ (T28.setTop (mkF m 33 #[vi p0, vi p1, vi p2, vi p3, vi p4, vi 0, vi r9, vi r15, vi r21, vi r28, .unset, .unset] []))
    refine Dw.st (fun _ kk => XS.iload X28.here hx rfl (hb hby at_33) rfl (kk)) ?_
    show Dw p e below s _ _ _ (T28.setTop (mkF m 35 #[vi p0, vi p1, vi p2, vi p3, vi p4, vi 0, vi r9, vi r15, vi r21, vi r28, .unset, .unset] [(.int 0)]))
    have hc35 : (0 : Int32) = (0 : Int32) := by decide
    refine Dw.st (fun _ kk => XS.ifNo X28.here hx rfl (hb hby at_35) rfl ((if0 _ _).trans (teq hc35).2) (kk)) ?_
    show Dw p e below s _ _ _ (T28.setTop (mkF m 38 #[vi p0, vi p1, vi p2, vi p3, vi p4, vi 0, vi r9, vi r15, vi r21, vi r28, .unset, .unset] []))
    obtain ⟨T38, h38, X38, e38, E38, A38, D38, -, st38⟩ := newO X28 hx hZ hown (tw hw 6 rfl) (tw hw 7 rfl) (tw hw 8 rfl) hh28 (g := (mkF m 38 #[vi p0, vi p1, vi p2, vi p3, vi p4, vi 0, vi r9, vi r15, vi r21, vi r28, .unset, .unset] [])) rfl (hb hby at_38) (by decide) (by decide)
    obtain ⟨b38, g38⟩ : ∃ z, z = h0.size := ⟨_, rfl⟩
    rw [← g38] at A38 D38 st38
    have Wo38 := hW.ext E38
    have gn_b38 : n0 ≤ b38 := Nat.le_trans Z0 (Nat.le_of_eq g38.symm)
    have Z38 : n0 ≤ h38.size := Nat.le_trans Z0 E38.1
    have F_b38_value : Fld Z h38 b38 "java/lang/String" "value" "[B" .null := D38 (Or.inr (tw hw 22 rfl)) (ty := (.array .byte)) (by decide)
    have F_b38_coder : Fld Z h38 b38 "java/lang/String" "coder" "B" (.int 0) := D38 (Or.inr (tw hw 23 rfl)) (ty := .byte) (by decide)
    refine Dw.st st38 ?_
    show Dw p e below s _ _ _ (T38.setTop (mkF m 41 #[vi p0, vi p1, vi p2, vi p3, vi p4, vi 0, vi r9, vi r15, vi r21, vi r28, .unset, .unset] [(.ref b38)]))
    refine Dw.st (fun _ kk => XS.dup X38.here hx rfl (hb hby at_41) rfl rfl (XS.iconst X38.here hx rfl (hb hby at_42) (kk))) ?_
    show Dw p e below s _ _ _ (T38.setTop (mkF m 43 #[vi p0, vi p1, vi p2, vi p3, vi p4, vi 0, vi r9, vi r15, vi r21, vi r28, .unset, .unset] [(.int 0), (.ref b38), (.ref b38)]))
    obtain ⟨T43, h43, k43, X43, e43, E43, A43, st43⟩ := newP X38 hx hZ (tw hw 9 rfl) e38 (g := (mkF m 43 #[vi p0, vi p1, vi p2, vi p3, vi p4, vi 0, vi r9, vi r15, vi r21, vi r28, .unset, .unset] [(.int 0), (.ref b38), (.ref b38)])) rfl (hb hby at_43) rfl (by decide) (cap := 0) (by decide) (by decide) (by decide) (by decide)
    obtain ⟨b43, g43⟩ : ∃ z, z = h38.size := ⟨_, rfl⟩
    rw [← g43] at A43 st43
    have ne_b38_b43 : b38 ≠ b43 := Nat.ne_of_lt (Nat.lt_of_lt_of_le A38.lt (Nat.le_of_eq g43.symm))
    have E_b38_43 := A38.ext E43
    have F_b38_value_43 := F_b38_value.ext E43
    have F_b38_coder_43 := F_b38_coder.ext E43
    have Wo43 := Wo38.ext E43
    have gn_b43 : n0 ≤ b43 := Nat.le_trans Z38 (Nat.le_of_eq g43.symm)
    have Z43 : n0 ≤ h43.size := Nat.le_trans Z38 E43.1
    have V_b43 : Arv Z h43 b43 k43 .char (0 : Int32) [] (.int 0) := (Arv.new A43 (by decide)).pad (pad_rep [] (.int 0) 0)
    refine Dw.st st43 ?_
    show Dw p e below s _ _ _ (T43.setTop (mkF m 45 #[vi p0, vi p1, vi p2, vi p3, vi p4, vi 0, vi r9, vi r15, vi r21, vi r28, .unset, .unset] [(.ref b43), (.ref b38), (.ref b38)]))
    obtain ⟨_, _, ⟨T45, L45, k45, n45⟩, -, X45, hSw, hgr45, ⟨Lc45, hQ45, l45, y45, z45⟩, st45⟩ := X43.specialBackS hx (y := on9) rfl hown (mvT hZ (tw hw 10 rfl)) (mvT hZ (tw hw 11 rfl)) (mvT hZ (tw hw 12 rfl)) (by decide) (own_backS (W := 1) (rmSc0 l Z a0 hw [] b38 b43 cs sf k43 h43 n0 Z43 Wo43 gn_b38 E_b38_43 F_b38_coder_43 F_b38_value_43 hH hcw V_b43) hZ hI (tw hw 12 rfl) (tw hw 8 rfl) (by decide) (by decide)) (g := (mkF m 45 #[vi p0, vi p1, vi p2, vi p3, vi p4, vi 0, vi r9, vi r15, vi r21, vi r28, .unset, .unset] [(.ref b43), (.ref b38), (.ref b38)])) rfl (by rw [hml]; rfl) (Steps.refl _) (a := b38) (argsL := [(.ref b43)]) (rest := [(.ref b38)]) (lenOf pd17 rfl) rfl (by show 2 * 0 + _ ≤ _; exact Nat.le_of_eq rfl) (hb hby at_45) (fun _ _ => ⟨rfl, e43, (by decide : 2 + 2 ≤ _), (by decide : 4 + 4 ≤ _)⟩)
    dsimp only [Pt.U, Pt.locs, Pt.cells, Pt.slots] at X45 l45 y45 z45 st45 hQ45 hSw hgr45
    subst l45 y45 z45
    obtain ⟨rfl, Nq45, K45, S45⟩ := hQ45
    have N45 := Fr.app N28 Nq45
    have hZ := State.Warmed39.trans (t := s) hZ hSw.1
    have hown := (hSw.1.alike.findClass _ _).trans hown
    refine Dw.tr st45 ?_
    refine Dw.of hSw ?_
    have Wz := Wo43.keep K45 (own_k1 gn_b38)
    have Zz : n0 ≤ T45.heap.size := Nat.le_trans Z43 K45.1
    show Dn p e below _ _ _ _ (T45.setTop (mkF m 48 #[vi p0, vi p1, vi p2, vi p3, vi p4, vi 0, vi r9, vi r15, vi r21, vi r28, .unset, .unset] [(.ref b38)]))
    refine Dn.st (fun _ kk => XS.astore X45.here hx rfl (hb hby at_48) rfl rfl (l' := #[vi p0, vi p1, vi p2, vi p3, vi p4, vi 0, vi r9, vi r15, vi r21, vi r28, vr b38, .unset]) rfl (XS.goto X45.here hx rfl (pc0 := 50) (pc' := 178) rfl (hb hby at_50) (by decide) (by decide) (XS.iload X45.here hx rfl (hb hby at_178) rfl (kk)))) ?_
    show Dn p e below _ _ _ _ (T45.setTop (mkF m 180 #[vi p0, vi p1, vi p2, vi p3, vi p4, vi 0, vi r9, vi r15, vi r21, vi r28, vr b38, .unset] [(.int 0)]))
    have hc180 : ¬ ((0 : Int32) < (0 : Int32)) := by decide
    refine Dn.st (fun _ kk => XS.ifYes X45.here hx rfl (pc0 := 180) (pc' := 243) rfl (hb hby at_180) rfl ((if0 _ _).trans (flt hc180).2.2.2) (by decide) (by decide) (XS.iconst X45.here hx rfl (hb hby at_243) (XS.istore X45.here hx rfl (hb hby at_244) rfl (l' := #[vi p0, vi p1, vi p2, vi p3, vi p4, vi 0, vi r9, vi r15, vi r21, vi r28, vr b38, vi 0]) rfl (XS.aload X45.here hx rfl (hb hby at_246) rfl rfl (kk))))) ?_
    show Dn p e below _ _ _ _ (T45.setTop (mkF m 248 #[vi p0, vi p1, vi p2, vi p3, vi p4, vi 0, vi r9, vi r15, vi r21, vi r28, vr b38, vi 0] [(.ref b38)]))
    obtain ⟨_, _, ⟨T248, L248, k248, n248⟩, -, X248, ⟨Lc248, hQ248, l248, y248, z248⟩, st248⟩ := Jvm.LawKit.callS X45 hx (y := on3) hown (mvT hZ (tw hw 28 rfl)) (mvT hZ (tw hw 29 rfl)) (mvT hZ (tw hw 30 rfl)) (mvT hZ (tw hw 31 rfl)) (by decide) (backOf (W := 0) (rmIw0 l Z a0 hw [] b38 cs sf  T45.heap n0 Zz Wz S45 ) hZ (tw hw 31 rfl) (tw hw 30 rfl) (by decide) (by decide)) (g := (mkF m 248 #[vi p0, vi p1, vi p2, vi p3, vi p4, vi 0, vi r9, vi r15, vi r21, vi r28, vr b38, vi 0] [(.ref b38)])) rfl (by rw [hml]; rfl) (argsL := [(.ref b38)]) (rest := []) (lenOf pd18 rfl) rfl (by show 2 * 0 + _ ≤ _; exact Nat.le_of_eq rfl) (hb hby at_248) (fun _ _ => ⟨rfl, rfl, (by decide : 4 + 0 ≤ _), (by decide : 8 + 0 ≤ _)⟩)
    dsimp only [Pt.U, Pt.locs, Pt.cells, Pt.slots] at X248 l248 y248 z248 st248 hQ248
    subst l248 y248 z248
    obtain ⟨rfl, Nq248, hh248⟩ := hQ248
    have N248 := Fr.app N45 Nq248
    refine Dn.st st248 ?_
    show Dn p e below _ _ _ _ (T248.setTop (mkF m 251 #[vi p0, vi p1, vi p2, vi p3, vi p4, vi 0, vi r9, vi r15, vi r21, vi r28, vr b38, vi 0] [(.int 0)]))
    refine Dn.st (fun _ kk => XS.iload X248.here hx rfl (hb hby at_251) rfl (kk)) ?_
    show Dn p e below _ _ _ _ (T248.setTop (mkF m 253 #[vi p0, vi p1, vi p2, vi p3, vi p4, vi 0, vi r9, vi r15, vi r21, vi r28, vr b38, vi 0] [(.int 0), (.int 0)]))
    have hc253 : (0 : Int32) = (0 : Int32) := by decide
    refine Dn.st (fun _ kk => XS.icmpNo X248.here hx rfl (hb hby at_253) rfl (teq hc253).2 (XS.iconst X248.here hx rfl (hb hby at_256) (XS.goto X248.here hx rfl (pc0 := 257) (pc' := 261) rfl (hb hby at_257) (by decide) (by decide) (kk)))) ?_
    show Dn p e below _ _ _ _ (T248.setTop (mkF m 261 #[vi p0, vi p1, vi p2, vi p3, vi p4, vi 0, vi r9, vi r15, vi r21, vi r28, vr b38, vi 0] [(.int 1)]))
    exact Dn.ret X248 hlk hx hret rfl (Or.inl ⟨rfl, Or.inr (Or.inl rfl), _, rfl⟩) (hb hby at_261) (by rw [hh248]; exact ⟨⟨rfl, N248⟩, Nat.le_refl _⟩) (by decide) (by decide)
  · subst hk33
    show Dw p e below s _ _ _ (T28.setTop (mkF m 33 #[vi p0, vi p1, vi p2, vi p3, vi p4, vi 1, vi r9, vi r15, vi r21, vi r28, .unset, .unset] []))
    refine Dw.st (fun _ kk => XS.iload X28.here hx rfl (hb hby at_33) rfl (kk)) ?_
    show Dw p e below s _ _ _ (T28.setTop (mkF m 35 #[vi p0, vi p1, vi p2, vi p3, vi p4, vi 1, vi r9, vi r15, vi r21, vi r28, .unset, .unset] [(.int 1)]))
    refine Dw.ofN ?_
    have hc35 : ¬ ((1 : Int32) = (0 : Int32)) := by decide
    refine Dn.st (fun _ kk => XS.ifYes X28.here hx rfl (pc0 := 35) (pc' := 53) rfl (hb hby at_35) rfl ((if0 _ _).trans (feq hc35).2) (by decide) (by decide) (XS.iload X28.here hx rfl (hb hby at_53) rfl (XS.iconst X28.here hx rfl (hb hby at_55) (kk)))) ?_
    show Dn p e below s _ _ _ (T28.setTop (mkF m 56 #[vi p0, vi p1, vi p2, vi p3, vi p4, vi 1, vi r9, vi r15, vi r21, vi r28, .unset, .unset] [(.int 1), (.int 1)]))
    have hc56 : (1 : Int32) = (1 : Int32) := by decide
    refine Dn.st (fun _ kk => XS.icmpNo X28.here hx rfl (hb hby at_56) rfl (teq hc56).2 (kk)) ?_
    show Dn p e below s _ _ _ (T28.setTop (mkF m 59 #[vi p0, vi p1, vi p2, vi p3, vi p4, vi 1, vi r9, vi r15, vi r21, vi r28, .unset, .unset] []))
    obtain ⟨T59, h59, X59, e59, E59, A59, D59, -, st59⟩ := newO X28 hx hZ hown (tw hw 6 rfl) (tw hw 7 rfl) (tw hw 8 rfl) hh28 (g := (mkF m 59 #[vi p0, vi p1, vi p2, vi p3, vi p4, vi 1, vi r9, vi r15, vi r21, vi r28, .unset, .unset] [])) rfl (hb hby at_59) (by decide) (by decide)
    obtain ⟨b59, g59⟩ : ∃ z, z = h0.size := ⟨_, rfl⟩
    rw [← g59] at A59 D59 st59
    have Wo59 := hW.ext E59
    have gn_b59 : n0 ≤ b59 := Nat.le_trans Z0 (Nat.le_of_eq g59.symm)
    have Z59 : n0 ≤ h59.size := Nat.le_trans Z0 E59.1
    have F_b59_value : Fld Z h59 b59 "java/lang/String" "value" "[B" .null := D59 (Or.inr (tw hw 22 rfl)) (ty := (.array .byte)) (by decide)
    have F_b59_coder : Fld Z h59 b59 "java/lang/String" "coder" "B" (.int 0) := D59 (Or.inr (tw hw 23 rfl)) (ty := .byte) (by decide)
    refine Dn.st st59 ?_
    show Dn p e below s _ _ _ (T59.setTop (mkF m 62 #[vi p0, vi p1, vi p2, vi p3, vi p4, vi 1, vi r9, vi r15, vi r21, vi r28, .unset, .unset] [(.ref b59)]))
    refine Dn.st (fun _ kk => XS.dup X59.here hx rfl (hb hby at_62) rfl rfl (XS.iconst X59.here hx rfl (hb hby at_63) (kk))) ?_
    show Dn p e below s _ _ _ (T59.setTop (mkF m 64 #[vi p0, vi p1, vi p2, vi p3, vi p4, vi 1, vi r9, vi r15, vi r21, vi r28, .unset, .unset] [(.int 1), (.ref b59), (.ref b59)]))
    obtain ⟨T64, h64, k64, X64, e64, E64, A64, st64⟩ := newP X59 hx hZ (tw hw 9 rfl) e59 (g := (mkF m 64 #[vi p0, vi p1, vi p2, vi p3, vi p4, vi 1, vi r9, vi r15, vi r21, vi r28, .unset, .unset] [(.int 1), (.ref b59), (.ref b59)])) rfl (hb hby at_64) rfl (by decide) (cap := 1) (by decide) (by decide) (by decide) (by decide)
    obtain ⟨b64, g64⟩ : ∃ z, z = h59.size := ⟨_, rfl⟩
    rw [← g64] at A64 st64
    have ne_b59_b64 : b59 ≠ b64 := Nat.ne_of_lt (Nat.lt_of_lt_of_le A59.lt (Nat.le_of_eq g64.symm))
    have E_b59_64 := A59.ext E64
    have F_b59_value_64 := F_b59_value.ext E64
    have F_b59_coder_64 := F_b59_coder.ext E64
    have Wo64 := Wo59.ext E64
    have gn_b64 : n0 ≤ b64 := Nat.le_trans Z59 (Nat.le_of_eq g64.symm)
    have Z64 : n0 ≤ h64.size := Nat.le_trans Z59 E64.1
    have V_b64 : Arv Z h64 b64 k64 .char (1 : Int32) [(.int 0)] (.int 0) := (Arv.new A64 (by decide)).pad (pad_rep [] (.int 0) 1)
    refine Dn.st st64 ?_
    show Dn p e below s _ _ _ (T64.setTop (mkF m 66 #[vi p0, vi p1, vi p2, vi p3, vi p4, vi 1, vi r9, vi r15, vi r21, vi r28, .unset, .unset] [(.ref b64), (.ref b59), (.ref b59)]))
    refine Dn.st (fun _ kk => XS.dup X64.here hx rfl (hb hby at_66) rfl rfl (XS.iconst X64.here hx rfl (hb hby at_67) (XS.iload X64.here hx rfl (hb hby at_68) rfl (kk)))) ?_
    show Dn p e below s _ _ _ (T64.setTop (mkF m 70 #[vi p0, vi p1, vi p2, vi p3, vi p4, vi 1, vi r9, vi r15, vi r21, vi r28, .unset, .unset] [(.int r9), (.int 0), (.ref b64), (.ref b64), (.ref b59), (.ref b59)]))
    have Vc_b64_70 := V_b64
    obtain ⟨cl_b64_70, Ar_b64_70, q_b64_70, S_b64_70, N_b64_70, H_b64_70, G_b64_70⟩ := Vc_b64_70
    have hin70 : ¬ ((0 : Int32) < 0 ∨ cl_b64_70.slots.size ≤ ((0 : Int32)).toNatClampNeg) := inb_of S_b64_70 ⟨by decide, by decide⟩
    obtain ⟨T70, h70, X70, e70, W70, st70⟩ := stC X64 hx hZ e64 Ar_b64_70 (j := (0 : Int32)) hin70 (g := (mkF m 70 #[vi p0, vi p1, vi p2, vi p3, vi p4, vi 1, vi r9, vi r15, vi r21, vi r28, .unset, .unset] [(.int r9), (.int 0), (.ref b64), (.ref b64), (.ref b59), (.ref b59)])) rfl rfl (hb hby at_70)
    have Wo70 := Wo64.wr W70 gn_b64
    have E_b59_70 := E_b59_64.wr W70
    have F_b59_value_70 := F_b59_value_64.other W70 (Or.inl ne_b59_b64)
    have F_b59_coder_70 := F_b59_coder_64.other W70 (Or.inl ne_b59_b64)
    have V_b64_70 := Arv.set Ar_b64_70 q_b64_70 S_b64_70 N_b64_70 H_b64_70 G_b64_70 (fits_nar_char _) W70 0 rfl (Nat.le_of_ble_eq_true rfl)
    have N70 := Fr.snoc X70 N28 gn_b64
    have Z70 : n0 ≤ h70.size := Nat.le_trans Z64 (Keep.of_wr W70).1
    refine Dn.st st70 ?_
    show Dn p e below s _ _ _ (T70.setTop (mkF m 71 #[vi p0, vi p1, vi p2, vi p3, vi p4, vi 1, vi r9, vi r15, vi r21, vi r28, .unset, .unset] [(.ref b64), (.ref b59), (.ref b59)]))
    rw [own_c hr9.1 hr9.2] at V_b64_70
    obtain ⟨_, _, ⟨T71, L71, k71, n71⟩, -, X71, ⟨Lc71, hQ71, l71, y71, z71⟩, st71⟩ := X70.specialBack hx (y := on9) rfl hown (mvT hZ (tw hw 10 rfl)) (mvT hZ (tw hw 11 rfl)) (mvT hZ (tw hw 12 rfl)) (by decide) (backOf (W := 1) (rmSc1 l Z a0 hw [] b59 b64 cs sf k64 r9 h70 n0 Z70 Wo70 gn_b59 E_b59_70 F_b59_coder_70 F_b59_value_70 V_b64_70 ne_b59_b64 hr9) hZ (tw hw 12 rfl) (tw hw 8 rfl) (by decide) (by decide)) (g := (mkF m 71 #[vi p0, vi p1, vi p2, vi p3, vi p4, vi 1, vi r9, vi r15, vi r21, vi r28, .unset, .unset] [(.ref b64), (.ref b59), (.ref b59)])) rfl (by rw [hml]; rfl) (Steps.refl _) (a := b59) (argsL := [(.ref b64)]) (rest := [(.ref b59)]) (lenOf pd17 rfl) rfl (by show 2 * 0 + _ ≤ _; exact Nat.le_of_eq rfl) (hb hby at_71) (fun _ _ => ⟨rfl, e70, (by decide : 2 + 2 ≤ _), (by decide : 5 + 3 ≤ _)⟩)
    dsimp only [Pt.U, Pt.locs, Pt.cells, Pt.slots] at X71 l71 y71 z71 st71 hQ71
    subst l71 y71 z71
    obtain ⟨rfl, Nq71, K71, S71⟩ := hQ71
    have N71 := Fr.app N70 Nq71
    refine Dn.tr st71 ?_
    have Wz := Wo70.keep K71 (own_k1 gn_b59)
    have Zz : n0 ≤ T71.heap.size := Nat.le_trans Z70 K71.1
    show Dn p e below s _ _ _ (T71.setTop (mkF m 74 #[vi p0, vi p1, vi p2, vi p3, vi p4, vi 1, vi r9, vi r15, vi r21, vi r28, .unset, .unset] [(.ref b59)]))
    refine Dn.st (fun _ kk => XS.astore X71.here hx rfl (hb hby at_74) rfl rfl (l' := #[vi p0, vi p1, vi p2, vi p3, vi p4, vi 1, vi r9, vi r15, vi r21, vi r28, vr b59, .unset]) rfl (XS.goto X71.here hx rfl (pc0 := 76) (pc' := 178) rfl (hb hby at_76) (by decide) (by decide) (XS.iload X71.here hx rfl (hb hby at_178) rfl (kk)))) ?_
    show Dn p e below s _ _ _ (T71.setTop (mkF m 180 #[vi p0, vi p1, vi p2, vi p3, vi p4, vi 1, vi r9, vi r15, vi r21, vi r28, vr b59, .unset] [(.int 1)]))
    have hc180 : (0 : Int32) < (1 : Int32) := by decide
    refine Dn.st (fun _ kk => XS.ifNo X71.here hx rfl (hb hby at_180) rfl ((if0 _ _).trans (tlt hc180).2.2.2) (XS.iload X71.here hx rfl (hb hby at_183) rfl (XS.iconst X71.here hx rfl (hb hby at_185) (kk)))) ?_
    show Dn p e below s _ _ _ (T71.setTop (mkF m 186 #[vi p0, vi p1, vi p2, vi p3, vi p4, vi 1, vi r9, vi r15, vi r21, vi r28, vr b59, .unset] [(.int 1), (.int 1)]))
    have hc186 : ¬ ((1 : Int32) < (1 : Int32)) := by decide
    refine Dn.st (fun _ kk => XS.icmpNo X71.here hx rfl (hb hby at_186) rfl (flt hc186).1 (XS.iload X71.here hx rfl (hb hby at_189) rfl (kk))) ?_
    show Dn p e below s _ _ _ (T71.setTop (mkF m 191 #[vi p0, vi p1, vi p2, vi p3, vi p4, vi 1, vi r9, vi r15, vi r21, vi r28, vr b59, .unset] [(.int r9)]))
    obtain ⟨_, _, ⟨T191, L191, k191, n191⟩, -, X191, ⟨Lc191, hQ191, l191, y191, z191⟩, st191⟩ := Jvm.LawKit.callS X71 hx (y := on17) hown (mvT hZ (tw hw 58 rfl)) (mvT hZ (tw hw 59 rfl)) (mvT hZ (tw hw 3 rfl)) (mvT hZ (tw hw 60 rfl)) (by decide) (backOf (W := 0) (rmOk l Z a0 hw [] r9  T71.heap n0 Zz ) hZ (tw hw 60 rfl) (tw hw 3 rfl) (by decide) (by decide)) (g := (mkF m 191 #[vi p0, vi p1, vi p2, vi p3, vi p4, vi 1, vi r9, vi r15, vi r21, vi r28, vr b59, .unset] [(.int r9)])) rfl (by rw [hml]; rfl) (argsL := [(.int r9)]) (rest := []) (lenOf pd16 rfl) rfl (by show 2 * 0 + _ ≤ _; exact Nat.le_of_eq rfl) (hb hby at_191) (fun _ _ => ⟨rfl, rfl, (by decide : 4 + 0 ≤ _), (by decide : 8 + 0 ≤ _)⟩)
    dsimp only [Pt.U, Pt.locs, Pt.cells, Pt.slots] at X191 l191 y191 z191 st191 hQ191
    subst l191 y191 z191
    obtain ⟨rr191, rfl, hq191, Nq191, hh191⟩ := hQ191
    have N191 := Fr.app N71 Nq191
    refine Dn.st st191 ?_
    rcases hq191 with ⟨rfl, gk191⟩ | ⟨rfl, gk191⟩
    · show Dn p e below s _ _ _ (T191.setTop (mkF m 194 #[vi p0, vi p1, vi p2, vi p3, vi p4, vi 1, vi r9, vi r15, vi r21, vi r28, vr b59, .unset] [(.int 1)]))
      have hc194 : ¬ ((1 : Int32) = (0 : Int32)) := by decide
      refine Dn.st (fun _ kk => XS.ifNo X191.here hx rfl (hb hby at_194) rfl ((if0 _ _).trans (feq hc194).1) (XS.iload X191.here hx rfl (hb hby at_197) rfl (XS.iconst X191.here hx rfl (hb hby at_199) (kk)))) ?_
      show Dn p e below s _ _ _ (T191.setTop (mkF m 200 #[vi p0, vi p1, vi p2, vi p3, vi p4, vi 1, vi r9, vi r15, vi r21, vi r28, vr b59, .unset] [(.int 2), (.int 1)]))
      have hc200 : (1 : Int32) < (2 : Int32) := by decide
      refine Dn.st (fun _ kk => XS.icmpYes X191.here hx rfl (pc0 := 200) (pc' := 211) rfl (hb hby at_200) rfl (tlt hc200).1 (by decide) (by decide) (XS.iload X191.here hx rfl (hb hby at_211) rfl (XS.iconst X191.here hx rfl (hb hby at_213) (kk)))) ?_
      show Dn p e below s _ _ _ (T191.setTop (mkF m 214 #[vi p0, vi p1, vi p2, vi p3, vi p4, vi 1, vi r9, vi r15, vi r21, vi r28, vr b59, .unset] [(.int 3), (.int 1)]))
      have hc214 : (1 : Int32) < (3 : Int32) := by decide
      refine Dn.st (fun _ kk => XS.icmpYes X191.here hx rfl (pc0 := 214) (pc' := 225) rfl (hb hby at_214) rfl (tlt hc214).1 (by decide) (by decide) (XS.iload X191.here hx rfl (hb hby at_225) rfl (XS.iconst X191.here hx rfl (hb hby at_227) (kk)))) ?_
      show Dn p e below s _ _ _ (T191.setTop (mkF m 228 #[vi p0, vi p1, vi p2, vi p3, vi p4, vi 1, vi r9, vi r15, vi r21, vi r28, vr b59, .unset] [(.int 4), (.int 1)]))
      have hc228 : (1 : Int32) < (4 : Int32) := by decide
      refine Dn.st (fun _ kk => XS.icmpYes X191.here hx rfl (pc0 := 228) (pc' := 239) rfl (hb hby at_228) rfl (tlt hc228).1 (by decide) (by decide) (XS.iconst X191.here hx rfl (hb hby at_239) (XS.goto X191.here hx rfl (pc0 := 240) (pc' := 244) rfl (hb hby at_240) (by decide) (by decide) (XS.istore X191.here hx rfl (hb hby at_244) rfl (l' := #[vi p0, vi p1, vi p2, vi p3, vi p4, vi 1, vi r9, vi r15, vi r21, vi r28, vr b59, vi 1]) rfl (XS.aload X191.here hx rfl (hb hby at_246) rfl rfl (kk)))))) ?_
      show Dn p e below s _ _ _ (T191.setTop (mkF m 248 #[vi p0, vi p1, vi p2, vi p3, vi p4, vi 1, vi r9, vi r15, vi r21, vi r28, vr b59, vi 1] [(.ref b59)]))
      obtain ⟨_, _, ⟨T248, L248, k248, n248⟩, -, X248, ⟨Lc248, hQ248, l248, y248, z248⟩, st248⟩ := Jvm.LawKit.callS X191 hx (y := on3) hown (mvT hZ (tw hw 28 rfl)) (mvT hZ (tw hw 29 rfl)) (mvT hZ (tw hw 30 rfl)) (mvT hZ (tw hw 31 rfl)) (by decide) (backOf (W := 0) (rmIw1 l Z a0 hw [] b59 cs sf r9 T71.heap n0 Zz Wz S71 hr9) hZ (tw hw 31 rfl) (tw hw 30 rfl) (by decide) (by decide)) (g := (mkF m 248 #[vi p0, vi p1, vi p2, vi p3, vi p4, vi 1, vi r9, vi r15, vi r21, vi r28, vr b59, vi 1] [(.ref b59)])) rfl (by rw [hml]; rfl) (argsL := [(.ref b59)]) (rest := []) (lenOf pd18 rfl) rfl (by show 2 * 0 + _ ≤ _; exact Nat.le_of_eq rfl) (hb hby at_248) (fun _ _ => ⟨rfl, hh191, (by decide : 4 + 0 ≤ _), (by decide : 8 + 0 ≤ _)⟩)
      dsimp only [Pt.U, Pt.locs, Pt.cells, Pt.slots] at X248 l248 y248 z248 st248 hQ248
      subst l248 y248 z248
      obtain ⟨rw248, rfl, hq248, Nq248, hh248⟩ := hQ248
      have N248 := Fr.app N191 Nq248
      refine Dn.st st248 ?_
      rcases hq248 with ⟨rfl, gw248⟩ | ⟨rfl, gw248⟩
      · show Dn p e below s _ _ _ (T248.setTop (mkF m 251 #[vi p0, vi p1, vi p2, vi p3, vi p4, vi 1, vi r9, vi r15, vi r21, vi r28, vr b59, vi 1] [(.int 1)]))
        refine Dn.st (fun _ kk => XS.iload X248.here hx rfl (hb hby at_251) rfl (kk)) ?_
        show Dn p e below s _ _ _ (T248.setTop (mkF m 253 #[vi p0, vi p1, vi p2, vi p3, vi p4, vi 1, vi r9, vi r15, vi r21, vi r28, vr b59, vi 1] [(.int 1), (.int 1)]))
        have hc253 : (1 : Int32) = (1 : Int32) := by decide
        refine Dn.st (fun _ kk => XS.icmpNo X248.here hx rfl (hb hby at_253) rfl (teq hc253).2 (XS.iconst X248.here hx rfl (hb hby at_256) (XS.goto X248.here hx rfl (pc0 := 257) (pc' := 261) rfl (hb hby at_257) (by decide) (by decide) (kk)))) ?_
        show Dn p e below s _ _ _ (T248.setTop (mkF m 261 #[vi p0, vi p1, vi p2, vi p3, vi p4, vi 1, vi r9, vi r15, vi r21, vi r28, vr b59, vi 1] [(.int 1)]))
        exact Dn.ret X248 hlk hx hret rfl (Or.inl ⟨rfl, Or.inr (Or.inl rfl), _, rfl⟩) (hb hby at_261) (by rw [hh248]; exact ⟨rfl, N248⟩) (by decide) (by decide)
      · show Dn p e below s _ _ _ (T248.setTop (mkF m 251 #[vi p0, vi p1, vi p2, vi p3, vi p4, vi 1, vi r9, vi r15, vi r21, vi r28, vr b59, vi 1] [(.int 0)]))
        exfalso
        exact gw248 ⟨gk191, trivial⟩
    · show Dn p e below s _ _ _ (T191.setTop (mkF m 194 #[vi p0, vi p1, vi p2, vi p3, vi p4, vi 1, vi r9, vi r15, vi r21, vi r28, vr b59, .unset] [(.int 0)]))
      have hc194 : (0 : Int32) = (0 : Int32) := by decide
      refine Dn.st (fun _ kk => XS.ifYes X191.here hx rfl (pc0 := 194) (pc' := 243) rfl (hb hby at_194) rfl ((if0 _ _).trans (teq hc194).1) (by decide) (by decide) (XS.iconst X191.here hx rfl (hb hby at_243) (XS.istore X191.here hx rfl (hb hby at_244) rfl (l' := #[vi p0, vi p1, vi p2, vi p3, vi p4, vi 1, vi r9, vi r15, vi r21, vi r28, vr b59, vi 0]) rfl (XS.aload X191.here hx rfl (hb hby at_246) rfl rfl (kk))))) ?_
      show Dn p e below s _ _ _ (T191.setTop (mkF m 248 #[vi p0, vi p1, vi p2, vi p3, vi p4, vi 1, vi r9, vi r15, vi r21, vi r28, vr b59, vi 0] [(.ref b59)]))
      obtain ⟨_, _, ⟨T248, L248, k248, n248⟩, -, X248, ⟨Lc248, hQ248, l248, y248, z248⟩, st248⟩ := Jvm.LawKit.callS X191 hx (y := on3) hown (mvT hZ (tw hw 28 rfl)) (mvT hZ (tw hw 29 rfl)) (mvT hZ (tw hw 30 rfl)) (mvT hZ (tw hw 31 rfl)) (by decide) (backOf (W := 0) (rmIw1 l Z a0 hw [] b59 cs sf r9 T71.heap n0 Zz Wz S71 hr9) hZ (tw hw 31 rfl) (tw hw 30 rfl) (by decide) (by decide)) (g := (mkF m 248 #[vi p0, vi p1, vi p2, vi p3, vi p4, vi 1, vi r9, vi r15, vi r21, vi r28, vr b59, vi 0] [(.ref b59)])) rfl (by rw [hml]; rfl) (argsL := [(.ref b59)]) (rest := []) (lenOf pd18 rfl) rfl (by show 2 * 0 + _ ≤ _; exact Nat.le_of_eq rfl) (hb hby at_248) (fun _ _ => ⟨rfl, hh191, (by decide : 4 + 0 ≤ _), (by decide : 8 + 0 ≤ _)⟩)
      dsimp only [Pt.U, Pt.locs, Pt.cells, Pt.slots] at X248 l248 y248 z248 st248 hQ248
      subst l248 y248 z248
      obtain ⟨rw248, rfl, hq248, Nq248, hh248⟩ := hQ248
      have N248 := Fr.app N191 Nq248
      refine Dn.st st248 ?_
      rcases hq248 with ⟨rfl, gw248⟩ | ⟨rfl, gw248⟩
      · show Dn p e below s _ _ _ (T248.setTop (mkF m 251 #[vi p0, vi p1, vi p2, vi p3, vi p4, vi 1, vi r9, vi r15, vi r21, vi r28, vr b59, vi 0] [(.int 1)]))
        exfalso
        exact gk191 gw248.1
      · show Dn p e below s _ _ _ (T248.setTop (mkF m 251 #[vi p0, vi p1, vi p2, vi p3, vi p4, vi 1, vi r9, vi r15, vi r21, vi r28, vr b59, vi 0] [(.int 0)]))
        refine Dn.st (fun _ kk => XS.iload X248.here hx rfl (hb hby at_251) rfl (kk)) ?_
        show Dn p e below s _ _ _ (T248.setTop (mkF m 253 #[vi p0, vi p1, vi p2, vi p3, vi p4, vi 1, vi r9, vi r15, vi r21, vi r28, vr b59, vi 0] [(.int 0), (.int 0)]))
        have hc253 : (0 : Int32) = (0 : Int32) := by decide
        refine Dn.st (fun _ kk => XS.icmpNo X248.here hx rfl (hb hby at_253) rfl (teq hc253).2 (XS.iconst X248.here hx rfl (hb hby at_256) (XS.goto X248.here hx rfl (pc0 := 257) (pc' := 261) rfl (hb hby at_257) (by decide) (by decide) (kk)))) ?_
        show Dn p e below s _ _ _ (T248.setTop (mkF m 261 #[vi p0, vi p1, vi p2, vi p3, vi p4, vi 1, vi r9, vi r15, vi r21, vi r28, vr b59, vi 0] [(.int 1)]))
        exact Dn.ret X248 hlk hx hret rfl (Or.inl ⟨rfl, Or.inr (Or.inl rfl), _, rfl⟩) (hb hby at_261) (by rw [hh248]; exact ⟨rfl, N248⟩) (by decide) (by decide)
  · subst hk33
    show Dw p e below s _ _ _ (T28.setTop (mkF m 33 #[vi p0, vi p1, vi p2, vi p3, vi p4, vi 2, vi r9, vi r15, vi r21, vi r28, .unset, .unset] []))
    refine Dw.st (fun _ kk => XS.iload X28.here hx rfl (hb hby at_33) rfl (kk)) ?_
    show Dw p e below s _ _ _ (T28.setTop (mkF m 35 #[vi p0, vi p1, vi p2, vi p3, vi p4, vi 2, vi r9, vi r15, vi r21, vi r28, .unset, .unset] [(.int 2)]))
    refine Dw.ofN ?_
    have hc35 : ¬ ((2 : Int32) = (0 : Int32)) := by decide
    refine Dn.st (fun _ kk => XS.ifYes X28.here hx rfl (pc0 := 35) (pc' := 53) rfl (hb hby at_35) rfl ((if0 _ _).trans (feq hc35).2) (by decide) (by decide) (XS.iload X28.here hx rfl (hb hby at_53) rfl (XS.iconst X28.here hx rfl (hb hby at_55) (kk)))) ?_
    show Dn p e below s _ _ _ (T28.setTop (mkF m 56 #[vi p0, vi p1, vi p2, vi p3, vi p4, vi 2, vi r9, vi r15, vi r21, vi r28, .unset, .unset] [(.int 1), (.int 2)]))
    have hc56 : ¬ ((2 : Int32) = (1 : Int32)) := by decide
    refine Dn.st (fun _ kk => XS.icmpYes X28.here hx rfl (pc0 := 56) (pc' := 79) rfl (hb hby at_56) rfl (feq hc56).2 (by decide) (by decide) (XS.iload X28.here hx rfl (hb hby at_79) rfl (XS.iconst X28.here hx rfl (hb hby at_81) (kk)))) ?_
    show Dn p e below s _ _ _ (T28.setTop (mkF m 82 #[vi p0, vi p1, vi p2, vi p3, vi p4, vi 2, vi r9, vi r15, vi r21, vi r28, .unset, .unset] [(.int 2), (.int 2)]))
    have hc82 : (2 : Int32) = (2 : Int32) := by decide
    refine Dn.st (fun _ kk => XS.icmpNo X28.here hx rfl (hb hby at_82) rfl (teq hc82).2 (kk)) ?_
    show Dn p e below s _ _ _ (T28.setTop (mkF m 85 #[vi p0, vi p1, vi p2, vi p3, vi p4, vi 2, vi r9, vi r15, vi r21, vi r28, .unset, .unset] []))
    obtain ⟨T85, h85, X85, e85, E85, A85, D85, -, st85⟩ := newO X28 hx hZ hown (tw hw 6 rfl) (tw hw 7 rfl) (tw hw 8 rfl) hh28 (g := (mkF m 85 #[vi p0, vi p1, vi p2, vi p3, vi p4, vi 2, vi r9, vi r15, vi r21, vi r28, .unset, .unset] [])) rfl (hb hby at_85) (by decide) (by decide)
    obtain ⟨b85, g85⟩ : ∃ z, z = h0.size := ⟨_, rfl⟩
    rw [← g85] at A85 D85 st85
    have Wo85 := hW.ext E85
    have gn_b85 : n0 ≤ b85 := Nat.le_trans Z0 (Nat.le_of_eq g85.symm)
    have Z85 : n0 ≤ h85.size := Nat.le_trans Z0 E85.1
    have F_b85_value : Fld Z h85 b85 "java/lang/String" "value" "[B" .null := D85 (Or.inr (tw hw 22 rfl)) (ty := (.array .byte)) (by decide)
    have F_b85_coder : Fld Z h85 b85 "java/lang/String" "coder" "B" (.int 0) := D85 (Or.inr (tw hw 23 rfl)) (ty := .byte) (by decide)
    refine Dn.st st85 ?_
    show Dn p e below s _ _ _ (T85.setTop (mkF m 88 #[vi p0, vi p1, vi p2, vi p3, vi p4, vi 2, vi r9, vi r15, vi r21, vi r28, .unset, .unset] [(.ref b85)]))
    refine Dn.st (fun _ kk => XS.dup X85.here hx rfl (hb hby at_88) rfl rfl (XS.iconst X85.here hx rfl (hb hby at_89) (kk))) ?_
    show Dn p e below s _ _ _ (T85.setTop (mkF m 90 #[vi p0, vi p1, vi p2, vi p3, vi p4, vi 2, vi r9, vi r15, vi r21, vi r28, .unset, .unset] [(.int 2), (.ref b85), (.ref b85)]))
    obtain ⟨T90, h90, k90, X90, e90, E90, A90, st90⟩ := newP X85 hx hZ (tw hw 9 rfl) e85 (g := (mkF m 90 #[vi p0, vi p1, vi p2, vi p3, vi p4, vi 2, vi r9, vi r15, vi r21, vi r28, .unset, .unset] [(.int 2), (.ref b85), (.ref b85)])) rfl (hb hby at_90) rfl (by decide) (cap := 2) (by decide) (by decide) (by decide) (by decide)
    obtain ⟨b90, g90⟩ : ∃ z, z = h85.size := ⟨_, rfl⟩
    rw [← g90] at A90 st90
    have ne_b85_b90 : b85 ≠ b90 := Nat.ne_of_lt (Nat.lt_of_lt_of_le A85.lt (Nat.le_of_eq g90.symm))
    have E_b85_90 := A85.ext E90
    have F_b85_value_90 := F_b85_value.ext E90
    have F_b85_coder_90 := F_b85_coder.ext E90
    have Wo90 := Wo85.ext E90
    have gn_b90 : n0 ≤ b90 := Nat.le_trans Z85 (Nat.le_of_eq g90.symm)
    have Z90 : n0 ≤ h90.size := Nat.le_trans Z85 E90.1
    have V_b90 : Arv Z h90 b90 k90 .char (2 : Int32) [(.int 0), (.int 0)] (.int 0) := (Arv.new A90 (by decide)).pad (pad_rep [] (.int 0) 2)
    refine Dn.st st90 ?_
    show Dn p e below s _ _ _ (T90.setTop (mkF m 92 #[vi p0, vi p1, vi p2, vi p3, vi p4, vi 2, vi r9, vi r15, vi r21, vi r28, .unset, .unset] [(.ref b90), (.ref b85), (.ref b85)]))
    refine Dn.st (fun _ kk => XS.dup X90.here hx rfl (hb hby at_92) rfl rfl (XS.iconst X90.here hx rfl (hb hby at_93) (XS.iload X90.here hx rfl (hb hby at_94) rfl (kk)))) ?_
    show Dn p e below s _ _ _ (T90.setTop (mkF m 96 #[vi p0, vi p1, vi p2, vi p3, vi p4, vi 2, vi r9, vi r15, vi r21, vi r28, .unset, .unset] [(.int r9), (.int 0), (.ref b90), (.ref b90), (.ref b85), (.ref b85)]))
    have Vc_b90_96 := V_b90
    obtain ⟨cl_b90_96, Ar_b90_96, q_b90_96, S_b90_96, N_b90_96, H_b90_96, G_b90_96⟩ := Vc_b90_96
    have hin96 : ¬ ((0 : Int32) < 0 ∨ cl_b90_96.slots.size ≤ ((0 : Int32)).toNatClampNeg) := inb_of S_b90_96 ⟨by decide, by decide⟩
    obtain ⟨T96, h96, X96, e96, W96, st96⟩ := stC X90 hx hZ e90 Ar_b90_96 (j := (0 : Int32)) hin96 (g := (mkF m 96 #[vi p0, vi p1, vi p2, vi p3, vi p4, vi 2, vi r9, vi r15, vi r21, vi r28, .unset, .unset] [(.int r9), (.int 0), (.ref b90), (.ref b90), (.ref b85), (.ref b85)])) rfl rfl (hb hby at_96)
    have Wo96 := Wo90.wr W96 gn_b90
    have E_b85_96 := E_b85_90.wr W96
    have F_b85_value_96 := F_b85_value_90.other W96 (Or.inl ne_b85_b90)
    have F_b85_coder_96 := F_b85_coder_90.other W96 (Or.inl ne_b85_b90)
    have V_b90_96 := Arv.set Ar_b90_96 q_b90_96 S_b90_96 N_b90_96 H_b90_96 G_b90_96 (fits_nar_char _) W96 0 rfl (Nat.le_of_ble_eq_true rfl)
    have N96 := Fr.snoc X96 N28 gn_b90
    have Z96 : n0 ≤ h96.size := Nat.le_trans Z90 (Keep.of_wr W96).1
    refine Dn.st st96 ?_
    show Dn p e below s _ _ _ (T96.setTop (mkF m 97 #[vi p0, vi p1, vi p2, vi p3, vi p4, vi 2, vi r9, vi r15, vi r21, vi r28, .unset, .unset] [(.ref b90), (.ref b85), (.ref b85)]))
    refine Dn.st (fun _ kk => XS.dup X96.here hx rfl (hb hby at_97) rfl rfl (XS.iconst X96.here hx rfl (hb hby at_98) (XS.iload X96.here hx rfl (hb hby at_99) rfl (kk)))) ?_
    show Dn p e below s _ _ _ (T96.setTop (mkF m 101 #[vi p0, vi p1, vi p2, vi p3, vi p4, vi 2, vi r9, vi r15, vi r21, vi r28, .unset, .unset] [(.int r15), (.int 1), (.ref b90), (.ref b90), (.ref b85), (.ref b85)]))
    have Vc_b90_101 := V_b90_96
    obtain ⟨cl_b90_101, Ar_b90_101, q_b90_101, S_b90_101, N_b90_101, H_b90_101, G_b90_101⟩ := Vc_b90_101
    have hin101 : ¬ ((1 : Int32) < 0 ∨ cl_b90_101.slots.size ≤ ((1 : Int32)).toNatClampNeg) := inb_of S_b90_101 ⟨by decide, by decide⟩
    obtain ⟨T101, h101, X101, e101, W101, st101⟩ := stC X96 hx hZ e96 Ar_b90_101 (j := (1 : Int32)) hin101 (g := (mkF m 101 #[vi p0, vi p1, vi p2, vi p3, vi p4, vi 2, vi r9, vi r15, vi r21, vi r28, .unset, .unset] [(.int r15), (.int 1), (.ref b90), (.ref b90), (.ref b85), (.ref b85)])) rfl rfl (hb hby at_101)
    have Wo101 := Wo96.wr W101 gn_b90
    have E_b85_101 := E_b85_96.wr W101
    have F_b85_value_101 := F_b85_value_96.other W101 (Or.inl ne_b85_b90)
    have F_b85_coder_101 := F_b85_coder_96.other W101 (Or.inl ne_b85_b90)
    have V_b90_101 := Arv.set Ar_b90_101 q_b90_101 S_b90_101 N_b90_101 H_b90_101 G_b90_101 (fits_nar_char _) W101 1 rfl (Nat.le_of_ble_eq_true rfl)
    have N101 := Fr.snoc X101 N96 gn_b90
    have Z101 : n0 ≤ h101.size := Nat.le_trans Z96 (Keep.of_wr W101).1
    refine Dn.st st101 ?_
    show Dn p e below s _ _ _ (T101.setTop (mkF m 102 #[vi p0, vi p1, vi p2, vi p3, vi p4, vi 2, vi r9, vi r15, vi r21, vi r28, .unset, .unset] [(.ref b90), (.ref b85), (.ref b85)]))
    rw [own_c hr9.1 hr9.2, own_c hr15.1 hr15.2] at V_b90_101
    obtain ⟨_, _, ⟨T102, L102, k102, n102⟩, -, X102, ⟨Lc102, hQ102, l102, y102, z102⟩, st102⟩ := X101.specialBack hx (y := on9) rfl hown (mvT hZ (tw hw 10 rfl)) (mvT hZ (tw hw 11 rfl)) (mvT hZ (tw hw 12 rfl)) (by decide) (backOf (W := 1) (rmSc2 l Z a0 hw [] b85 b90 cs sf k90 r9 r15 h101 n0 Z101 Wo101 gn_b85 E_b85_101 F_b85_coder_101 F_b85_value_101 V_b90_101 ne_b85_b90 hr9 hr15) hZ (tw hw 12 rfl) (tw hw 8 rfl) (by decide) (by decide)) (g := (mkF m 102 #[vi p0, vi p1, vi p2, vi p3, vi p4, vi 2, vi r9, vi r15, vi r21, vi r28, .unset, .unset] [(.ref b90), (.ref b85), (.ref b85)])) rfl (by rw [hml]; rfl) (Steps.refl _) (a := b85) (argsL := [(.ref b90)]) (rest := [(.ref b85)]) (lenOf pd17 rfl) rfl (by show 2 * 0 + _ ≤ _; exact Nat.le_of_eq rfl) (hb hby at_102) (fun _ _ => ⟨rfl, e101, (by decide : 2 + 2 ≤ _), (by decide : 6 + 6 ≤ _)⟩)
    dsimp only [Pt.U, Pt.locs, Pt.cells, Pt.slots] at X102 l102 y102 z102 st102 hQ102
    subst l102 y102 z102
    obtain ⟨rfl, Nq102, K102, S102⟩ := hQ102
    have N102 := Fr.app N101 Nq102
    refine Dn.tr st102 ?_
    have Wz := Wo101.keep K102 (own_k1 gn_b85)
    have Zz : n0 ≤ T102.heap.size := Nat.le_trans Z101 K102.1
    show Dn p e below s _ _ _ (T102.setTop (mkF m 105 #[vi p0, vi p1, vi p2, vi p3, vi p4, vi 2, vi r9, vi r15, vi r21, vi r28, .unset, .unset] [(.ref b85)]))
    refine Dn.st (fun _ kk => XS.astore X102.here hx rfl (hb hby at_105) rfl rfl (l' := #[vi p0, vi p1, vi p2, vi p3, vi p4, vi 2, vi r9, vi r15, vi r21, vi r28, vr b85, .unset]) rfl (XS.goto X102.here hx rfl (pc0 := 107) (pc' := 178) rfl (hb hby at_107) (by decide) (by decide) (XS.iload X102.here hx rfl (hb hby at_178) rfl (kk)))) ?_
    show Dn p e below s _ _ _ (T102.setTop (mkF m 180 #[vi p0, vi p1, vi p2, vi p3, vi p4, vi 2, vi r9, vi r15, vi r21, vi r28, vr b85, .unset] [(.int 2)]))
    have hc180 : (0 : Int32) < (2 : Int32) := by decide
    refine Dn.st (fun _ kk => XS.ifNo X102.here hx rfl (hb hby at_180) rfl ((if0 _ _).trans (tlt hc180).2.2.2) (XS.iload X102.here hx rfl (hb hby at_183) rfl (XS.iconst X102.here hx rfl (hb hby at_185) (kk)))) ?_
    show Dn p e below s _ _ _ (T102.setTop (mkF m 186 #[vi p0, vi p1, vi p2, vi p3, vi p4, vi 2, vi r9, vi r15, vi r21, vi r28, vr b85, .unset] [(.int 1), (.int 2)]))
    have hc186 : ¬ ((2 : Int32) < (1 : Int32)) := by decide
    refine Dn.st (fun _ kk => XS.icmpNo X102.here hx rfl (hb hby at_186) rfl (flt hc186).1 (XS.iload X102.here hx rfl (hb hby at_189) rfl (kk))) ?_
    show Dn p e below s _ _ _ (T102.setTop (mkF m 191 #[vi p0, vi p1, vi p2, vi p3, vi p4, vi 2, vi r9, vi r15, vi r21, vi r28, vr b85, .unset] [(.int r9)]))
    obtain ⟨_, _, ⟨T191, L191, k191, n191⟩, -, X191, ⟨Lc191, hQ191, l191, y191, z191⟩, st191⟩ := Jvm.LawKit.callS X102 hx (y := on17) hown (mvT hZ (tw hw 58 rfl)) (mvT hZ (tw hw 59 rfl)) (mvT hZ (tw hw 3 rfl)) (mvT hZ (tw hw 60 rfl)) (by decide) (backOf (W := 0) (rmOk l Z a0 hw [] r9  T102.heap n0 Zz ) hZ (tw hw 60 rfl) (tw hw 3 rfl) (by decide) (by decide)) (g := (mkF m 191 #[vi p0, vi p1, vi p2, vi p3, vi p4, vi 2, vi r9, vi r15, vi r21, vi r28, vr b85, .unset] [(.int r9)])) rfl (by rw [hml]; rfl) (argsL := [(.int r9)]) (rest := []) (lenOf pd16 rfl) rfl (by show 2 * 0 + _ ≤ _; exact Nat.le_of_eq rfl) (hb hby at_191) (fun _ _ => ⟨rfl, rfl, (by decide : 4 + 0 ≤ _), (by decide : 12 + 0 ≤ _)⟩)
    dsimp only [Pt.U, Pt.locs, Pt.cells, Pt.slots] at X191 l191 y191 z191 st191 hQ191
    subst l191 y191 z191
    obtain ⟨rr191, rfl, hq191, Nq191, hh191⟩ := hQ191
    have N191 := Fr.app N102 Nq191
    refine Dn.st st191 ?_
    rcases hq191 with ⟨rfl, gk191⟩ | ⟨rfl, gk191⟩
    · show Dn p e below s _ _ _ (T191.setTop (mkF m 194 #[vi p0, vi p1, vi p2, vi p3, vi p4, vi 2, vi r9, vi r15, vi r21, vi r28, vr b85, .unset] [(.int 1)]))
      have hc194 : ¬ ((1 : Int32) = (0 : Int32)) := by decide
      refine Dn.st (fun _ kk => XS.ifNo X191.here hx rfl (hb hby at_194) rfl ((if0 _ _).trans (feq hc194).1) (XS.iload X191.here hx rfl (hb hby at_197) rfl (XS.iconst X191.here hx rfl (hb hby at_199) (kk)))) ?_
      show Dn p e below s _ _ _ (T191.setTop (mkF m 200 #[vi p0, vi p1, vi p2, vi p3, vi p4, vi 2, vi r9, vi r15, vi r21, vi r28, vr b85, .unset] [(.int 2), (.int 2)]))
      have hc200 : ¬ ((2 : Int32) < (2 : Int32)) := by decide
      refine Dn.st (fun _ kk => XS.icmpNo X191.here hx rfl (hb hby at_200) rfl (flt hc200).1 (XS.iload X191.here hx rfl (hb hby at_203) rfl (kk))) ?_
      show Dn p e below s _ _ _ (T191.setTop (mkF m 205 #[vi p0, vi p1, vi p2, vi p3, vi p4, vi 2, vi r9, vi r15, vi r21, vi r28, vr b85, .unset] [(.int r15)]))
      obtain ⟨_, _, ⟨T205, L205, k205, n205⟩, -, X205, ⟨Lc205, hQ205, l205, y205, z205⟩, st205⟩ := Jvm.LawKit.callS X191 hx (y := on17) hown (mvT hZ (tw hw 58 rfl)) (mvT hZ (tw hw 59 rfl)) (mvT hZ (tw hw 3 rfl)) (mvT hZ (tw hw 60 rfl)) (by decide) (backOf (W := 0) (rmOk l Z a0 hw [] r15  T102.heap n0 Zz ) hZ (tw hw 60 rfl) (tw hw 3 rfl) (by decide) (by decide)) (g := (mkF m 205 #[vi p0, vi p1, vi p2, vi p3, vi p4, vi 2, vi r9, vi r15, vi r21, vi r28, vr b85, .unset] [(.int r15)])) rfl (by rw [hml]; rfl) (argsL := [(.int r15)]) (rest := []) (lenOf pd16 rfl) rfl (by show 2 * 0 + _ ≤ _; exact Nat.le_of_eq rfl) (hb hby at_205) (fun _ _ => ⟨rfl, hh191, (by decide : 4 + 0 ≤ _), (by decide : 12 + 0 ≤ _)⟩)
      dsimp only [Pt.U, Pt.locs, Pt.cells, Pt.slots] at X205 l205 y205 z205 st205 hQ205
      subst l205 y205 z205
      obtain ⟨rr205, rfl, hq205, Nq205, hh205⟩ := hQ205
      have N205 := Fr.app N191 Nq205
      refine Dn.st st205 ?_
      rcases hq205 with ⟨rfl, gk205⟩ | ⟨rfl, gk205⟩
      · show Dn p e below s _ _ _ (T205.setTop (mkF m 208 #[vi p0, vi p1, vi p2, vi p3, vi p4, vi 2, vi r9, vi r15, vi r21, vi r28, vr b85, .unset] [(.int 1)]))
        have hc208 : ¬ ((1 : Int32) = (0 : Int32)) := by decide
        refine Dn.st (fun _ kk => XS.ifNo X205.here hx rfl (hb hby at_208) rfl ((if0 _ _).trans (feq hc208).1) (XS.iload X205.here hx rfl (hb hby at_211) rfl (XS.iconst X205.here hx rfl (hb hby at_213) (kk)))) ?_
        show Dn p e below s _ _ _ (T205.setTop (mkF m 214 #[vi p0, vi p1, vi p2, vi p3, vi p4, vi 2, vi r9, vi r15, vi r21, vi r28, vr b85, .unset] [(.int 3), (.int 2)]))
        have hc214 : (2 : Int32) < (3 : Int32) := by decide
        refine Dn.st (fun _ kk => XS.icmpYes X205.here hx rfl (pc0 := 214) (pc' := 225) rfl (hb hby at_214) rfl (tlt hc214).1 (by decide) (by decide) (XS.iload X205.here hx rfl (hb hby at_225) rfl (XS.iconst X205.here hx rfl (hb hby at_227) (kk)))) ?_
        show Dn p e below s _ _ _ (T205.setTop (mkF m 228 #[vi p0, vi p1, vi p2, vi p3, vi p4, vi 2, vi r9, vi r15, vi r21, vi r28, vr b85, .unset] [(.int 4), (.int 2)]))
        have hc228 : (2 : Int32) < (4 : Int32) := by decide
        refine Dn.st (fun _ kk => XS.icmpYes X205.here hx rfl (pc0 := 228) (pc' := 239) rfl (hb hby at_228) rfl (tlt hc228).1 (by decide) (by decide) (XS.iconst X205.here hx rfl (hb hby at_239) (XS.goto X205.here hx rfl (pc0 := 240) (pc' := 244) rfl (hb hby at_240) (by decide) (by decide) (XS.istore X205.here hx rfl (hb hby at_244) rfl (l' := #[vi p0, vi p1, vi p2, vi p3, vi p4, vi 2, vi r9, vi r15, vi r21, vi r28, vr b85, vi 1]) rfl (XS.aload X205.here hx rfl (hb hby at_246) rfl rfl (kk)))))) ?_
        show Dn p e below s _ _ _ (T205.setTop (mkF m 248 #[vi p0, vi p1, vi p2, vi p3, vi p4, vi 2, vi r9, vi r15, vi r21, vi r28, vr b85, vi 1] [(.ref b85)]))
        obtain ⟨_, _, ⟨T248, L248, k248, n248⟩, -, X248, ⟨Lc248, hQ248, l248, y248, z248⟩, st248⟩ := Jvm.LawKit.callS X205 hx (y := on3) hown (mvT hZ (tw hw 28 rfl)) (mvT hZ (tw hw 29 rfl)) (mvT hZ (tw hw 30 rfl)) (mvT hZ (tw hw 31 rfl)) (by decide) (backOf (W := 0) (rmIw2 l Z a0 hw [] b85 cs sf r9 r15 T102.heap n0 Zz Wz S102 hr9 hr15) hZ (tw hw 31 rfl) (tw hw 30 rfl) (by decide) (by decide)) (g := (mkF m 248 #[vi p0, vi p1, vi p2, vi p3, vi p4, vi 2, vi r9, vi r15, vi r21, vi r28, vr b85, vi 1] [(.ref b85)])) rfl (by rw [hml]; rfl) (argsL := [(.ref b85)]) (rest := []) (lenOf pd18 rfl) rfl (by show 2 * 0 + _ ≤ _; exact Nat.le_of_eq rfl) (hb hby at_248) (fun _ _ => ⟨rfl, hh205, (by decide : 4 + 0 ≤ _), (by decide : 12 + 0 ≤ _)⟩)
        dsimp only [Pt.U, Pt.locs, Pt.cells, Pt.slots] at X248 l248 y248 z248 st248 hQ248
        subst l248 y248 z248
        obtain ⟨rw248, rfl, hq248, Nq248, hh248⟩ := hQ248
        have N248 := Fr.app N205 Nq248
        refine Dn.st st248 ?_
        rcases hq248 with ⟨rfl, gw248⟩ | ⟨rfl, gw248⟩
        · show Dn p e below s _ _ _ (T248.setTop (mkF m 251 #[vi p0, vi p1, vi p2, vi p3, vi p4, vi 2, vi r9, vi r15, vi r21, vi r28, vr b85, vi 1] [(.int 1)]))
          refine Dn.st (fun _ kk => XS.iload X248.here hx rfl (hb hby at_251) rfl (kk)) ?_
          show Dn p e below s _ _ _ (T248.setTop (mkF m 253 #[vi p0, vi p1, vi p2, vi p3, vi p4, vi 2, vi r9, vi r15, vi r21, vi r28, vr b85, vi 1] [(.int 1), (.int 1)]))
          have hc253 : (1 : Int32) = (1 : Int32) := by decide
          refine Dn.st (fun _ kk => XS.icmpNo X248.here hx rfl (hb hby at_253) rfl (teq hc253).2 (XS.iconst X248.here hx rfl (hb hby at_256) (XS.goto X248.here hx rfl (pc0 := 257) (pc' := 261) rfl (hb hby at_257) (by decide) (by decide) (kk)))) ?_
          show Dn p e below s _ _ _ (T248.setTop (mkF m 261 #[vi p0, vi p1, vi p2, vi p3, vi p4, vi 2, vi r9, vi r15, vi r21, vi r28, vr b85, vi 1] [(.int 1)]))
          exact Dn.ret X248 hlk hx hret rfl (Or.inl ⟨rfl, Or.inr (Or.inl rfl), _, rfl⟩) (hb hby at_261) (by rw [hh248]; exact ⟨rfl, N248⟩) (by decide) (by decide)
        · show Dn p e below s _ _ _ (T248.setTop (mkF m 251 #[vi p0, vi p1, vi p2, vi p3, vi p4, vi 2, vi r9, vi r15, vi r21, vi r28, vr b85, vi 1] [(.int 0)]))
          exfalso
          exact gw248 ⟨gk191, gk205, trivial⟩
      · show Dn p e below s _ _ _ (T205.setTop (mkF m 208 #[vi p0, vi p1, vi p2, vi p3, vi p4, vi 2, vi r9, vi r15, vi r21, vi r28, vr b85, .unset] [(.int 0)]))
        have hc208 : (0 : Int32) = (0 : Int32) := by decide
        refine Dn.st (fun _ kk => XS.ifYes X205.here hx rfl (pc0 := 208) (pc' := 243) rfl (hb hby at_208) rfl ((if0 _ _).trans (teq hc208).1) (by decide) (by decide) (XS.iconst X205.here hx rfl (hb hby at_243) (XS.istore X205.here hx rfl (hb hby at_244) rfl (l' := #[vi p0, vi p1, vi p2, vi p3, vi p4, vi 2, vi r9, vi r15, vi r21, vi r28, vr b85, vi 0]) rfl (XS.aload X205.here hx rfl (hb hby at_246) rfl rfl (kk))))) ?_
        show Dn p e below s _ _ _ (T205.setTop (mkF m 248 #[vi p0, vi p1, vi p2, vi p3, vi p4, vi 2, vi r9, vi r15, vi r21, vi r28, vr b85, vi 0] [(.ref b85)]))
        obtain ⟨_, _, ⟨T248, L248, k248, n248⟩, -, X248, ⟨Lc248, hQ248, l248, y248, z248⟩, st248⟩ := Jvm.LawKit.callS X205 hx (y := on3) hown (mvT hZ (tw hw 28 rfl)) (mvT hZ (tw hw 29 rfl)) (mvT hZ (tw hw 30 rfl)) (mvT hZ (tw hw 31 rfl)) (by decide) (backOf (W := 0) (rmIw2 l Z a0 hw [] b85 cs sf r9 r15 T102.heap n0 Zz Wz S102 hr9 hr15) hZ (tw hw 31 rfl) (tw hw 30 rfl) (by decide) (by decide)) (g := (mkF m 248 #[vi p0, vi p1, vi p2, vi p3, vi p4, vi 2, vi r9, vi r15, vi r21, vi r28, vr b85, vi 0] [(.ref b85)])) rfl (by rw [hml]; rfl) (argsL := [(.ref b85)]) (rest := []) (lenOf pd18 rfl) rfl (by show 2 * 0 + _ ≤ _; exact Nat.le_of_eq rfl) (hb hby at_248) (fun _ _ => ⟨rfl, hh205, (by decide : 4 + 0 ≤ _), (by decide : 12 + 0 ≤ _)⟩)
        dsimp only [Pt.U, Pt.locs, Pt.cells, Pt.slots] at X248 l248 y248 z248 st248 hQ248
        subst l248 y248 z248
        obtain ⟨rw248, rfl, hq248, Nq248, hh248⟩ := hQ248
        have N248 := Fr.app N205 Nq248
        refine Dn.st st248 ?_
        rcases hq248 with ⟨rfl, gw248⟩ | ⟨rfl, gw248⟩
        · show Dn p e below s _ _ _ (T248.setTop (mkF m 251 #[vi p0, vi p1, vi p2, vi p3, vi p4, vi 2, vi r9, vi r15, vi r21, vi r28, vr b85, vi 0] [(.int 1)]))
          exfalso
          exact gk205 gw248.2.1
        · show Dn p e below s _ _ _ (T248.setTop (mkF m 251 #[vi p0, vi p1, vi p2, vi p3, vi p4, vi 2, vi r9, vi r15, vi r21, vi r28, vr b85, vi 0] [(.int 0)]))
          refine Dn.st (fun _ kk => XS.iload X248.here hx rfl (hb hby at_251) rfl (kk)) ?_
          show Dn p e below s _ _ _ (T248.setTop (mkF m 253 #[vi p0, vi p1, vi p2, vi p3, vi p4, vi 2, vi r9, vi r15, vi r21, vi r28, vr b85, vi 0] [(.int 0), (.int 0)]))
          have hc253 : (0 : Int32) = (0 : Int32) := by decide
          refine Dn.st (fun _ kk => XS.icmpNo X248.here hx rfl (hb hby at_253) rfl (teq hc253).2 (XS.iconst X248.here hx rfl (hb hby at_256) (XS.goto X248.here hx rfl (pc0 := 257) (pc' := 261) rfl (hb hby at_257) (by decide) (by decide) (kk)))) ?_
          show Dn p e below s _ _ _ (T248.setTop (mkF m 261 #[vi p0, vi p1, vi p2, vi p3, vi p4, vi 2, vi r9, vi r15, vi r21, vi r28, vr b85, vi 0] [(.int 1)]))
          exact Dn.ret X248 hlk hx hret rfl (Or.inl ⟨rfl, Or.inr (Or.inl rfl), _, rfl⟩) (hb hby at_261) (by rw [hh248]; exact ⟨rfl, N248⟩) (by decide) (by decide)
    · show Dn p e below s _ _ _ (T191.setTop (mkF m 194 #[vi p0, vi p1, vi p2, vi p3, vi p4, vi 2, vi r9, vi r15, vi r21, vi r28, vr b85, .unset] [(.int 0)]))
      have hc194 : (0 : Int32) = (0 : Int32) := by decide
      refine Dn.st (fun _ kk => XS.ifYes X191.here hx rfl (pc0 := 194) (pc' := 243) rfl (hb hby at_194) rfl ((if0 _ _).trans (teq hc194).1) (by decide) (by decide) (XS.iconst X191.here hx rfl (hb hby at_243) (XS.istore X191.here hx rfl (hb hby at_244) rfl (l' := #[vi p0, vi p1, vi p2, vi p3, vi p4, vi 2, vi r9, vi r15, vi r21, vi r28, vr b85, vi 0]) rfl (XS.aload X191.here hx rfl (hb hby at_246) rfl rfl (kk))))) ?_
      show Dn p e below s _ _ _ (T191.setTop (mkF m 248 #[vi p0, vi p1, vi p2, vi p3, vi p4, vi 2, vi r9, vi r15, vi r21, vi r28, vr b85, vi 0] [(.ref b85)]))
      obtain ⟨_, _, ⟨T248, L248, k248, n248⟩, -, X248, ⟨Lc248, hQ248, l248, y248, z248⟩, st248⟩ := Jvm.LawKit.callS X191 hx (y := on3) hown (mvT hZ (tw hw 28 rfl)) (mvT hZ (tw hw 29 rfl)) (mvT hZ (tw hw 30 rfl)) (mvT hZ (tw hw 31 rfl)) (by decide) (backOf (W := 0) (rmIw2 l Z a0 hw [] b85 cs sf r9 r15 T102.heap n0 Zz Wz S102 hr9 hr15) hZ (tw hw 31 rfl) (tw hw 30 rfl) (by decide) (by decide)) (g := (mkF m 248 #[vi p0, vi p1, vi p2, vi p3, vi p4, vi 2, vi r9, vi r15, vi r21, vi r28, vr b85, vi 0] [(.ref b85)])) rfl (by rw [hml]; rfl) (argsL := [(.ref b85)]) (rest := []) (lenOf pd18 rfl) rfl (by show 2 * 0 + _ ≤ _; exact Nat.le_of_eq rfl) (hb hby at_248) (fun _ _ => ⟨rfl, hh191, (by decide : 4 + 0 ≤ _), (by decide : 12 + 0 ≤ _)⟩)
      dsimp only [Pt.U, Pt.locs, Pt.cells, Pt.slots] at X248 l248 y248 z248 st248 hQ248
      subst l248 y248 z248
      obtain ⟨rw248, rfl, hq248, Nq248, hh248⟩ := hQ248
      have N248 := Fr.app N191 Nq248
      refine Dn.st st248 ?_
      rcases hq248 with ⟨rfl, gw248⟩ | ⟨rfl, gw248⟩
      · show Dn p e below s _ _ _ (T248.setTop (mkF m 251 #[vi p0, vi p1, vi p2, vi p3, vi p4, vi 2, vi r9, vi r15, vi r21, vi r28, vr b85, vi 0] [(.int 1)]))
        exfalso
        exact gk191 gw248.1
      · show Dn p e below s _ _ _ (T248.setTop (mkF m 251 #[vi p0, vi p1, vi p2, vi p3, vi p4, vi 2, vi r9, vi r15, vi r21, vi r28, vr b85, vi 0] [(.int 0)]))
        refine Dn.st (fun _ kk => XS.iload X248.here hx rfl (hb hby at_251) rfl (kk)) ?_
        show Dn p e below s _ _ _ (T248.setTop (mkF m 253 #[vi p0, vi p1, vi p2, vi p3, vi p4, vi 2, vi r9, vi r15, vi r21, vi r28, vr b85, vi 0] [(.int 0), (.int 0)]))
        have hc253 : (0 : Int32) = (0 : Int32) := by decide
        refine Dn.st (fun _ kk => XS.icmpNo X248.here hx rfl (hb hby at_253) rfl (teq hc253).2 (XS.iconst X248.here hx rfl (hb hby at_256) (XS.goto X248.here hx rfl (pc0 := 257) (pc' := 261) rfl (hb hby at_257) (by decide) (by decide) (kk)))) ?_
        show Dn p e below s _ _ _ (T248.setTop (mkF m 261 #[vi p0, vi p1, vi p2, vi p3, vi p4, vi 2, vi r9, vi r15, vi r21, vi r28, vr b85, vi 0] [(.int 1)]))
        exact Dn.ret X248 hlk hx hret rfl (Or.inl ⟨rfl, Or.inr (Or.inl rfl), _, rfl⟩) (hb hby at_261) (by rw [hh248]; exact ⟨rfl, N248⟩) (by decide) (by decide)
  · subst hk33
    show Dw p e below s _ _ _ (T28.setTop (mkF m 33 #[vi p0, vi p1, vi p2, vi p3, vi p4, vi 3, vi r9, vi r15, vi r21, vi r28, .unset, .unset] []))
    refine Dw.st (fun _ kk => XS.iload X28.here hx rfl (hb hby at_33) rfl (kk)) ?_
    show Dw p e below s _ _ _ (T28.setTop (mkF m 35 #[vi p0, vi p1, vi p2, vi p3, vi p4, vi 3, vi r9, vi r15, vi r21, vi r28, .unset, .unset] [(.int 3)]))
    refine Dw.ofN ?_
    have hc35 : ¬ ((3 : Int32) = (0 : Int32)) := by decide
    refine Dn.st (fun _ kk => XS.ifYes X28.here hx rfl (pc0 := 35) (pc' := 53) rfl (hb hby at_35) rfl ((if0 _ _).trans (feq hc35).2) (by decide) (by decide) (XS.iload X28.here hx rfl (hb hby at_53) rfl (XS.iconst X28.here hx rfl (hb hby at_55) (kk)))) ?_
    show Dn p e below s _ _ _ (T28.setTop (mkF m 56 #[vi p0, vi p1, vi p2, vi p3, vi p4, vi 3, vi r9, vi r15, vi r21, vi r28, .unset, .unset] [(.int 1), (.int 3)]))
    have hc56 : ¬ ((3 : Int32) = (1 : Int32)) := by decide
    refine Dn.st (fun _ kk => XS.icmpYes X28.here hx rfl (pc0 := 56) (pc' := 79) rfl (hb hby at_56) rfl (feq hc56).2 (by decide) (by decide) (XS.iload X28.here hx rfl (hb hby at_79) rfl (XS.iconst X28.here hx rfl (hb hby at_81) (kk)))) ?_
    show Dn p e below s _ _ _ (T28.setTop (mkF m 82 #[vi p0, vi p1, vi p2, vi p3, vi p4, vi 3, vi r9, vi r15, vi r21, vi r28, .unset, .unset] [(.int 2), (.int 3)]))
    have hc82 : ¬ ((3 : Int32) = (2 : Int32)) := by decide
    refine Dn.st (fun _ kk => XS.icmpYes X28.here hx rfl (pc0 := 82) (pc' := 110) rfl (hb hby at_82) rfl (feq hc82).2 (by decide) (by decide) (XS.iload X28.here hx rfl (hb hby at_110) rfl (XS.iconst X28.here hx rfl (hb hby at_112) (kk)))) ?_
    show Dn p e below s _ _ _ (T28.setTop (mkF m 113 #[vi p0, vi p1, vi p2, vi p3, vi p4, vi 3, vi r9, vi r15, vi r21, vi r28, .unset, .unset] [(.int 3), (.int 3)]))
    have hc113 : (3 : Int32) = (3 : Int32) := by decide
    refine Dn.st (fun _ kk => XS.icmpNo X28.here hx rfl (hb hby at_113) rfl (teq hc113).2 (kk)) ?_
    show Dn p e below s _ _ _ (T28.setTop (mkF m 116 #[vi p0, vi p1, vi p2, vi p3, vi p4, vi 3, vi r9, vi r15, vi r21, vi r28, .unset, .unset] []))
    obtain ⟨T116, h116, X116, e116, E116, A116, D116, -, st116⟩ := newO X28 hx hZ hown (tw hw 6 rfl) (tw hw 7 rfl) (tw hw 8 rfl) hh28 (g := (mkF m 116 #[vi p0, vi p1, vi p2, vi p3, vi p4, vi 3, vi r9, vi r15, vi r21, vi r28, .unset, .unset] [])) rfl (hb hby at_116) (by decide) (by decide)
    obtain ⟨b116, g116⟩ : ∃ z, z = h0.size := ⟨_, rfl⟩
    rw [← g116] at A116 D116 st116
    have Wo116 := hW.ext E116
    have gn_b116 : n0 ≤ b116 := Nat.le_trans Z0 (Nat.le_of_eq g116.symm)
    have Z116 : n0 ≤ h116.size := Nat.le_trans Z0 E116.1
    have F_b116_value : Fld Z h116 b116 "java/lang/String" "value" "[B" .null := D116 (Or.inr (tw hw 22 rfl)) (ty := (.array .byte)) (by decide)
    have F_b116_coder : Fld Z h116 b116 "java/lang/String" "coder" "B" (.int 0) := D116 (Or.inr (tw hw 23 rfl)) (ty := .byte) (by decide)
    refine Dn.st st116 ?_
    show Dn p e below s _ _ _ (T116.setTop (mkF m 119 #[vi p0, vi p1, vi p2, vi p3, vi p4, vi 3, vi r9, vi r15, vi r21, vi r28, .unset, .unset] [(.ref b116)]))
    refine Dn.st (fun _ kk => XS.dup X116.here hx rfl (hb hby at_119) rfl rfl (XS.iconst X116.here hx rfl (hb hby at_120) (kk))) ?_
    show Dn p e below s _ _ _ (T116.setTop (mkF m 121 #[vi p0, vi p1, vi p2, vi p3, vi p4, vi 3, vi r9, vi r15, vi r21, vi r28, .unset, .unset] [(.int 3), (.ref b116), (.ref b116)]))
    obtain ⟨T121, h121, k121, X121, e121, E121, A121, st121⟩ := newP X116 hx hZ (tw hw 9 rfl) e116 (g := (mkF m 121 #[vi p0, vi p1, vi p2, vi p3, vi p4, vi 3, vi r9, vi r15, vi r21, vi r28, .unset, .unset] [(.int 3), (.ref b116), (.ref b116)])) rfl (hb hby at_121) rfl (by decide) (cap := 3) (by decide) (by decide) (by decide) (by decide)
    obtain ⟨b121, g121⟩ : ∃ z, z = h116.size := ⟨_, rfl⟩
    rw [← g121] at A121 st121
    have ne_b116_b121 : b116 ≠ b121 := Nat.ne_of_lt (Nat.lt_of_lt_of_le A116.lt (Nat.le_of_eq g121.symm))
    have E_b116_121 := A116.ext E121
    have F_b116_value_121 := F_b116_value.ext E121
    have F_b116_coder_121 := F_b116_coder.ext E121
    have Wo121 := Wo116.ext E121
    have gn_b121 : n0 ≤ b121 := Nat.le_trans Z116 (Nat.le_of_eq g121.symm)
    have Z121 : n0 ≤ h121.size := Nat.le_trans Z116 E121.1
    have V_b121 : Arv Z h121 b121 k121 .char (3 : Int32) [(.int 0), (.int 0), (.int 0)] (.int 0) := (Arv.new A121 (by decide)).pad (pad_rep [] (.int 0) 3)
    refine Dn.st st121 ?_
    show Dn p e below s _ _ _ (T121.setTop (mkF m 123 #[vi p0, vi p1, vi p2, vi p3, vi p4, vi 3, vi r9, vi r15, vi r21, vi r28, .unset, .unset] [(.ref b121), (.ref b116), (.ref b116)]))
    refine Dn.st (fun _ kk => XS.dup X121.here hx rfl (hb hby at_123) rfl rfl (XS.iconst X121.here hx rfl (hb hby at_124) (XS.iload X121.here hx rfl (hb hby at_125) rfl (kk)))) ?_
    show Dn p e below s _ _ _ (T121.setTop (mkF m 127 #[vi p0, vi p1, vi p2, vi p3, vi p4, vi 3, vi r9, vi r15, vi r21, vi r28, .unset, .unset] [(.int r9), (.int 0), (.ref b121), (.ref b121), (.ref b116), (.ref b116)]))
    have Vc_b121_127 := V_b121
    obtain ⟨cl_b121_127, Ar_b121_127, q_b121_127, S_b121_127, N_b121_127, H_b121_127, G_b121_127⟩ := Vc_b121_127
    have hin127 : ¬ ((0 : Int32) < 0 ∨ cl_b121_127.slots.size ≤ ((0 : Int32)).toNatClampNeg) := inb_of S_b121_127 ⟨by decide, by decide⟩
    obtain ⟨T127, h127, X127, e127, W127, st127⟩ := stC X121 hx hZ e121 Ar_b121_127 (j := (0 : Int32)) hin127 (g := (mkF m 127 #[vi p0, vi p1, vi p2, vi p3, vi p4, vi 3, vi r9, vi r15, vi r21, vi r28, .unset, .unset] [(.int r9), (.int 0), (.ref b121), (.ref b121), (.ref b116), (.ref b116)])) rfl rfl (hb hby at_127)
    have Wo127 := Wo121.wr W127 gn_b121
    have E_b116_127 := E_b116_121.wr W127
    have F_b116_value_127 := F_b116_value_121.other W127 (Or.inl ne_b116_b121)
    have F_b116_coder_127 := F_b116_coder_121.other W127 (Or.inl ne_b116_b121)
    have V_b121_127 := Arv.set Ar_b121_127 q_b121_127 S_b121_127 N_b121_127 H_b121_127 G_b121_127 (fits_nar_char _) W127 0 rfl (Nat.le_of_ble_eq_true rfl)
    have N127 := Fr.snoc X127 N28 gn_b121
    have Z127 : n0 ≤ h127.size := Nat.le_trans Z121 (Keep.of_wr W127).1
    refine Dn.st st127 ?_
    show Dn p e below s _ _ _ (T127.setTop (mkF m 128 #[vi p0, vi p1, vi p2, vi p3, vi p4, vi 3, vi r9, vi r15, vi r21, vi r28, .unset, .unset] [(.ref b121), (.ref b116), (.ref b116)]))
    refine Dn.st (fun _ kk => XS.dup X127.here hx rfl (hb hby at_128) rfl rfl (XS.iconst X127.here hx rfl (hb hby at_129) (XS.iload X127.here hx rfl (hb hby at_130) rfl (kk)))) ?_
    show Dn p e below s _ _ _ (T127.setTop (mkF m 132 #[vi p0, vi p1, vi p2, vi p3, vi p4, vi 3, vi r9, vi r15, vi r21, vi r28, .unset, .unset] [(.int r15), (.int 1), (.ref b121), (.ref b121), (.ref b116), (.ref b116)]))
    have Vc_b121_132 := V_b121_127
    obtain ⟨cl_b121_132, Ar_b121_132, q_b121_132, S_b121_132, N_b121_132, H_b121_132, G_b121_132⟩ := Vc_b121_132
    have hin132 : ¬ ((1 : Int32) < 0 ∨ cl_b121_132.slots.size ≤ ((1 : Int32)).toNatClampNeg) := inb_of S_b121_132 ⟨by decide, by decide⟩
    obtain ⟨T132, h132, X132, e132, W132, st132⟩ := stC X127 hx hZ e127 Ar_b121_132 (j := (1 : Int32)) hin132 (g := (mkF m 132 #[vi p0, vi p1, vi p2, vi p3, vi p4, vi 3, vi r9, vi r15, vi r21, vi r28, .unset, .unset] [(.int r15), (.int 1), (.ref b121), (.ref b121), (.ref b116), (.ref b116)])) rfl rfl (hb hby at_132)
    have Wo132 := Wo127.wr W132 gn_b121
    have E_b116_132 := E_b116_127.wr W132
    have F_b116_value_132 := F_b116_value_127.other W132 (Or.inl ne_b116_b121)
    have F_b116_coder_132 := F_b116_coder_127.other W132 (Or.inl ne_b116_b121)
    have V_b121_132 := Arv.set Ar_b121_132 q_b121_132 S_b121_132 N_b121_132 H_b121_132 G_b121_132 (fits_nar_char _) W132 1 rfl (Nat.le_of_ble_eq_true rfl)
    have N132 := Fr.snoc X132 N127 gn_b121
    have Z132 : n0 ≤ h132.size := Nat.le_trans Z127 (Keep.of_wr W132).1
    refine Dn.st st132 ?_
    show Dn p e below s _ _ _ (T132.setTop (mkF m 133 #[vi p0, vi p1, vi p2, vi p3, vi p4, vi 3, vi r9, vi r15, vi r21, vi r28, .unset, .unset] [(.ref b121), (.ref b116), (.ref b116)]))
    refine Dn.st (fun _ kk => XS.dup X132.here hx rfl (hb hby at_133) rfl rfl (XS.iconst X132.here hx rfl (hb hby at_134) (XS.iload X132.here hx rfl (hb hby at_135) rfl (kk)))) ?_
    show Dn p e below s _ _ _ (T132.setTop (mkF m 137 #[vi p0, vi p1, vi p2, vi p3, vi p4, vi 3, vi r9, vi r15, vi r21, vi r28, .unset, .unset] [(.int r21), (.int 2), (.ref b121), (.ref b121), (.ref b116), (.ref b116)]))
    have Vc_b121_137 := V_b121_132
    obtain ⟨cl_b121_137, Ar_b121_137, q_b121_137, S_b121_137, N_b121_137, H_b121_137, G_b121_137⟩ := Vc_b121_137
    have hin137 : ¬ ((2 : Int32) < 0 ∨ cl_b121_137.slots.size ≤ ((2 : Int32)).toNatClampNeg) := inb_of S_b121_137 ⟨by decide, by decide⟩
    obtain ⟨T137, h137, X137, e137, W137, st137⟩ := stC X132 hx hZ e132 Ar_b121_137 (j := (2 : Int32)) hin137 (g := (mkF m 137 #[vi p0, vi p1, vi p2, vi p3, vi p4, vi 3, vi r9, vi r15, vi r21, vi r28, .unset, .unset] [(.int r21), (.int 2), (.ref b121), (.ref b121), (.ref b116), (.ref b116)])) rfl rfl (hb hby at_137)
    have Wo137 := Wo132.wr W137 gn_b121
    have E_b116_137 := E_b116_132.wr W137
    have F_b116_value_137 := F_b116_value_132.other W137 (Or.inl ne_b116_b121)
    have F_b116_coder_137 := F_b116_coder_132.other W137 (Or.inl ne_b116_b121)
    have V_b121_137 := Arv.set Ar_b121_137 q_b121_137 S_b121_137 N_b121_137 H_b121_137 G_b121_137 (fits_nar_char _) W137 2 rfl (Nat.le_of_ble_eq_true rfl)
    have N137 := Fr.snoc X137 N132 gn_b121
    have Z137 : n0 ≤ h137.size := Nat.le_trans Z132 (Keep.of_wr W137).1
    refine Dn.st st137 ?_
    show Dn p e below s _ _ _ (T137.setTop (mkF m 138 #[vi p0, vi p1, vi p2, vi p3, vi p4, vi 3, vi r9, vi r15, vi r21, vi r28, .unset, .unset] [(.ref b121), (.ref b116), (.ref b116)]))
    rw [own_c hr9.1 hr9.2, own_c hr15.1 hr15.2, own_c hr21.1 hr21.2] at V_b121_137
    obtain ⟨_, _, ⟨T138, L138, k138, n138⟩, -, X138, ⟨Lc138, hQ138, l138, y138, z138⟩, st138⟩ := X137.specialBack hx (y := on9) rfl hown (mvT hZ (tw hw 10 rfl)) (mvT hZ (tw hw 11 rfl)) (mvT hZ (tw hw 12 rfl)) (by decide) (backOf (W := 1) (rmSc3 l Z a0 hw [] b116 b121 cs sf k121 r9 r15 r21 h137 n0 Z137 Wo137 gn_b116 E_b116_137 F_b116_coder_137 F_b116_value_137 V_b121_137 ne_b116_b121 hr9 hr15 hr21) hZ (tw hw 12 rfl) (tw hw 8 rfl) (by decide) (by decide)) (g := (mkF m 138 #[vi p0, vi p1, vi p2, vi p3, vi p4, vi 3, vi r9, vi r15, vi r21, vi r28, .unset, .unset] [(.ref b121), (.ref b116), (.ref b116)])) rfl (by rw [hml]; rfl) (Steps.refl _) (a := b116) (argsL := [(.ref b121)]) (rest := [(.ref b116)]) (lenOf pd17 rfl) rfl (by show 2 * 0 + _ ≤ _; exact Nat.le_of_eq rfl) (hb hby at_138) (fun _ _ => ⟨rfl, e137, (by decide : 2 + 2 ≤ _), (by decide : 7 + 9 ≤ _)⟩)
    dsimp only [Pt.U, Pt.locs, Pt.cells, Pt.slots] at X138 l138 y138 z138 st138 hQ138
    subst l138 y138 z138
    obtain ⟨rfl, Nq138, K138, S138⟩ := hQ138
    have N138 := Fr.app N137 Nq138
    refine Dn.tr st138 ?_
    have Wz := Wo137.keep K138 (own_k1 gn_b116)
    have Zz : n0 ≤ T138.heap.size := Nat.le_trans Z137 K138.1
    show Dn p e below s _ _ _ (T138.setTop (mkF m 141 #[vi p0, vi p1, vi p2, vi p3, vi p4, vi 3, vi r9, vi r15, vi r21, vi r28, .unset, .unset] [(.ref b116)]))
    refine Dn.st (fun _ kk => XS.astore X138.here hx rfl (hb hby at_141) rfl rfl (l' := #[vi p0, vi p1, vi p2, vi p3, vi p4, vi 3, vi r9, vi r15, vi r21, vi r28, vr b116, .unset]) rfl (XS.goto X138.here hx rfl (pc0 := 143) (pc' := 178) rfl (hb hby at_143) (by decide) (by decide) (XS.iload X138.here hx rfl (hb hby at_178) rfl (kk)))) ?_
    show Dn p e below s _ _ _ (T138.setTop (mkF m 180 #[vi p0, vi p1, vi p2, vi p3, vi p4, vi 3, vi r9, vi r15, vi r21, vi r28, vr b116, .unset] [(.int 3)]))
    have hc180 : (0 : Int32) < (3 : Int32) := by decide
    refine Dn.st (fun _ kk => XS.ifNo X138.here hx rfl (hb hby at_180) rfl ((if0 _ _).trans (tlt hc180).2.2.2) (XS.iload X138.here hx rfl (hb hby at_183) rfl (XS.iconst X138.here hx rfl (hb hby at_185) (kk)))) ?_
    show Dn p e below s _ _ _ (T138.setTop (mkF m 186 #[vi p0, vi p1, vi p2, vi p3, vi p4, vi 3, vi r9, vi r15, vi r21, vi r28, vr b116, .unset] [(.int 1), (.int 3)]))
    have hc186 : ¬ ((3 : Int32) < (1 : Int32)) := by decide
    refine Dn.st (fun _ kk => XS.icmpNo X138.here hx rfl (hb hby at_186) rfl (flt hc186).1 (XS.iload X138.here hx rfl (hb hby at_189) rfl (kk))) ?_
    show Dn p e below s _ _ _ (T138.setTop (mkF m 191 #[vi p0, vi p1, vi p2, vi p3, vi p4, vi 3, vi r9, vi r15, vi r21, vi r28, vr b116, .unset] [(.int r9)]))
    obtain ⟨_, _, ⟨T191, L191, k191, n191⟩, -, X191, ⟨Lc191, hQ191, l191, y191, z191⟩, st191⟩ := Jvm.LawKit.callS X138 hx (y := on17) hown (mvT hZ (tw hw 58 rfl)) (mvT hZ (tw hw 59 rfl)) (mvT hZ (tw hw 3 rfl)) (mvT hZ (tw hw 60 rfl)) (by decide) (backOf (W := 0) (rmOk l Z a0 hw [] r9  T138.heap n0 Zz ) hZ (tw hw 60 rfl) (tw hw 3 rfl) (by decide) (by decide)) (g := (mkF m 191 #[vi p0, vi p1, vi p2, vi p3, vi p4, vi 3, vi r9, vi r15, vi r21, vi r28, vr b116, .unset] [(.int r9)])) rfl (by rw [hml]; rfl) (argsL := [(.int r9)]) (rest := []) (lenOf pd16 rfl) rfl (by show 2 * 0 + _ ≤ _; exact Nat.le_of_eq rfl) (hb hby at_191) (fun _ _ => ⟨rfl, rfl, (by decide : 4 + 0 ≤ _), (by decide : 16 + 0 ≤ _)⟩)
    dsimp only [Pt.U, Pt.locs, Pt.cells, Pt.slots] at X191 l191 y191 z191 st191 hQ191
    subst l191 y191 z191
    obtain ⟨rr191, rfl, hq191, Nq191, hh191⟩ := hQ191
    have N191 := Fr.app N138 Nq191
    refine Dn.st st191 ?_
    rcases hq191 with ⟨rfl, gk191⟩ | ⟨rfl, gk191⟩
    · show Dn p e below s _ _ _ (T191.setTop (mkF m 194 #[vi p0, vi p1, vi p2, vi p3, vi p4, vi 3, vi r9, vi r15, vi r21, vi r28, vr b116, .unset] [(.int 1)]))
      have hc194 : ¬ ((1 : Int32) = (0 : Int32)) := by decide
      refine Dn.st (fun _ kk => XS.ifNo X191.here hx rfl (hb hby at_194) rfl ((if0 _ _).trans (feq hc194).1) (XS.iload X191.here hx rfl (hb hby at_197) rfl (XS.iconst X191.here hx rfl (hb hby at_199) (kk)))) ?_
      show Dn p e below s _ _ _ (T191.setTop (mkF m 200 #[vi p0, vi p1, vi p2, vi p3, vi p4, vi 3, vi r9, vi r15, vi r21, vi r28, vr b116, .unset] [(.int 2), (.int 3)]))
      have hc200 : ¬ ((3 : Int32) < (2 : Int32)) := by decide
      refine Dn.st (fun _ kk => XS.icmpNo X191.here hx rfl (hb hby at_200) rfl (flt hc200).1 (XS.iload X191.here hx rfl (hb hby at_203) rfl (kk))) ?_
      show Dn p e below s _ _ _ (T191.setTop (mkF m 205 #[vi p0, vi p1, vi p2, vi p3, vi p4, vi 3, vi r9, vi r15, vi r21, vi r28, vr b116, .unset] [(.int r15)]))
      obtain ⟨_, _, ⟨T205, L205, k205, n205⟩, -, X205, ⟨Lc205, hQ205, l205, y205, z205⟩, st205⟩ := Jvm.LawKit.callS X191 hx (y := on17) hown (mvT hZ (tw hw 58 rfl)) (mvT hZ (tw hw 59 rfl)) (mvT hZ (tw hw 3 rfl)) (mvT hZ (tw hw 60 rfl)) (by decide) (backOf (W := 0) (rmOk l Z a0 hw [] r15  T138.heap n0 Zz ) hZ (tw hw 60 rfl) (tw hw 3 rfl) (by decide) (by decide)) (g := (mkF m 205 #[vi p0, vi p1, vi p2, vi p3, vi p4, vi 3, vi r9, vi r15, vi r21, vi r28, vr b116, .unset] [(.int r15)])) rfl (by rw [hml]; rfl) (argsL := [(.int r15)]) (rest := []) (lenOf pd16 rfl) rfl (by show 2 * 0 + _ ≤ _; exact Nat.le_of_eq rfl) (hb hby at_205) (fun _ _ => ⟨rfl, hh191, (by decide : 4 + 0 ≤ _), (by decide : 16 + 0 ≤ _)⟩)
      dsimp only [Pt.U, Pt.locs, Pt.cells, Pt.slots] at X205 l205 y205 z205 st205 hQ205
      subst l205 y205 z205
      obtain ⟨rr205, rfl, hq205, Nq205, hh205⟩ := hQ205
      have N205 := Fr.app N191 Nq205
      refine Dn.st st205 ?_
      rcases hq205 with ⟨rfl, gk205⟩ | ⟨rfl, gk205⟩
      · show Dn p e below s _ _ _ (T205.setTop (mkF m 208 #[vi p0, vi p1, vi p2, vi p3, vi p4, vi 3, vi r9, vi r15, vi r21, vi r28, vr b116, .unset] [(.int 1)]))
        have hc208 : ¬ ((1 : Int32) = (0 : Int32)) := by decide
        refine Dn.st (fun _ kk => XS.ifNo X205.here hx rfl (hb hby at_208) rfl ((if0 _ _).trans (feq hc208).1) (XS.iload X205.here hx rfl (hb hby at_211) rfl (XS.iconst X205.here hx rfl (hb hby at_213) (kk)))) ?_
        show Dn p e below s _ _ _ (T205.setTop (mkF m 214 #[vi p0, vi p1, vi p2, vi p3, vi p4, vi 3, vi r9, vi r15, vi r21, vi r28, vr b116, .unset] [(.int 3), (.int 3)]))
        have hc214 : ¬ ((3 : Int32) < (3 : Int32)) := by decide
        refine Dn.st (fun _ kk => XS.icmpNo X205.here hx rfl (hb hby at_214) rfl (flt hc214).1 (XS.iload X205.here hx rfl (hb hby at_217) rfl (kk))) ?_
        show Dn p e below s _ _ _ (T205.setTop (mkF m 219 #[vi p0, vi p1, vi p2, vi p3, vi p4, vi 3, vi r9, vi r15, vi r21, vi r28, vr b116, .unset] [(.int r21)]))
        obtain ⟨_, _, ⟨T219, L219, k219, n219⟩, -, X219, ⟨Lc219, hQ219, l219, y219, z219⟩, st219⟩ := Jvm.LawKit.callS X205 hx (y := on17) hown (mvT hZ (tw hw 58 rfl)) (mvT hZ (tw hw 59 rfl)) (mvT hZ (tw hw 3 rfl)) (mvT hZ (tw hw 60 rfl)) (by decide) (backOf (W := 0) (rmOk l Z a0 hw [] r21  T138.heap n0 Zz ) hZ (tw hw 60 rfl) (tw hw 3 rfl) (by decide) (by decide)) (g := (mkF m 219 #[vi p0, vi p1, vi p2, vi p3, vi p4, vi 3, vi r9, vi r15, vi r21, vi r28, vr b116, .unset] [(.int r21)])) rfl (by rw [hml]; rfl) (argsL := [(.int r21)]) (rest := []) (lenOf pd16 rfl) rfl (by show 2 * 0 + _ ≤ _; exact Nat.le_of_eq rfl) (hb hby at_219) (fun _ _ => ⟨rfl, hh205, (by decide : 4 + 0 ≤ _), (by decide : 16 + 0 ≤ _)⟩)
        dsimp only [Pt.U, Pt.locs, Pt.cells, Pt.slots] at X219 l219 y219 z219 st219 hQ219
        subst l219 y219 z219
        obtain ⟨rr219, rfl, hq219, Nq219, hh219⟩ := hQ219
        have N219 := Fr.app N205 Nq219
        refine Dn.st st219 ?_
        rcases hq219 with ⟨rfl, gk219⟩ | ⟨rfl, gk219⟩
        · show Dn p e below s _ _ _ (T219.setTop (mkF m 222 #[vi p0, vi p1, vi p2, vi p3, vi p4, vi 3, vi r9, vi r15, vi r21, vi r28, vr b116, .unset] [(.int 1)]))
          have hc222 : ¬ ((1 : Int32) = (0 : Int32)) := by decide
          refine Dn.st (fun _ kk => XS.ifNo X219.here hx rfl (hb hby at_222) rfl ((if0 _ _).trans (feq hc222).1) (XS.iload X219.here hx rfl (hb hby at_225) rfl (XS.iconst X219.here hx rfl (hb hby at_227) (kk)))) ?_
          show Dn p e below s _ _ _ (T219.setTop (mkF m 228 #[vi p0, vi p1, vi p2, vi p3, vi p4, vi 3, vi r9, vi r15, vi r21, vi r28, vr b116, .unset] [(.int 4), (.int 3)]))
          have hc228 : (3 : Int32) < (4 : Int32) := by decide
          refine Dn.st (fun _ kk => XS.icmpYes X219.here hx rfl (pc0 := 228) (pc' := 239) rfl (hb hby at_228) rfl (tlt hc228).1 (by decide) (by decide) (XS.iconst X219.here hx rfl (hb hby at_239) (XS.goto X219.here hx rfl (pc0 := 240) (pc' := 244) rfl (hb hby at_240) (by decide) (by decide) (XS.istore X219.here hx rfl (hb hby at_244) rfl (l' := #[vi p0, vi p1, vi p2, vi p3, vi p4, vi 3, vi r9, vi r15, vi r21, vi r28, vr b116, vi 1]) rfl (XS.aload X219.here hx rfl (hb hby at_246) rfl rfl (kk)))))) ?_
          show Dn p e below s _ _ _ (T219.setTop (mkF m 248 #[vi p0, vi p1, vi p2, vi p3, vi p4, vi 3, vi r9, vi r15, vi r21, vi r28, vr b116, vi 1] [(.ref b116)]))
          obtain ⟨_, _, ⟨T248, L248, k248, n248⟩, -, X248, ⟨Lc248, hQ248, l248, y248, z248⟩, st248⟩ := Jvm.LawKit.callS X219 hx (y := on3) hown (mvT hZ (tw hw 28 rfl)) (mvT hZ (tw hw 29 rfl)) (mvT hZ (tw hw 30 rfl)) (mvT hZ (tw hw 31 rfl)) (by decide) (backOf (W := 0) (rmIw3 l Z a0 hw [] b116 cs sf r9 r15 r21 T138.heap n0 Zz Wz S138 hr9 hr15 hr21) hZ (tw hw 31 rfl) (tw hw 30 rfl) (by decide) (by decide)) (g := (mkF m 248 #[vi p0, vi p1, vi p2, vi p3, vi p4, vi 3, vi r9, vi r15, vi r21, vi r28, vr b116, vi 1] [(.ref b116)])) rfl (by rw [hml]; rfl) (argsL := [(.ref b116)]) (rest := []) (lenOf pd18 rfl) rfl (by show 2 * 0 + _ ≤ _; exact Nat.le_of_eq rfl) (hb hby at_248) (fun _ _ => ⟨rfl, hh219, (by decide : 4 + 0 ≤ _), (by decide : 16 + 0 ≤ _)⟩)
          dsimp only [Pt.U, Pt.locs, Pt.cells, Pt.slots] at X248 l248 y248 z248 st248 hQ248
          subst l248 y248 z248
          obtain ⟨rw248, rfl, hq248, Nq248, hh248⟩ := hQ248
          have N248 := Fr.app N219 Nq248
          refine Dn.st st248 ?_
          rcases hq248 with ⟨rfl, gw248⟩ | ⟨rfl, gw248⟩
          · show Dn p e below s _ _ _ (T248.setTop (mkF m 251 #[vi p0, vi p1, vi p2, vi p3, vi p4, vi 3, vi r9, vi r15, vi r21, vi r28, vr b116, vi 1] [(.int 1)]))
            refine Dn.st (fun _ kk => XS.iload X248.here hx rfl (hb hby at_251) rfl (kk)) ?_
            show Dn p e below s _ _ _ (T248.setTop (mkF m 253 #[vi p0, vi p1, vi p2, vi p3, vi p4, vi 3, vi r9, vi r15, vi r21, vi r28, vr b116, vi 1] [(.int 1), (.int 1)]))
            have hc253 : (1 : Int32) = (1 : Int32) := by decide
            refine Dn.st (fun _ kk => XS.icmpNo X248.here hx rfl (hb hby at_253) rfl (teq hc253).2 (XS.iconst X248.here hx rfl (hb hby at_256) (XS.goto X248.here hx rfl (pc0 := 257) (pc' := 261) rfl (hb hby at_257) (by decide) (by decide) (kk)))) ?_
            show Dn p e below s _ _ _ (T248.setTop (mkF m 261 #[vi p0, vi p1, vi p2, vi p3, vi p4, vi 3, vi r9, vi r15, vi r21, vi r28, vr b116, vi 1] [(.int 1)]))
            exact Dn.ret X248 hlk hx hret rfl (Or.inl ⟨rfl, Or.inr (Or.inl rfl), _, rfl⟩) (hb hby at_261) (by rw [hh248]; exact ⟨rfl, N248⟩) (by decide) (by decide)
          · show Dn p e below s _ _ _ (T248.setTop (mkF m 251 #[vi p0, vi p1, vi p2, vi p3, vi p4, vi 3, vi r9, vi r15, vi r21, vi r28, vr b116, vi 1] [(.int 0)]))
            exfalso
            exact gw248 ⟨gk191, gk205, gk219, trivial⟩
        · show Dn p e below s _ _ _ (T219.setTop (mkF m 222 #[vi p0, vi p1, vi p2, vi p3, vi p4, vi 3, vi r9, vi r15, vi r21, vi r28, vr b116, .unset] [(.int 0)]))
          have hc222 : (0 : Int32) = (0 : Int32) := by decide
          refine Dn.st (fun _ kk => XS.ifYes X219.here hx rfl (pc0 := 222) (pc' := 243) rfl (hb hby at_222) rfl ((if0 _ _).trans (teq hc222).1) (by decide) (by decide) (XS.iconst X219.here hx rfl (hb hby at_243) (XS.istore X219.here hx rfl (hb hby at_244) rfl (l' := #[vi p0, vi p1, vi p2, vi p3, vi p4, vi 3, vi r9, vi r15, vi r21, vi r28, vr b116, vi 0]) rfl (XS.aload X219.here hx rfl (hb hby at_246) rfl rfl (kk))))) ?_
          show Dn p e below s _ _ _ (T219.setTop (mkF m 248 #[vi p0, vi p1, vi p2, vi p3, vi p4, vi 3, vi r9, vi r15, vi r21, vi r28, vr b116, vi 0] [(.ref b116)]))
          obtain ⟨_, _, ⟨T248, L248, k248, n248⟩, -, X248, ⟨Lc248, hQ248, l248, y248, z248⟩, st248⟩ := Jvm.LawKit.callS X219 hx (y := on3) hown (mvT hZ (tw hw 28 rfl)) (mvT hZ (tw hw 29 rfl)) (mvT hZ (tw hw 30 rfl)) (mvT hZ (tw hw 31 rfl)) (by decide) (backOf (W := 0) (rmIw3 l Z a0 hw [] b116 cs sf r9 r15 r21 T138.heap n0 Zz Wz S138 hr9 hr15 hr21) hZ (tw hw 31 rfl) (tw hw 30 rfl) (by decide) (by decide)) (g := (mkF m 248 #[vi p0, vi p1, vi p2, vi p3, vi p4, vi 3, vi r9, vi r15, vi r21, vi r28, vr b116, vi 0] [(.ref b116)])) rfl (by rw [hml]; rfl) (argsL := [(.ref b116)]) (rest := []) (lenOf pd18 rfl) rfl (by show 2 * 0 + _ ≤ _; exact Nat.le_of_eq rfl) (hb hby at_248) (fun _ _ => ⟨rfl, hh219, (by decide : 4 + 0 ≤ _), (by decide : 16 + 0 ≤ _)⟩)
          dsimp only [Pt.U, Pt.locs, Pt.cells, Pt.slots] at X248 l248 y248 z248 st248 hQ248
          subst l248 y248 z248
          obtain ⟨rw248, rfl, hq248, Nq248, hh248⟩ := hQ248
          have N248 := Fr.app N219 Nq248
          refine Dn.st st248 ?_
          rcases hq248 with ⟨rfl, gw248⟩ | ⟨rfl, gw248⟩
          · show Dn p e below s _ _ _ (T248.setTop (mkF m 251 #[vi p0, vi p1, vi p2, vi p3, vi p4, vi 3, vi r9, vi r15, vi r21, vi r28, vr b116, vi 0] [(.int 1)]))
            exfalso
            exact gk219 gw248.2.2.1
          · show Dn p e below s _ _ _ (T248.setTop (mkF m 251 #[vi p0, vi p1, vi p2, vi p3, vi p4, vi 3, vi r9, vi r15, vi r21, vi r28, vr b116, vi 0] [(.int 0)]))
            refine Dn.st (fun _ kk => XS.iload X248.here hx rfl (hb hby at_251) rfl (kk)) ?_
            show Dn p e below s _ _ _ (T248.setTop (mkF m 253 #[vi p0, vi p1, vi p2, vi p3, vi p4, vi 3, vi r9, vi r15, vi r21, vi r28, vr b116, vi 0] [(.int 0), (.int 0)]))
            have hc253 : (0 : Int32) = (0 : Int32) := by decide
            refine Dn.st (fun _ kk => XS.icmpNo X248.here hx rfl (hb hby at_253) rfl (teq hc253).2 (XS.iconst X248.here hx rfl (hb hby at_256) (XS.goto X248.here hx rfl (pc0 := 257) (pc' := 261) rfl (hb hby at_257) (by decide) (by decide) (kk)))) ?_
            show Dn p e below s _ _ _ (T248.setTop (mkF m 261 #[vi p0, vi p1, vi p2, vi p3, vi p4, vi 3, vi r9, vi r15, vi r21, vi r28, vr b116, vi 0] [(.int 1)]))
            exact Dn.ret X248 hlk hx hret rfl (Or.inl ⟨rfl, Or.inr (Or.inl rfl), _, rfl⟩) (hb hby at_261) (by rw [hh248]; exact ⟨rfl, N248⟩) (by decide) (by decide)
      · show Dn p e below s _ _ _ (T205.setTop (mkF m 208 #[vi p0, vi p1, vi p2, vi p3, vi p4, vi 3, vi r9, vi r15, vi r21, vi r28, vr b116, .unset] [(.int 0)]))
        have hc208 : (0 : Int32) = (0 : Int32) := by decide
        refine Dn.st (fun _ kk => XS.ifYes X205.here hx rfl (pc0 := 208) (pc' := 243) rfl (hb hby at_208) rfl ((if0 _ _).trans (teq hc208).1) (by decide) (by decide) (XS.iconst X205.here hx rfl (hb hby at_243) (XS.istore X205.here hx rfl (hb hby at_244) rfl (l' := #[vi p0, vi p1, vi p2, vi p3, vi p4, vi 3, vi r9, vi r15, vi r21, vi r28, vr b116, vi 0]) rfl (XS.aload X205.here hx rfl (hb hby at_246) rfl rfl (kk))))) ?_
        show Dn p e below s _ _ _ (T205.setTop (mkF m 248 #[vi p0, vi p1, vi p2, vi p3, vi p4, vi 3, vi r9, vi r15, vi r21, vi r28, vr b116, vi 0] [(.ref b116)]))
        obtain ⟨_, _, ⟨T248, L248, k248, n248⟩, -, X248, ⟨Lc248, hQ248, l248, y248, z248⟩, st248⟩ := Jvm.LawKit.callS X205 hx (y := on3) hown (mvT hZ (tw hw 28 rfl)) (mvT hZ (tw hw 29 rfl)) (mvT hZ (tw hw 30 rfl)) (mvT hZ (tw hw 31 rfl)) (by decide) (backOf (W := 0) (rmIw3 l Z a0 hw [] b116 cs sf r9 r15 r21 T138.heap n0 Zz Wz S138 hr9 hr15 hr21) hZ (tw hw 31 rfl) (tw hw 30 rfl) (by decide) (by decide)) (g := (mkF m 248 #[vi p0, vi p1, vi p2, vi p3, vi p4, vi 3, vi r9, vi r15, vi r21, vi r28, vr b116, vi 0] [(.ref b116)])) rfl (by rw [hml]; rfl) (argsL := [(.ref b116)]) (rest := []) (lenOf pd18 rfl) rfl (by show 2 * 0 + _ ≤ _; exact Nat.le_of_eq rfl) (hb hby at_248) (fun _ _ => ⟨rfl, hh205, (by decide : 4 + 0 ≤ _), (by decide : 16 + 0 ≤ _)⟩)
        dsimp only [Pt.U, Pt.locs, Pt.cells, Pt.slots] at X248 l248 y248 z248 st248 hQ248
        subst l248 y248 z248
        obtain ⟨rw248, rfl, hq248, Nq248, hh248⟩ := hQ248
        have N248 := Fr.app N205 Nq248
        refine Dn.st st248 ?_
        rcases hq248 with ⟨rfl, gw248⟩ | ⟨rfl, gw248⟩
        · show Dn p e below s _ _ _ (T248.setTop (mkF m 251 #[vi p0, vi p1, vi p2, vi p3, vi p4, vi 3, vi r9, vi r15, vi r21, vi r28, vr b116, vi 0] [(.int 1)]))
          exfalso
          exact gk205 gw248.2.1
        · show Dn p e below s _ _ _ (T248.setTop (mkF m 251 #[vi p0, vi p1, vi p2, vi p3, vi p4, vi 3, vi r9, vi r15, vi r21, vi r28, vr b116, vi 0] [(.int 0)]))
          refine Dn.st (fun _ kk => XS.iload X248.here hx rfl (hb hby at_251) rfl (kk)) ?_
          show Dn p e below s _ _ _ (T248.setTop (mkF m 253 #[vi p0, vi p1, vi p2, vi p3, vi p4, vi 3, vi r9, vi r15, vi r21, vi r28, vr b116, vi 0] [(.int 0), (.int 0)]))
          have hc253 : (0 : Int32) = (0 : Int32) := by decide
          refine Dn.st (fun _ kk => XS.icmpNo X248.here hx rfl (hb hby at_253) rfl (teq hc253).2 (XS.iconst X248.here hx rfl (hb hby at_256) (XS.goto X248.here hx rfl (pc0 := 257) (pc' := 261) rfl (hb hby at_257) (by decide) (by decide) (kk)))) ?_
          show Dn p e below s _ _ _ (T248.setTop (mkF m 261 #[vi p0, vi p1, vi p2, vi p3, vi p4, vi 3, vi r9, vi r15, vi r21, vi r28, vr b116, vi 0] [(.int 1)]))
          exact Dn.ret X248 hlk hx hret rfl (Or.inl ⟨rfl, Or.inr (Or.inl rfl), _, rfl⟩) (hb hby at_261) (by rw [hh248]; exact ⟨rfl, N248⟩) (by decide) (by decide)
    · show Dn p e below s _ _ _ (T191.setTop (mkF m 194 #[vi p0, vi p1, vi p2, vi p3, vi p4, vi 3, vi r9, vi r15, vi r21, vi r28, vr b116, .unset] [(.int 0)]))
      have hc194 : (0 : Int32) = (0 : Int32) := by decide
      refine Dn.st (fun _ kk => XS.ifYes X191.here hx rfl (pc0 := 194) (pc' := 243) rfl (hb hby at_194) rfl ((if0 _ _).trans (teq hc194).1) (by decide) (by decide) (XS.iconst X191.here hx rfl (hb hby at_243) (XS.istore X191.here hx rfl (hb hby at_244) rfl (l' := #[vi p0, vi p1, vi p2, vi p3, vi p4, vi 3, vi r9, vi r15, vi r21, vi r28, vr b116, vi 0]) rfl (XS.aload X191.here hx rfl (hb hby at_246) rfl rfl (kk))))) ?_
      show Dn p e below s _ _ _ (T191.setTop (mkF m 248 #[vi p0, vi p1, vi p2, vi p3, vi p4, vi 3, vi r9, vi r15, vi r21, vi r28, vr b116, vi 0] [(.ref b116)]))
      obtain ⟨_, _, ⟨T248, L248, k248, n248⟩, -, X248, ⟨Lc248, hQ248, l248, y248, z248⟩, st248⟩ := Jvm.LawKit.callS X191 hx (y := on3) hown (mvT hZ (tw hw 28 rfl)) (mvT hZ (tw hw 29 rfl)) (mvT hZ (tw hw 30 rfl)) (mvT hZ (tw hw 31 rfl)) (by decide) (backOf (W := 0) (rmIw3 l Z a0 hw [] b116 cs sf r9 r15 r21 T138.heap n0 Zz Wz S138 hr9 hr15 hr21) hZ (tw hw 31 rfl) (tw hw 30 rfl) (by decide) (by decide)) (g := (mkF m 248 #[vi p0, vi p1, vi p2, vi p3, vi p4, vi 3, vi r9, vi r15, vi r21, vi r28, vr b116, vi 0] [(.ref b116)])) rfl (by rw [hml]; rfl) (argsL := [(.ref b116)]) (rest := []) (lenOf pd18 rfl) rfl (by show 2 * 0 + _ ≤ _; exact Nat.le_of_eq rfl) (hb hby at_248) (fun _ _ => ⟨rfl, hh191, (by decide : 4 + 0 ≤ _), (by decide : 16 + 0 ≤ _)⟩)
      dsimp only [Pt.U, Pt.locs, Pt.cells, Pt.slots] at X248 l248 y248 z248 st248 hQ248
      subst l248 y248 z248
      obtain ⟨rw248, rfl, hq248, Nq248, hh248⟩ := hQ248
      have N248 := Fr.app N191 Nq248
      refine Dn.st st248 ?_
      rcases hq248 with ⟨rfl, gw248⟩ | ⟨rfl, gw248⟩
      · show Dn p e below s _ _ _ (T248.setTop (mkF m 251 #[vi p0, vi p1, vi p2, vi p3, vi p4, vi 3, vi r9, vi r15, vi r21, vi r28, vr b116, vi 0] [(.int 1)]))
        exfalso
        exact gk191 gw248.1
      · show Dn p e below s _ _ _ (T248.setTop (mkF m 251 #[vi p0, vi p1, vi p2, vi p3, vi p4, vi 3, vi r9, vi r15, vi r21, vi r28, vr b116, vi 0] [(.int 0)]))
        refine Dn.st (fun _ kk => XS.iload X248.here hx rfl (hb hby at_251) rfl (kk)) ?_
        show Dn p e below s _ _ _ (T248.setTop (mkF m 253 #[vi p0, vi p1, vi p2, vi p3, vi p4, vi 3, vi r9, vi r15, vi r21, vi r28, vr b116, vi 0] [(.int 0), (.int 0)]))
        have hc253 : (0 : Int32) = (0 : Int32) := by decide
        refine Dn.st (fun _ kk => XS.icmpNo X248.here hx rfl (hb hby at_253) rfl (teq hc253).2 (XS.iconst X248.here hx rfl (hb hby at_256) (XS.goto X248.here hx rfl (pc0 := 257) (pc' := 261) rfl (hb hby at_257) (by decide) (by decide) (kk)))) ?_
        show Dn p e below s _ _ _ (T248.setTop (mkF m 261 #[vi p0, vi p1, vi p2, vi p3, vi p4, vi 3, vi r9, vi r15, vi r21, vi r28, vr b116, vi 0] [(.int 1)]))
        exact Dn.ret X248 hlk hx hret rfl (Or.inl ⟨rfl, Or.inr (Or.inl rfl), _, rfl⟩) (hb hby at_261) (by rw [hh248]; exact ⟨rfl, N248⟩) (by decide) (by decide)
  · subst hk33
    show Dw p e below s _ _ _ (T28.setTop (mkF m 33 #[vi p0, vi p1, vi p2, vi p3, vi p4, vi 4, vi r9, vi r15, vi r21, vi r28, .unset, .unset] []))
    refine Dw.st (fun _ kk => XS.iload X28.here hx rfl (hb hby at_33) rfl (kk)) ?_
    show Dw p e below s _ _ _ (T28.setTop (mkF m 35 #[vi p0, vi p1, vi p2, vi p3, vi p4, vi 4, vi r9, vi r15, vi r21, vi r28, .unset, .unset] [(.int 4)]))
    refine Dw.ofN ?_
    have hc35 : ¬ ((4 : Int32) = (0 : Int32)) := by decide
    refine Dn.st (fun _ kk => XS.ifYes X28.here hx rfl (pc0 := 35) (pc' := 53) rfl (hb hby at_35) rfl ((if0 _ _).trans (feq hc35).2) (by decide) (by decide) (XS.iload X28.here hx rfl (hb hby at_53) rfl (XS.iconst X28.here hx rfl (hb hby at_55) (kk)))) ?_
    show Dn p e below s _ _ _ (T28.setTop (mkF m 56 #[vi p0, vi p1, vi p2, vi p3, vi p4, vi 4, vi r9, vi r15, vi r21, vi r28, .unset, .unset] [(.int 1), (.int 4)]))
    have hc56 : ¬ ((4 : Int32) = (1 : Int32)) := by decide
    refine Dn.st (fun _ kk => XS.icmpYes X28.here hx rfl (pc0 := 56) (pc' := 79) rfl (hb hby at_56) rfl (feq hc56).2 (by decide) (by decide) (XS.iload X28.here hx rfl (hb hby at_79) rfl (XS.iconst X28.here hx rfl (hb hby at_81) (kk)))) ?_
    show Dn p e below s _ _ _ (T28.setTop (mkF m 82 #[vi p0, vi p1, vi p2, vi p3, vi p4, vi 4, vi r9, vi r15, vi r21, vi r28, .unset, .unset] [(.int 2), (.int 4)]))
    have hc82 : ¬ ((4 : Int32) = (2 : Int32)) := by decide
    refine Dn.st (fun _ kk => XS.icmpYes X28.here hx rfl (pc0 := 82) (pc' := 110) rfl (hb hby at_82) rfl (feq hc82).2 (by decide) (by decide) (XS.iload X28.here hx rfl (hb hby at_110) rfl (XS.iconst X28.here hx rfl (hb hby at_112) (kk)))) ?_
    show Dn p e below s _ _ _ (T28.setTop (mkF m 113 #[vi p0, vi p1, vi p2, vi p3, vi p4, vi 4, vi r9, vi r15, vi r21, vi r28, .unset, .unset] [(.int 3), (.int 4)]))
    have hc113 : ¬ ((4 : Int32) = (3 : Int32)) := by decide
    refine Dn.st (fun _ kk => XS.icmpYes X28.here hx rfl (pc0 := 113) (pc' := 146) rfl (hb hby at_113) rfl (feq hc113).2 (by decide) (by decide) (kk)) ?_
    show Dn p e below s _ _ _ (T28.setTop (mkF m 146 #[vi p0, vi p1, vi p2, vi p3, vi p4, vi 4, vi r9, vi r15, vi r21, vi r28, .unset, .unset] []))
    obtain ⟨T146, h146, X146, e146, E146, A146, D146, -, st146⟩ := newO X28 hx hZ hown (tw hw 6 rfl) (tw hw 7 rfl) (tw hw 8 rfl) hh28 (g := (mkF m 146 #[vi p0, vi p1, vi p2, vi p3, vi p4, vi 4, vi r9, vi r15, vi r21, vi r28, .unset, .unset] [])) rfl (hb hby at_146) (by decide) (by decide)
    obtain ⟨b146, g146⟩ : ∃ z, z = h0.size := ⟨_, rfl⟩
    rw [← g146] at A146 D146 st146
    have Wo146 := hW.ext E146
    have gn_b146 : n0 ≤ b146 := Nat.le_trans Z0 (Nat.le_of_eq g146.symm)
    have Z146 : n0 ≤ h146.size := Nat.le_trans Z0 E146.1
    have F_b146_value : Fld Z h146 b146 "java/lang/String" "value" "[B" .null := D146 (Or.inr (tw hw 22 rfl)) (ty := (.array .byte)) (by decide)
    have F_b146_coder : Fld Z h146 b146 "java/lang/String" "coder" "B" (.int 0) := D146 (Or.inr (tw hw 23 rfl)) (ty := .byte) (by decide)
    refine Dn.st st146 ?_
    show Dn p e below s _ _ _ (T146.setTop (mkF m 149 #[vi p0, vi p1, vi p2, vi p3, vi p4, vi 4, vi r9, vi r15, vi r21, vi r28, .unset, .unset] [(.ref b146)]))
    refine Dn.st (fun _ kk => XS.dup X146.here hx rfl (hb hby at_149) rfl rfl (XS.iconst X146.here hx rfl (hb hby at_150) (kk))) ?_
    show Dn p e below s _ _ _ (T146.setTop (mkF m 151 #[vi p0, vi p1, vi p2, vi p3, vi p4, vi 4, vi r9, vi r15, vi r21, vi r28, .unset, .unset] [(.int 4), (.ref b146), (.ref b146)]))
    obtain ⟨T151, h151, k151, X151, e151, E151, A151, st151⟩ := newP X146 hx hZ (tw hw 9 rfl) e146 (g := (mkF m 151 #[vi p0, vi p1, vi p2, vi p3, vi p4, vi 4, vi r9, vi r15, vi r21, vi r28, .unset, .unset] [(.int 4), (.ref b146), (.ref b146)])) rfl (hb hby at_151) rfl (by decide) (cap := 4) (by decide) (by decide) (by decide) (by decide)
    obtain ⟨b151, g151⟩ : ∃ z, z = h146.size := ⟨_, rfl⟩
    rw [← g151] at A151 st151
    have ne_b146_b151 : b146 ≠ b151 := Nat.ne_of_lt (Nat.lt_of_lt_of_le A146.lt (Nat.le_of_eq g151.symm))
    have E_b146_151 := A146.ext E151
    have F_b146_value_151 := F_b146_value.ext E151
    have F_b146_coder_151 := F_b146_coder.ext E151
    have Wo151 := Wo146.ext E151
    have gn_b151 : n0 ≤ b151 := Nat.le_trans Z146 (Nat.le_of_eq g151.symm)
    have Z151 : n0 ≤ h151.size := Nat.le_trans Z146 E151.1
    have V_b151 : Arv Z h151 b151 k151 .char (4 : Int32) [(.int 0), (.int 0), (.int 0), (.int 0)] (.int 0) := (Arv.new A151 (by decide)).pad (pad_rep [] (.int 0) 4)
    refine Dn.st st151 ?_
    show Dn p e below s _ _ _ (T151.setTop (mkF m 153 #[vi p0, vi p1, vi p2, vi p3, vi p4, vi 4, vi r9, vi r15, vi r21, vi r28, .unset, .unset] [(.ref b151), (.ref b146), (.ref b146)]))
    refine Dn.st (fun _ kk => XS.dup X151.here hx rfl (hb hby at_153) rfl rfl (XS.iconst X151.here hx rfl (hb hby at_154) (XS.iload X151.here hx rfl (hb hby at_155) rfl (kk)))) ?_
    show Dn p e below s _ _ _ (T151.setTop (mkF m 157 #[vi p0, vi p1, vi p2, vi p3, vi p4, vi 4, vi r9, vi r15, vi r21, vi r28, .unset, .unset] [(.int r9), (.int 0), (.ref b151), (.ref b151), (.ref b146), (.ref b146)]))
    have Vc_b151_157 := V_b151
    obtain ⟨cl_b151_157, Ar_b151_157, q_b151_157, S_b151_157, N_b151_157, H_b151_157, G_b151_157⟩ := Vc_b151_157
    have hin157 : ¬ ((0 : Int32) < 0 ∨ cl_b151_157.slots.size ≤ ((0 : Int32)).toNatClampNeg) := inb_of S_b151_157 ⟨by decide, by decide⟩
    obtain ⟨T157, h157, X157, e157, W157, st157⟩ := stC X151 hx hZ e151 Ar_b151_157 (j := (0 : Int32)) hin157 (g := (mkF m 157 #[vi p0, vi p1, vi p2, vi p3, vi p4, vi 4, vi r9, vi r15, vi r21, vi r28, .unset, .unset] [(.int r9), (.int 0), (.ref b151), (.ref b151), (.ref b146), (.ref b146)])) rfl rfl (hb hby at_157)
    have Wo157 := Wo151.wr W157 gn_b151
    have E_b146_157 := E_b146_151.wr W157
    have F_b146_value_157 := F_b146_value_151.other W157 (Or.inl ne_b146_b151)
    have F_b146_coder_157 := F_b146_coder_151.other W157 (Or.inl ne_b146_b151)
    have V_b151_157 := Arv.set Ar_b151_157 q_b151_157 S_b151_157 N_b151_157 H_b151_157 G_b151_157 (fits_nar_char _) W157 0 rfl (Nat.le_of_ble_eq_true rfl)
    have N157 := Fr.snoc X157 N28 gn_b151
    have Z157 : n0 ≤ h157.size := Nat.le_trans Z151 (Keep.of_wr W157).1
    refine Dn.st st157 ?_
    show Dn p e below s _ _ _ (T157.setTop (mkF m 158 #[vi p0, vi p1, vi p2, vi p3, vi p4, vi 4, vi r9, vi r15, vi r21, vi r28, .unset, .unset] [(.ref b151), (.ref b146), (.ref b146)]))
    refine Dn.st (fun _ kk => XS.dup X157.here hx rfl (hb hby at_158) rfl rfl (XS.iconst X157.here hx rfl (hb hby at_159) (XS.iload X157.here hx rfl (hb hby at_160) rfl (kk)))) ?_
    show Dn p e below s _ _ _ (T157.setTop (mkF m 162 #[vi p0, vi p1, vi p2, vi p3, vi p4, vi 4, vi r9, vi r15, vi r21, vi r28, .unset, .unset] [(.int r15), (.int 1), (.ref b151), (.ref b151), (.ref b146), (.ref b146)]))
    have Vc_b151_162 := V_b151_157
    obtain ⟨cl_b151_162, Ar_b151_162, q_b151_162, S_b151_162, N_b151_162, H_b151_162, G_b151_162⟩ := Vc_b151_162
    have hin162 : ¬ ((1 : Int32) < 0 ∨ cl_b151_162.slots.size ≤ ((1 : Int32)).toNatClampNeg) := inb_of S_b151_162 ⟨by decide, by decide⟩
    obtain ⟨T162, h162, X162, e162, W162, st162⟩ := stC X157 hx hZ e157 Ar_b151_162 (j := (1 : Int32)) hin162 (g := (mkF m 162 #[vi p0, vi p1, vi p2, vi p3, vi p4, vi 4, vi r9, vi r15, vi r21, vi r28, .unset, .unset] [(.int r15), (.int 1), (.ref b151), (.ref b151), (.ref b146), (.ref b146)])) rfl rfl (hb hby at_162)
    have Wo162 := Wo157.wr W162 gn_b151
    have E_b146_162 := E_b146_157.wr W162
    have F_b146_value_162 := F_b146_value_157.other W162 (Or.inl ne_b146_b151)
    have F_b146_coder_162 := F_b146_coder_157.other W162 (Or.inl ne_b146_b151)
    have V_b151_162 := Arv.set Ar_b151_162 q_b151_162 S_b151_162 N_b151_162 H_b151_162 G_b151_162 (fits_nar_char _) W162 1 rfl (Nat.le_of_ble_eq_true rfl)
    have N162 := Fr.snoc X162 N157 gn_b151
    have Z162 : n0 ≤ h162.size := Nat.le_trans Z157 (Keep.of_wr W162).1
    refine Dn.st st162 ?_
    show Dn p e below s _ _ _ (T162.setTop (mkF m 163 #[vi p0, vi p1, vi p2, vi p3, vi p4, vi 4, vi r9, vi r15, vi r21, vi r28, .unset, .unset] [(.ref b151), (.ref b146), (.ref b146)]))
    refine Dn.st (fun _ kk => XS.dup X162.here hx rfl (hb hby at_163) rfl rfl (XS.iconst X162.here hx rfl (hb hby at_164) (XS.iload X162.here hx rfl (hb hby at_165) rfl (kk)))) ?_
    show Dn p e below s _ _ _ (T162.setTop (mkF m 167 #[vi p0, vi p1, vi p2, vi p3, vi p4, vi 4, vi r9, vi r15, vi r21, vi r28, .unset, .unset] [(.int r21), (.int 2), (.ref b151), (.ref b151), (.ref b146), (.ref b146)]))
    have Vc_b151_167 := V_b151_162
    obtain ⟨cl_b151_167, Ar_b151_167, q_b151_167, S_b151_167, N_b151_167, H_b151_167, G_b151_167⟩ := Vc_b151_167
    have hin167 : ¬ ((2 : Int32) < 0 ∨ cl_b151_167.slots.size ≤ ((2 : Int32)).toNatClampNeg) := inb_of S_b151_167 ⟨by decide, by decide⟩
    obtain ⟨T167, h167, X167, e167, W167, st167⟩ := stC X162 hx hZ e162 Ar_b151_167 (j := (2 : Int32)) hin167 (g := (mkF m 167 #[vi p0, vi p1, vi p2, vi p3, vi p4, vi 4, vi r9, vi r15, vi r21, vi r28, .unset, .unset] [(.int r21), (.int 2), (.ref b151), (.ref b151), (.ref b146), (.ref b146)])) rfl rfl (hb hby at_167)
    have Wo167 := Wo162.wr W167 gn_b151
    have E_b146_167 := E_b146_162.wr W167
    have F_b146_value_167 := F_b146_value_162.other W167 (Or.inl ne_b146_b151)
    have F_b146_coder_167 := F_b146_coder_162.other W167 (Or.inl ne_b146_b151)
    have V_b151_167 := Arv.set Ar_b151_167 q_b151_167 S_b151_167 N_b151_167 H_b151_167 G_b151_167 (fits_nar_char _) W167 2 rfl (Nat.le_of_ble_eq_true rfl)
    have N167 := Fr.snoc X167 N162 gn_b151
    have Z167 : n0 ≤ h167.size := Nat.le_trans Z162 (Keep.of_wr W167).1
    refine Dn.st st167 ?_
    show Dn p e below s _ _ _ (T167.setTop (mkF m 168 #[vi p0, vi p1, vi p2, vi p3, vi p4, vi 4, vi r9, vi r15, vi r21, vi r28, .unset, .unset] [(.ref b151), (.ref b146), (.ref b146)]))
    refine Dn.st (fun _ kk => XS.dup X167.here hx rfl (hb hby at_168) rfl rfl (XS.iconst X167.here hx rfl (hb hby at_169) (XS.iload X167.here hx rfl (hb hby at_170) rfl (kk)))) ?_
    show Dn p e below s _ _ _ (T167.setTop (mkF m 172 #[vi p0, vi p1, vi p2, vi p3, vi p4, vi 4, vi r9, vi r15, vi r21, vi r28, .unset, .unset] [(.int r28), (.int 3), (.ref b151), (.ref b151), (.ref b146), (.ref b146)]))
    have Vc_b151_172 := V_b151_167
    obtain ⟨cl_b151_172, Ar_b151_172, q_b151_172, S_b151_172, N_b151_172, H_b151_172, G_b151_172⟩ := Vc_b151_172
    have hin172 : ¬ ((3 : Int32) < 0 ∨ cl_b151_172.slots.size ≤ ((3 : Int32)).toNatClampNeg) := inb_of S_b151_172 ⟨by decide, by decide⟩
    obtain ⟨T172, h172, X172, e172, W172, st172⟩ := stC X167 hx hZ e167 Ar_b151_172 (j := (3 : Int32)) hin172 (g := (mkF m 172 #[vi p0, vi p1, vi p2, vi p3, vi p4, vi 4, vi r9, vi r15, vi r21, vi r28, .unset, .unset] [(.int r28), (.int 3), (.ref b151), (.ref b151), (.ref b146), (.ref b146)])) rfl rfl (hb hby at_172)
    have Wo172 := Wo167.wr W172 gn_b151
    have E_b146_172 := E_b146_167.wr W172
    have F_b146_value_172 := F_b146_value_167.other W172 (Or.inl ne_b146_b151)
    have F_b146_coder_172 := F_b146_coder_167.other W172 (Or.inl ne_b146_b151)
    have V_b151_172 := Arv.set Ar_b151_172 q_b151_172 S_b151_172 N_b151_172 H_b151_172 G_b151_172 (fits_nar_char _) W172 3 rfl (Nat.le_of_ble_eq_true rfl)
    have N172 := Fr.snoc X172 N167 gn_b151
    have Z172 : n0 ≤ h172.size := Nat.le_trans Z167 (Keep.of_wr W172).1
    refine Dn.st st172 ?_
    show Dn p e below s _ _ _ (T172.setTop (mkF m 173 #[vi p0, vi p1, vi p2, vi p3, vi p4, vi 4, vi r9, vi r15, vi r21, vi r28, .unset, .unset] [(.ref b151), (.ref b146), (.ref b146)]))
    rw [own_c hr9.1 hr9.2, own_c hr15.1 hr15.2, own_c hr21.1 hr21.2, own_c hr28.1 hr28.2] at V_b151_172
    obtain ⟨_, _, ⟨T173, L173, k173, n173⟩, -, X173, ⟨Lc173, hQ173, l173, y173, z173⟩, st173⟩ := X172.specialBack hx (y := on9) rfl hown (mvT hZ (tw hw 10 rfl)) (mvT hZ (tw hw 11 rfl)) (mvT hZ (tw hw 12 rfl)) (by decide) (backOf (W := 1) (rmSc4 l Z a0 hw [] b146 b151 cs sf k151 r9 r15 r21 r28 h172 n0 Z172 Wo172 gn_b146 E_b146_172 F_b146_coder_172 F_b146_value_172 V_b151_172 ne_b146_b151 hr9 hr15 hr21 hr28) hZ (tw hw 12 rfl) (tw hw 8 rfl) (by decide) (by decide)) (g := (mkF m 173 #[vi p0, vi p1, vi p2, vi p3, vi p4, vi 4, vi r9, vi r15, vi r21, vi r28, .unset, .unset] [(.ref b151), (.ref b146), (.ref b146)])) rfl (by rw [hml]; rfl) (Steps.refl _) (a := b146) (argsL := [(.ref b151)]) (rest := [(.ref b146)]) (lenOf pd17 rfl) rfl (by show 2 * 0 + _ ≤ _; exact Nat.le_of_eq rfl) (hb hby at_173) (fun _ _ => ⟨rfl, e172, (by decide : 2 + 2 ≤ _), (by decide : 8 + 12 ≤ _)⟩)
    dsimp only [Pt.U, Pt.locs, Pt.cells, Pt.slots] at X173 l173 y173 z173 st173 hQ173
    subst l173 y173 z173
    obtain ⟨rfl, Nq173, K173, S173⟩ := hQ173
    have N173 := Fr.app N172 Nq173
    refine Dn.tr st173 ?_
    have Wz := Wo172.keep K173 (own_k1 gn_b146)
    have Zz : n0 ≤ T173.heap.size := Nat.le_trans Z172 K173.1
    show Dn p e below s _ _ _ (T173.setTop (mkF m 176 #[vi p0, vi p1, vi p2, vi p3, vi p4, vi 4, vi r9, vi r15, vi r21, vi r28, .unset, .unset] [(.ref b146)]))
    refine Dn.st (fun _ kk => XS.astore X173.here hx rfl (hb hby at_176) rfl rfl (l' := #[vi p0, vi p1, vi p2, vi p3, vi p4, vi 4, vi r9, vi r15, vi r21, vi r28, vr b146, .unset]) rfl (XS.iload X173.here hx rfl (hb hby at_178) rfl (kk))) ?_
    show Dn p e below s _ _ _ (T173.setTop (mkF m 180 #[vi p0, vi p1, vi p2, vi p3, vi p4, vi 4, vi r9, vi r15, vi r21, vi r28, vr b146, .unset] [(.int 4)]))
    have hc180 : (0 : Int32) < (4 : Int32) := by decide
    refine Dn.st (fun _ kk => XS.ifNo X173.here hx rfl (hb hby at_180) rfl ((if0 _ _).trans (tlt hc180).2.2.2) (XS.iload X173.here hx rfl (hb hby at_183) rfl (XS.iconst X173.here hx rfl (hb hby at_185) (kk)))) ?_
    show Dn p e below s _ _ _ (T173.setTop (mkF m 186 #[vi p0, vi p1, vi p2, vi p3, vi p4, vi 4, vi r9, vi r15, vi r21, vi r28, vr b146, .unset] [(.int 1), (.int 4)]))
    have hc186 : ¬ ((4 : Int32) < (1 : Int32)) := by decide
    refine Dn.st (fun _ kk => XS.icmpNo X173.here hx rfl (hb hby at_186) rfl (flt hc186).1 (XS.iload X173.here hx rfl (hb hby at_189) rfl (kk))) ?_
    show Dn p e below s _ _ _ (T173.setTop (mkF m 191 #[vi p0, vi p1, vi p2, vi p3, vi p4, vi 4, vi r9, vi r15, vi r21, vi r28, vr b146, .unset] [(.int r9)]))
    obtain ⟨_, _, ⟨T191, L191, k191, n191⟩, -, X191, ⟨Lc191, hQ191, l191, y191, z191⟩, st191⟩ := Jvm.LawKit.callS X173 hx (y := on17) hown (mvT hZ (tw hw 58 rfl)) (mvT hZ (tw hw 59 rfl)) (mvT hZ (tw hw 3 rfl)) (mvT hZ (tw hw 60 rfl)) (by decide) (backOf (W := 0) (rmOk l Z a0 hw [] r9  T173.heap n0 Zz ) hZ (tw hw 60 rfl) (tw hw 3 rfl) (by decide) (by decide)) (g := (mkF m 191 #[vi p0, vi p1, vi p2, vi p3, vi p4, vi 4, vi r9, vi r15, vi r21, vi r28, vr b146, .unset] [(.int r9)])) rfl (by rw [hml]; rfl) (argsL := [(.int r9)]) (rest := []) (lenOf pd16 rfl) rfl (by show 2 * 0 + _ ≤ _; exact Nat.le_of_eq rfl) (hb hby at_191) (fun _ _ => ⟨rfl, rfl, (by decide : 4 + 0 ≤ _), (by decide : 20 + 0 ≤ _)⟩)
    dsimp only [Pt.U, Pt.locs, Pt.cells, Pt.slots] at X191 l191 y191 z191 st191 hQ191
    subst l191 y191 z191
    obtain ⟨rr191, rfl, hq191, Nq191, hh191⟩ := hQ191
    have N191 := Fr.app N173 Nq191
    refine Dn.st st191 ?_
    rcases hq191 with ⟨rfl, gk191⟩ | ⟨rfl, gk191⟩
    · show Dn p e below s _ _ _ (T191.setTop (mkF m 194 #[vi p0, vi p1, vi p2, vi p3, vi p4, vi 4, vi r9, vi r15, vi r21, vi r28, vr b146, .unset] [(.int 1)]))
      have hc194 : ¬ ((1 : Int32) = (0 : Int32)) := by decide
      refine Dn.st (fun _ kk => XS.ifNo X191.here hx rfl (hb hby at_194) rfl ((if0 _ _).trans (feq hc194).1) (XS.iload X191.here hx rfl (hb hby at_197) rfl (XS.iconst X191.here hx rfl (hb hby at_199) (kk)))) ?_
      show Dn p e below s _ _ _ (T191.setTop (mkF m 200 #[vi p0, vi p1, vi p2, vi p3, vi p4, vi 4, vi r9, vi r15, vi r21, vi r28, vr b146, .unset] [(.int 2), (.int 4)]))
      have hc200 : ¬ ((4 : Int32) < (2 : Int32)) := by decide
      refine Dn.st (fun _ kk => XS.icmpNo X191.here hx rfl (hb hby at_200) rfl (flt hc200).1 (XS.iload X191.here hx rfl (hb hby at_203) rfl (kk))) ?_
      show Dn p e below s _ _ _ (T191.setTop (mkF m 205 #[vi p0, vi p1, vi p2, vi p3, vi p4, vi 4, vi r9, vi r15, vi r21, vi r28, vr b146, .unset] [(.int r15)]))
      obtain ⟨_, _, ⟨T205, L205, k205, n205⟩, -, X205, ⟨Lc205, hQ205, l205, y205, z205⟩, st205⟩ := Jvm.LawKit.callS X191 hx (y := on17) hown (mvT hZ (tw hw 58 rfl)) (mvT hZ (tw hw 59 rfl)) (mvT hZ (tw hw 3 rfl)) (mvT hZ (tw hw 60 rfl)) (by decide) (backOf (W := 0) (rmOk l Z a0 hw [] r15  T173.heap n0 Zz ) hZ (tw hw 60 rfl) (tw hw 3 rfl) (by decide) (by decide)) (g := (mkF m 205 #[vi p0, vi p1, vi p2, vi p3, vi p4, vi 4, vi r9, vi r15, vi r21, vi r28, vr b146, .unset] [(.int r15)])) rfl (by rw [hml]; rfl) (argsL := [(.int r15)]) (rest := []) (lenOf pd16 rfl) rfl (by show 2 * 0 + _ ≤ _; exact Nat.le_of_eq rfl) (hb hby at_205) (fun _ _ => ⟨rfl, hh191, (by decide : 4 + 0 ≤ _), (by decide : 20 + 0 ≤ _)⟩)
      dsimp only [Pt.U, Pt.locs, Pt.cells, Pt.slots] at X205 l205 y205 z205 st205 hQ205
      subst l205 y205 z205
      obtain ⟨rr205, rfl, hq205, Nq205, hh205⟩ := hQ205
      have N205 := Fr.app N191 Nq205
      refine Dn.st st205 ?_
      rcases hq205 with ⟨rfl, gk205⟩ | ⟨rfl, gk205⟩
      · show Dn p e below s _ _ _ (T205.setTop (mkF m 208 #[vi p0, vi p1, vi p2, vi p3, vi p4, vi 4, vi r9, vi r15, vi r21, vi r28, vr b146, .unset] [(.int 1)]))
        have hc208 : ¬ ((1 : Int32) = (0 : Int32)) := by decide
        refine Dn.st (fun _ kk => XS.ifNo X205.here hx rfl (hb hby at_208) rfl ((if0 _ _).trans (feq hc208).1) (XS.iload X205.here hx rfl (hb hby at_211) rfl (XS.iconst X205.here hx rfl (hb hby at_213) (kk)))) ?_
        show Dn p e below s _ _ _ (T205.setTop (mkF m 214 #[vi p0, vi p1, vi p2, vi p3, vi p4, vi 4, vi r9, vi r15, vi r21, vi r28, vr b146, .unset] [(.int 3), (.int 4)]))
        have hc214 : ¬ ((4 : Int32) < (3 : Int32)) := by decide
        refine Dn.st (fun _ kk => XS.icmpNo X205.here hx rfl (hb hby at_214) rfl (flt hc214).1 (XS.iload X205.here hx rfl (hb hby at_217) rfl (kk))) ?_
        show Dn p e below s _ _ _ (T205.setTop (mkF m 219 #[vi p0, vi p1, vi p2, vi p3, vi p4, vi 4, vi r9, vi r15, vi r21, vi r28, vr b146, .unset] [(.int r21)]))
        obtain ⟨_, _, ⟨T219, L219, k219, n219⟩, -, X219, ⟨Lc219, hQ219, l219, y219, z219⟩, st219⟩ := Jvm.LawKit.callS X205 hx (y := on17) hown (mvT hZ (tw hw 58 rfl)) (mvT hZ (tw hw 59 rfl)) (mvT hZ (tw hw 3 rfl)) (mvT hZ (tw hw 60 rfl)) (by decide) (backOf (W := 0) (rmOk l Z a0 hw [] r21  T173.heap n0 Zz ) hZ (tw hw 60 rfl) (tw hw 3 rfl) (by decide) (by decide)) (g := (mkF m 219 #[vi p0, vi p1, vi p2, vi p3, vi p4, vi 4, vi r9, vi r15, vi r21, vi r28, vr b146, .unset] [(.int r21)])) rfl (by rw [hml]; rfl) (argsL := [(.int r21)]) (rest := []) (lenOf pd16 rfl) rfl (by show 2 * 0 + _ ≤ _; exact Nat.le_of_eq rfl) (hb hby at_219) (fun _ _ => ⟨rfl, hh205, (by decide : 4 + 0 ≤ _), (by decide : 20 + 0 ≤ _)⟩)
        dsimp only [Pt.U, Pt.locs, Pt.cells, Pt.slots] at X219 l219 y219 z219 st219 hQ219
        subst l219 y219 z219
        obtain ⟨rr219, rfl, hq219, Nq219, hh219⟩ := hQ219
        have N219 := Fr.app N205 Nq219
        refine Dn.st st219 ?_
        rcases hq219 with ⟨rfl, gk219⟩ | ⟨rfl, gk219⟩
        · show Dn p e below s _ _ _ (T219.setTop (mkF m 222 #[vi p0, vi p1, vi p2, vi p3, vi p4, vi 4, vi r9, vi r15, vi r21, vi r28, vr b146, .unset] [(.int 1)]))
          have hc222 : ¬ ((1 : Int32) = (0 : Int32)) := by decide
          refine Dn.st (fun _ kk => XS.ifNo X219.here hx rfl (hb hby at_222) rfl ((if0 _ _).trans (feq hc222).1) (XS.iload X219.here hx rfl (hb hby at_225) rfl (XS.iconst X219.here hx rfl (hb hby at_227) (kk)))) ?_
          show Dn p e below s _ _ _ (T219.setTop (mkF m 228 #[vi p0, vi p1, vi p2, vi p3, vi p4, vi 4, vi r9, vi r15, vi r21, vi r28, vr b146, .unset] [(.int 4), (.int 4)]))
          have hc228 : ¬ ((4 : Int32) < (4 : Int32)) := by decide
          refine Dn.st (fun _ kk => XS.icmpNo X219.here hx rfl (hb hby at_228) rfl (flt hc228).1 (XS.iload X219.here hx rfl (hb hby at_231) rfl (kk))) ?_
          show Dn p e below s _ _ _ (T219.setTop (mkF m 233 #[vi p0, vi p1, vi p2, vi p3, vi p4, vi 4, vi r9, vi r15, vi r21, vi r28, vr b146, .unset] [(.int r28)]))
          obtain ⟨_, _, ⟨T233, L233, k233, n233⟩, -, X233, ⟨Lc233, hQ233, l233, y233, z233⟩, st233⟩ := Jvm.LawKit.callS X219 hx (y := on17) hown (mvT hZ (tw hw 58 rfl)) (mvT hZ (tw hw 59 rfl)) (mvT hZ (tw hw 3 rfl)) (mvT hZ (tw hw 60 rfl)) (by decide) (backOf (W := 0) (rmOk l Z a0 hw [] r28  T173.heap n0 Zz ) hZ (tw hw 60 rfl) (tw hw 3 rfl) (by decide) (by decide)) (g := (mkF m 233 #[vi p0, vi p1, vi p2, vi p3, vi p4, vi 4, vi r9, vi r15, vi r21, vi r28, vr b146, .unset] [(.int r28)])) rfl (by rw [hml]; rfl) (argsL := [(.int r28)]) (rest := []) (lenOf pd16 rfl) rfl (by show 2 * 0 + _ ≤ _; exact Nat.le_of_eq rfl) (hb hby at_233) (fun _ _ => ⟨rfl, hh219, (by decide : 4 + 0 ≤ _), (by decide : 20 + 0 ≤ _)⟩)
          dsimp only [Pt.U, Pt.locs, Pt.cells, Pt.slots] at X233 l233 y233 z233 st233 hQ233
          subst l233 y233 z233
          obtain ⟨rr233, rfl, hq233, Nq233, hh233⟩ := hQ233
          have N233 := Fr.app N219 Nq233
          refine Dn.st st233 ?_
          rcases hq233 with ⟨rfl, gk233⟩ | ⟨rfl, gk233⟩
          · show Dn p e below s _ _ _ (T233.setTop (mkF m 236 #[vi p0, vi p1, vi p2, vi p3, vi p4, vi 4, vi r9, vi r15, vi r21, vi r28, vr b146, .unset] [(.int 1)]))
            have hc236 : ¬ ((1 : Int32) = (0 : Int32)) := by decide
            refine Dn.st (fun _ kk => XS.ifNo X233.here hx rfl (hb hby at_236) rfl ((if0 _ _).trans (feq hc236).1) (XS.iconst X233.here hx rfl (hb hby at_239) (XS.goto X233.here hx rfl (pc0 := 240) (pc' := 244) rfl (hb hby at_240) (by decide) (by decide) (XS.istore X233.here hx rfl (hb hby at_244) rfl (l' := #[vi p0, vi p1, vi p2, vi p3, vi p4, vi 4, vi r9, vi r15, vi r21, vi r28, vr b146, vi 1]) rfl (XS.aload X233.here hx rfl (hb hby at_246) rfl rfl (kk)))))) ?_
            show Dn p e below s _ _ _ (T233.setTop (mkF m 248 #[vi p0, vi p1, vi p2, vi p3, vi p4, vi 4, vi r9, vi r15, vi r21, vi r28, vr b146, vi 1] [(.ref b146)]))
            obtain ⟨_, _, ⟨T248, L248, k248, n248⟩, -, X248, ⟨Lc248, hQ248, l248, y248, z248⟩, st248⟩ := Jvm.LawKit.callS X233 hx (y := on3) hown (mvT hZ (tw hw 28 rfl)) (mvT hZ (tw hw 29 rfl)) (mvT hZ (tw hw 30 rfl)) (mvT hZ (tw hw 31 rfl)) (by decide) (backOf (W := 0) (rmIw4 l Z a0 hw [] b146 cs sf r9 r15 r21 r28 T173.heap n0 Zz Wz S173 hr9 hr15 hr21 hr28) hZ (tw hw 31 rfl) (tw hw 30 rfl) (by decide) (by decide)) (g := (mkF m 248 #[vi p0, vi p1, vi p2, vi p3, vi p4, vi 4, vi r9, vi r15, vi r21, vi r28, vr b146, vi 1] [(.ref b146)])) rfl (by rw [hml]; rfl) (argsL := [(.ref b146)]) (rest := []) (lenOf pd18 rfl) rfl (by show 2 * 0 + _ ≤ _; exact Nat.le_of_eq rfl) (hb hby at_248) (fun _ _ => ⟨rfl, hh233, (by decide : 4 + 0 ≤ _), (by decide : 20 + 0 ≤ _)⟩)
            dsimp only [Pt.U, Pt.locs, Pt.cells, Pt.slots] at X248 l248 y248 z248 st248 hQ248
            subst l248 y248 z248
            obtain ⟨rw248, rfl, hq248, Nq248, hh248⟩ := hQ248
            have N248 := Fr.app N233 Nq248
            refine Dn.st st248 ?_
            rcases hq248 with ⟨rfl, gw248⟩ | ⟨rfl, gw248⟩
            · show Dn p e below s _ _ _ (T248.setTop (mkF m 251 #[vi p0, vi p1, vi p2, vi p3, vi p4, vi 4, vi r9, vi r15, vi r21, vi r28, vr b146, vi 1] [(.int 1)]))
              refine Dn.st (fun _ kk => XS.iload X248.here hx rfl (hb hby at_251) rfl (kk)) ?_
              show Dn p e below s _ _ _ (T248.setTop (mkF m 253 #[vi p0, vi p1, vi p2, vi p3, vi p4, vi 4, vi r9, vi r15, vi r21, vi r28, vr b146, vi 1] [(.int 1), (.int 1)]))
              have hc253 : (1 : Int32) = (1 : Int32) := by decide
              refine Dn.st (fun _ kk => XS.icmpNo X248.here hx rfl (hb hby at_253) rfl (teq hc253).2 (XS.iconst X248.here hx rfl (hb hby at_256) (XS.goto X248.here hx rfl (pc0 := 257) (pc' := 261) rfl (hb hby at_257) (by decide) (by decide) (kk)))) ?_
              show Dn p e below s _ _ _ (T248.setTop (mkF m 261 #[vi p0, vi p1, vi p2, vi p3, vi p4, vi 4, vi r9, vi r15, vi r21, vi r28, vr b146, vi 1] [(.int 1)]))
              exact Dn.ret X248 hlk hx hret rfl (Or.inl ⟨rfl, Or.inr (Or.inl rfl), _, rfl⟩) (hb hby at_261) (by rw [hh248]; exact ⟨rfl, N248⟩) (by decide) (by decide)
            · show Dn p e below s _ _ _ (T248.setTop (mkF m 251 #[vi p0, vi p1, vi p2, vi p3, vi p4, vi 4, vi r9, vi r15, vi r21, vi r28, vr b146, vi 1] [(.int 0)]))
              exfalso
              exact gw248 ⟨gk191, gk205, gk219, gk233, trivial⟩
          · show Dn p e below s _ _ _ (T233.setTop (mkF m 236 #[vi p0, vi p1, vi p2, vi p3, vi p4, vi 4, vi r9, vi r15, vi r21, vi r28, vr b146, .unset] [(.int 0)]))
            have hc236 : (0 : Int32) = (0 : Int32) := by decide
            refine Dn.st (fun _ kk => XS.ifYes X233.here hx rfl (pc0 := 236) (pc' := 243) rfl (hb hby at_236) rfl ((if0 _ _).trans (teq hc236).1) (by decide) (by decide) (XS.iconst X233.here hx rfl (hb hby at_243) (XS.istore X233.here hx rfl (hb hby at_244) rfl (l' := #[vi p0, vi p1, vi p2, vi p3, vi p4, vi 4, vi r9, vi r15, vi r21, vi r28, vr b146, vi 0]) rfl (XS.aload X233.here hx rfl (hb hby at_246) rfl rfl (kk))))) ?_
            show Dn p e below s _ _ _ (T233.setTop (mkF m 248 #[vi p0, vi p1, vi p2, vi p3, vi p4, vi 4, vi r9, vi r15, vi r21, vi r28, vr b146, vi 0] [(.ref b146)]))
            obtain ⟨_, _, ⟨T248, L248, k248, n248⟩, -, X248, ⟨Lc248, hQ248, l248, y248, z248⟩, st248⟩ := Jvm.LawKit.callS X233 hx (y := on3) hown (mvT hZ (tw hw 28 rfl)) (mvT hZ (tw hw 29 rfl)) (mvT hZ (tw hw 30 rfl)) (mvT hZ (tw hw 31 rfl)) (by decide) (backOf (W := 0) (rmIw4 l Z a0 hw [] b146 cs sf r9 r15 r21 r28 T173.heap n0 Zz Wz S173 hr9 hr15 hr21 hr28) hZ (tw hw 31 rfl) (tw hw 30 rfl) (by decide) (by decide)) (g := (mkF m 248 #[vi p0, vi p1, vi p2, vi p3, vi p4, vi 4, vi r9, vi r15, vi r21, vi r28, vr b146, vi 0] [(.ref b146)])) rfl (by rw [hml]; rfl) (argsL := [(.ref b146)]) (rest := []) (lenOf pd18 rfl) rfl (by show 2 * 0 + _ ≤ _; exact Nat.le_of_eq rfl) (hb hby at_248) (fun _ _ => ⟨rfl, hh233, (by decide : 4 + 0 ≤ _), (by decide : 20 + 0 ≤ _)⟩)
            dsimp only [Pt.U, Pt.locs, Pt.cells, Pt.slots] at X248 l248 y248 z248 st248 hQ248
            subst l248 y248 z248
            obtain ⟨rw248, rfl, hq248, Nq248, hh248⟩ := hQ248
            have N248 := Fr.app N233 Nq248
            refine Dn.st st248 ?_
            rcases hq248 with ⟨rfl, gw248⟩ | ⟨rfl, gw248⟩
            · show Dn p e below s _ _ _ (T248.setTop (mkF m 251 #[vi p0, vi p1, vi p2, vi p3, vi p4, vi 4, vi r9, vi r15, vi r21, vi r28, vr b146, vi 0] [(.int 1)]))
              exfalso
              exact gk233 gw248.2.2.2.1
            · show Dn p e below s _ _ _ (T248.setTop (mkF m 251 #[vi p0, vi p1, vi p2, vi p3, vi p4, vi 4, vi r9, vi r15, vi r21, vi r28, vr b146, vi 0] [(.int 0)]))
              refine Dn.st (fun _ kk => XS.iload X248.here hx rfl (hb hby at_251) rfl (kk)) ?_
              show Dn p e below s _ _ _ (T248.setTop (mkF m 253 #[vi p0, vi p1, vi p2, vi p3, vi p4, vi 4, vi r9, vi r15, vi r21, vi r28, vr b146, vi 0] [(.int 0), (.int 0)]))
              have hc253 : (0 : Int32) = (0 : Int32) := by decide
              refine Dn.st (fun _ kk => XS.icmpNo X248.here hx rfl (hb hby at_253) rfl (teq hc253).2 (XS.iconst X248.here hx rfl (hb hby at_256) (XS.goto X248.here hx rfl (pc0 := 257) (pc' := 261) rfl (hb hby at_257) (by decide) (by decide) (kk)))) ?_
              show Dn p e below s _ _ _ (T248.setTop (mkF m 261 #[vi p0, vi p1, vi p2, vi p3, vi p4, vi 4, vi r9, vi r15, vi r21, vi r28, vr b146, vi 0] [(.int 1)]))
              exact Dn.ret X248 hlk hx hret rfl (Or.inl ⟨rfl, Or.inr (Or.inl rfl), _, rfl⟩) (hb hby at_261) (by rw [hh248]; exact ⟨rfl, N248⟩) (by decide) (by decide)
        · show Dn p e below s _ _ _ (T219.setTop (mkF m 222 #[vi p0, vi p1, vi p2, vi p3, vi p4, vi 4, vi r9, vi r15, vi r21, vi r28, vr b146, .unset] [(.int 0)]))
          have hc222 : (0 : Int32) = (0 : Int32) := by decide
          refine Dn.st (fun _ kk => XS.ifYes X219.here hx rfl (pc0 := 222) (pc' := 243) rfl (hb hby at_222) rfl ((if0 _ _).trans (teq hc222).1) (by decide) (by decide) (XS.iconst X219.here hx rfl (hb hby at_243) (XS.istore X219.here hx rfl (hb hby at_244) rfl (l' := #[vi p0, vi p1, vi p2, vi p3, vi p4, vi 4, vi r9, vi r15, vi r21, vi r28, vr b146, vi 0]) rfl (XS.aload X219.here hx rfl (hb hby at_246) rfl rfl (kk))))) ?_
          show Dn p e below s _ _ _ (T219.setTop (mkF m 248 #[vi p0, vi p1, vi p2, vi p3, vi p4, vi 4, vi r9, vi r15, vi r21, vi r28, vr b146, vi 0] [(.ref b146)]))
          obtain ⟨_, _, ⟨T248, L248, k248, n248⟩, -, X248, ⟨Lc248, hQ248, l248, y248, z248⟩, st248⟩ := Jvm.LawKit.callS X219 hx (y := on3) hown (mvT hZ (tw hw 28 rfl)) (mvT hZ (tw hw 29 rfl)) (mvT hZ (tw hw 30 rfl)) (mvT hZ (tw hw 31 rfl)) (by decide) (backOf (W := 0) (rmIw4 l Z a0 hw [] b146 cs sf r9 r15 r21 r28 T173.heap n0 Zz Wz S173 hr9 hr15 hr21 hr28) hZ (tw hw 31 rfl) (tw hw 30 rfl) (by decide) (by decide)) (g := (mkF m 248 #[vi p0, vi p1, vi p2, vi p3, vi p4, vi 4, vi r9, vi r15, vi r21, vi r28, vr b146, vi 0] [(.ref b146)])) rfl (by rw [hml]; rfl) (argsL := [(.ref b146)]) (rest := []) (lenOf pd18 rfl) rfl (by show 2 * 0 + _ ≤ _; exact Nat.le_of_eq rfl) (hb hby at_248) (fun _ _ => ⟨rfl, hh219, (by decide : 4 + 0 ≤ _), (by decide : 20 + 0 ≤ _)⟩)
          dsimp only [Pt.U, Pt.locs, Pt.cells, Pt.slots] at X248 l248 y248 z248 st248 hQ248
          subst l248 y248 z248
          obtain ⟨rw248, rfl, hq248, Nq248, hh248⟩ := hQ248
          have N248 := Fr.app N219 Nq248
          refine Dn.st st248 ?_
          rcases hq248 with ⟨rfl, gw248⟩ | ⟨rfl, gw248⟩
          · show Dn p e below s _ _ _ (T248.setTop (mkF m 251 #[vi p0, vi p1, vi p2, vi p3, vi p4, vi 4, vi r9, vi r15, vi r21, vi r28, vr b146, vi 0] [(.int 1)]))
            exfalso
            exact gk219 gw248.2.2.1
          · show Dn p e below s _ _ _ (T248.setTop (mkF m 251 #[vi p0, vi p1, vi p2, vi p3, vi p4, vi 4, vi r9, vi r15, vi r21, vi r28, vr b146, vi 0] [(.int 0)]))
            refine Dn.st (fun _ kk => XS.iload X248.here hx rfl (hb hby at_251) rfl (kk)) ?_
            show Dn p e below s _ _ _ (T248.setTop (mkF m 253 #[vi p0, vi p1, vi p2, vi p3, vi p4, vi 4, vi r9, vi r15, vi r21, vi r28, vr b146, vi 0] [(.int 0), (.int 0)]))
            have hc253 : (0 : Int32) = (0 : Int32) := by decide
            refine Dn.st (fun _ kk => XS.icmpNo X248.here hx rfl (hb hby at_253) rfl (teq hc253).2 (XS.iconst X248.here hx rfl (hb hby at_256) (XS.goto X248.here hx rfl (pc0 := 257) (pc' := 261) rfl (hb hby at_257) (by decide) (by decide) (kk)))) ?_
            show Dn p e below s _ _ _ (T248.setTop (mkF m 261 #[vi p0, vi p1, vi p2, vi p3, vi p4, vi 4, vi r9, vi r15, vi r21, vi r28, vr b146, vi 0] [(.int 1)]))
            exact Dn.ret X248 hlk hx hret rfl (Or.inl ⟨rfl, Or.inr (Or.inl rfl), _, rfl⟩) (hb hby at_261) (by rw [hh248]; exact ⟨rfl, N248⟩) (by decide) (by decide)
      · show Dn p e below s _ _ _ (T205.setTop (mkF m 208 #[vi p0, vi p1, vi p2, vi p3, vi p4, vi 4, vi r9, vi r15, vi r21, vi r28, vr b146, .unset] [(.int 0)]))
        have hc208 : (0 : Int32) = (0 : Int32) := by decide
        refine Dn.st (fun _ kk => XS.ifYes X205.here hx rfl (pc0 := 208) (pc' := 243) rfl (hb hby at_208) rfl ((if0 _ _).trans (teq hc208).1) (by decide) (by decide) (XS.iconst X205.here hx rfl (hb hby at_243) (XS.istore X205.here hx rfl (hb hby at_244) rfl (l' := #[vi p0, vi p1, vi p2, vi p3, vi p4, vi 4, vi r9, vi r15, vi r21, vi r28, vr b146, vi 0]) rfl (XS.aload X205.here hx rfl (hb hby at_246) rfl rfl (kk))))) ?_
        show Dn p e below s _ _ _ (T205.setTop (mkF m 248 #[vi p0, vi p1, vi p2, vi p3, vi p4, vi 4, vi r9, vi r15, vi r21, vi r28, vr b146, vi 0] [(.ref b146)]))
        obtain ⟨_, _, ⟨T248, L248, k248, n248⟩, -, X248, ⟨Lc248, hQ248, l248, y248, z248⟩, st248⟩ := Jvm.LawKit.callS X205 hx (y := on3) hown (mvT hZ (tw hw 28 rfl)) (mvT hZ (tw hw 29 rfl)) (mvT hZ (tw hw 30 rfl)) (mvT hZ (tw hw 31 rfl)) (by decide) (backOf (W := 0) (rmIw4 l Z a0 hw [] b146 cs sf r9 r15 r21 r28 T173.heap n0 Zz Wz S173 hr9 hr15 hr21 hr28) hZ (tw hw 31 rfl) (tw hw 30 rfl) (by decide) (by decide)) (g := (mkF m 248 #[vi p0, vi p1, vi p2, vi p3, vi p4, vi 4, vi r9, vi r15, vi r21, vi r28, vr b146, vi 0] [(.ref b146)])) rfl (by rw [hml]; rfl) (argsL := [(.ref b146)]) (rest := []) (lenOf pd18 rfl) rfl (by show 2 * 0 + _ ≤ _; exact Nat.le_of_eq rfl) (hb hby at_248) (fun _ _ => ⟨rfl, hh205, (by decide : 4 + 0 ≤ _), (by decide : 20 + 0 ≤ _)⟩)
        dsimp only [Pt.U, Pt.locs, Pt.cells, Pt.slots] at X248 l248 y248 z248 st248 hQ248
        subst l248 y248 z248
        obtain ⟨rw248, rfl, hq248, Nq248, hh248⟩ := hQ248
        have N248 := Fr.app N205 Nq248
        refine Dn.st st248 ?_
        rcases hq248 with ⟨rfl, gw248⟩ | ⟨rfl, gw248⟩
        · show Dn p e below s _ _ _ (T248.setTop (mkF m 251 #[vi p0, vi p1, vi p2, vi p3, vi p4, vi 4, vi r9, vi r15, vi r21, vi r28, vr b146, vi 0] [(.int 1)]))
          exfalso
          exact gk205 gw248.2.1
        · show Dn p e below s _ _ _ (T248.setTop (mkF m 251 #[vi p0, vi p1, vi p2, vi p3, vi p4, vi 4, vi r9, vi r15, vi r21, vi r28, vr b146, vi 0] [(.int 0)]))
          refine Dn.st (fun _ kk => XS.iload X248.here hx rfl (hb hby at_251) rfl (kk)) ?_
          show Dn p e below s _ _ _ (T248.setTop (mkF m 253 #[vi p0, vi p1, vi p2, vi p3, vi p4, vi 4, vi r9, vi r15, vi r21, vi r28, vr b146, vi 0] [(.int 0), (.int 0)]))
          have hc253 : (0 : Int32) = (0 : Int32) := by decide
          refine Dn.st (fun _ kk => XS.icmpNo X248.here hx rfl (hb hby at_253) rfl (teq hc253).2 (XS.iconst X248.here hx rfl (hb hby at_256) (XS.goto X248.here hx rfl (pc0 := 257) (pc' := 261) rfl (hb hby at_257) (by decide) (by decide) (kk)))) ?_
          show Dn p e below s _ _ _ (T248.setTop (mkF m 261 #[vi p0, vi p1, vi p2, vi p3, vi p4, vi 4, vi r9, vi r15, vi r21, vi r28, vr b146, vi 0] [(.int 1)]))
          exact Dn.ret X248 hlk hx hret rfl (Or.inl ⟨rfl, Or.inr (Or.inl rfl), _, rfl⟩) (hb hby at_261) (by rw [hh248]; exact ⟨rfl, N248⟩) (by decide) (by decide)
    · show Dn p e below s _ _ _ (T191.setTop (mkF m 194 #[vi p0, vi p1, vi p2, vi p3, vi p4, vi 4, vi r9, vi r15, vi r21, vi r28, vr b146, .unset] [(.int 0)]))
      have hc194 : (0 : Int32) = (0 : Int32) := by decide
      refine Dn.st (fun _ kk => XS.ifYes X191.here hx rfl (pc0 := 194) (pc' := 243) rfl (hb hby at_194) rfl ((if0 _ _).trans (teq hc194).1) (by decide) (by decide) (XS.iconst X191.here hx rfl (hb hby at_243) (XS.istore X191.here hx rfl (hb hby at_244) rfl (l' := #[vi p0, vi p1, vi p2, vi p3, vi p4, vi 4, vi r9, vi r15, vi r21, vi r28, vr b146, vi 0]) rfl (XS.aload X191.here hx rfl (hb hby at_246) rfl rfl (kk))))) ?_
      show Dn p e below s _ _ _ (T191.setTop (mkF m 248 #[vi p0, vi p1, vi p2, vi p3, vi p4, vi 4, vi r9, vi r15, vi r21, vi r28, vr b146, vi 0] [(.ref b146)]))
      obtain ⟨_, _, ⟨T248, L248, k248, n248⟩, -, X248, ⟨Lc248, hQ248, l248, y248, z248⟩, st248⟩ := Jvm.LawKit.callS X191 hx (y := on3) hown (mvT hZ (tw hw 28 rfl)) (mvT hZ (tw hw 29 rfl)) (mvT hZ (tw hw 30 rfl)) (mvT hZ (tw hw 31 rfl)) (by decide) (backOf (W := 0) (rmIw4 l Z a0 hw [] b146 cs sf r9 r15 r21 r28 T173.heap n0 Zz Wz S173 hr9 hr15 hr21 hr28) hZ (tw hw 31 rfl) (tw hw 30 rfl) (by decide) (by decide)) (g := (mkF m 248 #[vi p0, vi p1, vi p2, vi p3, vi p4, vi 4, vi r9, vi r15, vi r21, vi r28, vr b146, vi 0] [(.ref b146)])) rfl (by rw [hml]; rfl) (argsL := [(.ref b146)]) (rest := []) (lenOf pd18 rfl) rfl (by show 2 * 0 + _ ≤ _; exact Nat.le_of_eq rfl) (hb hby at_248) (fun _ _ => ⟨rfl, hh191, (by decide : 4 + 0 ≤ _), (by decide : 20 + 0 ≤ _)⟩)
      dsimp only [Pt.U, Pt.locs, Pt.cells, Pt.slots] at X248 l248 y248 z248 st248 hQ248
      subst l248 y248 z248
      obtain ⟨rw248, rfl, hq248, Nq248, hh248⟩ := hQ248
      have N248 := Fr.app N191 Nq248
      refine Dn.st st248 ?_
      rcases hq248 with ⟨rfl, gw248⟩ | ⟨rfl, gw248⟩
      · show Dn p e below s _ _ _ (T248.setTop (mkF m 251 #[vi p0, vi p1, vi p2, vi p3, vi p4, vi 4, vi r9, vi r15, vi r21, vi r28, vr b146, vi 0] [(.int 1)]))
        exfalso
        exact gk191 gw248.1
      · show Dn p e below s _ _ _ (T248.setTop (mkF m 251 #[vi p0, vi p1, vi p2, vi p3, vi p4, vi 4, vi r9, vi r15, vi r21, vi r28, vr b146, vi 0] [(.int 0)]))
        refine Dn.st (fun _ kk => XS.iload X248.here hx rfl (hb hby at_251) rfl (kk)) ?_
        show Dn p e below s _ _ _ (T248.setTop (mkF m 253 #[vi p0, vi p1, vi p2, vi p3, vi p4, vi 4, vi r9, vi r15, vi r21, vi r28, vr b146, vi 0] [(.int 0), (.int 0)]))
        have hc253 : (0 : Int32) = (0 : Int32) := by decide
        refine Dn.st (fun _ kk => XS.icmpNo X248.here hx rfl (hb hby at_253) rfl (teq hc253).2 (XS.iconst X248.here hx rfl (hb hby at_256) (XS.goto X248.here hx rfl (pc0 := 257) (pc' := 261) rfl (hb hby at_257) (by decide) (by decide) (kk)))) ?_
        show Dn p e below s _ _ _ (T248.setTop (mkF m 261 #[vi p0, vi p1, vi p2, vi p3, vi p4, vi 4, vi r9, vi r15, vi r21, vi r28, vr b146, vi 0] [(.int 1)]))
        exact Dn.ret X248 hlk hx hret rfl (Or.inl ⟨rfl, Or.inr (Or.inl rfl), _, rfl⟩) (hb hby at_261) (by rw [hh248]; exact ⟨rfl, N248⟩) (by decide) (by decide)

theorem own_ne0 {Z : State} {args : Array Value} {t : Term} {x : Int32} (e : t.eval args Z none [] Z = some (.int x)) (h : (Cond.not (.eq t (.int 0))).value args Z none Z [] = some true) : x ≠ 0 := fun q => by
  subst q
  have e2 : (Term.int (0 : Int32)).eval args Z none [] Z = some (.int 0) := Term.int_eval 0
  simp [Cond.value, e, e2] at h
theorem own_isr {Z : State} {args : Array Value} {t : Term} (h : (Cond.isRef t).value args Z none Z [] = some true) : ∃ v, t.eval args Z none [] Z = some v ∧ v.isRef = true := by
  cases e : t.eval args Z none [] Z with
  | none => simp [Cond.value, e] at h
  | some v => exact ⟨v, rfl, by cases v <;> simp [Cond.value, e] at h <;> rfl⟩

theorem comes_1 {Post : Tables → Env → Array Value → State → Outcome → State → Prop} (hpost : ∀ tb e args s v u, (limb_1_1.after args s (.returned v) u = true ∧ limb_1_2.after args s (.returned v) u = true ∧ True) → ReturnedEndW s (.returned v) u (Jvm.fieldLocs frame_1_writes args s ++ Jvm.arrayLocs frame_1_arrays args s ++ Jvm.staticLocs frame_1_statics s) 24 1152 → Post tb e args s (.returned v) u) :
    ArmFor flags0 classFile x code maxLocals ret World_1 tables_1 room_1 Calls_1 rest_1 Pre_1 Post := by
  intro l hfl _ _ p e ha hc hk s m args below hf hA hF happ hP
  obtain ⟨hcalls, hrest, hpre⟩ := hP
  obtain ⟨-, -, -, hnamed, -, -, -, hat⟩ := (Spec.applies_iff hf).mp happ
  obtain ⟨hg, hn⟩ := and_e (Cond.before_iff.mp (show (Jvm.Cond.and given_1 narrow_1).before args s = true from hpre))
  obtain ⟨g1a, g1b⟩ := and_e hg
  obtain ⟨g2a, g2b⟩ := and_e g1b
  obtain ⟨g3a, g3b⟩ := and_e g2b
  obtain ⟨g4a, g4b⟩ := and_e g3b
  obtain ⟨g5a, g5b⟩ := and_e g4b
  obtain ⟨w0, w1, w2, w3, w4, rfl⟩ : ∃ w0 w1 w2 w3 w4 : Value, args = #[w0, w1, w2, w3, w4] := by
    have hs : args.size = 5 := by simpa [Cond.value, given_1] using g1a
    obtain ⟨L⟩ := args
    match L, hs with
    | [w0, w1, w2, w3, w4], _ => exact ⟨w0, w1, w2, w3, w4, rfl⟩
  have hw := fun d (hd : d ∈ tables_1) => atoms_spec (ws := Jvm.Cond.code x code maxLocals ret :: tables_1) hat d (List.mem_cons_of_mem _ hd)
  have hfit : Fit s := fun {y c} hc i hi => by
    obtain ⟨ha, rfl⟩ := Array.getElem?_eq_some_iff.mp hc
    have q := List.all_eq_true.mp ((Array.all_eq_true_iff_forall_mem.mp hF) _ (Array.getElem_mem ha)) i (List.mem_range.mpr hi)
    simpa [Array.getElem?_eq_getElem hi] using q
  obtain ⟨hsets, hown0⟩ := atoms_of _ (rest_1_c_eq ▸ (show rest_1_c.before _ s = true from hrest))
  have hr0 := Cond.before_iff.mp hown0
  obtain ⟨i0, ei0⟩ := is_v g2a
  obtain rfl : w0 = (.int i0) := Option.some.inj ei0
  obtain ⟨i1, ei1⟩ := is_v g3a
  obtain rfl : w1 = (.int i1) := Option.some.inj ei1
  obtain ⟨i2, ei2⟩ := is_v g4a
  obtain rfl : w2 = (.int i2) := Option.some.inj ei2
  obtain ⟨i3, ei3⟩ := is_v g5a
  obtain rfl : w3 = (.int i3) := Option.some.inj ei3
  obtain ⟨i4, ei4⟩ := is_v g5b
  obtain rfl : w4 = (.int i4) := Option.some.inj ei4
  obtain ⟨cs, v_cs⟩ := is_v (Cond.before_iff.mp (hsets _ (List.mem_of_getElem? (i := 1) rfl)))
  have hcs : cs ≠ 0 := own_ne0 v_cs (Cond.before_iff.mp (hsets _ (List.mem_of_getElem? (i := 2) rfl)))
  obtain ⟨sf, v_sf, hsf⟩ := own_isr (Cond.before_iff.mp (hsets _ (List.mem_of_getElem? (i := 8) rfl)))
  have hW : own_W s s.heap s.heap.size cs sf := ⟨⟨rfl, Nat.le_refl _, fun _ _ q => q⟩, ⟨Sta.start v_cs (Or.inl (hsets _ (List.mem_of_getElem? (i := 0) rfl))), hcs⟩, Sta.start (eqv_i (Term.int_eval (1)) (Cond.before_iff.mp (hsets _ (List.mem_of_getElem? (i := 12) rfl)))) (Or.inl (hsets _ (List.mem_of_getElem? (i := 11) rfl))), Sta.start (eqv_i (Term.int_eval (0)) (Cond.before_iff.mp (hsets _ (List.mem_of_getElem? (i := 15) rfl)))) (Or.inl (hsets _ (List.mem_of_getElem? (i := 14) rfl))), Sta.start (eqv_i (Term.int_eval (8)) (Cond.before_iff.mp (hsets _ (List.mem_of_getElem? (i := 18) rfl)))) (Or.inl (hsets _ (List.mem_of_getElem? (i := 17) rfl))), Sta.start v_sf (Or.inl (hsets _ (List.mem_of_getElem? (i := 7) rfl))), hsf⟩
  have hH : Jvm.Lit.constHeld s "java/lang/String" 7 := hcalls.1 _ (List.mem_of_getElem? (i := 0) rfl)
  obtain ⟨n, o, h1, h2, h3, _, L, rfl, ⟨rfl, N⟩, hq⟩ := rm0 l s _ hw tables_1 i0 i1 i2 i3 i4 cs sf s.heap s.heap.size (Nat.le_refl _) hW hH (hsets _ (List.mem_of_getElem? (i := 2) rfl)) p e ha hc hk s m _ below hf ((Spec.applies_iff_loose hf).mp happ).1 ⟨rfl, State.Warmed39.refl s, rfl, IB.start⟩ trivial
  refine ⟨n, _, h1, h2, h3, hpost _ _ _ _ _ _ ⟨Cond.after_iff.mpr rfl, Cond.after_iff.mpr (eq_i res_at (Term.int_eval (1)) rfl), trivial⟩ ⟨hq.1, hq.2.1, hq.2.2.1, (hq.2.2.2.sift fun y hy => Or.inr (N y hy)).mono (by decide) (by decide)⟩⟩
theorem main_1_1 : Claimed_1_1 := comes_1 fun _ _ _ _ _ _ h hF => ⟨h.1, hF⟩
theorem main_1_2 : Claimed_1_2 := comes_1 fun _ _ _ _ _ _ h hF => ⟨h.2.1, hF⟩
end Jvm.Pilot.@@N@@
namespace Jvm.Pilot.@@N@@
open Jvm Jvm.ClassFile Sem Op Lib Jvm.Free Jvm.Stand Jvm.Pilot.@@N@@.Jvm.D
/-! MADE BY PROGRAM (witnessworld.py) out of the Statement's table words and the real class files: 21 classes; the members and pool entries that the words name. The judged class is class 1, her method 3. -/
namespace start1
open Jvm.ClassFile
def u (s : String) : CpInfo := .utf8 (stringToUtf16 s)
/-- a pool by its gaps: so many unusable entries, then the entry; so many at the end -/
def gap : Nat → List CpInfo → List CpInfo
  | 0, r => r
  | n + 1, r => .unusable :: gap n r
def poolList (es : List (Nat × CpInfo)) (last : Nat) : List CpInfo := es.foldr (fun e r => gap e.1 (e.2 :: r)) (gap last [])
def pool (es : List (Nat × CpInfo)) (last : Nat) : Array CpInfo := ⟨poolList es last⟩
def fileOf (pool : Array CpInfo) (this : Nat) (attrs : Array Attribute := #[]) (ms : Array MethodInfo := #[]) (fl : Nat := 33) (sup : Nat := 0) (ifs : Array Nat := #[]) (fds : Array FieldInfo := #[]) : ClassFile where
  minorVersion := 0
  majorVersion := 65
  constantPool := pool
  accessFlags := fl
  thisClass := this
  superClass := sup
  interfaces := ifs
  fields := fds
  methods := ms
  attributes := attrs
def plain (name : String) (sup : Option ClassId) : Class where
  name := name
  kind := .ordinary
  loader := none
  accessFlags := 33
  super := sup
  interfaces := #[]
  cf := none
  fields := #[]
  methods := #[]
  instanceTypes := #[]
  staticTypes := #[]
  resolved := #[]
  callSites := []
  init := .initialized
  statics := none
  mirror := none

def pool0 : Array CpInfo := pool [(5, u "<init>"), (0, u "()V"), (1, .class_ 10), (1, u "java/lang/Object")] 113

def k0c0 : Code := { maxStack := 0, maxLocals := 1, code := object_method_1_code, exceptionTable := #[], attributes := #[] }
def k0m0 : Method := { name := "<init>", desc := "()V", sig := { parameters := [], returnType := none }, accessFlags := 1, code := some k0c0 }
/-- java/lang/Object -/
def k0 : Class := { plain "java/lang/Object" none with
  accessFlags := 33
  interfaces := #[]
  cf := some (fileOf pool0 8 #[] #[{ accessFlags := 1, nameIndex := 5, descriptorIndex := 6, attributes := #[] }] 33 0 #[] #[])
  fields := #[]
  methods := #[k0m0]
  instanceTypes := #[]
  staticTypes := #[]
  resolved := Array.replicate 124 none
  statics := none }

def pool1 : Array CpInfo := pool [(2, .class_ 4), (1, u "java/lang/Object"), (0, u "<init>"), (0, u "()V"), (0, .integer 65535), (0, .integer 2147483647), (0, .methodref 10 11), (0, .class_ 12), (0, .nameAndType 13 14), (0, u "com/example/ermon/ermon/io/LineIsWordPinLaw"), (0, u "pick"), (0, u "(I)C"), (0, .class_ 16), (0, u "java/lang/String"), (0, .methodref 15 18), (0, .nameAndType 5 19), (0, u "([C)V"), (0, .methodref 10 21), (0, .nameAndType 22 23), (0, u "ok"), (0, u "(C)Z"), (0, .methodref 25 26), (0, .class_ 27), (0, .nameAndType 28 29), (0, u "com/example/ermon/ermon/io/Line"), (0, u "isWord"), (0, u "(Ljava/lang/String;)Z"), (3, u "law"), (0, u "(IIIII)Z")] 2

def k1m0 : Method := { name := "<init>", desc := "()V", sig := { parameters := [], returnType := none }, accessFlags := 2, code := none }
def k1c1 : Code := { maxStack := 2, maxLocals := 2, code := method_2_code, exceptionTable := #[], attributes := #[] }
def k1m1 : Method := { name := "pick", desc := "(I)C", sig := { parameters := [.int], returnType := some .char }, accessFlags := 10, code := some k1c1 }
def k1c2 : Code := { maxStack := 2, maxLocals := 1, code := method_3_code, exceptionTable := #[], attributes := #[] }
def k1m2 : Method := { name := "ok", desc := "(C)Z", sig := { parameters := [.char], returnType := some .boolean }, accessFlags := 10, code := some k1c2 }
def k1c3 : Code := { maxStack := 6, maxLocals := 12, code := code, exceptionTable := #[], attributes := #[] }
def k1m3 : Method := { name := "law", desc := "(IIIII)Z", sig := { parameters := [.int, .int, .int, .int, .int], returnType := some .boolean }, accessFlags := 9, code := some k1c3 }
/-- com/example/ermon/ermon/io/LineIsWordPinLaw -/
def k1 : Class := { plain "com/example/ermon/ermon/io/LineIsWordPinLaw" (some 0) with
  accessFlags := 49
  interfaces := #[]
  cf := some (fileOf pool1 10 #[] #[{ accessFlags := 2, nameIndex := 5, descriptorIndex := 6, attributes := #[] }, { accessFlags := 10, nameIndex := 13, descriptorIndex := 14, attributes := #[] }, { accessFlags := 10, nameIndex := 22, descriptorIndex := 23, attributes := #[] }, { accessFlags := 9, nameIndex := 33, descriptorIndex := 34, attributes := #[] }] 49 2 #[] #[])
  fields := #[]
  methods := #[k1m0, k1m1, k1m2, k1m3]
  instanceTypes := #[]
  staticTypes := #[]
  resolved := Array.replicate 37 none
  statics := none }

def pool2 : Array CpInfo := pool [(1, .class_ 2), (0, u "java/io/Serializable"), (0, .class_ 4), (0, u "java/lang/Object")] 2

/-- java/io/Serializable -/
def k2 : Class := { plain "java/io/Serializable" (some 0) with
  accessFlags := 1537
  interfaces := #[]
  cf := some (fileOf pool2 1 #[] #[] 1537 3 #[] #[])
  fields := #[]
  methods := #[]
  instanceTypes := #[]
  staticTypes := #[]
  resolved := Array.replicate 7 none
  statics := none }

def pool3 : Array CpInfo := pool [(1, .class_ 2), (0, u "java/lang/Comparable"), (0, .class_ 4), (0, u "java/lang/Object")] 7

/-- java/lang/Comparable -/
def k3 : Class := { plain "java/lang/Comparable" (some 0) with
  accessFlags := 1537
  interfaces := #[]
  cf := some (fileOf pool3 1 #[] #[] 1537 3 #[] #[])
  fields := #[]
  methods := #[]
  instanceTypes := #[]
  staticTypes := #[]
  resolved := Array.replicate 12 none
  statics := none }

def pool4 : Array CpInfo := pool [(2, .class_ 4), (1, u "java/lang/CharSequence"), (42, .class_ 48), (0, u "java/lang/CharSequence$1CodePointIterator"), (10, .class_ 60), (0, u "java/lang/CharSequence$1CharIterator"), (5, .class_ 67), (0, u "java/lang/Object")] 63

/-- java/lang/CharSequence -/
def k4 : Class := { plain "java/lang/CharSequence" (some 0) with
  accessFlags := 1537
  interfaces := #[]
  cf := some (fileOf pool4 2 #[.nestMembers #[47, 59]] #[] 1537 66 #[] #[])
  fields := #[]
  methods := #[]
  instanceTypes := #[]
  staticTypes := #[]
  resolved := Array.replicate 131 none
  statics := none }

def pool5 : Array CpInfo := pool [(1, .class_ 2), (0, u "java/lang/constant/Constable"), (0, .class_ 4), (0, u "java/lang/Object")] 6

/-- java/lang/constant/Constable -/
def k5 : Class := { plain "java/lang/constant/Constable" (some 0) with
  accessFlags := 1537
  interfaces := #[]
  cf := some (fileOf pool5 1 #[] #[] 1537 3 #[] #[])
  fields := #[]
  methods := #[]
  instanceTypes := #[]
  staticTypes := #[]
  resolved := Array.replicate 11 none
  statics := none }

def pool6 : Array CpInfo := pool [(1, .class_ 2), (0, u "java/lang/constant/ConstantDesc"), (0, .class_ 4), (0, u "java/lang/Object")] 32

/-- java/lang/constant/ConstantDesc -/
def k6 : Class := { plain "java/lang/constant/ConstantDesc" (some 0) with
  accessFlags := 1537
  interfaces := #[]
  cf := some (fileOf pool6 1 #[] #[] 1537 3 #[] #[])
  fields := #[]
  methods := #[]
  instanceTypes := #[]
  staticTypes := #[]
  resolved := Array.replicate 37 none
  statics := none }

def pool7 : Array CpInfo := pool [(1, .methodref 2 3), (0, .class_ 4), (0, .nameAndType 5 6), (0, u "java/lang/Object"), (0, u "<init>"), (0, u "()V"), (0, .string 8), (0, u ""), (0, .fieldref 10 11), (0, .class_ 12), (0, .nameAndType 13 14), (0, u "java/lang/String"), (0, u "value"), (0, u "[B"), (0, .fieldref 10 16), (0, .nameAndType 17 18), (0, u "coder"), (0, u "B"), (2, u "hash"), (0, u "I"), (2, u "hashIsZero"), (0, u "Z"), (0, .methodref 10 28), (0, .nameAndType 5 29), (0, u "([CIILjava/lang/Void;)V"), (8, .fieldref 10 39), (0, .nameAndType 40 26), (0, u "COMPACT_STRINGS"), (1, .class_ 44), (1, u "java/lang/StringUTF16"), (0, u "compress"), (1, .methodref 42 48), (0, .nameAndType 49 50), (0, u "coderFromArrayLen"), (0, u "([BI)B"), (56, .class_ 109), (1, u "java/lang/StringLatin1"), (32, u "()Z"), (34, .methodref 42 178), (0, .nameAndType 45 179), (0, u "([CII)[B"), (154, u "()I"), (0, .methodref 10 336), (0, .nameAndType 17 337), (0, u "()B"), (25, u "([BI)C"), (27, u "(II)V"), (35, u "(I)C"), (64, .methodref 10 493), (0, .nameAndType 494 142), (0, u "isLatin1"), (0, .methodref 107 496), (0, .nameAndType 497 363), (0, u "charAt"), (0, .methodref 42 496), (2, u "checkIndex"), (5, u "length"), (67, .class_ 576), (0, u "java/lang/CharSequence"), (22, u "CASE_INSENSITIVE_ORDER"), (0, u "Ljava/util/Comparator;"), (91, u "isEmpty"), (317, u "([C)V"), (42, .fieldref 1054 1055), (0, .class_ 1056), (0, .nameAndType 1057 1058), (0, u "jdk/internal/util/Preconditions"), (0, u "SIOOBE_FORMATTER"), (0, u "Ljava/util/function/BiFunction;"), (0, .methodref 1054 1060), (0, .nameAndType 501 1061), (0, u "(IILjava/util/function/BiFunction;)I"), (39, u "serialPersistentFields"), (0, u "[Ljava/io/ObjectStreamField;"), (0, .class_ 1104), (0, u "java/lang/String$CaseInsensitiveComparator"), (1, .class_ 1107), (0, u "java/io/Serializable"), (0, .class_ 1109), (0, u "java/lang/Comparable"), (0, .class_ 1111), (0, u "java/lang/constant/Constable"), (0, .class_ 1113), (0, u "java/lang/constant/ConstantDesc"), (2, u "serialVersionUID"), (0, u "J"), (3, u "REPL"), (0, u "C"), (2, u "LATIN1"), (1, u "UTF16")] 323

def k7m0 : Method := { name := "<init>", desc := "()V", sig := { parameters := [], returnType := none }, accessFlags := 1, code := none }
def k7c1 : Code := { maxStack := 5, maxLocals := 2, code := jdk_42_method_3_code, exceptionTable := #[], attributes := #[] }
def k7m1 : Method := { name := "<init>", desc := "([C)V", sig := { parameters := [(.array .char)], returnType := none }, accessFlags := 1, code := some k7c1 }
def k7c2 : Code := { maxStack := 2, maxLocals := 1, code := jdk_42_method_54_code, exceptionTable := #[], attributes := #[] }
def k7m2 : Method := { name := "length", desc := "()I", sig := { parameters := [], returnType := some .int }, accessFlags := 1, code := some k7c2 }
def k7c3 : Code := { maxStack := 1, maxLocals := 1, code := jdk_42_method_55_code, exceptionTable := #[], attributes := #[] }
def k7m3 : Method := { name := "isEmpty", desc := "()Z", sig := { parameters := [], returnType := some .boolean }, accessFlags := 1, code := some k7c3 }
def k7c4 : Code := { maxStack := 2, maxLocals := 2, code := jdk_42_method_56_code, exceptionTable := #[], attributes := #[] }
def k7m4 : Method := { name := "charAt", desc := "(I)C", sig := { parameters := [.int], returnType := some .char }, accessFlags := 1, code := some k7c4 }
def k7c5 : Code := { maxStack := 4, maxLocals := 6, code := jdk_42_method_149_code, exceptionTable := #[], attributes := #[] }
def k7m5 : Method := { name := "<init>", desc := "([CIILjava/lang/Void;)V", sig := { parameters := [(.array .char), .int, .int, (.object "java/lang/Void")], returnType := none }, accessFlags := 2, code := some k7c5 }
def k7c6 : Code := { maxStack := 1, maxLocals := 1, code := jdk_42_method_152_code, exceptionTable := #[], attributes := #[] }
def k7m6 : Method := { name := "coder", desc := "()B", sig := { parameters := [], returnType := some .byte }, accessFlags := 0, code := some k7c6 }
def k7c7 : Code := { maxStack := 1, maxLocals := 1, code := jdk_42_method_154_code, exceptionTable := #[], attributes := #[] }
def k7m7 : Method := { name := "isLatin1", desc := "()Z", sig := { parameters := [], returnType := some .boolean }, accessFlags := 0, code := some k7c7 }
def k7c8 : Code := { maxStack := 3, maxLocals := 2, code := jdk_42_method_155_code, exceptionTable := #[], attributes := #[] }
def k7m8 : Method := { name := "checkIndex", desc := "(II)V", sig := { parameters := [.int, .int], returnType := none }, accessFlags := 8, code := some k7c8 }
/-- java/lang/String -/
def k7 : Class := { plain "java/lang/String" (some 0) with
  accessFlags := 49
  interfaces := #[2, 3, 4, 5, 6]
  cf := some (fileOf pool7 10 #[.nestMembers #[1103]] #[{ accessFlags := 1, nameIndex := 5, descriptorIndex := 6, attributes := #[] }, { accessFlags := 1, nameIndex := 5, descriptorIndex := 1010, attributes := #[] }, { accessFlags := 1, nameIndex := 507, descriptorIndex := 334, attributes := #[] }, { accessFlags := 1, nameIndex := 692, descriptorIndex := 142, attributes := #[] }, { accessFlags := 1, nameIndex := 497, descriptorIndex := 427, attributes := #[] }, { accessFlags := 2, nameIndex := 5, descriptorIndex := 29, attributes := #[] }, { accessFlags := 0, nameIndex := 17, descriptorIndex := 337, attributes := #[] }, { accessFlags := 0, nameIndex := 494, descriptorIndex := 142, attributes := #[] }, { accessFlags := 8, nameIndex := 501, descriptorIndex := 391, attributes := #[] }] 49 2 #[1106, 1108, 575, 1110, 1112] #[{ accessFlags := 18, nameIndex := 13, descriptorIndex := 14, attributes := #[] }, { accessFlags := 18, nameIndex := 17, descriptorIndex := 18, attributes := #[] }, { accessFlags := 2, nameIndex := 21, descriptorIndex := 22, attributes := #[] }, { accessFlags := 2, nameIndex := 25, descriptorIndex := 26, attributes := #[] }, { accessFlags := 26, nameIndex := 1116, descriptorIndex := 1117, attributes := #[] }, { accessFlags := 24, nameIndex := 40, descriptorIndex := 26, attributes := #[] }, { accessFlags := 26, nameIndex := 1101, descriptorIndex := 1102, attributes := #[] }, { accessFlags := 26, nameIndex := 1121, descriptorIndex := 1122, attributes := #[] }, { accessFlags := 25, nameIndex := 599, descriptorIndex := 600, attributes := #[] }, { accessFlags := 24, nameIndex := 1125, descriptorIndex := 18, attributes := #[] }, { accessFlags := 24, nameIndex := 1127, descriptorIndex := 18, attributes := #[] }])
  fields := #[{ name := "value", type := (.array .byte), accessFlags := 18, slot := 0, constantValue := 0 }, { name := "coder", type := .byte, accessFlags := 18, slot := 1, constantValue := 0 }, { name := "hash", type := .int, accessFlags := 2, slot := 2, constantValue := 0 }, { name := "hashIsZero", type := .boolean, accessFlags := 2, slot := 3, constantValue := 0 }, { name := "serialVersionUID", type := .long, accessFlags := 26, slot := 0, constantValue := 0 }, { name := "COMPACT_STRINGS", type := .boolean, accessFlags := 24, slot := 1, constantValue := 0 }, { name := "serialPersistentFields", type := (.array (.object "java/io/ObjectStreamField")), accessFlags := 26, slot := 2, constantValue := 0 }, { name := "REPL", type := .char, accessFlags := 26, slot := 3, constantValue := 0 }, { name := "CASE_INSENSITIVE_ORDER", type := (.object "java/util/Comparator"), accessFlags := 25, slot := 4, constantValue := 0 }, { name := "LATIN1", type := .byte, accessFlags := 24, slot := 5, constantValue := 0 }, { name := "UTF16", type := .byte, accessFlags := 24, slot := 6, constantValue := 0 }]
  methods := #[k7m0, k7m1, k7m2, k7m3, k7m4, k7m5, k7m6, k7m7, k7m8]
  instanceTypes := #[(.array .byte), .byte, .int, .boolean]
  staticTypes := #[.long, .boolean, (.array (.object "java/io/ObjectStreamField")), .char, (.object "java/util/Comparator"), .byte, .byte]
  resolved := Array.replicate 1451 none
  statics := some 0 }

def pool8 : Array CpInfo := pool [(2, .class_ 4), (1, u "java/lang/Object"), (0, u "<init>"), (0, u "()V"), (0, .class_ 8), (0, u "java/lang/Record")] 13

def k8m0 : Method := { name := "<init>", desc := "()V", sig := { parameters := [], returnType := none }, accessFlags := 4, code := none }
/-- java/lang/Record -/
def k8 : Class := { plain "java/lang/Record" (some 0) with
  accessFlags := 1057
  interfaces := #[]
  cf := some (fileOf pool8 7 #[] #[{ accessFlags := 4, nameIndex := 5, descriptorIndex := 6, attributes := #[] }] 1057 2 #[] #[])
  fields := #[]
  methods := #[k8m0]
  instanceTypes := #[]
  staticTypes := #[]
  resolved := Array.replicate 22 none
  statics := none }

def pool9 : Array CpInfo := pool [(2, .class_ 4), (1, u "java/lang/Record"), (18, .class_ 25), (1, u "com/example/ermon/ermon/io/Line"), (0, u "number"), (0, u "I"), (2, u "words"), (0, u "Ljava/util/List;"), (17, .class_ 51), (1, u "java/lang/String"), (26, u "()I"), (50, .methodref 49 130), (0, .nameAndType 131 78), (0, u "length"), (0, .methodref 49 133), (0, .nameAndType 134 135), (0, u "charAt"), (0, u "(I)C"), (0, .methodref 23 137), (0, .nameAndType 138 139), (0, u "isSeparator"), (0, u "(C)Z"), (2, .methodref 49 143), (0, .nameAndType 144 145), (0, u "isEmpty"), (0, u "()Z"), (29, u "isWord"), (0, u "(Ljava/lang/String;)Z")] 43

def k9c0 : Code := { maxStack := 2, maxLocals := 4, code := prog_6_method_6_code, exceptionTable := #[], attributes := #[] }
def k9m0 : Method := { name := "isWord", desc := "(Ljava/lang/String;)Z", sig := { parameters := [(.object "java/lang/String")], returnType := some .boolean }, accessFlags := 8, code := some k9c0 }
def k9c1 : Code := { maxStack := 2, maxLocals := 1, code := prog_6_method_7_code, exceptionTable := #[], attributes := #[] }
def k9m1 : Method := { name := "isSeparator", desc := "(C)Z", sig := { parameters := [.char], returnType := some .boolean }, accessFlags := 10, code := some k9c1 }
/-- com/example/ermon/ermon/io/Line -/
def k9 : Class := { plain "com/example/ermon/ermon/io/Line" (some 8) with
  accessFlags := 49
  interfaces := #[]
  cf := some (fileOf pool9 23 #[] #[{ accessFlags := 8, nameIndex := 175, descriptorIndex := 176, attributes := #[] }, { accessFlags := 10, nameIndex := 138, descriptorIndex := 139, attributes := #[] }] 49 2 #[] #[{ accessFlags := 18, nameIndex := 26, descriptorIndex := 27, attributes := #[] }, { accessFlags := 18, nameIndex := 30, descriptorIndex := 31, attributes := #[] }])
  fields := #[{ name := "number", type := .int, accessFlags := 18, slot := 0, constantValue := 0 }, { name := "words", type := (.object "java/util/List"), accessFlags := 18, slot := 1, constantValue := 0 }]
  methods := #[k9m0, k9m1]
  instanceTypes := #[.int, (.object "java/util/List")]
  staticTypes := #[]
  resolved := Array.replicate 220 none
  statics := none }

def pool10 : Array CpInfo := pool [(3, .class_ 4), (0, u "java/lang/String"), (1, .class_ 8), (1, u "java/lang/Object"), (0, u "<init>"), (0, u "()V"), (0, .methodref 12 13), (0, .class_ 14), (0, .nameAndType 15 16), (0, u "java/lang/StringUTF16"), (0, u "newBytesLength"), (0, u "(I)I"), (3, .integer 1073741823), (23, .fieldref 12 45), (0, .nameAndType 46 47), (0, u "$assertionsDisabled"), (0, u "Z"), (0, .methodref 12 49), (0, .nameAndType 50 51), (0, u "length"), (0, u "([B)I"), (7, .fieldref 12 60), (0, .nameAndType 61 62), (0, u "HI_BYTE_SHIFT"), (0, u "I"), (0, .fieldref 12 64), (0, .nameAndType 65 62), (0, u "LO_BYTE_SHIFT"), (1, .methodref 12 68), (0, .nameAndType 69 70), (0, u "checkIndex"), (0, u "(I[B)V"), (0, .methodref 12 72), (0, .nameAndType 73 74), (0, u "getChar"), (0, u "([BI)C"), (32, .methodref 12 108), (0, .nameAndType 109 110), (0, u "newBytesFor"), (0, u "(I)[B"), (0, .methodref 12 112), (0, .nameAndType 113 114), (0, u "putChar"), (0, u "([BII)V"), (0, .methodref 12 116), (0, .nameAndType 117 118), (0, u "compress"), (0, u "([CI[BII)I"), (0, .methodref 12 120), (0, .nameAndType 121 122), (0, u "toBytes"), (0, u "([CII)[B"), (138, u "coderFromArrayLen"), (0, u "([BI)B"), (106, .class_ 371), (1, u "java/lang/StringUTF16$LinesSpliterator"), (20, u "charAt"), (21, .methodref 3 415), (0, .nameAndType 69 416), (0, u "(II)V"), (13, u "MAX_LENGTH"), (196, .class_ 628), (0, u "java/lang/StringUTF16$CodePointsSpliterator"), (0, .class_ 630), (0, u "java/lang/StringUTF16$CharsSpliterator")] 4

def k10m0 : Method := { name := "<init>", desc := "()V", sig := { parameters := [], returnType := none }, accessFlags := 0, code := none }
def k10c1 : Code := { maxStack := 1, maxLocals := 1, code := jdk_52_method_2_code, exceptionTable := #[], attributes := #[] }
def k10m1 : Method := { name := "newBytesFor", desc := "(I)[B", sig := { parameters := [.int], returnType := some (.array .byte) }, accessFlags := 9, code := some k10c1 }
def k10c2 : Code := { maxStack := 4, maxLocals := 1, code := jdk_52_method_3_code, exceptionTable := #[], attributes := #[] }
def k10m2 : Method := { name := "newBytesLength", desc := "(I)I", sig := { parameters := [.int], returnType := some .int }, accessFlags := 9, code := some k10c2 }
def k10c3 : Code := { maxStack := 4, maxLocals := 3, code := jdk_52_method_4_code, exceptionTable := #[], attributes := #[] }
def k10m3 : Method := { name := "putChar", desc := "([BII)V", sig := { parameters := [(.array .byte), .int, .int], returnType := none }, accessFlags := 8, code := some k10c3 }
def k10c4 : Code := { maxStack := 3, maxLocals := 2, code := jdk_52_method_5_code, exceptionTable := #[], attributes := #[] }
def k10m4 : Method := { name := "getChar", desc := "([BI)C", sig := { parameters := [(.array .byte), .int], returnType := some .char }, accessFlags := 8, code := some k10c4 }
def k10c5 : Code := { maxStack := 2, maxLocals := 1, code := jdk_52_method_6_code, exceptionTable := #[], attributes := #[] }
def k10m5 : Method := { name := "length", desc := "([B)I", sig := { parameters := [(.array .byte)], returnType := some .int }, accessFlags := 9, code := some k10c5 }
def k10c6 : Code := { maxStack := 4, maxLocals := 5, code := jdk_52_method_14_code, exceptionTable := #[], attributes := #[] }
def k10m6 : Method := { name := "toBytes", desc := "([CII)[B", sig := { parameters := [(.array .char), .int, .int], returnType := some (.array .byte) }, accessFlags := 9, code := some k10c6 }
def k10c7 : Code := { maxStack := 2, maxLocals := 2, code := jdk_52_method_15_code, exceptionTable := #[], attributes := #[] }
def k10m7 : Method := { name := "coderFromArrayLen", desc := "([BI)B", sig := { parameters := [(.array .byte), .int], returnType := some .byte }, accessFlags := 8, code := some k10c7 }
def k10c8 : Code := { maxStack := 5, maxLocals := 6, code := jdk_52_method_16_code, exceptionTable := #[], attributes := #[] }
def k10m8 : Method := { name := "compress", desc := "([CII)[B", sig := { parameters := [(.array .char), .int, .int], returnType := some (.array .byte) }, accessFlags := 9, code := some k10c8 }
def k10c9 : Code := { maxStack := 3, maxLocals := 7, code := jdk_52_method_21_code, exceptionTable := #[], attributes := #[] }
def k10m9 : Method := { name := "compress", desc := "([CI[BII)I", sig := { parameters := [(.array .char), .int, (.array .byte), .int, .int], returnType := some .int }, accessFlags := 9, code := some k10c9 }
def k10c10 : Code := { maxStack := 2, maxLocals := 2, code := jdk_52_method_83_code, exceptionTable := #[], attributes := #[] }
def k10m10 : Method := { name := "charAt", desc := "([BI)C", sig := { parameters := [(.array .byte), .int], returnType := some .char }, accessFlags := 9, code := some k10c10 }
def k10c11 : Code := { maxStack := 2, maxLocals := 2, code := jdk_52_method_91_code, exceptionTable := #[], attributes := #[] }
def k10m11 : Method := { name := "checkIndex", desc := "(I[B)V", sig := { parameters := [.int, (.array .byte)], returnType := none }, accessFlags := 9, code := some k10c11 }
/-- java/lang/StringUTF16 -/
def k10 : Class := { plain "java/lang/StringUTF16" (some 0) with
  accessFlags := 48
  interfaces := #[]
  cf := some (fileOf pool10 12 #[.nestMembers #[627, 629, 369]] #[{ accessFlags := 0, nameIndex := 9, descriptorIndex := 10, attributes := #[] }, { accessFlags := 9, nameIndex := 109, descriptorIndex := 110, attributes := #[] }, { accessFlags := 9, nameIndex := 15, descriptorIndex := 16, attributes := #[] }, { accessFlags := 8, nameIndex := 113, descriptorIndex := 114, attributes := #[] }, { accessFlags := 8, nameIndex := 73, descriptorIndex := 74, attributes := #[] }, { accessFlags := 9, nameIndex := 50, descriptorIndex := 51, attributes := #[] }, { accessFlags := 9, nameIndex := 121, descriptorIndex := 122, attributes := #[] }, { accessFlags := 8, nameIndex := 261, descriptorIndex := 262, attributes := #[] }, { accessFlags := 9, nameIndex := 117, descriptorIndex := 122, attributes := #[] }, { accessFlags := 9, nameIndex := 117, descriptorIndex := 118, attributes := #[] }, { accessFlags := 9, nameIndex := 392, descriptorIndex := 74, attributes := #[] }, { accessFlags := 9, nameIndex := 69, descriptorIndex := 70, attributes := #[] }] 48 6 #[] #[{ accessFlags := 26, nameIndex := 61, descriptorIndex := 62, attributes := #[] }, { accessFlags := 26, nameIndex := 65, descriptorIndex := 62, attributes := #[] }, { accessFlags := 24, nameIndex := 430, descriptorIndex := 62, attributes := #[] }, { accessFlags := 4120, nameIndex := 46, descriptorIndex := 47, attributes := #[] }])
  fields := #[{ name := "HI_BYTE_SHIFT", type := .int, accessFlags := 26, slot := 0, constantValue := 0 }, { name := "LO_BYTE_SHIFT", type := .int, accessFlags := 26, slot := 1, constantValue := 0 }, { name := "MAX_LENGTH", type := .int, accessFlags := 24, slot := 2, constantValue := 0 }, { name := "$assertionsDisabled", type := .boolean, accessFlags := 4120, slot := 3, constantValue := 0 }]
  methods := #[k10m0, k10m1, k10m2, k10m3, k10m4, k10m5, k10m6, k10m7, k10m8, k10m9, k10m10, k10m11]
  instanceTypes := #[]
  staticTypes := #[.int, .int, .int, .boolean]
  resolved := Array.replicate 635 none
  statics := some 1 }

def pool11 : Array CpInfo := pool [(1, .class_ 2), (0, u "java/lang/String"), (1, .class_ 6), (1, u "java/lang/Object"), (0, u "<init>"), (0, u "()V"), (0, .methodref 1 10), (0, .nameAndType 11 12), (0, u "checkIndex"), (0, u "(II)V"), (1, .class_ 16), (1, u "java/lang/StringLatin1"), (36, u "([BI)C"), (67, u "$assertionsDisabled"), (0, u "Z"), (98, .class_ 223), (1, u "java/lang/StringLatin1$LinesSpliterator"), (28, u "charAt"), (137, .class_ 391), (0, u "java/lang/StringLatin1$CharsSpliterator")] 3

def k11m0 : Method := { name := "<init>", desc := "()V", sig := { parameters := [], returnType := none }, accessFlags := 0, code := none }
def k11c1 : Code := { maxStack := 2, maxLocals := 2, code := jdk_43_method_2_code, exceptionTable := #[], attributes := #[] }
def k11m1 : Method := { name := "charAt", desc := "([BI)C", sig := { parameters := [(.array .byte), .int], returnType := some .char }, accessFlags := 9, code := some k11c1 }
/-- java/lang/StringLatin1 -/
def k11 : Class := { plain "java/lang/StringLatin1" (some 0) with
  accessFlags := 48
  interfaces := #[]
  cf := some (fileOf pool11 14 #[.nestMembers #[390, 221]] #[{ accessFlags := 0, nameIndex := 7, descriptorIndex := 8, attributes := #[] }, { accessFlags := 9, nameIndex := 252, descriptorIndex := 53, attributes := #[] }] 48 4 #[] #[{ accessFlags := 4120, nameIndex := 121, descriptorIndex := 122, attributes := #[] }])
  fields := #[{ name := "$assertionsDisabled", type := .boolean, accessFlags := 4120, slot := 0, constantValue := 0 }]
  methods := #[k11m0, k11m1]
  instanceTypes := #[]
  staticTypes := #[.boolean]
  resolved := Array.replicate 395 none
  statics := none }

def pool12 : Array CpInfo := pool [(2, .class_ 4), (1, u "java/lang/Object"), (0, u "<init>"), (0, u "()V"), (17, .class_ 26), (1, u "jdk/internal/util/Preconditions"), (6, u "checkIndex"), (21, .class_ 56), (0, u "jdk/internal/util/Preconditions$4"), (57, .class_ 115), (0, u "jdk/internal/util/Preconditions$1"), (7, u "SIOOBE_FORMATTER"), (0, u "Ljava/util/function/BiFunction;"), (0, .class_ 126), (0, u "jdk/internal/util/Preconditions$2"), (3, u "AIOOBE_FORMATTER"), (0, .class_ 132), (0, u "jdk/internal/util/Preconditions$3"), (3, u "IOOBE_FORMATTER"), (41, u "(IILjava/util/function/BiFunction;)I")] 15

def k12m0 : Method := { name := "<init>", desc := "()V", sig := { parameters := [], returnType := none }, accessFlags := 1, code := none }
def k12c1 : Code := { maxStack := 3, maxLocals := 3, code := jdk_41_method_11_code, exceptionTable := #[], attributes := #[] }
def k12m1 : Method := { name := "checkIndex", desc := "(IILjava/util/function/BiFunction;)I", sig := { parameters := [.int, .int, (.object "java/util/function/BiFunction")], returnType := some .int }, accessFlags := 9, code := some k12c1 }
/-- jdk/internal/util/Preconditions -/
def k12 : Class := { plain "jdk/internal/util/Preconditions" (some 0) with
  accessFlags := 33
  interfaces := #[]
  cf := some (fileOf pool12 24 #[.nestMembers #[55, 131, 125, 114]] #[{ accessFlags := 1, nameIndex := 5, descriptorIndex := 6, attributes := #[] }, { accessFlags := 9, nameIndex := 33, descriptorIndex := 178, attributes := #[] }] 33 2 #[] #[{ accessFlags := 25, nameIndex := 123, descriptorIndex := 124, attributes := #[] }, { accessFlags := 25, nameIndex := 130, descriptorIndex := 124, attributes := #[] }, { accessFlags := 25, nameIndex := 136, descriptorIndex := 124, attributes := #[] }])
  fields := #[{ name := "SIOOBE_FORMATTER", type := (.object "java/util/function/BiFunction"), accessFlags := 25, slot := 0, constantValue := 0 }, { name := "AIOOBE_FORMATTER", type := (.object "java/util/function/BiFunction"), accessFlags := 25, slot := 1, constantValue := 0 }, { name := "IOOBE_FORMATTER", type := (.object "java/util/function/BiFunction"), accessFlags := 25, slot := 2, constantValue := 0 }]
  methods := #[k12m0, k12m1]
  instanceTypes := #[]
  staticTypes := #[(.object "java/util/function/BiFunction"), (.object "java/util/function/BiFunction"), (.object "java/util/function/BiFunction")]
  resolved := Array.replicate 194 none
  statics := some 2 }

def pool13 : Array CpInfo := pool [(9, u "<init>"), (6, .class_ 18), (1, u "java/lang/Object"), (0, u "()V"), (1, .class_ 23), (1, u "jdk/internal/util/ArraysSupport"), (0, u "LOG2_ARRAY_LONG_INDEX_SCALE"), (0, u "I"), (2, u "U"), (0, u "Ljdk/internal/misc/Unsafe;"), (8, u "BIG_ENDIAN"), (0, u "Z"), (8, u "LOG2_BYTE_BIT_SIZE"), (4, u "LOG2_ARRAY_INT_INDEX_SCALE"), (54, u "JLA"), (0, u "Ljdk/internal/access/JavaLangAccess;"), (11, u "LOG2_ARRAY_BOOLEAN_INDEX_SCALE"), (9, u "LOG2_ARRAY_BYTE_INDEX_SCALE"), (5, u "LOG2_ARRAY_CHAR_INDEX_SCALE"), (5, u "LOG2_ARRAY_SHORT_INDEX_SCALE"), (18, u "LOG2_ARRAY_FLOAT_INDEX_SCALE"), (24, u "LOG2_ARRAY_DOUBLE_INDEX_SCALE"), (89, u "T_BOOLEAN"), (2, u "T_CHAR"), (1, u "T_FLOAT"), (1, u "T_DOUBLE"), (1, u "T_BYTE"), (1, u "T_SHORT"), (1, u "T_INT"), (1, u "T_LONG"), (1, u "SOFT_MAX_ARRAY_LENGTH")] 83

def k13m0 : Method := { name := "<init>", desc := "()V", sig := { parameters := [], returnType := none }, accessFlags := 2, code := none }
/-- jdk/internal/util/ArraysSupport -/
def k13 : Class := { plain "jdk/internal/util/ArraysSupport" (some 0) with
  accessFlags := 33
  interfaces := #[]
  cf := some (fileOf pool13 21 #[] #[{ accessFlags := 2, nameIndex := 9, descriptorIndex := 19, attributes := #[] }] 33 16 #[] #[{ accessFlags := 24, nameIndex := 28, descriptorIndex := 29, attributes := #[] }, { accessFlags := 26, nameIndex := 38, descriptorIndex := 39, attributes := #[] }, { accessFlags := 25, nameIndex := 121, descriptorIndex := 25, attributes := #[] }, { accessFlags := 25, nameIndex := 131, descriptorIndex := 25, attributes := #[] }, { accessFlags := 25, nameIndex := 137, descriptorIndex := 25, attributes := #[] }, { accessFlags := 25, nameIndex := 143, descriptorIndex := 25, attributes := #[] }, { accessFlags := 25, nameIndex := 53, descriptorIndex := 25, attributes := #[] }, { accessFlags := 25, nameIndex := 24, descriptorIndex := 25, attributes := #[] }, { accessFlags := 25, nameIndex := 162, descriptorIndex := 25, attributes := #[] }, { accessFlags := 25, nameIndex := 187, descriptorIndex := 25, attributes := #[] }, { accessFlags := 26, nameIndex := 48, descriptorIndex := 25, attributes := #[] }, { accessFlags := 25, nameIndex := 277, descriptorIndex := 25, attributes := #[] }, { accessFlags := 25, nameIndex := 280, descriptorIndex := 25, attributes := #[] }, { accessFlags := 25, nameIndex := 282, descriptorIndex := 25, attributes := #[] }, { accessFlags := 25, nameIndex := 284, descriptorIndex := 25, attributes := #[] }, { accessFlags := 25, nameIndex := 286, descriptorIndex := 25, attributes := #[] }, { accessFlags := 25, nameIndex := 288, descriptorIndex := 25, attributes := #[] }, { accessFlags := 25, nameIndex := 290, descriptorIndex := 25, attributes := #[] }, { accessFlags := 25, nameIndex := 292, descriptorIndex := 25, attributes := #[] }, { accessFlags := 26, nameIndex := 108, descriptorIndex := 109, attributes := #[] }, { accessFlags := 25, nameIndex := 294, descriptorIndex := 25, attributes := #[] }])
  fields := #[{ name := "U", type := (.object "jdk/internal/misc/Unsafe"), accessFlags := 24, slot := 0, constantValue := 0 }, { name := "BIG_ENDIAN", type := .boolean, accessFlags := 26, slot := 1, constantValue := 0 }, { name := "LOG2_ARRAY_BOOLEAN_INDEX_SCALE", type := .int, accessFlags := 25, slot := 2, constantValue := 0 }, { name := "LOG2_ARRAY_BYTE_INDEX_SCALE", type := .int, accessFlags := 25, slot := 3, constantValue := 0 }, { name := "LOG2_ARRAY_CHAR_INDEX_SCALE", type := .int, accessFlags := 25, slot := 4, constantValue := 0 }, { name := "LOG2_ARRAY_SHORT_INDEX_SCALE", type := .int, accessFlags := 25, slot := 5, constantValue := 0 }, { name := "LOG2_ARRAY_INT_INDEX_SCALE", type := .int, accessFlags := 25, slot := 6, constantValue := 0 }, { name := "LOG2_ARRAY_LONG_INDEX_SCALE", type := .int, accessFlags := 25, slot := 7, constantValue := 0 }, { name := "LOG2_ARRAY_FLOAT_INDEX_SCALE", type := .int, accessFlags := 25, slot := 8, constantValue := 0 }, { name := "LOG2_ARRAY_DOUBLE_INDEX_SCALE", type := .int, accessFlags := 25, slot := 9, constantValue := 0 }, { name := "LOG2_BYTE_BIT_SIZE", type := .int, accessFlags := 26, slot := 10, constantValue := 0 }, { name := "T_BOOLEAN", type := .int, accessFlags := 25, slot := 11, constantValue := 0 }, { name := "T_CHAR", type := .int, accessFlags := 25, slot := 12, constantValue := 0 }, { name := "T_FLOAT", type := .int, accessFlags := 25, slot := 13, constantValue := 0 }, { name := "T_DOUBLE", type := .int, accessFlags := 25, slot := 14, constantValue := 0 }, { name := "T_BYTE", type := .int, accessFlags := 25, slot := 15, constantValue := 0 }, { name := "T_SHORT", type := .int, accessFlags := 25, slot := 16, constantValue := 0 }, { name := "T_INT", type := .int, accessFlags := 25, slot := 17, constantValue := 0 }, { name := "T_LONG", type := .int, accessFlags := 25, slot := 18, constantValue := 0 }, { name := "JLA", type := (.object "jdk/internal/access/JavaLangAccess"), accessFlags := 26, slot := 19, constantValue := 0 }, { name := "SOFT_MAX_ARRAY_LENGTH", type := .int, accessFlags := 25, slot := 20, constantValue := 0 }]
  methods := #[k13m0]
  instanceTypes := #[]
  staticTypes := #[(.object "jdk/internal/misc/Unsafe"), .boolean, .int, .int, .int, .int, .int, .int, .int, .int, .int, .int, .int, .int, .int, .int, .int, .int, .int, (.object "jdk/internal/access/JavaLangAccess"), .int]
  resolved := Array.replicate 378 none
  statics := none }

def pool14 : Array CpInfo := pool [(1, u "java/lang/Cloneable"), (0, .class_ 1), (0, u "java/lang/Object"), (0, .class_ 3)] 3

/-- java/lang/Cloneable -/
def k14 : Class := { plain "java/lang/Cloneable" (some 0) with
  accessFlags := 1537
  interfaces := #[]
  cf := some (fileOf pool14 2 #[] #[] 1537 4 #[] #[])
  fields := #[]
  methods := #[]
  instanceTypes := #[]
  staticTypes := #[]
  resolved := Array.replicate 8 none
  statics := none }

/-- the primitive byte -/
def k15 : Class := { plain "byte" none with kind := .primitive 'B', accessFlags := 0x411 }
/-- [B -/
def k16 : Class := { plain "[B" (some 0) with kind := .array 15 .byte, interfaces := #[14, 2], accessFlags := 1041 }

/-- the primitive char -/
def k17 : Class := { plain "char" none with kind := .primitive 'C', accessFlags := 0x411 }
/-- [C -/
def k18 : Class := { plain "[C" (some 0) with kind := .array 17 .char, interfaces := #[14, 2], accessFlags := 1041 }

/-- the primitive int -/
def k19 : Class := { plain "int" none with kind := .primitive 'I', accessFlags := 0x411 }
/-- [I -/
def k20 : Class := { plain "[I" (some 0) with kind := .array 19 .int, interfaces := #[14, 2], accessFlags := 1041 }

def heap : Heap := #[{ cls := 7, slots := #[.long 0, .int 1, .null, .int 0, .null, .int 0, .int 0], vm := .statics 7 },
  { cls := 10, slots := #[.int 0, .int 8, .int 0, .int 1], vm := .statics 10 },
  { cls := 12, slots := #[.null, .null, .null], vm := .statics 12 }]
def classes : Array Class := #[k0, k1, k2, k3, k4, k5, k6, k7, k8, k9, k10, k11, k12, k13, k14, k15, k16, k17, k18, k19, k20]
def interned : List (Array UInt16 × Addr) := []
def slotsUsed : Nat := 14
def theMethod : MethodId := ⟨1, 3⟩
def args0 : Array Value := #[.int 3, .int 7, .int 11, .int 15, .int 19]
def aboutOver (below : List Frame) : State where
  vm := { classes := classes, interned := interned.toArray }
  heap := heap
  slotsUsed := slotsUsed
  threads := #[{ frames := .invoking theMethod args0 :: below }]
def below0 : List Frame := [.native { method := ⟨0, 0⟩, args := #[] }]
def about1 : State := aboutOver below0
def p0 : Program := .bare "" "" ""
def e0 : Env := launch0.env 0 0 0
theorem w_frames : about1.frames = Frame.invoking theMethod args0 :: below0 := rfl
set_option maxRecDepth 65536 in
theorem w_args : argsFit about1.vm theMethod args0 = true := by decide +kernel
set_option maxRecDepth 65536 in
theorem w_heap : heapFits about1 = true := by decide +kernel
set_option maxRecDepth 65536 in
theorem w_runnable : about1.curStatus? = some .runnable := by decide +kernel
set_option maxRecDepth 65536 in
theorem w_alone : about1.alone = true := by decide +kernel
set_option maxRecDepth 65536 in
theorem w_named : about1.methodNamed? x = some theMethod := by decide +kernel
set_option maxRecDepth 65536 in
theorem w_hears : about1.hears theMethod below0 = true := by decide +kernel
set_option maxRecDepth 65536 in
theorem w_ripe : about1.ripe theMethod args0 below0 = true := by decide +kernel
theorem w_running : about1.status = .running := rfl
set_option maxRecDepth 65536 in
theorem w_room : about1.hasRoom e0.platform room_1 = true :=
  launch0.hasRoom_least _ room_1 (by decide +kernel) (by decide +kernel) (by decide +kernel) (by decide +kernel) (by decide +kernel) (by decide +kernel)
theorem allAtoms_all (ts : List Jvm.Cond) (a : Array Jvm.Value) (st : Jvm.State) : (allAtoms ts).before a st = ts.all (fun c => c.before a st) := by
  induction ts with
  | nil => rfl
  | cons c t ih =>
    show (Jvm.Cond.and c (allAtoms t)).before a st = _
    rw [Jvm.Cond.before_and, ih, List.all_cons]
def words1 : List Jvm.Cond := Jvm.Cond.code x code maxLocals ret :: tables_1
/-- a 'code' word, met by the world's own term for the bytes: nothing is compared byte by byte -/
theorem code_word {y : MethodName} {bytes : ByteArray} {mx : Nat} {rt : Option FieldType} {a : Array Value} {s : State} {m : MethodId} {meth : Method} {c : Code} (h1 : s.methodNamed? y = some m) (h2 : s.vm.method? m = some meth) (h3 : meth.code = some c) (h4 : c.code = bytes)
    (h5 : (c.maxLocals == mx && c.exceptionTable.isEmpty && decide (c.maxStack ≤ mostOperands) && decide (meth.sig.returnType = rt) && !meth.locks && decide (parseMethodDescriptor y.desc = some meth.sig)) = true) : (Jvm.Cond.code y bytes mx rt).before a s = true := by
  simp only [Bool.and_eq_true, beq_iff_eq, Bool.not_eq_true', decide_eq_true_eq] at h5
  obtain ⟨⟨⟨⟨⟨g1, g2⟩, g3⟩, g4⟩, g5⟩, g6⟩ := h5
  simp [Cond.before, Cond.holds, Cond.value, h1, h2, h3, h4, g1, g2, g3, g4, g5, g6]
def isCode : Jvm.Cond → Bool
  | .code _ _ _ _ => true
  | _ => false
theorem all_split {L : List Jvm.Cond} {P : Jvm.Cond → Bool} (h1 : L.all (fun c => isCode c || P c) = true) (h2 : ∀ c ∈ L.filter isCode, P c = true) : L.all P = true := by
  refine List.all_eq_true.mpr fun c hc => ?_
  have h := List.all_eq_true.mp h1 c hc
  rcases Bool.eq_false_or_eq_true (isCode c) with hi | hi
  · exact h2 c (List.mem_filter.mpr ⟨hc, hi⟩)
  · simpa [hi] using h
set_option maxRecDepth 65536 in
theorem w_c0 : (Jvm.Cond.code x code maxLocals ret).before args0 about1 = true := code_word (m := ⟨1, 3⟩) (meth := k1m3) (c := k1c3) (by decide +kernel) rfl rfl rfl (by decide +kernel)
set_option maxRecDepth 65536 in
theorem w_c1 : (Jvm.Cond.code ({ cls := "com/example/ermon/ermon/io/LineIsWordPinLaw", name := "pick", desc := "(I)C" } : Jvm.MethodName) method_2_code (2 : Nat) (Option.some Jvm.ClassFile.FieldType.char)).before args0 about1 = true := code_word (m := ⟨1, 1⟩) (meth := k1m1) (c := k1c1) (by decide +kernel) rfl rfl rfl (by decide +kernel)
set_option maxRecDepth 65536 in
theorem w_c2 : (Jvm.Cond.code ({ cls := "java/lang/String", name := "<init>", desc := "([C)V" } : Jvm.MethodName) jdk_42_method_3_code (2 : Nat) (Option.none : Option Jvm.ClassFile.FieldType)).before args0 about1 = true := code_word (m := ⟨7, 1⟩) (meth := k7m1) (c := k7c1) (by decide +kernel) rfl rfl rfl (by decide +kernel)
set_option maxRecDepth 65536 in
theorem w_c3 : (Jvm.Cond.code ({ cls := "java/lang/String", name := "<init>", desc := "([CIILjava/lang/Void;)V" } : Jvm.MethodName) jdk_42_method_149_code (6 : Nat) (Option.none : Option Jvm.ClassFile.FieldType)).before args0 about1 = true := code_word (m := ⟨7, 5⟩) (meth := k7m5) (c := k7c5) (by decide +kernel) rfl rfl rfl (by decide +kernel)
set_option maxRecDepth 65536 in
theorem w_c4 : (Jvm.Cond.code ({ cls := "java/lang/Object", name := "<init>", desc := "()V" } : Jvm.MethodName) object_method_1_code (1 : Nat) (Option.none : Option Jvm.ClassFile.FieldType)).before args0 about1 = true := code_word (m := ⟨0, 0⟩) (meth := k0m0) (c := k0c0) (by decide +kernel) rfl rfl rfl (by decide +kernel)
set_option maxRecDepth 65536 in
theorem w_c5 : (Jvm.Cond.code ({ cls := "com/example/ermon/ermon/io/Line", name := "isWord", desc := "(Ljava/lang/String;)Z" } : Jvm.MethodName) prog_6_method_6_code (4 : Nat) (Option.some Jvm.ClassFile.FieldType.boolean)).before args0 about1 = true := code_word (m := ⟨9, 0⟩) (meth := k9m0) (c := k9c0) (by decide +kernel) rfl rfl rfl (by decide +kernel)
set_option maxRecDepth 65536 in
theorem w_c6 : (Jvm.Cond.code ({ cls := "java/lang/String", name := "isEmpty", desc := "()Z" } : Jvm.MethodName) jdk_42_method_55_code (1 : Nat) (Option.some Jvm.ClassFile.FieldType.boolean)).before args0 about1 = true := code_word (m := ⟨7, 3⟩) (meth := k7m3) (c := k7c3) (by decide +kernel) rfl rfl rfl (by decide +kernel)
set_option maxRecDepth 65536 in
theorem w_c7 : (Jvm.Cond.code ({ cls := "java/lang/String", name := "length", desc := "()I" } : Jvm.MethodName) jdk_42_method_54_code (1 : Nat) (Option.some Jvm.ClassFile.FieldType.int)).before args0 about1 = true := code_word (m := ⟨7, 2⟩) (meth := k7m2) (c := k7c2) (by decide +kernel) rfl rfl rfl (by decide +kernel)
set_option maxRecDepth 65536 in
theorem w_c8 : (Jvm.Cond.code ({ cls := "java/lang/String", name := "coder", desc := "()B" } : Jvm.MethodName) jdk_42_method_152_code (1 : Nat) (Option.some Jvm.ClassFile.FieldType.byte)).before args0 about1 = true := code_word (m := ⟨7, 6⟩) (meth := k7m6) (c := k7c6) (by decide +kernel) rfl rfl rfl (by decide +kernel)
set_option maxRecDepth 65536 in
theorem w_c9 : (Jvm.Cond.code ({ cls := "java/lang/StringUTF16", name := "compress", desc := "([CII)[B" } : Jvm.MethodName) jdk_52_method_16_code (6 : Nat) (Option.some (Jvm.ClassFile.FieldType.array Jvm.ClassFile.FieldType.byte))).before args0 about1 = true := code_word (m := ⟨10, 8⟩) (meth := k10m8) (c := k10c8) (by decide +kernel) rfl rfl rfl (by decide +kernel)
set_option maxRecDepth 65536 in
theorem w_c10 : (Jvm.Cond.code ({ cls := "java/lang/StringUTF16", name := "compress", desc := "([CI[BII)I" } : Jvm.MethodName) jdk_52_method_21_code (7 : Nat) (Option.some Jvm.ClassFile.FieldType.int)).before args0 about1 = true := code_word (m := ⟨10, 9⟩) (meth := k10m9) (c := k10c9) (by decide +kernel) rfl rfl rfl (by decide +kernel)
set_option maxRecDepth 65536 in
theorem w_c11 : (Jvm.Cond.code ({ cls := "java/lang/StringUTF16", name := "coderFromArrayLen", desc := "([BI)B" } : Jvm.MethodName) jdk_52_method_15_code (2 : Nat) (Option.some Jvm.ClassFile.FieldType.byte)).before args0 about1 = true := code_word (m := ⟨10, 7⟩) (meth := k10m7) (c := k10c7) (by decide +kernel) rfl rfl rfl (by decide +kernel)
set_option maxRecDepth 65536 in
theorem w_c12 : (Jvm.Cond.code ({ cls := "com/example/ermon/ermon/io/LineIsWordPinLaw", name := "ok", desc := "(C)Z" } : Jvm.MethodName) method_3_code (1 : Nat) (Option.some Jvm.ClassFile.FieldType.boolean)).before args0 about1 = true := code_word (m := ⟨1, 2⟩) (meth := k1m2) (c := k1c2) (by decide +kernel) rfl rfl rfl (by decide +kernel)
set_option maxRecDepth 65536 in
theorem w_c13 : (Jvm.Cond.code ({ cls := "java/lang/String", name := "charAt", desc := "(I)C" } : Jvm.MethodName) jdk_42_method_56_code (2 : Nat) (Option.some Jvm.ClassFile.FieldType.char)).before args0 about1 = true := code_word (m := ⟨7, 4⟩) (meth := k7m4) (c := k7c4) (by decide +kernel) rfl rfl rfl (by decide +kernel)
set_option maxRecDepth 65536 in
theorem w_c14 : (Jvm.Cond.code ({ cls := "java/lang/String", name := "isLatin1", desc := "()Z" } : Jvm.MethodName) jdk_42_method_154_code (1 : Nat) (Option.some Jvm.ClassFile.FieldType.boolean)).before args0 about1 = true := code_word (m := ⟨7, 7⟩) (meth := k7m7) (c := k7c7) (by decide +kernel) rfl rfl rfl (by decide +kernel)
set_option maxRecDepth 65536 in
theorem w_c15 : (Jvm.Cond.code ({ cls := "java/lang/StringLatin1", name := "charAt", desc := "([BI)C" } : Jvm.MethodName) jdk_43_method_2_code (2 : Nat) (Option.some Jvm.ClassFile.FieldType.char)).before args0 about1 = true := code_word (m := ⟨11, 1⟩) (meth := k11m1) (c := k11c1) (by decide +kernel) rfl rfl rfl (by decide +kernel)
set_option maxRecDepth 65536 in
theorem w_c16 : (Jvm.Cond.code ({ cls := "java/lang/String", name := "checkIndex", desc := "(II)V" } : Jvm.MethodName) jdk_42_method_155_code (2 : Nat) (Option.none : Option Jvm.ClassFile.FieldType)).before args0 about1 = true := code_word (m := ⟨7, 8⟩) (meth := k7m8) (c := k7c8) (by decide +kernel) rfl rfl rfl (by decide +kernel)
set_option maxRecDepth 65536 in
theorem w_c17 : (Jvm.Cond.code ({ cls := "jdk/internal/util/Preconditions", name := "checkIndex", desc := "(IILjava/util/function/BiFunction;)I" } : Jvm.MethodName) jdk_41_method_11_code (3 : Nat) (Option.some Jvm.ClassFile.FieldType.int)).before args0 about1 = true := code_word (m := ⟨12, 1⟩) (meth := k12m1) (c := k12c1) (by decide +kernel) rfl rfl rfl (by decide +kernel)
set_option maxRecDepth 65536 in
theorem w_c18 : (Jvm.Cond.code ({ cls := "com/example/ermon/ermon/io/Line", name := "isSeparator", desc := "(C)Z" } : Jvm.MethodName) prog_6_method_7_code (1 : Nat) (Option.some Jvm.ClassFile.FieldType.boolean)).before args0 about1 = true := code_word (m := ⟨9, 1⟩) (meth := k9m1) (c := k9c1) (by decide +kernel) rfl rfl rfl (by decide +kernel)
set_option maxRecDepth 65536 in
theorem w_c19 : (Jvm.Cond.code ({ cls := "java/lang/StringUTF16", name := "toBytes", desc := "([CII)[B" } : Jvm.MethodName) jdk_52_method_14_code (5 : Nat) (Option.some (Jvm.ClassFile.FieldType.array Jvm.ClassFile.FieldType.byte))).before args0 about1 = true := code_word (m := ⟨10, 6⟩) (meth := k10m6) (c := k10c6) (by decide +kernel) rfl rfl rfl (by decide +kernel)
set_option maxRecDepth 65536 in
theorem w_c20 : (Jvm.Cond.code ({ cls := "java/lang/StringUTF16", name := "newBytesFor", desc := "(I)[B" } : Jvm.MethodName) jdk_52_method_2_code (1 : Nat) (Option.some (Jvm.ClassFile.FieldType.array Jvm.ClassFile.FieldType.byte))).before args0 about1 = true := code_word (m := ⟨10, 1⟩) (meth := k10m1) (c := k10c1) (by decide +kernel) rfl rfl rfl (by decide +kernel)
set_option maxRecDepth 65536 in
theorem w_c21 : (Jvm.Cond.code ({ cls := "java/lang/StringUTF16", name := "newBytesLength", desc := "(I)I" } : Jvm.MethodName) jdk_52_method_3_code (1 : Nat) (Option.some Jvm.ClassFile.FieldType.int)).before args0 about1 = true := code_word (m := ⟨10, 2⟩) (meth := k10m2) (c := k10c2) (by decide +kernel) rfl rfl rfl (by decide +kernel)
set_option maxRecDepth 65536 in
theorem w_c22 : (Jvm.Cond.code ({ cls := "java/lang/StringUTF16", name := "putChar", desc := "([BII)V" } : Jvm.MethodName) jdk_52_method_4_code (3 : Nat) (Option.none : Option Jvm.ClassFile.FieldType)).before args0 about1 = true := code_word (m := ⟨10, 3⟩) (meth := k10m3) (c := k10c3) (by decide +kernel) rfl rfl rfl (by decide +kernel)
set_option maxRecDepth 65536 in
theorem w_c23 : (Jvm.Cond.code ({ cls := "java/lang/StringUTF16", name := "getChar", desc := "([BI)C" } : Jvm.MethodName) jdk_52_method_5_code (2 : Nat) (Option.some Jvm.ClassFile.FieldType.char)).before args0 about1 = true := code_word (m := ⟨10, 4⟩) (meth := k10m4) (c := k10c4) (by decide +kernel) rfl rfl rfl (by decide +kernel)
set_option maxRecDepth 65536 in
theorem w_c24 : (Jvm.Cond.code ({ cls := "java/lang/StringUTF16", name := "charAt", desc := "([BI)C" } : Jvm.MethodName) jdk_52_method_83_code (2 : Nat) (Option.some Jvm.ClassFile.FieldType.char)).before args0 about1 = true := code_word (m := ⟨10, 10⟩) (meth := k10m10) (c := k10c10) (by decide +kernel) rfl rfl rfl (by decide +kernel)
set_option maxRecDepth 65536 in
theorem w_c25 : (Jvm.Cond.code ({ cls := "java/lang/StringUTF16", name := "checkIndex", desc := "(I[B)V" } : Jvm.MethodName) jdk_52_method_91_code (2 : Nat) (Option.none : Option Jvm.ClassFile.FieldType)).before args0 about1 = true := code_word (m := ⟨10, 11⟩) (meth := k10m11) (c := k10c11) (by decide +kernel) rfl rfl rfl (by decide +kernel)
set_option maxRecDepth 65536 in
theorem w_c26 : (Jvm.Cond.code ({ cls := "java/lang/StringUTF16", name := "length", desc := "([B)I" } : Jvm.MethodName) jdk_52_method_6_code (1 : Nat) (Option.some Jvm.ClassFile.FieldType.int)).before args0 about1 = true := code_word (m := ⟨10, 5⟩) (meth := k10m5) (c := k10c5) (by decide +kernel) rfl rfl rfl (by decide +kernel)
def codes1 : List Jvm.Cond := [Jvm.Cond.code x code maxLocals ret, Jvm.Cond.code ({ cls := "com/example/ermon/ermon/io/LineIsWordPinLaw", name := "pick", desc := "(I)C" } : Jvm.MethodName) method_2_code (2 : Nat) (Option.some Jvm.ClassFile.FieldType.char), Jvm.Cond.code ({ cls := "java/lang/String", name := "<init>", desc := "([C)V" } : Jvm.MethodName) jdk_42_method_3_code (2 : Nat) (Option.none : Option Jvm.ClassFile.FieldType), Jvm.Cond.code ({ cls := "java/lang/String", name := "<init>", desc := "([CIILjava/lang/Void;)V" } : Jvm.MethodName) jdk_42_method_149_code (6 : Nat) (Option.none : Option Jvm.ClassFile.FieldType), Jvm.Cond.code ({ cls := "java/lang/Object", name := "<init>", desc := "()V" } : Jvm.MethodName) object_method_1_code (1 : Nat) (Option.none : Option Jvm.ClassFile.FieldType), Jvm.Cond.code ({ cls := "com/example/ermon/ermon/io/Line", name := "isWord", desc := "(Ljava/lang/String;)Z" } : Jvm.MethodName) prog_6_method_6_code (4 : Nat) (Option.some Jvm.ClassFile.FieldType.boolean), Jvm.Cond.code ({ cls := "java/lang/String", name := "isEmpty", desc := "()Z" } : Jvm.MethodName) jdk_42_method_55_code (1 : Nat) (Option.some Jvm.ClassFile.FieldType.boolean), Jvm.Cond.code ({ cls := "java/lang/String", name := "length", desc := "()I" } : Jvm.MethodName) jdk_42_method_54_code (1 : Nat) (Option.some Jvm.ClassFile.FieldType.int), Jvm.Cond.code ({ cls := "java/lang/String", name := "coder", desc := "()B" } : Jvm.MethodName) jdk_42_method_152_code (1 : Nat) (Option.some Jvm.ClassFile.FieldType.byte), Jvm.Cond.code ({ cls := "java/lang/StringUTF16", name := "compress", desc := "([CII)[B" } : Jvm.MethodName) jdk_52_method_16_code (6 : Nat) (Option.some (Jvm.ClassFile.FieldType.array Jvm.ClassFile.FieldType.byte)), Jvm.Cond.code ({ cls := "java/lang/StringUTF16", name := "compress", desc := "([CI[BII)I" } : Jvm.MethodName) jdk_52_method_21_code (7 : Nat) (Option.some Jvm.ClassFile.FieldType.int), Jvm.Cond.code ({ cls := "java/lang/StringUTF16", name := "coderFromArrayLen", desc := "([BI)B" } : Jvm.MethodName) jdk_52_method_15_code (2 : Nat) (Option.some Jvm.ClassFile.FieldType.byte), Jvm.Cond.code ({ cls := "com/example/ermon/ermon/io/LineIsWordPinLaw", name := "ok", desc := "(C)Z" } : Jvm.MethodName) method_3_code (1 : Nat) (Option.some Jvm.ClassFile.FieldType.boolean), Jvm.Cond.code ({ cls := "java/lang/String", name := "charAt", desc := "(I)C" } : Jvm.MethodName) jdk_42_method_56_code (2 : Nat) (Option.some Jvm.ClassFile.FieldType.char), Jvm.Cond.code ({ cls := "java/lang/String", name := "isLatin1", desc := "()Z" } : Jvm.MethodName) jdk_42_method_154_code (1 : Nat) (Option.some Jvm.ClassFile.FieldType.boolean), Jvm.Cond.code ({ cls := "java/lang/StringLatin1", name := "charAt", desc := "([BI)C" } : Jvm.MethodName) jdk_43_method_2_code (2 : Nat) (Option.some Jvm.ClassFile.FieldType.char), Jvm.Cond.code ({ cls := "java/lang/String", name := "checkIndex", desc := "(II)V" } : Jvm.MethodName) jdk_42_method_155_code (2 : Nat) (Option.none : Option Jvm.ClassFile.FieldType), Jvm.Cond.code ({ cls := "jdk/internal/util/Preconditions", name := "checkIndex", desc := "(IILjava/util/function/BiFunction;)I" } : Jvm.MethodName) jdk_41_method_11_code (3 : Nat) (Option.some Jvm.ClassFile.FieldType.int), Jvm.Cond.code ({ cls := "com/example/ermon/ermon/io/Line", name := "isSeparator", desc := "(C)Z" } : Jvm.MethodName) prog_6_method_7_code (1 : Nat) (Option.some Jvm.ClassFile.FieldType.boolean), Jvm.Cond.code ({ cls := "java/lang/StringUTF16", name := "toBytes", desc := "([CII)[B" } : Jvm.MethodName) jdk_52_method_14_code (5 : Nat) (Option.some (Jvm.ClassFile.FieldType.array Jvm.ClassFile.FieldType.byte)), Jvm.Cond.code ({ cls := "java/lang/StringUTF16", name := "newBytesFor", desc := "(I)[B" } : Jvm.MethodName) jdk_52_method_2_code (1 : Nat) (Option.some (Jvm.ClassFile.FieldType.array Jvm.ClassFile.FieldType.byte)), Jvm.Cond.code ({ cls := "java/lang/StringUTF16", name := "newBytesLength", desc := "(I)I" } : Jvm.MethodName) jdk_52_method_3_code (1 : Nat) (Option.some Jvm.ClassFile.FieldType.int), Jvm.Cond.code ({ cls := "java/lang/StringUTF16", name := "putChar", desc := "([BII)V" } : Jvm.MethodName) jdk_52_method_4_code (3 : Nat) (Option.none : Option Jvm.ClassFile.FieldType), Jvm.Cond.code ({ cls := "java/lang/StringUTF16", name := "getChar", desc := "([BI)C" } : Jvm.MethodName) jdk_52_method_5_code (2 : Nat) (Option.some Jvm.ClassFile.FieldType.char), Jvm.Cond.code ({ cls := "java/lang/StringUTF16", name := "charAt", desc := "([BI)C" } : Jvm.MethodName) jdk_52_method_83_code (2 : Nat) (Option.some Jvm.ClassFile.FieldType.char), Jvm.Cond.code ({ cls := "java/lang/StringUTF16", name := "checkIndex", desc := "(I[B)V" } : Jvm.MethodName) jdk_52_method_91_code (2 : Nat) (Option.none : Option Jvm.ClassFile.FieldType), Jvm.Cond.code ({ cls := "java/lang/StringUTF16", name := "length", desc := "([B)I" } : Jvm.MethodName) jdk_52_method_6_code (1 : Nat) (Option.some Jvm.ClassFile.FieldType.int)]
set_option maxRecDepth 65536 in
theorem codes_eq : words1.filter isCode = codes1 := rfl
theorem w_codes : ∀ c ∈ words1.filter isCode, c.before args0 about1 = true := by
  rw [codes_eq]
  intro c hc
  simp only [codes1, List.mem_cons, List.not_mem_nil, or_false] at hc
  rcases hc with rfl | rfl | rfl | rfl | rfl | rfl | rfl | rfl | rfl | rfl | rfl | rfl | rfl | rfl | rfl | rfl | rfl | rfl | rfl | rfl | rfl | rfl | rfl | rfl | rfl | rfl | rfl
  · exact w_c0
  · exact w_c1
  · exact w_c2
  · exact w_c3
  · exact w_c4
  · exact w_c5
  · exact w_c6
  · exact w_c7
  · exact w_c8
  · exact w_c9
  · exact w_c10
  · exact w_c11
  · exact w_c12
  · exact w_c13
  · exact w_c14
  · exact w_c15
  · exact w_c16
  · exact w_c17
  · exact w_c18
  · exact w_c19
  · exact w_c20
  · exact w_c21
  · exact w_c22
  · exact w_c23
  · exact w_c24
  · exact w_c25
  · exact w_c26
set_option maxRecDepth 65536 in
theorem w_t1 : (words1.take 24).all (fun c => isCode c || c.before args0 about1) = true := by decide +kernel
set_option maxRecDepth 65536 in
theorem w_t2 : ((words1.drop 24).take 24).all (fun c => isCode c || c.before args0 about1) = true := by decide +kernel
set_option maxRecDepth 65536 in
theorem w_t3 : (((words1.drop 24).drop 24).take 24).all (fun c => isCode c || c.before args0 about1) = true := by decide +kernel
set_option maxRecDepth 65536 in
theorem w_t4 : ((((words1.drop 24).drop 24).drop 24).take 24).all (fun c => isCode c || c.before args0 about1) = true := by decide +kernel
set_option maxRecDepth 65536 in
theorem w_t5 : ((((words1.drop 24).drop 24).drop 24).drop 24).all (fun c => isCode c || c.before args0 about1) = true := by decide +kernel
theorem w_tables : (allAtoms (Jvm.Cond.code x code maxLocals ret :: tables_1)).before args0 about1 = true := by
  rw [allAtoms_all]
  show words1.all (fun c => c.before args0 about1) = true
  refine all_split ?_ w_codes
  rw [← List.take_append_drop 24 words1, List.all_append, w_t1, ← List.take_append_drop 24 (words1.drop 24), List.all_append, w_t2, ← List.take_append_drop 24 ((words1.drop 24).drop 24), List.all_append, w_t3, ← List.take_append_drop 24 (((words1.drop 24).drop 24).drop 24), List.all_append, w_t4, w_t5]
  rfl
set_option maxRecDepth 65536 in
theorem w_rest : rest_1_c.before args0 about1 = true := by decide +kernel
set_option maxRecDepth 65536 in
theorem w_case : (Jvm.Cond.and given_1 narrow_1).before args0 about1 = true := by decide +kernel
set_option maxRecDepth 65536 in
theorem w_consts : constsHeld consts_1 about1 := Jvm.Lit.constsHeldB_iff.mp (by decide +kernel)
theorem w_applies : (headSpec (Jvm.Cond.code x code maxLocals ret :: tables_1) room_1).applies x e0.platform about1 = true :=
  (Spec.applies_iff w_frames).mpr ⟨w_running, w_runnable, w_alone, w_named, w_hears, w_ripe, w_room, w_tables⟩
theorem atStart : AtStart classFile x code maxLocals ret World_1 tables_1 room_1 Calls_1 rest_1 Pre_1 launch0 p0 e0 about1 theMethod args0 below0 :=
  ⟨lists_1, trivial, launch0.admits_env _ _ _, launch0.least_env, fairChoices_fair.cas, fairChoices_fair.clock, w_frames, w_args, w_heap, w_applies, ⟨w_consts, trivial⟩, w_rest, w_case⟩
end start1
theorem witness_1 : WitnessClaimed_1 := ⟨start1.p0, start1.e0, start1.about1, start1.theMethod, start1.args0, start1.below0, start1.atStart⟩
end Jvm.Pilot.@@N@@
