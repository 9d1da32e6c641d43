import JvmDerived
import JvmDerived.Pilot.@@N@@Statement
import JvmDerived.Pilot.@@N@@Code
set_option linter.unusedVariables false
set_option linter.unusedSimpArgs false
namespace Jvm.Pilot.@@N@@
open Jvm Jvm.ClassFile Sem Op Lib Jvm.Free Jvm.Stand Jvm.LawKit Jvm.RoadKit Bundle Jvm.Pilot.@@N@@.Jvm.D
section Own
variable {p : Program} {l : Launch} {e : Env} {R : Room} {s : State} {m : MethodId} {args : Array Value} {below : List Frame} {meth : Method} {c : Code} {T : State} {locs : List Loc} {cells slots : Nat} {w : Bool} {Q : Option Value → Heap → List Loc → Prop} {rc rs : Nat}
/-- the run from A ends, returns what Q says, and has made and written no more than told; w: String constants may have been interned on the way -/
def Dg (w : Bool) (p : Program) (e : Env) (below : List Frame) (s : State) (Q : Option Value → Heap → List Loc → Prop) (rc rs : Nat) (A : State) : Prop :=
  ∃ s₂ o, Steps p.tables e below A s₂ ∧ s₂.status = .running ∧ Ended s₂ below o ∧ ∃ v L, o = .returned v ∧ Q v s₂.heap L ∧ (match w with | true => ReturnedEndW s o s₂ L rc rs | false => FrameEnd s o s₂ L rc rs)
abbrev Dn := Dg false
abbrev Dw := Dg true
theorem Dg.st {A B : State} (h : ∀ t, Steps p.tables e below B t → Steps p.tables e below A t) (k : Dg w p e below s Q rc rs B) : Dg w p e below s Q rc rs A := by
  obtain ⟨s2, o, h1, h2⟩ := k; exact ⟨s2, o, h _ h1, h2⟩
theorem Dg.tr {A B : State} (h : Steps p.tables e below A B) (k : Dg w p e below s Q rc rs B) : Dg w p e below s Q rc rs A := by
  obtain ⟨s2, o, h1, h2⟩ := k; exact ⟨s2, o, h.trans h1, h2⟩
theorem Dg.ret (X : Stand p l e R s m args below meth c T locs cells slots) (hlk : meth.locks = false) (hx : p.tables.exec = Jvm.exec) {pc : Nat} {Ls : Array Slot} {w : Value} {t : FieldType} {i : Instr} {rest : List Value} (hret : meth.sig.returnType = some t) (hn : narrow t w = w)
    (hi : (i = .ireturn ∧ (t = .int ∨ t = .boolean ∨ t = .byte ∨ t = .char ∨ t = .short) ∧ ∃ z, w = .int z) ∨ (i = .lreturn ∧ t = .long ∧ ∃ z, w = .long z) ∨ (i = .dreturn ∧ t = .double ∧ ∃ z, w = .double z) ∨ (i = .freturn ∧ t = .float ∧ ∃ z, w = .float z) ∨ (i = .areturn ∧ t.isReference = true ∧ w.isRef = true))
    (hd : decode c.code pc = .ok (i, 1)) (hq : Q (some w) T.heap locs) (hc : cells ≤ rc) (hs : slots ≤ rs) : Dg false p e below s Q rc rs (T.setTop (mkF m pc Ls (w :: rest))) := by
  obtain ⟨fs, hr, hrun, hended, hW, hsame⟩ := X.leave (v := some w) (fun h => by rw [hret] at h; cases h) hlk
  exact ⟨_, _, retOut X hx hret hn hi hd hr, hrun, hended, _, _, rfl, hq, ⟨_, rfl⟩, hW, hsame.mono hc hs⟩
/-- an int, a boolean, a char ..: the kinds of ireturn -/
theorem Dg.retI (X : Stand p l e R s m args below meth c T locs cells slots) (hlk : meth.locks = false) {code : ByteArray} (B : p.tables.exec = Jvm.exec ∧ c.code = code) {pc : Nat} {Ls : Array Slot} {z : Int32} {t : FieldType} {rest : List Value} (hret : meth.sig.returnType = some t) (hn : narrow t (.int z) = .int z) (ht : t = .int ∨ t = .boolean ∨ t = .byte ∨ t = .char ∨ t = .short)
    (hd : decode code pc = .ok (.ireturn, 1)) (hq : Q (some (.int z)) T.heap locs) (hc : cells ≤ rc ∧ slots ≤ rs) : Dg false p e below s Q rc rs (T.setTop (mkF m pc Ls (.int z :: rest))) :=
  Dg.ret X hlk B.1 hret hn (Or.inl ⟨rfl, ht, _, rfl⟩) (hb B.2 hd) hq hc.1 hc.2
theorem Dg.retA (X : Stand p l e R s m args below meth c T locs cells slots) (hlk : meth.locks = false) {code : ByteArray} (B : p.tables.exec = Jvm.exec ∧ c.code = code) {pc : Nat} {Ls : Array Slot} {w : Value} {t : FieldType} {rest : List Value} (hret : meth.sig.returnType = some t) (hn : narrow t w = w) (ht : t.isReference = true ∧ w.isRef = true)
    (hd : decode code pc = .ok (.areturn, 1)) (hq : Q (some w) T.heap locs) (hc : cells ≤ rc ∧ slots ≤ rs) : Dg false p e below s Q rc rs (T.setTop (mkF m pc Ls (w :: rest))) :=
  Dg.ret X hlk B.1 hret hn (Or.inr (Or.inr (Or.inr (Or.inr ⟨rfl, ht.1, ht.2⟩)))) (hb B.2 hd) hq hc.1 hc.2
theorem Dg.ret0 (X : Stand p l e R s m args below meth c T locs cells slots) (hlk : meth.locks = false) (hx : p.tables.exec = Jvm.exec) {pc : Nat} {Ls : Array Slot} (hret : meth.sig.returnType = none)
    (hd : decode c.code pc = .ok (.return_, 1)) (hq : Q none T.heap locs) (hc : cells ≤ rc) (hs : slots ≤ rs) : Dg false p e below s Q rc rs (T.setTop (mkF m pc Ls [])) := by
  obtain ⟨fs, hr, hrun, hended, hW, hsame⟩ := X.leave (v := none) (fun _ => rfl) hlk
  exact ⟨_, _, X.returnOut hx hret hd hr, hrun, hended, _, _, rfl, hq, ⟨_, rfl⟩, hW, hsame.mono hc hs⟩
theorem Dw.of {A : State} {vm1 : Vm} {n : Nat} (hS : s.Since vm1 n) (k : Dg false p e below (s.setVm vm1) (fun v h L => Q v h L ∧ n ≤ h.size) rc rs A) : Dg true p e below s Q rc rs A := by
  obtain ⟨s2, o, h1, h2, h3, v, L, rfl, ⟨hq, hn⟩, hr, hW, hs⟩ := k
  obtain ⟨a, b, c'⟩ := hS.ended hW hn hs
  exact ⟨s2, _, h1, h2, h3, v, L, rfl, hq, hr, a, b, c'⟩
theorem Dw.ofN {A : State} (k : Dg false p e below s Q rc rs A) : Dg true p e below s Q rc rs A := by
  obtain ⟨s2, o, h1, h2, h3, v, L, rfl, hq, hr, hW, hs⟩ := k
  exact ⟨s2, _, h1, h2, h3, v, L, rfl, hq, ReturnedEndW.of_narrow hr hW hs⟩
end Own
set_option maxRecDepth 65536
set_option maxHeartbeats 40000000
abbrev on0 : MethodName := (⟨"com/example/wakeline/wakeline/QualifiedFileName", "fileName", "(Ljava/lang/String;)Ljava/lang/String;"⟩ : MethodName)
abbrev on1 : MethodName := (⟨"java/lang/String", "substring", "(I)Ljava/lang/String;"⟩ : MethodName)
abbrev on2 : MethodName := (⟨"java/lang/String", "substring", "(II)Ljava/lang/String;"⟩ : MethodName)
abbrev on3 : MethodName := (⟨"java/lang/String", "<init>", "([C)V"⟩ : MethodName)
abbrev on4 : MethodName := (⟨"java/lang/String", "<init>", "([CIILjava/lang/Void;)V"⟩ : MethodName)
abbrev on5 : MethodName := (⟨"java/lang/StringUTF16", "newBytesLength", "(I)I"⟩ : MethodName)
abbrev on6 : MethodName := (⟨"java/lang/StringUTF16", "lastIndexOf", "([BII)I"⟩ : MethodName)
abbrev on7 : MethodName := (⟨"java/lang/String", "lastIndexOf", "(I)I"⟩ : MethodName)
abbrev on8 : MethodName := (⟨"java/lang/String", "lastIndexOf", "(II)I"⟩ : MethodName)
abbrev on9 : MethodName := (⟨"java/lang/StringLatin1", "lastIndexOf", "([BII)I"⟩ : MethodName)
abbrev on10 : MethodName := (⟨"java/lang/StringLatin1", "newString", "([BII)Ljava/lang/String;"⟩ : MethodName)
abbrev on11 : MethodName := (⟨"java/lang/StringUTF16", "newString", "([BII)Ljava/lang/String;"⟩ : MethodName)
abbrev on12 : MethodName := (⟨"java/lang/StringUTF16", "compress", "([CII)[B"⟩ : MethodName)
abbrev on13 : MethodName := (⟨"java/lang/StringUTF16", "newBytesFor", "(I)[B"⟩ : MethodName)
abbrev on14 : MethodName := (⟨"java/lang/StringUTF16", "compress", "([CI[BII)I"⟩ : MethodName)
abbrev on15 : MethodName := (⟨"java/lang/StringUTF16", "toBytes", "([CII)[B"⟩ : MethodName)
abbrev on16 : MethodName := (⟨"java/lang/StringUTF16", "compress", "([BII)[B"⟩ : MethodName)
abbrev on17 : MethodName := (⟨"java/lang/StringUTF16", "compress", "([BI[BII)I"⟩ : MethodName)
abbrev on18 : MethodName := (⟨"java/lang/String", "isLatin1", "()Z"⟩ : MethodName)
abbrev on19 : MethodName := (⟨"java/lang/String", "coder", "()B"⟩ : MethodName)
abbrev on20 : MethodName := (⟨"java/lang/Math", "min", "(II)I"⟩ : MethodName)
abbrev on21 : MethodName := (⟨"jdk/internal/util/Preconditions", "checkFromIndexSize", "(IIILjava/util/function/BiFunction;)I"⟩ : MethodName)
abbrev on22 : MethodName := (⟨"jdk/internal/util/Preconditions", "checkFromToIndex", "(IIILjava/util/function/BiFunction;)I"⟩ : MethodName)
abbrev on23 : MethodName := (⟨"java/lang/String", "<init>", "([BB)V"⟩ : MethodName)
abbrev on24 : MethodName := (⟨"jdk/internal/util/Preconditions", "checkIndex", "(IILjava/util/function/BiFunction;)I"⟩ : MethodName)
abbrev on25 : MethodName := (⟨"com/example/wakeline/wakeline/QualifiedFileNameFileNamePinLaw", "at", "(Ljava/lang/String;[CII)Z"⟩ : MethodName)
abbrev orm26 : Room := ({ frames := 0, cells := 0, slots := 0, locals := 0 } : Room)
abbrev orm27 : Room := ({ frames := 8, cells := 3, slots := 16, locals := 170 } : Room)
abbrev orm28 : Room := ({ frames := 2, cells := 2, slots := 4, locals := 35 } : Room)
abbrev orm29 : Room := ({ frames := 0, cells := 2, slots := 4, locals := 0 } : Room)
abbrev orm30 : Room := ({ frames := 1, cells := 0, slots := 0, locals := 16 } : Room)
abbrev orm31 : Room := ({ frames := 3, cells := 2, slots := 4, locals := 54 } : Room)
abbrev orm32 : Room := ({ frames := 4, cells := 3, slots := 16, locals := 70 } : Room)
abbrev orm33 : Room := ({ frames := 1, cells := 2, slots := 4, locals := 15 } : Room)
abbrev orm34 : Room := ({ frames := 2, cells := 0, slots := 0, locals := 34 } : Room)
abbrev orm35 : Room := ({ frames := 3, cells := 0, slots := 0, locals := 51 } : Room)
abbrev orm36 : Room := ({ frames := 6, cells := 3, slots := 16, locals := 135 } : Room)
abbrev orm37 : Room := ({ frames := 3, cells := 0, slots := 0, locals := 52 } : Room)
abbrev orm38 : Room := ({ frames := 1, cells := 0, slots := 0, locals := 15 } : Room)
abbrev orm39 : Room := ({ frames := 4, cells := 2, slots := 12, locals := 98 } : Room)
abbrev orm40 : Room := ({ frames := 7, cells := 3, slots := 16, locals := 154 } : Room)
theorem tw {L : List Jvm.Cond} {P : Jvm.Cond → Prop} (hw : ∀ d ∈ L, P d) (i : Nat) {d : Jvm.Cond} (e : L[i]? = some d) : P d := hw _ (List.mem_of_getElem? e)
abbrev vi (x : Int32) : Slot := .val (.int x)
abbrev vr (x : Addr) : Slot := .val (.ref x)
abbrev own_Met (l : Launch) (y : MethodName) (C : List Jvm.Cond) (rm : Room) (as' : Array Value) (Z : State) (h0 : Heap) (Q : Option Value → Heap → List Loc → Prop) : Prop := MetFree l y (head1 C rm) (fun aa UU => aa = as' ∧ Z.Warmed39 UU.vm ∧ UU.heap = h0) (fun _ _ _ _ _ => True) (fun _ UU oo UU' => ∃ vv LL, oo = .returned vv ∧ Q vv UU'.heap LL ∧ FrameEnd UU oo UU' LL rm.cells rm.slots)
section OwnC
variable {p : Program} {l : Launch} {e : Env} {R : Room} {s s0 : State} {m : MethodId} {args : Array Value} {below : List Frame} {meth : Method} {c : Code} {T : State} {locs : List Loc} {cells slots : Nat} {Z : State} {a0 : Array Value} {h : Heap} {w : Bool} {Q : Option Value → Heap → List Loc → Prop} {rc rs : Nat} {code : ByteArray} {pc : Nat} {Ls : Array Slot} {st : List Value}
abbrev Bb (p : Program) (c : Code) (code : ByteArray) : Prop := p.tables.exec = Jvm.exec ∧ c.code = code
abbrev Dc (b : ByteArray) (pc : Nat) (i : Instr) (k : Nat) : Prop := decode b pc = .ok (i, k)
/-- the goal at a place of the code -/
abbrev Sh {w : Bool} {p : Program} {e : Env} {below : List Frame} {s : State} {Q : Option Value → Heap → List Loc → Prop} {rc rs : Nat} {m : MethodId} (T : State) (pc : Nat) (Ls : Array Slot) (st : List Value) : Prop := Dg w p e below s Q rc rs (T.setTop (mkF m pc Ls st))
theorem w_i (X : Stand p l e R s m args below meth c T locs cells slots) (B : Bb p c code) {k : Fin 4} {v : Int32} (hd : decode code pc = .ok (.iload_n k, 1)) (hl : Ls[k.val]? = some (.val (.int v))) (hr : Dg w p e below s0 Q rc rs (T.setTop (mkF m (pc + 1) Ls (.int v :: st)))) : Dg w p e below s0 Q rc rs (T.setTop (mkF m pc Ls st)) :=
  Dg.st (fun _ q => XS.iloadN X.here B.1 rfl (hb B.2 hd) hl q) hr
theorem w_j (X : Stand p l e R s m args below meth c T locs cells slots) (B : Bb p c code) {k : Nat} {v : Int32} (hd : decode code pc = .ok (.iload k, 2)) (hl : Ls[k]? = some (.val (.int v))) (hr : Dg w p e below s0 Q rc rs (T.setTop (mkF m (pc + 2) Ls (.int v :: st)))) : Dg w p e below s0 Q rc rs (T.setTop (mkF m pc Ls st)) :=
  Dg.st (fun _ q => XS.iload X.here B.1 rfl (hb B.2 hd) hl q) hr
theorem w_a (X : Stand p l e R s m args below meth c T locs cells slots) (B : Bb p c code) {k : Fin 4} {v : Value} (hd : decode code pc = .ok (.aload_n k, 1)) (hl : Ls[k.val]? = some (.val v)) (hv : v.isRef = true) (hr : Dg w p e below s0 Q rc rs (T.setTop (mkF m (pc + 1) Ls (v :: st)))) : Dg w p e below s0 Q rc rs (T.setTop (mkF m pc Ls st)) :=
  Dg.st (fun _ q => XS.aloadN X.here B.1 rfl (hb B.2 hd) hl hv q) hr
theorem w_k (X : Stand p l e R s m args below meth c T locs cells slots) (B : Bb p c code) {k : Nat} {v : Value} (hd : decode code pc = .ok (.aload k, 2)) (hl : Ls[k]? = some (.val v)) (hv : v.isRef = true) (hr : Dg w p e below s0 Q rc rs (T.setTop (mkF m (pc + 2) Ls (v :: st)))) : Dg w p e below s0 Q rc rs (T.setTop (mkF m pc Ls st)) :=
  Dg.st (fun _ q => XS.aload X.here B.1 rfl (hb B.2 hd) hl hv q) hr
theorem w_c (X : Stand p l e R s m args below meth c T locs cells slots) (B : Bb p c code) {i : Int} (hd : decode code pc = .ok (.iconst i, 1)) (hr : Dg w p e below s0 Q rc rs (T.setTop (mkF m (pc + 1) Ls (.int (Int32.ofInt i) :: st)))) : Dg w p e below s0 Q rc rs (T.setTop (mkF m pc Ls st)) :=
  Dg.st (fun _ q => XS.iconst X.here B.1 rfl (hb B.2 hd) q) hr
theorem w_d (X : Stand p l e R s m args below meth c T locs cells slots) (B : Bb p c code) {i : Int} (hd : decode code pc = .ok (.sipush i, 3)) (hr : Dg w p e below s0 Q rc rs (T.setTop (mkF m (pc + 3) Ls (.int (Int16.ofInt i).toInt32 :: st)))) : Dg w p e below s0 Q rc rs (T.setTop (mkF m pc Ls st)) :=
  Dg.st (fun _ q => XS.sipush X.here B.1 rfl (hb B.2 hd) q) hr
theorem w_g (X : Stand p l e R s m args below meth c T locs cells slots) (B : Bb p c code) (pc0 pc' : Nat) {o : Int} (hp : pc = pc0) (hd : decode code pc = .ok (.goto o, 3)) (hs : 0 ≤ (pc0 : Int) + o ∧ ((pc0 : Int) + o).toNat = pc') (hr : Dg w p e below s0 Q rc rs (T.setTop (mkF m pc' Ls st))) : Dg w p e below s0 Q rc rs (T.setTop (mkF m pc Ls st)) :=
  Dg.st (fun _ q => XS.goto X.here B.1 rfl (pc0 := pc0) (pc' := pc') hp (hb B.2 hd) hs.1 hs.2 q) hr
theorem w_n (X : Stand p l e R s m args below meth c T locs cells slots) (B : Bb p c code) {cd : ClassFile.Cond} {o : Int} {x y : Int32} (hd : decode code pc = .ok (.if_icmp cd o, 3)) (hc : if_icmp.holds cd x y = false) (hr : Dg w p e below s0 Q rc rs (T.setTop (mkF m (pc + 3) Ls st))) : Dg w p e below s0 Q rc rs (T.setTop (mkF m pc Ls (.int y :: .int x :: st))) :=
  Dg.st (fun _ q => XS.icmpNo X.here B.1 rfl (hb B.2 hd) rfl hc q) hr
theorem w_y (X : Stand p l e R s m args below meth c T locs cells slots) (B : Bb p c code) (pc0 pc' : Nat) {cd : ClassFile.Cond} {o : Int} {x y : Int32} (hp : pc = pc0) (hd : decode code pc = .ok (.if_icmp cd o, 3)) (hc : if_icmp.holds cd x y = true) (hs : 0 ≤ (pc0 : Int) + o ∧ ((pc0 : Int) + o).toNat = pc') (hr : Dg w p e below s0 Q rc rs (T.setTop (mkF m pc' Ls st))) : Dg w p e below s0 Q rc rs (T.setTop (mkF m pc Ls (.int y :: .int x :: st))) :=
  Dg.st (fun _ q => XS.icmpYes X.here B.1 rfl (pc0 := pc0) (pc' := pc') hp (hb B.2 hd) rfl hc hs.1 hs.2 q) hr
theorem w_f (X : Stand p l e R s m args below meth c T locs cells slots) (B : Bb p c code) {cd : ClassFile.Cond} {o : Int} {x : Int32} (hd : decode code pc = .ok (.ifCond cd o, 3)) (hc : if_icmp.holds cd x 0 = false) (hr : Dg w p e below s0 Q rc rs (T.setTop (mkF m (pc + 3) Ls st))) : Dg w p e below s0 Q rc rs (T.setTop (mkF m pc Ls (.int x :: st))) :=
  Dg.st (fun _ q => XS.ifNo X.here B.1 rfl (hb B.2 hd) rfl ((if0 _ _).trans hc) q) hr
theorem w_t (X : Stand p l e R s m args below meth c T locs cells slots) (B : Bb p c code) (pc0 pc' : Nat) {cd : ClassFile.Cond} {o : Int} {x : Int32} (hp : pc = pc0) (hd : decode code pc = .ok (.ifCond cd o, 3)) (hc : if_icmp.holds cd x 0 = true) (hs : 0 ≤ (pc0 : Int) + o ∧ ((pc0 : Int) + o).toNat = pc') (hr : Dg w p e below s0 Q rc rs (T.setTop (mkF m pc' Ls st))) : Dg w p e below s0 Q rc rs (T.setTop (mkF m pc Ls (.int x :: st))) :=
  Dg.st (fun _ q => XS.ifYes X.here B.1 rfl (pc0 := pc0) (pc' := pc') hp (hb B.2 hd) rfl ((if0 _ _).trans hc) hs.1 hs.2 q) hr
theorem w_p (X : Stand p l e R s m args below meth c T locs cells slots) (B : Bb p c code) {k : Nat} {cst : Int} {x : Int32} (hd : decode code pc = .ok (.iinc k cst, 3)) (hl : Ls[k]? = some (.val (.int x))) (l' : Array Slot) (hl' : storeLocals Ls k (.int (x + Int32.ofInt cst)) = some l') (hr : Dg w p e below s0 Q rc rs (T.setTop (mkF m (pc + 3) l' st))) : Dg w p e below s0 Q rc rs (T.setTop (mkF m pc Ls st)) :=
  Dg.st (fun _ q => XS.iinc X.here B.1 rfl (hb B.2 hd) hl hl' q) hr
theorem w_s (X : Stand p l e R s m args below meth c T locs cells slots) (B : Bb p c code) {k : Nat} {x : Int32} (hd : decode code pc = .ok (.istore k, 2)) (l' : Array Slot) (hl : storeLocals Ls k (.int x) = some l') (hr : Dg w p e below s0 Q rc rs (T.setTop (mkF m (pc + 2) l' st))) : Dg w p e below s0 Q rc rs (T.setTop (mkF m pc Ls (.int x :: st))) :=
  Dg.st (fun _ q => XS.istore X.here B.1 rfl (hb B.2 hd) rfl hl q) hr
theorem w_S (X : Stand p l e R s m args below meth c T locs cells slots) (B : Bb p c code) {k : Fin 4} {x : Int32} (hd : decode code pc = .ok (.istore_n k, 1)) (l' : Array Slot) (hl : storeLocals Ls k.val (.int x) = some l') (hr : Dg w p e below s0 Q rc rs (T.setTop (mkF m (pc + 1) l' st))) : Dg w p e below s0 Q rc rs (T.setTop (mkF m pc Ls (.int x :: st))) :=
  Dg.st (fun _ q => XS.istoreN X.here B.1 rfl (hb B.2 hd) rfl hl q) hr
theorem w_u (X : Stand p l e R s m args below meth c T locs cells slots) (B : Bb p c code) {k : Nat} {x : Value} (hd : decode code pc = .ok (.astore k, 2)) (hv : x.isRef = true) (l' : Array Slot) (hl : storeLocals Ls k x = some l') (hr : Dg w p e below s0 Q rc rs (T.setTop (mkF m (pc + 2) l' st))) : Dg w p e below s0 Q rc rs (T.setTop (mkF m pc Ls (x :: st))) :=
  Dg.st (fun _ q => XS.astore X.here B.1 rfl (hb B.2 hd) rfl hv hl q) hr
theorem w_U (X : Stand p l e R s m args below meth c T locs cells slots) (B : Bb p c code) {k : Fin 4} {x : Value} (hd : decode code pc = .ok (.astore_n k, 1)) (hv : x.isRef = true) (l' : Array Slot) (hl : storeLocals Ls k.val x = some l') (hr : Dg w p e below s0 Q rc rs (T.setTop (mkF m (pc + 1) l' st))) : Dg w p e below s0 Q rc rs (T.setTop (mkF m pc Ls (x :: st))) :=
  Dg.st (fun _ q => XS.astoreN X.here B.1 rfl (hb B.2 hd) rfl hv hl q) hr
/-- what is read of an array -/
theorem w_al (X : Stand p l e R s m args below meth c T locs cells slots) (B : Bb p c code) (hZ : Z.Warmed39 s.vm) (eT : T.heap = h) {a : Addr} {kb : ClassId} {ty : FieldType} {n : Int32} {ls : List Value} {dv : Value} (V : Arv Z h a kb ty n ls dv) (hd : decode code pc = .ok (.arraylength, 1)) (hr : Dg w p e below s0 Q rc rs (T.setTop (mkF m (pc + 1) Ls (.int n :: st)))) : Dg w p e below s0 Q rc rs (T.setTop (mkF m pc Ls (.ref a :: st))) := by
  obtain ⟨cl, Ar, q, S, N, H, G⟩ := V
  refine Dg.st (fun _ q => X.arraylength B.1 (by rw [eT]; exact Ar.1) (State.isArrayOf_alike hZ.alike Ar.2.1) (g := mkF m pc Ls (.ref a :: st)) rfl rfl (hb B.2 hd) _ q) ?_
  show Dg w p e below s0 Q rc rs (T.setTop (mkF m (pc + 1) Ls (.int cl.slots.size.toInt32 :: st)))
  rw [len_of S N]; exact hr
theorem w_ba (X : Stand p l e R s m args below meth c T locs cells slots) (B : Bb p c code) (hZ : Z.Warmed39 s.vm) (eT : T.heap = h) {a : Addr} {kb : ClassId} {n j : Int32} {ls : List Value} {dv v : Value} (V : Arv Z h a kb .byte n ls dv) (hj : ¬ j < 0 ∧ j < n) (hv : ls.getD j.toNatClampNeg dv = v) (hd : decode code pc = .ok (.baload, 1)) (hr : Dg w p e below s0 Q rc rs (T.setTop (mkF m (pc + 1) Ls (v :: st)))) : Dg w p e below s0 Q rc rs (T.setTop (mkF m pc Ls (.int j :: .ref a :: st))) := by
  obtain ⟨cl, Ar, q, S, N, H, G⟩ := V
  exact Dg.st (fun _ q => X.baloadBytes B.1 (j := j) (v := v) (by rw [eT]; exact Ar.1) (State.isArrayOf_alike hZ.alike Ar.2.1) Ar.2.2 (inb_of S hj) (H.at (inb_of S hj) hv) (g := mkF m pc Ls (.int j :: .ref a :: st)) rfl rfl (hb B.2 hd) _ q) hr
theorem w_ca (X : Stand p l e R s m args below meth c T locs cells slots) (B : Bb p c code) (hZ : Z.Warmed39 s.vm) (eT : T.heap = h) {a : Addr} {kb : ClassId} {n j : Int32} {ls : List Value} {dv v : Value} (V : Arv Z h a kb .char n ls dv) (hj : ¬ j < 0 ∧ j < n) (hv : ls.getD j.toNatClampNeg dv = v) (hd : decode code pc = .ok (.caload, 1)) (hr : Dg w p e below s0 Q rc rs (T.setTop (mkF m (pc + 1) Ls (v :: st)))) : Dg w p e below s0 Q rc rs (T.setTop (mkF m pc Ls (.int j :: .ref a :: st))) := by
  obtain ⟨cl, Ar, q, S, N, H, G⟩ := V
  exact Dg.st (fun _ q => X.caload B.1 (j := j) (v := v) (by rw [eT]; exact Ar.1) (State.isArrayOf_alike hZ.alike Ar.2.1) Ar.2.2 (inb_of S hj) (H.at (inb_of S hj) hv) (g := mkF m pc Ls (.int j :: .ref a :: st)) rfl rfl (hb B.2 hd) _ q) hr
/-- fields and statics -/
theorem w_gf (X : Stand p l e R s m args below meth c T locs cells slots) (B : Bb p c code) (hZ : Z.Warmed39 s.vm) {own R0 O n d : String} {index : Nat} (hown : s.vm.findClass own = some m.cls) (w1 : (Cond.fieldLink own index R0 n d).before a0 Z = true) (via : Via Z R0 O n d) (eT : T.heap = h) {a : Addr} {v : Value} (F : Fld Z h a O n d v) (hd : decode code pc = .ok (.getfield index, 3))
    (k : ∀ T', Stand p l e R s m args below meth c T' locs cells slots → T'.heap = h → Dg w p e below s0 Q rc rs (T'.setTop (mkF m (pc + 3) Ls (v :: st)))) : Dg w p e below s0 Q rc rs (T.setTop (mkF m pc Ls (.ref a :: st))) := by
  obtain ⟨T', X', e', st'⟩ := getF X B.1 hZ hown (host := "") (Or.inl w1) via eT F (g := mkF m pc Ls (.ref a :: st)) rfl rfl (hb B.2 hd)
  exact Dg.st st' (k T' X' e')
theorem w_gs (X : Stand p l e R s m args below meth c T locs cells slots) (B : Bb p c code) (hZ : Z.Warmed39 s.vm) {own R0 O n d : String} {index : Nat} (hown : s.vm.findClass own = some m.cls) (w1 : (Cond.fieldLink own index R0 n d).before a0 Z = true) (via : Via Z R0 O n d) (eT : T.heap = h) {v : Value} (F : Sta Z h O n d v) (hd : decode code pc = .ok (.getstatic index, 3))
    (k : ∀ T', Stand p l e R s m args below meth c T' locs cells slots → T'.heap = h → Dg w p e below s0 Q rc rs (T'.setTop (mkF m (pc + 3) Ls (v :: st)))) : Dg w p e below s0 Q rc rs (T.setTop (mkF m pc Ls st)) := by
  obtain ⟨T', X', e', st'⟩ := getS2 X B.1 hZ hown (host := "") (Or.inl w1) via eT F (g := mkF m pc Ls st) rfl (hb B.2 hd)
  exact Dg.st st' (k T' X' e')
/-- the first k of the stack, as a call takes them -/
theorem own_tk (k : Nat) (st : List Value) : st = ((st.take k).reverse).reverse ++ st.drop k := by rw [List.reverse_reverse, List.take_append_drop]
theorem own_w0 {st : List Value} {W k : Nat} (hW : ((st.drop k).map Value.category).sum = W) {Ls : Array Slot} {s1 : List Value} : 2 * (mkF m pc Ls s1).monitorRoom + ((st.drop k).map fun v => v.category).sum ≤ W := by
  show 2 * 0 + _ ≤ _
  rw [Nat.zero_add]; exact Nat.le_of_eq hW
/-- a static call by a contract -/
theorem w_cs (X : Stand p l e R s m args below meth c T locs cells slots) (B : Bb p c code) (hZ : Z.Warmed39 s.vm) {own : String} (hown : s.vm.findClass own = some m.cls) {ml : Nat} (hml : c.maxLocals = ml) {index : Nat} {y : MethodName} {bytes : ByteArray} {maxL : Nat} {ret : Option FieldType} {rm : Room} {as' : Array Value} {Qc : Option Value → Heap → List Loc → Prop}
    (hM : own_Met l y [Cond.code y bytes maxL ret] rm as' Z h Qc) (w1 : (Cond.methodLink own index y).before a0 Z = true) (w2 : (Cond.static y).before a0 Z = true) (w3 : (Cond.initialized y.cls).before a0 Z = true) (w4 : (Cond.code y bytes maxL ret).before a0 Z = true)
    (eT : T.heap = h) (hd : decode code pc = .ok (.invokestatic index, 3)) (k W : Nat) (hlen : ∀ sig, parseMethodDescriptor y.desc = some sig → (st.take k).reverse.length = sig.parameters.length) (ha : (st.take k).reverse.toArray = as') (hsz : Ls.size = ml) (hW : ((st.drop k).map Value.category).sum = W)
    (hs : (y.cls ≠ "java/lang/invoke/MethodHandle" ∧ y.cls ≠ "java/lang/invoke/VarHandle") ∧ rm.frames + 1 ≤ R.frames ∧ W + (maxL + 11) + rm.locals ≤ R.locals ∧ cells + rm.cells ≤ R.cells ∧ slots + rm.slots ≤ R.slots)
    (kk : ∀ (v : Option Value) (T' : State) (L : List Loc), Stand p l e R s m args below meth c T' (locs ++ L) (cells + rm.cells) (slots + rm.slots) → Qc v T'.heap L → Dg w p e below s0 Q rc rs (T'.setTop (mkF m (pc + 3) Ls (v.toList ++ st.drop k)))) : Dg w p e below s0 Q rc rs (T.setTop (mkF m pc Ls st)) := by
  obtain ⟨v, _, ⟨T', L', k', n'⟩, -, X', ⟨L, hQ, h1, h2, h3⟩, st'⟩ := Jvm.LawKit.callS X B.1 (y := y) hown (mvT hZ w1) (mvT hZ w2) (mvT hZ w3) (mvT hZ w4) hs.1 (backOf (W := W) hM hZ w4 w3 hs.2.1 hs.2.2.1) (g := mkF m pc Ls st) rfl (hsz.trans hml.symm) (argsL := (st.take k).reverse) (rest := st.drop k) hlen (own_tk k st) (own_w0 hW) (hb B.2 hd) (fun _ _ => ⟨ha, eT, hs.2.2.2.1, hs.2.2.2.2⟩)
  dsimp only [Pt.U, Pt.locs, Pt.cells, Pt.slots] at X' h1 h2 h3 st' hQ
  subst h1 h2 h3
  exact Dg.st st' (kk v T' L X' hQ)
/-- a constructor's call -/
theorem w_ci (X : Stand p l e R s m args below meth c T locs cells slots) (B : Bb p c code) (hZ : Z.Warmed39 s.vm) {own : String} (hown : s.vm.findClass own = some m.cls) {ml : Nat} (hml : c.maxLocals = ml) {index : Nat} {y : MethodName} {bytes : ByteArray} {maxL : Nat} {rm : Room} {as' : Array Value} {Qc : Option Value → Heap → List Loc → Prop}
    (hM : own_Met l y [Cond.code y bytes maxL none] rm as' Z h Qc) (w1 : (Cond.methodLink own index y).before a0 Z = true) (w2 : (Cond.instanceMethod y).before a0 Z = true) (w3 : (Cond.initialized y.cls).before a0 Z = true) (w4 : (Cond.code y bytes maxL none).before a0 Z = true)
    (eT : T.heap = h) (hd : decode code pc = .ok (.invokespecial index, 3)) (k W : Nat) {a : Addr} {rest : List Value} (hrest : st.drop k = .ref a :: rest) (hlen : ∀ sig, parseMethodDescriptor y.desc = some sig → (st.take k).reverse.length = sig.parameters.length) (ha : (.ref a :: (st.take k).reverse).toArray = as') (hsz : Ls.size = ml) (hW : (rest.map Value.category).sum = W) (hn : y.name = "<init>")
    (hs : (y.cls ≠ "java/lang/invoke/MethodHandle" ∧ y.cls ≠ "java/lang/invoke/VarHandle") ∧ rm.frames + 1 ≤ R.frames ∧ W + (maxL + 11) + rm.locals ≤ R.locals ∧ cells + rm.cells ≤ R.cells ∧ slots + rm.slots ≤ R.slots)
    (kk : ∀ (v : Option Value) (T' : State) (L : List Loc), Stand p l e R s m args below meth c T' (locs ++ L) (cells + rm.cells) (slots + rm.slots) → Qc v T'.heap L → Dg w p e below s0 Q rc rs (T'.setTop (mkF m (pc + 3) Ls (v.toList ++ rest)))) : Dg w p e below s0 Q rc rs (T.setTop (mkF m pc Ls st)) := by
  obtain ⟨v, _, ⟨T', L', k', n'⟩, -, X', ⟨L, hQ, h1, h2, h3⟩, st'⟩ := X.specialBack B.1 (y := y) hn hown (mvT hZ w1) (mvT hZ w2) (mvT hZ w4) hs.1 (backOf (W := W) hM hZ w4 w3 hs.2.1 hs.2.2.1) (g := mkF m pc Ls st) rfl (hsz.trans hml.symm) (Steps.refl _) (a := a) (argsL := (st.take k).reverse) (rest := rest) hlen ((own_tk k st).trans (by rw [hrest])) (own_w0 (k := 0) hW) (hb B.2 hd) (fun _ _ => ⟨ha, eT, hs.2.2.2.1, hs.2.2.2.2⟩)
  dsimp only [Pt.U, Pt.locs, Pt.cells, Pt.slots] at X' h1 h2 h3 st' hQ
  subst h1 h2 h3
  exact Dg.tr st' (kk v T' L X' hQ)
/-- a virtual call on an object whose class is known -/
theorem w_cv (X : Stand p l e R s m args below meth c T locs cells slots) (B : Bb p c code) (hZ : Z.Warmed39 s.vm) {own C : String} (hown : s.vm.findClass own = some m.cls) {ml : Nat} (hml : c.maxLocals = ml) {index : Nat} {y : MethodName} {bytes : ByteArray} {maxL : Nat} {ret : Option FieldType} {rm : Room} {as' : Array Value} {Qc : Option Value → Heap → List Loc → Prop}
    (hM : own_Met l y [Cond.code y bytes maxL ret] rm as' Z h Qc) (w1 : (Cond.methodLink own index y).before a0 Z = true) (w2 : (Cond.declares y).before a0 Z = true) (w5 : (Cond.selects C y y).before a0 Z = true) (w6 : (Cond.instanceMethod y).before a0 Z = true) (w3 : (Cond.initialized y.cls).before a0 Z = true) (w4 : (Cond.code y bytes maxL ret).before a0 Z = true)
    (eT : T.heap = h) {b : Addr} (Eb : Exa Z h b C) (hd : decode code pc = .ok (.invokevirtual index, 3)) (k W : Nat) {rest : List Value} (hrest : st.drop k = .ref b :: rest) (hlen : ∀ sig, parseMethodDescriptor y.desc = some sig → (st.take k).reverse.length = sig.parameters.length) (ha : (.ref b :: (st.take k).reverse).toArray = as') (hsz : Ls.size = ml) (hW : (rest.map Value.category).sum = W)
    (hs : (y.cls ≠ "java/lang/invoke/MethodHandle" ∧ y.cls ≠ "java/lang/invoke/VarHandle") ∧ rm.frames + 1 ≤ R.frames ∧ W + (maxL + 11) + rm.locals ≤ R.locals ∧ cells + rm.cells ≤ R.cells ∧ slots + rm.slots ≤ R.slots)
    (kk : ∀ (v : Option Value) (T' : State) (L : List Loc), Stand p l e R s m args below meth c T' (locs ++ L) (cells + rm.cells) (slots + rm.slots) → Qc v T'.heap L → Dg w p e below s0 Q rc rs (T'.setTop (mkF m (pc + 3) Ls (v.toList ++ rest)))) : Dg w p e below s0 Q rc rs (T.setTop (mkF m pc Ls st)) := by
  obtain ⟨cq, kq, qa, qb, qc⟩ := isOf hZ eT Eb
  obtain ⟨v, _, ⟨T', L', k', n'⟩, -, X', ⟨L, hQ, h1, h2, h3⟩, st'⟩ := X.virtualBack B.1 (y := y) (z := y) hown (mvT hZ w1) (mvT hZ w2) (notFace_of_selects (args := #[]) (mvT hZ w5)) (mvT hZ w5) (mvT hZ w6) hs.1 (backOf (W := W) hM hZ w4 w3 hs.2.1 hs.2.2.1) qa qc (g := mkF m pc Ls st) rfl (hsz.trans hml.symm) (Steps.refl _) (argsL := (st.take k).reverse) (rest := rest) hlen ((own_tk k st).trans (by rw [hrest])) (own_w0 (k := 0) hW) (hb B.2 hd) (fun _ _ => ⟨ha, eT, hs.2.2.2.1, hs.2.2.2.2⟩)
  dsimp only [Pt.U, Pt.locs, Pt.cells, Pt.slots] at X' h1 h2 h3 st' hQ
  subst h1 h2 h3
  exact Dg.tr st' (kk v T' L X' hQ)
/-- what a body's head says -/
theorem own_bg {y : MethodName} {S : Spec} {ml : Nat} {ret : Option FieldType} {s₁ : State} (Bd : BodyLoose p l y S code ml ret e s m args below meth c s₁) (hh : s.heap = h) :
    p.tables.exec = Jvm.exec ∧ c.code = code ∧ meth.locks = false ∧ meth.sig.returnType = ret ∧ s.vm.findClass y.cls = some m.cls ∧ Stand p l e S.room s m args below meth c s₁ [] 0 0 ∧ s₁.heap = h :=
  ⟨Bd.exec, Bd.bytes, BodyLoose.notSynchronized Bd, Bd.returns, findClass_of_methodNamed Bd.named, Stand.of_body Bd, by rw [← hh, Bd.state]; rfl⟩
theorem own_met {y : MethodName} {ml : Nat} {ret : Option FieldType} {ws : List Jvm.Cond} {rm : Room} {as' : Array Value} (hp : plainFor y = true) (hef : ∀ m, entryFrame m as' ml = mkF m 0 Ls [])
    (k : ∀ (p : Program) (e : Env) (s : State) (m : MethodId) (below : List Frame) (meth : Method) (c : Code) (T : State), Bb p c code → meth.locks = false → meth.sig.returnType = ret → c.maxLocals = ml → Z.Warmed39 s.vm → s.vm.findClass y.cls = some m.cls → meth.name = y.name → Stand p l e rm s m as' below meth c T [] 0 0 → T.heap = h → Dg false p e below s Q rm.cells rm.slots (T.setTop (mkF m 0 Ls []))) :
    own_Met l y (Cond.code y code ml ret :: ws) rm as' Z h Q := by
  refine MetFree.of_bodySF hp hisR ?_
  intro p e s m args below meth c s₁ Bd hml hP hK
  obtain ⟨rfl, hZ, hh⟩ := hP
  obtain ⟨hx, hby, hlk, hret, hown, X0, e0⟩ := own_bg Bd hh
  rw [hef]
  exact k p e s m below meth c s₁ ⟨hx, hby⟩ hlk hret hml hZ hown (name_of_methodNamed Bd.named Bd.method).1 X0 e0
end OwnC

section OwnS
variable {Z : State} {h h' : Heap} {n0 : Nat} {cs : Int32} {sf : Value} {a : Addr} {sl : Nat} {v : Value} {ws : List Addr}
theorem own_k0 : ∀ x ∈ ([] : List Addr), n0 ≤ x := fun x hx => absurd hx (by simp)
theorem own_k1 (g : n0 ≤ a) : ∀ x ∈ [a], n0 ≤ x := fun x hx => (List.mem_singleton.mp hx) ▸ g
/-- what is old stands as it was; and the statics -/
def own_W (Z : State) (h : Heap) (n0 : Nat) (cs : Int32) (sf : Value) : Prop :=
  (n0 = Z.heap.size ∧ Ext Z.heap h) ∧ (Sta Z Z.heap "java/lang/String" "COMPACT_STRINGS" "Z" (.int cs) ∧ cs ≠ 0) ∧ Sta Z Z.heap "java/lang/StringUTF16" "$assertionsDisabled" "Z" (.int 1) ∧ Sta Z Z.heap "java/lang/StringUTF16" "HI_BYTE_SHIFT" "I" (.int 0) ∧ Sta Z Z.heap "java/lang/StringUTF16" "LO_BYTE_SHIFT" "I" (.int 8) ∧ Sta Z Z.heap "jdk/internal/util/Preconditions" "SIOOBE_FORMATTER" "Ljava/util/function/BiFunction;" sf ∧ sf.isRef = true
theorem own_W.ext (W : own_W Z h n0 cs sf) (E : Ext h h') : own_W Z h' n0 cs sf := ⟨⟨W.1.1, Nat.le_trans W.1.2.1 E.1, fun a c q => E.2 a c (W.1.2.2 a c q)⟩, W.2⟩
theorem own_W.keep (W : own_W Z h n0 cs sf) (K : Keep h h' ws) (g : ∀ x ∈ ws, n0 ≤ x) : own_W Z h' n0 cs sf :=
  ⟨⟨W.1.1, Nat.le_trans W.1.2.1 K.1, fun a c q => K.2.1 a c (W.1.2.2 a c q) (fun hm => by
    have h1 := g a hm; have h2 := (Array.getElem?_eq_some_iff.mp q).1; have h3 := W.1.1; omega)⟩, W.2⟩
theorem own_W.wr (W : own_W Z h n0 cs sf) (w : Wr h h' a sl v) (g : n0 ≤ a) : own_W Z h' n0 cs sf := W.keep (Keep.of_wr w) (own_k1 g)
theorem own_W.cst (W : own_W Z h n0 cs sf) : Sta Z h "java/lang/String" "COMPACT_STRINGS" "Z" (.int cs) := Sta.ext W.1.2 W.2.1.1
theorem own_W.cne (W : own_W Z h n0 cs sf) : ¬ cs = 0 := W.2.1.2
theorem own_W.adt (W : own_W Z h n0 cs sf) : Sta Z h "java/lang/StringUTF16" "$assertionsDisabled" "Z" (.int 1) := Sta.ext W.1.2 W.2.2.1
theorem own_W.hit (W : own_W Z h n0 cs sf) : Sta Z h "java/lang/StringUTF16" "HI_BYTE_SHIFT" "I" (.int 0) := Sta.ext W.1.2 W.2.2.2.1
theorem own_W.lot (W : own_W Z h n0 cs sf) : Sta Z h "java/lang/StringUTF16" "LO_BYTE_SHIFT" "I" (.int 8) := Sta.ext W.1.2 W.2.2.2.2.1
theorem own_W.sft (W : own_W Z h n0 cs sf) : Sta Z h "jdk/internal/util/Preconditions" "SIOOBE_FORMATTER" "Ljava/util/function/BiFunction;" sf := Sta.ext W.1.2 W.2.2.2.2.2.1
theorem own_W.isr (W : own_W Z h n0 cs sf) : sf.isRef = true := W.2.2.2.2.2.2
end OwnS
/-- a char as a Latin-1 byte, and its two bytes -/
def own_b (y : Int32) : Int32 := nar .byte (y.toInt8.toInt32)
def own_lo (y : Int32) : Int32 := nar .byte ((y >>> ((0 : Int32) &&& 31)).toInt8.toInt32)
def own_hi (y : Int32) : Int32 := nar .byte ((y >>> ((8 : Int32) &&& 31)).toInt8.toInt32)
theorem own_lat {y : Int32} (h1 : 0 ≤ y.toInt) (h2 : y.toInt ≤ 255) : ((own_b y) &&& (255 : Int32)).toUInt32.toUInt16.toUInt32.toInt32 = y := by
  apply Int32.toInt_inj.mp
  have a := c_i2b y
  have b := c_i2b (y.toInt8.toInt32)
  have c := c_mask (own_b y) 255 8 (by decide) (by decide)
  have d := c_i2c (own_b y &&& 255)
  have e : (own_b y).toInt = (y.toInt8.toInt32).toInt8.toInt32.toInt := rfl
  omega
theorem own_u16 {y : Int32} (h1 : 0 ≤ y.toInt) (h2 : y.toInt ≤ 65535) : ((((own_lo y) &&& (255 : Int32)) <<< ((0 : Int32) &&& 31)) ||| (((own_hi y) &&& (255 : Int32)) <<< ((8 : Int32) &&& 31))).toUInt32.toUInt16.toUInt32.toInt32 = y := by
  apply Int32.toInt_inj.mp
  have s0 := c_ishr y (0 : Int32) 0 (by decide)
  have s8 := c_ishr y (8 : Int32) 8 (by decide)
  have a := c_i2b (y >>> ((0 : Int32) &&& 31))
  have b := c_i2b (y >>> ((8 : Int32) &&& 31))
  have a' := c_i2b (y >>> ((0 : Int32) &&& 31)).toInt8.toInt32
  have b' := c_i2b (y >>> ((8 : Int32) &&& 31)).toInt8.toInt32
  have ea : (own_lo y).toInt = ((y >>> ((0 : Int32) &&& 31)).toInt8.toInt32).toInt8.toInt32.toInt := rfl
  have eb : (own_hi y).toInt = ((y >>> ((8 : Int32) &&& 31)).toInt8.toInt32).toInt8.toInt32.toInt := rfl
  have c := c_mask (own_lo y) 255 8 (by decide) (by decide)
  have d := c_mask (own_hi y) 255 8 (by decide) (by decide)
  have f := c_ishl (own_lo y &&& 255) (0 : Int32) 0 (by decide)
  have g := c_ishl (own_hi y &&& 255) (8 : Int32) 8 (by decide)
  have r1 := rng32 ((own_lo y &&& 255) <<< ((0 : Int32) &&& 31))
  have r2 := rng32 ((own_hi y &&& 255) <<< ((8 : Int32) &&& 31))
  have p8 : ((2 ^ 8 : Nat) : Int) = 256 := rfl
  have p0 : ((2 ^ 0 : Nat) : Int) = 1 := rfl
  rw [p8] at s8 c d g
  rw [p0] at s0 f
  have o := c_or' ((own_lo y &&& 255) <<< ((0 : Int32) &&& 31)) ((own_hi y &&& 255) <<< ((8 : Int32) &&& 31)) 8 (by decide) 256 rfl (by omega) (by omega) (by omega)
  have i := c_i2c (((own_lo y &&& 255) <<< ((0 : Int32) &&& 31)) ||| ((own_hi y &&& 255) <<< ((8 : Int32) &&& 31)))
  omega
theorem own_c {y : Int32} (h1 : 0 ≤ y.toInt) (h2 : y.toInt ≤ 65535) : nar .char y = y := by
  apply Int32.toInt_inj.mp
  have d := c_i2c y
  show y.toUInt32.toUInt16.toUInt32.toInt32.toInt = y.toInt
  omega
theorem own_nc {y : Int32} (h1 : 0 ≤ y.toInt) (h2 : y.toInt ≤ 65535) : narrow .char (.int y) = .int y := congrArg Value.int (own_c h1 h2)
/-- a String: n chars, all Latin-1 (P), or UTF-16 -/
def own_Str (Z : State) (h : Heap) (a : Addr) (n m : Int32) (ls lu : List Value) (P : Prop) : Prop :=
  Exa Z h a "java/lang/String" ∧ ((∃ (b : Addr) (kb : ClassId), Fld Z h a "java/lang/String" "coder" "B" (.int 0) ∧ Fld Z h a "java/lang/String" "value" "[B" (.ref b) ∧ Arv Z h b kb .byte n ls (.int 0) ∧ P) ∨
    ∃ (b : Addr) (kb : ClassId), Fld Z h a "java/lang/String" "coder" "B" (.int 1) ∧ Fld Z h a "java/lang/String" "value" "[B" (.ref b) ∧ Arv Z h b kb .byte m lu (.int 0))

theorem own_b47 {y : Int32} (h1 : 0 ≤ y.toInt) (h2 : y.toInt ≤ 255) : own_b y = 47 ↔ y = 47 := by
  have a := c_i2b y
  have b := c_i2b (y.toInt8.toInt32)
  have e : (own_b y).toInt = (y.toInt8.toInt32).toInt8.toInt32.toInt := rfl
  have f : (47 : Int32).toInt = 47 := rfl
  constructor
  · intro q; apply Int32.toInt_inj.mp; rw [q] at e; omega
  · intro q; subst q; decide

/-- nn signs of ls, from fr on -/
def own_sl (ls : List Value) (fr nn : Int32) : List Value := (List.range nn.toNatClampNeg).map fun i => ls.getD (fr.toNatClampNeg + i) (.int 0)
theorem own_cp {k : Nat} {d : Value} {us : List Value} : (([] ++ List.replicate k d).take (0 : Int32).toNatClampNeg ++ us ++ ([] ++ List.replicate k d).drop ((0 : Int32).toNatClampNeg + k)) = us := by
  have e : (0 : Int32).toNatClampNeg = 0 := rfl
  rw [e]; simp

/-- the UTF-16 unit at ix is yy -/
def own_At (mm : Int32) (ls : List Value) (ix yy : Int32) : Prop := (¬ (ix <<< ((1 : Int32) &&& 31)) < 0 ∧ (ix <<< ((1 : Int32) &&& 31)) < mm) ∧ (¬ ((ix <<< ((1 : Int32) &&& 31)) + (1 : Int32)) < 0 ∧ ((ix <<< ((1 : Int32) &&& 31)) + (1 : Int32)) < mm) ∧ ls.getD (ix <<< ((1 : Int32) &&& 31)).toNatClampNeg (.int 0) = .int (own_lo yy) ∧ ls.getD ((ix <<< ((1 : Int32) &&& 31)) + (1 : Int32)).toNatClampNeg (.int 0) = .int (own_hi yy) ∧ 0 ≤ yy.toInt ∧ yy.toInt ≤ 65535

theorem own_backS {p : Program} {l : Launch} {e : Env} {R : Room} {s : State} {args : Array Value} {below : List Frame} {Z : State} {a0 : Array Value} {h : Heap} {y : MethodName} {bytes : ByteArray} {maxL : Nat} {ret : Option FieldType} {rm : Room} {len W : Nat} {as' : Array Value} {Q : Option Value → Heap → List Loc → Prop}
    (hM : MetFree l y (head1 [Cond.code y bytes maxL ret] rm) (fun a U => a = as' ∧ Z.Warmed39 U.vm ∧ U.heap = h ∧ IB Z U.vm []) (fun _ _ _ _ _ => True) (fun _ U o U' => ∃ v L, o = .returned v ∧ Q v U'.heap L ∧ ReturnedEndW U o U' L rm.cells rm.slots))
    (hZ : Z.Warmed39 s.vm) (hI : IB Z s.vm []) (wc : (Cond.code y bytes maxL ret).before a0 Z = true) (wz : (Cond.initialized y.cls).before a0 Z = true) (hf : rm.frames + 1 ≤ R.frames) (hl : W + (maxL + 11) + rm.locals ≤ R.locals) :
    BackS l R p e below s args y len W (fun A a => a = as' ∧ A.U.heap = h ∧ A.cells + rm.cells ≤ R.cells ∧ A.slots + rm.slots ≤ R.slots)
      (fun A _ v B => ∃ L, Q v B.U.heap L ∧ B.locs = A.locs ++ L ∧ B.cells = A.cells + rm.cells ∧ B.slots = A.slots + rm.slots) :=
  BackS.of_freeW (bytes := bytes) (maxL := maxL) (ret := ret) (E := fun _ _ o t L k n => k = rm.cells ∧ n = rm.slots ∧ ∃ v, o = .returned v ∧ Q v t.heap L) hM hf hl
    (fun m meth c A a Y hp => have hU : Z.Warmed39 A.U.vm := wtrans hZ Y.warmed
      ⟨by show (Cond.and _ .tt).before a A.U = true; rw [Cond.before_and, mv hU wc]; rfl, mv hU wc, mv hU wz, hp.2.2.1, hp.2.2.2⟩)
    (fun m meth c A a g mk Y hp => ⟨hp.1, wtrans hZ Y.warmed, hp.2.1, by obtain ⟨more, q1, q2⟩ := hI; exact ⟨more, Y.warmed.interned_eq.trans q1, q2⟩⟩) (fun _ _ _ _ _ _ _ _ _ => trivial)
    (fun _ _ _ _ ⟨v, L, h1, h2, h3⟩ => ⟨L, _, _, h3, rfl, rfl, v, h1, h2⟩)
    (fun m meth c A a g mk v t L k n Y hp _ _ ⟨e1, e2, v', e3, e4⟩ => by cases e3; subst e1 e2; exact ⟨L, e4, rfl, rfl, rfl⟩)

theorem own_wS {Z : State} {a0 : Array Value} (hw : ∀ d ∈ tables_1, d.before a0 Z = true) : ∀ d ∈ Bundle.stringAtoms, d.before a0 Z = true := by
  intro d hd
  simp only [Bundle.stringAtoms, List.mem_cons, List.not_mem_nil, or_false] at hd
  rcases hd with rfl | rfl | rfl | rfl | rfl | rfl | rfl
  · exact (tw hw 9 rfl)
  · exact (tw hw 8 rfl)
  · exact (tw hw 21 rfl)
  · exact (tw hw 22 rfl)
  · exact (tw hw 23 rfl)
  · exact (tw hw 24 rfl)
  · exact (tw hw 25 rfl)

section OwnL
variable {p : Program} {l : Launch} {e : Env} {R : Room} {s : State} {m : MethodId} {args : Array Value} {below : List Frame} {meth : Method} {c : Code} {T : State} {locs : List Loc} {cells slots : Nat} {Z : State} {a0 : Array Value} {h : Heap} {own : String} {index : Nat}
/-- a heap with two cells more -/
theorem own_two {h : Heap} (x y : Cell) : Ext h ((h.push x).push y) ∧ ((h.push x).push y)[h.size]? = some x ∧ ((h.push x).push y)[h.size + 1]? = some y ∧ ((h.push x).push y).size = h.size + 2 := by
  refine ⟨⟨by rw [Array.size_push, Array.size_push]; omega, fun a cc q => ?_⟩, by simp [Array.getElem?_push], by rw [Array.getElem?_push, if_pos (by rw [Array.size_push])], by simp⟩
  have lt := (Array.getElem?_eq_some_iff.mp q).1
  rw [Array.getElem?_push, if_neg (by rw [Array.size_push]; exact Nat.ne_of_lt (Nat.lt_succ_of_lt lt)), Array.getElem?_push, if_neg (Nat.ne_of_lt lt)]
  exact q
/-- the empty String's form, in the words of the walk -/
theorem own_slE {U : State} (hal : Z.vm.Alike U.vm) {lo hi : Nat} {a : Addr} (F : SlIn lo hi U a #[]) :
    ∃ (b : Addr) (k : ClassId), Exa Z U.heap a "java/lang/String" ∧ Fld Z U.heap a "java/lang/String" "coder" "B" (.int 0) ∧ Fld Z U.heap a "java/lang/String" "value" "[B" (.ref b) ∧ Arv Z U.heap b k .byte 0 [] (.int 0) := by
  obtain ⟨q, i, rfl, ⟨S, fnd, own⟩, ⟨kS, c1, -, c3⟩, -, byt, -⟩ := F
  obtain ⟨at1, nu, ns, ⟨cv, kv, iv, fv, av⟩, ⟨cc, kc, ic, fc, ac⟩, sv, sc, lv, lc, at2, ⟨st2, k2, at3, comp, knd⟩, nu2, -⟩ := S
  subst own
  have foundZ : Z.vm.findClass "java/lang/String" = some q.sC.cls := (hal.findClass _ _).symm.trans fnd
  obtain ⟨kz, z1, -⟩ := Vm.findClass_spec foundZ
  obtain ⟨ku, z2, z3⟩ := hal.2.2 _ _ z1
  obtain ⟨_, fvZ⟩ := ff_back hal fv
  obtain ⟨_, fcZ⟩ := ff_back hal fc
  have none0 : q.SA.slots.size = 0 := by rw [byt]; first | rfl | simp [stringBytes]
  have arr : Z.isArrayOf q.SA .byte := by
    refine ⟨st2, ?_⟩
    cases hz : Z.vm.classes[q.SA.cls]? with
    | none =>
      have b1 := (Array.getElem?_eq_some_iff.mp at3).1
      have b2 := Array.getElem?_eq_none_iff.mp hz
      have b3 := hal.2.1
      omega
    | some kq =>
      obtain ⟨kq', y1, y2⟩ := hal.2.2 _ _ hz
      cases y1.symm.trans at3
      exact ⟨kq, rfl, comp, by rw [y2] at knd; exact knd⟩
  refine ⟨q.sd, q.SA.cls, ⟨q.sC, kz, at1, foundZ, z1, ns, fun _ => ?_⟩, ⟨q.sC, cc, _, ic, _, at1, fcZ, sc, nu, ns, (hal.assignable _ _).symm.trans ac, lc⟩, ⟨q.sC, cv, _, iv, _, at1, fvZ, sv, nu, ns, (hal.assignable _ _).symm.trans av, lv⟩, ⟨q.SA, ⟨at2, arr, nu2⟩, rfl, none0, by decide, fun j hj => absurd hj (by omega), fun j hj => absurd hj (by omega)⟩⟩
  rw [c3]
  cases z2.symm.trans c1
  rw [z3]
/-- ldc_w of the empty String: what is pushed is a compact String without bytes -/
theorem own_ldcw (X : Stand p l e R s m args below meth c T locs cells slots) (hold : ∀ (b : Addr) (cl : Cell), s.heap[b]? = some cl → T.heap[b]? = some cl) (hx : p.tables.exec = Jvm.exec) (hown : s.vm.findClass own = some m.cls)
    (hl : (Cond.stringLink own index "").before args s = true) (hS : ∀ a ∈ Bundle.stringAtoms, a.before args s = true) (hH : ConstHeldL s own index)
    {g : JFrame} (hg : g.method = m) (hd : decode c.code g.pc = .ok (.ldc_w index, 3)) (hc : cells + 2 ≤ R.cells) (hs : slots + 4 ≤ R.slots) :
    ∃ (a : Addr) (U : State), Stand p l e R (s.setVm U.vm) m args below meth c U locs (cells + 2) (slots + 4) ∧ s.Since U.vm U.heap.size ∧ Ext T.heap U.heap ∧ SlIn s.heap.size T.heap.size U a #[] ∧
      ∀ t, Steps p.tables e below (U.setTop { g with pc := g.pc + 3, stack := .ref a :: g.stack }) t → Steps p.tables e below (T.setTop g) t := by
  subst hg
  obtain ⟨k, cf, i, u, k1, k2, k3, k4, k5, k6, k7⟩ := Cond.stringLink_spec hown hl
  obtain rfl : u = #[] := by
    have q := Jvm.ClassFile.units_of_text k6 (by intro c hc; simp at hc)
    simpa using q
  obtain ⟨kT, t1, t2⟩ := X.warmed.alike.2.2 _ _ k1
  have t3 : kT.cf = some cf := by rw [t2]; exact k2
  have same := X.warmed.interned_eq
  have b2 : k.cf.bind (namesOf? ·.constantPool index) = some (.string "") := by rw [k2]; exact k5
  have b3 : k.cf.bind (·.constantPool[index]?) = some (.string i) := by rw [k2]; exact k3
  have b4 : k.cf.bind (·.constantPool.utf8? i) = some #[] := by rw [k2]; simp [ConstantPool.utf8?, k4]
  have now : (∃ a, kT.resolved[index]? = some (some (.string a)) ∧ SlOf s a #[]) ∨ (kT.resolved[index]? = some none ∧ k.resolved[index]? = some none) := by
    obtain ⟨k9, a9, -, -, ent, -⟩ := X.warmed.wide.2.2.2 _ k k1
    obtain rfl : kT = k9 := Option.some.inj (t1.symm.trans a9)
    rcases ent index with old | ⟨o, r, n1, bad | ⟨a, tx, j, us, rfl, -, n3, n4, n5⟩⟩
    · exact k7.elim (fun z => Or.inr ⟨old.trans z, z⟩) (fun ⟨a, z⟩ => Or.inl ⟨a, old.trans z, hH _ _ _ _ _ a hown k1 k2 k3 k4 (Or.inl z)⟩)
    · exact absurd bad (by cases r <;> simp [State.rightAt, k1, k2, k5])
    · have ej : j = i := by have q := n3.symm.trans b3; simpa using q
      subst ej
      have eu : us = #[] := Option.some.inj (n4.symm.trans b4)
      subst eu
      exact Or.inl ⟨a, n1, hH _ _ _ _ _ a hown k1 k2 k3 k4 (Or.inr ⟨o, by rw [← same]; exact n5⟩)⟩
  rcases now with ⟨a, r1, r2⟩ | ⟨o1, o2⟩
  · refine ⟨a, T, (X.mono (Nat.le_add_right _ _) (Nat.le_add_right _ _)).retabled X.warmed.wide, X.warmed.since _, ⟨Nat.le_refl _, fun _ _ q => q⟩, r2.movedIn _ X.warmed.alike hold, fun t ht => ?_⟩
    jvm_step X.here [hx, hd, ldc_w.wp_string (e := e) (s := T) (f := g) X.here.top t1 t3 k3 r1]
    exact ht
  · cases hf : T.vm.interned.find? (fun q => q.1 == (#[] : Array UInt16)) with
    | some pr =>
      obtain ⟨u', a⟩ := pr
      obtain rfl : u' = #[] := by have q := Array.find?_some hf; simpa using q
      have W := X.warmed.wide.notedString k1 (Or.inl o2) b2 b3 b4 hf
      refine ⟨a, T.setVm (T.vm.noted g.method.cls index (.string a)), (X.mono (Nat.le_add_right _ _) (Nat.le_add_right _ _)).retabled W, ⟨W, State.Booked.step (T₂ := T.setVm (T.vm.noted g.method.cls index (.string a))) (X.warmed.no_new_pair _) X.same.2.1 ⟨Nat.le_refl _, Or.inl rfl⟩⟩, ⟨Nat.le_refl _, fun _ _ q => q⟩, (hH _ _ _ _ _ a hown k1 k2 k3 k4 (Or.inr ⟨o2, by rw [← same]; exact hf⟩)).movedIn _ W.alike hold, fun t ht => ?_⟩
      jvm_step X.here [hx, hd, ldc_w.wp_string_found (e := e) (s := T) (f := g) X.here.top t1 t3 k3 k4 o1 hf]
      exact ht
    | none =>
      obtain ⟨Y, lay, n4, fitv, fitc⟩ := StringT.of_atoms (args := args) hS
      obtain ⟨kS, kB, lay', ty⟩ := lay.warmer X.warmed.alike
      have W : s.Warmed39 (({ T.vm with interned := T.vm.interned.push (#[], T.heap.size + 1) } : Vm).noted g.method.cls index (.string (T.heap.size + 1))) :=
        (X.warmed.wide.interns #[] (T.heap.size + 1)).notedString k1 (Or.inl o2) b2 b3 b4 (by show (T.vm.interned.push (#[], T.heap.size + 1)).find? _ = _; rw [Array.find?_push, hf]; simp)
      have X2 := (X.pushed (bytesOf Y.cB #[])).pushed (stringAt Y.cS kS Y.fv Y.fc #[] T.heap.size)
      rw [← withString_eq] at X2
      obtain ⟨E, d1, d2, d3⟩ := own_two (h := T.heap) (bytesOf Y.cB #[]) (stringAt Y.cS kS Y.fv Y.fc #[] T.heap.size)
      have eh : (withString T Y.cB Y.cS kS Y.fv Y.fc #[]).heap = (T.heap.push (bytesOf Y.cB #[])).push (stringAt Y.cS kS Y.fv Y.fc #[] T.heap.size) := by rw [withString_eq]; rfl
      rw [← eh] at E d1 d2 d3
      have one : T.Interned1 ((withString T Y.cB Y.cS kS Y.fv Y.fc #[]).setVm (({ T.vm with interned := T.vm.interned.push (#[], T.heap.size + 1) } : Vm).noted g.method.cls index (.string (T.heap.size + 1)))) :=
        ⟨E.1, Or.inr ⟨#[], T.heap.size + 1, rfl, Nat.le_succ _, by show _ < (withString T Y.cB Y.cS kS Y.fv Y.fc #[]).heap.size; omega⟩⟩
      have z0 : (stringBytes #[]).size = 0 := by first | rfl | simp [stringBytes]
      have z1 : (bytesOf Y.cB #[]).slots.size = 0 := by rw [(Cell.writeAll_facts _ _).2.2]; simp [bytes0, z0]
      have z2 : (stringAt Y.cS kS Y.fv Y.fc #[] T.heap.size).slots.size = 4 := by simp [string0, Cell.setSlot, ty, n4]
      have eqs : T.fitsSlot = s.fitsSlot := (show T.fitsSlot = (s.setVm T.vm).fitsSlot from rfl).trans (State.fitsSlot_setVm X.warmed.alike)
      refine ⟨T.heap.size + 1, (withString T Y.cB Y.cS kS Y.fv Y.fc #[]).setVm (({ T.vm with interned := T.vm.interned.push (#[], T.heap.size + 1) } : Vm).noted g.method.cls index (.string (T.heap.size + 1))), (X2.mono (Nat.le_refl _) (by rw [z1, z2]; omega)).retabled W, ⟨W, State.Booked.step (X.warmed.no_new_pair _) X.same.2.1 one⟩, E, made_sl (W := (withString T Y.cB Y.cS kS Y.fv Y.fc #[]).setVm (({ T.vm with interned := T.vm.interned.push (#[], T.heap.size + 1) } : Vm).noted g.method.cls index (.string (T.heap.size + 1)))) hS lay n4 ty W.alike d1 d2 (by simp) (by rw [z0]; decide) _, fun t ht => ?_⟩
      refine Steps.instr (c := _) (by simpa using X.here) ?_
      simp [jvm, wpRun, exec, X.here.top, hx, hd]
      have room4 := X.slotsAbove hs
      refine ldc_w.wp_string_new (e := e) (s := T) (f := g) X.here.top t1 t3 k3 k4 o1 hf lay'.found lay'.cls lay'.initialized lay'.ordinary lay'.foundB lay'.clsB lay'.kindB lay'.value lay'.coder (by rw [z0]; exact Nat.not_lt_zero _) (by rw [z0, Nat.zero_mul]; exact Nat.not_lt_zero _) (X.cellsAbove hc) (by show T.slotsUsed + (stringBytes #[]).size + kS.instanceTypes.size ≤ _; rw [ty, n4, z0]; omega)
        (stringBytes_fit lay'.clsB lay'.kindB #[]) lay'.valueSlot lay'.coderSlot (by rw [eqs]; exact fitv _) (by rw [eqs]; exact fitc _) (fun _ _ => ?_)
      intro _
      have top1 : (withString T Y.cB Y.cS kS Y.fv Y.fc #[]).topJava?.isSome := by simpa [withString] using X.here.top
      have top2 : ((withString T Y.cB Y.cS kS Y.fv Y.fc #[]).setVm (({ T.vm with interned := T.vm.interned.push (#[], T.heap.size + 1) } : Vm).noted g.method.cls index (.string (T.heap.size + 1)))).topJava?.isSome := by simpa using top1
      simp [jvm, afterInstr, top1, top2]
      rw [State.modifyTopJava_setTop]
      exact ht
/-- .. where the constant is held as the case says -/
theorem own_ldcw0 (X : Stand p l e R s m args below meth c T locs cells slots) (hx : p.tables.exec = Jvm.exec) (hZ : Z.Warmed39 s.vm) (hown : s.vm.findClass own = some m.cls) (w : (Cond.stringLink own index "").before a0 Z = true) (wS : ∀ a ∈ Bundle.stringAtoms, a.before a0 Z = true)
    (eT : T.heap = h) (N : Fr s.heap.size locs) (hkeep : ∀ (b : Addr) (cl : Cell), Z.heap[b]? = some cl → s.heap[b]? = some cl) (I : IB Z s.vm []) (hh : Jvm.Lit.constHeld Z own index) (hcw : Jvm.Lit.compactW.before a0 Z = true)
    {g : JFrame} (hg : g.method = m) (hd : decode c.code g.pc = .ok (.ldc_w index, 3)) (hc : cells + 2 ≤ R.cells) (hs : slots + 4 ≤ R.slots) :
    ∃ (a : Addr) (U : State) (b : Addr) (k : ClassId), Stand p l e R (s.setVm U.vm) m args below meth c U locs (cells + 2) (slots + 4) ∧ Ext h U.heap ∧ s.Since U.vm U.heap.size ∧ Exa Z U.heap a "java/lang/String" ∧ Fld Z U.heap a "java/lang/String" "coder" "B" (.int 0) ∧ Fld Z U.heap a "java/lang/String" "value" "[B" (.ref b) ∧ Arv Z U.heap b k .byte 0 [] (.int 0) ∧
      ∀ t, Steps p.tables e below (U.setTop { g with pc := g.pc + 3, stack := .ref a :: g.stack }) t → Steps p.tables e below (T.setTop g) t := by
  have wa : (Cond.arrayClass .byte).before a0 Z = true := wS _ (by simp [Bundle.stringAtoms])
  have wi : (Cond.instantiable "java/lang/String" 4).before a0 Z = true := wS _ (by simp [Bundle.stringAtoms, Bundle.sN])
  have hH : ConstHeldL (s.setVm s.vm) own index := heldCarry hZ w I (by simp) hkeep (heldStart hh w (by intro c hc; simp at hc) hcw wa wi)
  have hS : ∀ a ∈ Bundle.stringAtoms, a.before args s = true := fun d hd => by
    have q := wS d hd
    simp only [Bundle.stringAtoms, List.mem_cons, List.not_mem_nil, or_false] at hd
    rcases hd with rfl | rfl | rfl | rfl | rfl | rfl | rfl
    · exact mv (s := s) hZ q
    · exact mv (s := s) hZ q
    · exact mvA (s := s) hZ q
    · exact mv (s := s) hZ q
    · exact mv (s := s) hZ q
    · exact mv (s := s) hZ q
    · exact mv (s := s) hZ q
  obtain ⟨a, U, X', S', E, F, st⟩ := own_ldcw X (oldF X N) hx hown (mvS hZ w) hS hH hg hd hc hs
  subst eT
  obtain ⟨b, k, f1, f2, f3, f4⟩ := own_slE (State.Warmed39.trans (t := s) hZ S'.1).alike F
  exact ⟨a, U, b, k, X', E, S', f1, f2, f3, f4, st⟩
end OwnL

theorem own_c5 {v : Int32} (h1 : 0 ≤ v.toInt) (h2 : v.toInt ≤ 4) : v = 0 ∨ v = 1 ∨ v = 2 ∨ v = 3 ∨ v = 4 := by
  have e : ∀ k : Int32, v.toInt = k.toInt → v = k := fun k h => Int32.toInt_inj.mp h
  rcases (show v.toInt = 0 ∨ v.toInt = 1 ∨ v.toInt = 2 ∨ v.toInt = 3 ∨ v.toInt = 4 by omega) with h | h | h | h | h
  · exact Or.inl (e 0 h)
  · exact Or.inr (Or.inl (e 1 h))
  · exact Or.inr (Or.inr (Or.inl (e 2 h)))
  · exact Or.inr (Or.inr (Or.inr (Or.inl (e 3 h))))
  · exact Or.inr (Or.inr (Or.inr (Or.inr (e 4 h))))
theorem own_ne0 {Z : State} {args : Array Value} {t : Term} {x : Int32} (e : t.eval args Z none [] Z = some (.int x)) (h : (Cond.not (.eq t (.int 0))).value args Z none Z [] = some true) : x ≠ 0 := fun q => by
  subst q
  have e2 : (Term.int (0 : Int32)).eval args Z none [] Z = some (.int 0) := Term.int_eval 0
  simp [Cond.value, e, e2] at h
theorem own_isr {Z : State} {args : Array Value} {t : Term} (h : (Cond.isRef t).value args Z none Z [] = some true) : ∃ v, t.eval args Z none [] Z = some v ∧ v.isRef = true := by
  cases e : t.eval args Z none [] Z with
  | none => simp [Cond.value, e] at h
  | some v => exact ⟨v, rfl, by cases v <;> simp [Cond.value, e] at h <;> rfl⟩

abbrev k3 := jdk_42_method_149_code
theorem d3_0 : Dc k3 0 (.aload_n 0) 1 := by decide +kernel
theorem d3_1 : Dc k3 1 (.invokespecial 1) 3 := by decide +kernel
theorem d3_4 : Dc k3 4 (.iload_n 3) 1 := by decide +kernel
theorem d3_5 : Dc k3 5 (.ifCond .ne 22) 3 := by decide +kernel
theorem d3_8 : Dc k3 8 (.aload_n 0) 1 := by decide +kernel
theorem d3_9 : Dc k3 9 (.ldc 7) 2 := by decide +kernel
theorem d3_11 : Dc k3 11 (.getfield 9) 3 := by decide +kernel
theorem d3_14 : Dc k3 14 (.putfield 9) 3 := by decide +kernel
theorem d3_17 : Dc k3 17 (.aload_n 0) 1 := by decide +kernel
theorem d3_18 : Dc k3 18 (.ldc 7) 2 := by decide +kernel
theorem d3_20 : Dc k3 20 (.getfield 15) 3 := by decide +kernel
theorem d3_23 : Dc k3 23 (.putfield 15) 3 := by decide +kernel
theorem d3_26 : Dc k3 26 (.return_) 1 := by decide +kernel
theorem pn0 : plainName "java/lang/String" = true := by first | (simp [plainName, overriddenIn]; done) | decide +kernel
theorem ef_RRIIN6 (m : MethodId) (x0 : Addr) (x1 : Addr) (x2 : Int32) (x3 : Int32) : entryFrame m #[.ref x0, .ref x1, .int x2, .int x3, .null] 6 = mkF m 0 #[vr x0, vr x1, vi x2, vi x3, .val .null, .unset] [] := by first | (simp [entryFrame, mkF, argsToLocals, Value.category]; done) | rfl
def QVc0 (Z : State) (a : Addr) (ar : Addr) (cs : Int32) (sf : Value) (h0 : Heap) (n0 : Nat) (v : Option Value) (h : Heap) (L : List Loc) : Prop := v = none ∧ Fr n0 L ∧ Keep h0 h [a] ∧ own_Str Z h a 0 0 [] [] (True)
theorem rmVc0 (l : Launch) (Z : State) (a0 : Array Value) (hw : ∀ d ∈ tables_1, d.before a0 Z = true) (ws : List Jvm.Cond) (a : Addr) (ar : Addr) (cs : Int32) (sf : Value) (h0 : Heap) (n0 : Nat) (Z0 : n0 ≤ h0.size) (hW : own_W Z h0 n0 cs sf) (ga : n0 ≤ a) (Ea : Exa Z h0 a "java/lang/String") (Fc : Fld Z h0 a "java/lang/String" "coder" "B" (.int 0)) (Fv : Fld Z h0 a "java/lang/String" "value" "[B" .null) (hH : Jvm.Lit.constHeld Z "java/lang/String" 7) (hcw : Jvm.Lit.compactW.before a0 Z = true) :
    MetFree l on4 (head1 (Jvm.Cond.code on4 jdk_42_method_149_code 6 none :: ws) orm33) (fun aa UU => aa = #[.ref a, .ref ar, .int 0, .int 0, .null] ∧ Z.Warmed39 UU.vm ∧ UU.heap = h0 ∧ IB Z UU.vm []) (fun _ _ _ _ _ => True) (fun _ UU oo UU' => ∃ vv LL, oo = .returned vv ∧ QVc0 Z a ar cs sf h0 n0 vv UU'.heap LL ∧ ReturnedEndW UU oo UU' LL orm33.cells orm33.slots) := by
  refine MetFree.of_bodySF (plainFor_of_name pn0) hisR ?_
  intro p e s m args below meth c s₁ Bd hml0 hP hK
  obtain ⟨rfl, hZ, hh, hI⟩ := hP
  have hml : c.maxLocals = 6 := hml0
  have hnm := (name_of_methodNamed Bd.named Bd.method).1
  obtain ⟨hx, hby, hlk, hret, (hown : s.vm.findClass "java/lang/String" = _), (X0 : Stand p l e orm33 s m _ below meth c s₁ [] 0 0), e0⟩ := own_bg Bd hh
  have N0 := Fr.nil n0
  show Dw p e below s (QVc0 Z a ar cs sf h0 n0) orm33.cells orm33.slots (s₁.setTop (entryFrame m #[.ref a, .ref ar, .int 0, .int 0, .null] 6))
  refine Dg.st (fun _ kk => castTop (ef_RRIIN6 m a ar (0 : Int32) (0 : Int32)) kk) ?_
  have B := And.intro hx hby
  refine w_a X0 B d3_0 rfl rfl ?_
  show Sh s₁ 1 #[vr a, vr ar, vi 0, vi 0, .val .null, .unset] [.ref a]
  obtain ⟨T1, X1, e1, st1⟩ := initO X0 hx hZ hown (tw hw 17 rfl) (tw hw 18 rfl) (tw hw 19 rfl) e0 (g := (mkF m 1 #[vr a, vr ar, vi 0, vi 0, .val .null, .unset] [.ref a])) rfl (by rw [hml]; rfl) rfl (hb hby d3_1) (by decide) (W := 0) (by show 2 * 0 + _ ≤ _; exact Nat.le_of_eq rfl) (by decide)
  refine Dg.st st1 ?_
  refine w_i X1 B d3_4 rfl (w_f X1 B d3_5 (teq (by decide)).2 (w_a X1 B d3_8 rfl rfl ?_))
  show Sh T1 9 #[vr a, vr ar, vi 0, vi 0, .val .null, .unset] [.ref a]
  have wS := own_wS hw
  obtain ⟨lt, T9, h9, k9, lb, kl, X9, e9, E9, hSw, hkw, hZ, hown, El, Flc, Flv, Vl, -, -, -, Ll, st9⟩ := ldcSVL (s := s) (vm0 := s.vm) (k0 := h0.size) (Ts := []) (vs := []) (z := 0) (text := "") X1 hx hZ hown (tw hw 20 rfl) wS e1 ((State.WarmedH.refl s).since _) (Nat.le_refl _) (Fr.nil _) (fun q cq hq => (congrArg (fun z => z[q]?) hh).trans (hW.1.2.2 q cq hq)) hI (by simp) hH hcw ⟨by intro c hc; simp at hc, rfl⟩ (by decide) rfl (g := (mkF m 9 #[vr a, vr ar, vi 0, vi 0, .val .null, .unset] [.ref a])) rfl (hb hby d3_9) (n := 0) (by decide) (by decide) (by decide) (by decide)
  have E_a_9 := Ea.ext E9
  have F_a_coder_9 := Fc.ext E9
  have F_a_value_9 := Fv.ext E9
  have K9 := (Keep.refl h0 [a]).ext E9
  have Wo9 := hW.ext E9
  have Z9 : n0 ≤ h9.size := Nat.le_trans Z0 E9.1
  have ne_lt : lt ≠ a := Flv.ne F_a_value_9 (by simp)
  have ne_lb : lb ≠ a := Ne.symm (E_a_9.neArv Vl (tw hw 8 rfl))
  refine Dg.st st9 ?_
  refine Dw.of hSw ?_
  refine w_gf X9 B hZ hown (tw hw 26 rfl) Via.refl e9 Flv d3_11 ?_
  intro T11 X11 e11
  obtain ⟨T14, h14, X14, e14, W14, st14⟩ := putF X11 hx hZ hown (host := "") (Or.inl (tw hw 26 rfl)) Via.refl e11 F_a_value_9 E_a_9 (Or.inr ⟨(tw hw 22 rfl), rfl, hnm⟩) (tw hw 8 rfl) (ty := (.array .byte)) (by decide) rfl rfl (g := (mkF m 14 #[vr a, vr ar, vi 0, vi 0, .val .null, .unset] [.ref lb, .ref a])) rfl rfl (hb hby d3_14)
  have Wo14 := Wo9.wr W14 ga
  have E_a_14 := E_a_9.wr W14
  have F_a_coder_14 := F_a_coder_9.other W14 (Or.inr (slot_ne (Or.inr (tw hw 23 rfl)) (Or.inr (tw hw 22 rfl)) (by decide) (t := .byte) (t' := (.array .byte)) (by decide) (by decide)))
  have E_lt_14 := El.wr W14
  have F_lt_coder_14 := Flc.other W14 (Or.inl ne_lt)
  have F_lt_value_14 := Flv.other W14 (Or.inl ne_lt)
  have V_lb_14 := Vl.other W14 ne_lb
  have F_a_value_14 := F_a_value_9.same W14
  have K14 := K9.wr W14 (Or.inl (List.mem_of_getElem? (i := 0) rfl))
  have N14 := Fr.snoc X14 N0 ga
  have Z14 : n0 ≤ h14.size := Nat.le_trans Z9 (Keep.of_wr W14).1
  refine Dg.st st14 ?_
  refine w_a X14 B d3_17 rfl rfl ?_
  show Sh T14 18 #[vr a, vr ar, vi 0, vi 0, .val .null, .unset] [.ref a]
  refine Dg.st (ldcAgain (vm0 := T9.vm) (text := "") X14 hx hZ hown (tw hw 20 rfl) Ll (g := (mkF m 18 #[vr a, vr ar, vi 0, vi 0, .val .null, .unset] [.ref a])) rfl (hb hby d3_18)) ?_
  refine w_gf X14 B hZ hown (tw hw 27 rfl) Via.refl e14 F_lt_coder_14 d3_20 ?_
  intro T20 X20 e20
  obtain ⟨T23, h23, X23, e23, W23, st23⟩ := putF X20 hx hZ hown (host := "") (Or.inl (tw hw 27 rfl)) Via.refl e20 F_a_coder_14 E_a_14 (Or.inr ⟨(tw hw 23 rfl), rfl, hnm⟩) (tw hw 8 rfl) (ty := .byte) (by decide) rfl rfl (g := (mkF m 23 #[vr a, vr ar, vi 0, vi 0, .val .null, .unset] [.int 0, .ref a])) rfl rfl (hb hby d3_23)
  have Wo23 := Wo14.wr W23 ga
  have E_a_23 := E_a_14.wr W23
  have F_a_value_23 := F_a_value_14.other W23 (Or.inr (slot_ne (Or.inr (tw hw 22 rfl)) (Or.inr (tw hw 23 rfl)) (by decide) (t := (.array .byte)) (t' := .byte) (by decide) (by decide)))
  have E_lt_23 := E_lt_14.wr W23
  have F_lt_coder_23 := F_lt_coder_14.other W23 (Or.inl ne_lt)
  have F_lt_value_23 := F_lt_value_14.other W23 (Or.inl ne_lt)
  have V_lb_23 := V_lb_14.other W23 ne_lb
  have F_a_coder_23 := F_a_coder_14.same W23
  have K23 := K14.wr W23 (Or.inl (List.mem_of_getElem? (i := 0) rfl))
  have N23 := Fr.snoc X23 N14 ga
  have Z23 : n0 ≤ h23.size := Nat.le_trans Z14 (Keep.of_wr W23).1
  refine Dg.st st23 ?_
  exact Dg.ret0 X23 hlk hx hret (hb hby d3_26) (by rw [e23]; exact ⟨⟨rfl, N23, K23, E_a_23, Or.inl ⟨lb, kl, F_a_coder_23, F_a_value_23, V_lb_23, trivial⟩⟩, Nat.le_trans hkw (Nat.le_trans (Keep.of_wr W14).1 (Keep.of_wr W23).1)⟩) (by decide) (by decide)

abbrev k2 := jdk_42_method_3_code
theorem d2_0 : Dc k2 0 (.aload_n 0) 1 := by decide +kernel
theorem d2_1 : Dc k2 1 (.aload_n 1) 1 := by decide +kernel
theorem d2_2 : Dc k2 2 (.iconst 0) 1 := by decide +kernel
theorem d2_3 : Dc k2 3 (.aload_n 1) 1 := by decide +kernel
theorem d2_4 : Dc k2 4 (.arraylength) 1 := by decide +kernel
theorem d2_5 : Dc k2 5 (.aconst_null) 1 := by decide +kernel
theorem d2_6 : Dc k2 6 (.invokespecial 27) 3 := by decide +kernel
theorem d2_9 : Dc k2 9 (.return_) 1 := by decide +kernel
theorem pd0 : parseMethodDescriptor "([CIILjava/lang/Void;)V" = some ⟨[(.array .char), .int, .int, (.object "java/lang/Void")], none⟩ := by decide +kernel
theorem ef_RR2 (m : MethodId) (x0 : Addr) (x1 : Addr) : entryFrame m #[.ref x0, .ref x1] 2 = mkF m 0 #[vr x0, vr x1] [] := by first | (simp [entryFrame, mkF, argsToLocals, Value.category]; done) | rfl
def QSc0 (Z : State) (a : Addr) (ar : Addr) (cs : Int32) (sf : Value) (ka : ClassId) (h0 : Heap) (n0 : Nat) (v : Option Value) (h : Heap) (L : List Loc) : Prop := v = none ∧ Fr n0 L ∧ Keep h0 h [a] ∧ own_Str Z h a 0 0 [] [] (True)
theorem rmSc0 (l : Launch) (Z : State) (a0 : Array Value) (hw : ∀ d ∈ tables_1, d.before a0 Z = true) (ws : List Jvm.Cond) (a : Addr) (ar : Addr) (cs : Int32) (sf : Value) (ka : ClassId) (h0 : Heap) (n0 : Nat) (Z0 : n0 ≤ h0.size) (hW : own_W Z h0 n0 cs sf) (ga : n0 ≤ a) (Ea : Exa Z h0 a "java/lang/String") (Fc : Fld Z h0 a "java/lang/String" "coder" "B" (.int 0)) (Fv : Fld Z h0 a "java/lang/String" "value" "[B" .null) (hH : Jvm.Lit.constHeld Z "java/lang/String" 7) (hcw : Jvm.Lit.compactW.before a0 Z = true) (Vr : Arv Z h0 ar ka .char 0 [] (.int 0)) :
    MetFree l on3 (head1 (Jvm.Cond.code on3 jdk_42_method_3_code 2 none :: ws) orm28) (fun aa UU => aa = #[.ref a, .ref ar] ∧ Z.Warmed39 UU.vm ∧ UU.heap = h0 ∧ IB Z UU.vm []) (fun _ _ _ _ _ => True) (fun _ UU oo UU' => ∃ vv LL, oo = .returned vv ∧ QSc0 Z a ar cs sf ka h0 n0 vv UU'.heap LL ∧ ReturnedEndW UU oo UU' LL orm28.cells orm28.slots) := by
  refine MetFree.of_bodySF (plainFor_of_name pn0) hisR ?_
  intro p e s m args below meth c s₁ Bd hml0 hP hK
  obtain ⟨rfl, hZ, hh, hI⟩ := hP
  have hml : c.maxLocals = 2 := hml0
  obtain ⟨hx, hby, hlk, hret, (hown : s.vm.findClass "java/lang/String" = _), (X0 : Stand p l e orm28 s m _ below meth c s₁ [] 0 0), e0⟩ := own_bg Bd hh
  have N0 := Fr.nil n0
  show Dw p e below s (QSc0 Z a ar cs sf ka h0 n0) orm28.cells orm28.slots (s₁.setTop (entryFrame m #[.ref a, .ref ar] 2))
  refine Dg.st (fun _ kk => castTop (ef_RR2 m a ar) kk) ?_
  have B := And.intro hx hby
  refine w_a X0 B d2_0 rfl rfl (w_a X0 B d2_1 rfl rfl (w_c X0 B d2_2 (w_a X0 B d2_3 rfl rfl (w_al X0 B hZ e0 Vr d2_4 (Dg.st (fun _ kk => XS.aconstNull X0.here hx rfl (hb hby d2_5) kk) ?_)))))
  show Sh s₁ 6 #[vr a, vr ar] [.null, .int 0, .int 0, .ref ar, .ref a]
  obtain ⟨_, _, ⟨T6, L6, k6, n6⟩, -, X6, hSw, hgr6, ⟨Lc6, hQ6, l6, y6, z6⟩, st6⟩ := X0.specialBackS hx (y := on4) rfl hown (mvT hZ (tw hw 13 rfl)) (mvT hZ (tw hw 14 rfl)) (mvT hZ (tw hw 16 rfl)) (by decide) (own_backS (W := 0) (rmVc0 l Z a0 hw [] a ar cs sf  h0 n0 Z0 hW ga Ea Fc Fv hH hcw) hZ hI (tw hw 16 rfl) (tw hw 9 rfl) (by decide) (by decide)) (g := (mkF m 6 #[vr a, vr ar] [.null, .int 0, .int 0, .ref ar, .ref a])) rfl (by rw [hml]; rfl) (Steps.refl _) (a := a) (argsL := [.ref ar, .int 0, .int 0, .null]) (rest := []) (lenOf pd0 rfl) rfl (by show 2 * 0 + _ ≤ _; exact Nat.le_of_eq rfl) (hb hby d2_6) (fun _ _ => ⟨rfl, e0, (by decide : 0 + 2 ≤ _), (by decide : 0 + 4 ≤ _)⟩)
  dsimp only [Pt.U, Pt.locs, Pt.cells, Pt.slots] at X6 l6 y6 z6 st6 hQ6 hSw hgr6
  subst l6 y6 z6
  obtain ⟨rfl, Nq6, K6, S6⟩ := hQ6
  have N6 := Fr.app N0 Nq6
  have hZ := State.Warmed39.trans (t := s) hZ hSw.1
  have hown := (hSw.1.alike.findClass _ _).trans hown
  refine Dg.tr st6 ?_
  refine Dw.of hSw ?_
  exact Dg.ret0 X6 hlk hx hret (hb hby d2_9) ⟨⟨rfl, N6, K6, S6⟩, Nat.le_refl _⟩ (by decide) (by decide)

abbrev k35 := jdk_41_method_11_code
theorem d35_0 : Dc k35 0 (.iload_n 0) 1 := by decide +kernel
theorem d35_1 : Dc k35 1 (.ifCond .lt 8) 3 := by decide +kernel
theorem d35_4 : Dc k35 4 (.iload_n 0) 1 := by decide +kernel
theorem d35_5 : Dc k35 5 (.iload_n 1) 1 := by decide +kernel
theorem d35_6 : Dc k35 6 (.if_icmp .lt 10) 3 := by decide +kernel
theorem d35_16 : Dc k35 16 (.iload_n 0) 1 := by decide +kernel
theorem d35_17 : Dc k35 17 (.ireturn) 1 := by decide +kernel
theorem pn1 : plainName "jdk/internal/util/Preconditions" = true := by first | (simp [plainName, overriddenIn]; done) | decide +kernel
theorem ef_IIR3 (m : MethodId) (x0 : Int32) (x1 : Int32) (x2 : Addr) : entryFrame m #[.int x0, .int x1, .ref x2] 3 = mkF m 0 #[vi x0, vi x1, vr x2] [] := by first | (simp [entryFrame, mkF, argsToLocals, Value.category]; done) | rfl
def QPc (Z : State) (ix : Int32) (nx : Int32) (fo : Addr) (h0 : Heap) (n0 : Nat) (v : Option Value) (h : Heap) (L : List Loc) : Prop := v = some (.int ix) ∧ Fr n0 L ∧ h = h0
theorem rmPc (l : Launch) (Z : State) (a0 : Array Value) (hw : ∀ d ∈ tables_1, d.before a0 Z = true) (ws : List Jvm.Cond) (ix : Int32) (nx : Int32) (fo : Addr) (h0 : Heap) (n0 : Nat) (Z0 : n0 ≤ h0.size) (hx1 : ¬ ix < 0) (hx2 : ix < nx) :
    own_Met l on24 (Jvm.Cond.code on24 jdk_41_method_11_code 3 (some .int) :: ws) orm26 #[.int ix, .int nx, .ref fo] Z h0 (QPc Z ix nx fo h0 n0) := by
  refine own_met (plainFor_of_name pn1) (fun m => ef_IIR3 m ix nx fo) ?_
  intro p e s m below meth c s₁ B hlk hret hml hZ hown hnm X0 e0
  have N0 := Fr.nil n0
  have r_ix := rng32 ix
  have r_nx := rng32 nx
  refine w_i X0 B d35_0 rfl ?_
  show Sh s₁ 1 #[vi ix, vi nx, vr fo] [.int ix]
  have hc1 : ¬ (ix < (0 : Int32)) := hx1
  refine w_f X0 B d35_1 (flt hc1).1 (w_i X0 B d35_4 rfl (w_i X0 B d35_5 rfl ?_))
  show Sh s₁ 6 #[vi ix, vi nx, vr fo] [.int nx, .int ix]
  have hc6 : ix < nx := hx2
  refine w_y X0 B 6 16 rfl d35_6 (tlt hc6).1 (by decide) (w_i X0 B d35_16 rfl ?_)
  show Sh s₁ 17 #[vi ix, vi nx, vr fo] [.int ix]
  exact Dg.retI X0 hlk B hret rfl (Or.inl rfl) d35_17 (by rw [e0]; exact ⟨rfl, N0, rfl⟩) (by decide)

theorem ef_IIN3 (m : MethodId) (x0 : Int32) (x1 : Int32) : entryFrame m #[.int x0, .int x1, .null] 3 = mkF m 0 #[vi x0, vi x1, .val .null] [] := by first | (simp [entryFrame, mkF, argsToLocals, Value.category]; done) | rfl
def QPcN (Z : State) (ix : Int32) (nx : Int32) (h0 : Heap) (n0 : Nat) (v : Option Value) (h : Heap) (L : List Loc) : Prop := v = some (.int ix) ∧ Fr n0 L ∧ h = h0
theorem rmPcN (l : Launch) (Z : State) (a0 : Array Value) (hw : ∀ d ∈ tables_1, d.before a0 Z = true) (ws : List Jvm.Cond) (ix : Int32) (nx : Int32) (h0 : Heap) (n0 : Nat) (Z0 : n0 ≤ h0.size) (hx1 : ¬ ix < 0) (hx2 : ix < nx) :
    own_Met l on24 (Jvm.Cond.code on24 jdk_41_method_11_code 3 (some .int) :: ws) orm26 #[.int ix, .int nx, .null] Z h0 (QPcN Z ix nx h0 n0) := by
  refine own_met (plainFor_of_name pn1) (fun m => ef_IIN3 m ix nx) ?_
  intro p e s m below meth c s₁ B hlk hret hml hZ hown hnm X0 e0
  have N0 := Fr.nil n0
  have r_ix := rng32 ix
  have r_nx := rng32 nx
  refine w_i X0 B d35_0 rfl ?_
  show Sh s₁ 1 #[vi ix, vi nx, .val .null] [.int ix]
  have hc1 : ¬ (ix < (0 : Int32)) := hx1
  refine w_f X0 B d35_1 (flt hc1).1 (w_i X0 B d35_4 rfl (w_i X0 B d35_5 rfl ?_))
  show Sh s₁ 6 #[vi ix, vi nx, .val .null] [.int nx, .int ix]
  have hc6 : ix < nx := hx2
  refine w_y X0 B 6 16 rfl d35_6 (tlt hc6).1 (by decide) (w_i X0 B d35_16 rfl ?_)
  show Sh s₁ 17 #[vi ix, vi nx, .val .null] [.int ix]
  exact Dg.retI X0 hlk B hret rfl (Or.inl rfl) d35_17 (by rw [e0]; exact ⟨rfl, N0, rfl⟩) (by decide)

abbrev k34 := jdk_42_method_155_code
theorem d34_0 : Dc k34 0 (.iload_n 0) 1 := by decide +kernel
theorem d34_1 : Dc k34 1 (.iload_n 1) 1 := by decide +kernel
theorem d34_2 : Dc k34 2 (.getstatic 1053) 3 := by decide +kernel
theorem d34_5 : Dc k34 5 (.invokestatic 1059) 3 := by decide +kernel
theorem d34_8 : Dc k34 8 (.pop) 1 := by decide +kernel
theorem d34_9 : Dc k34 9 (.return_) 1 := by decide +kernel
theorem pd1 : parseMethodDescriptor "(IILjava/util/function/BiFunction;)I" = some ⟨[.int, .int, (.object "java/util/function/BiFunction")], some .int⟩ := by decide +kernel
theorem ef_II2 (m : MethodId) (x0 : Int32) (x1 : Int32) : entryFrame m #[.int x0, .int x1] 2 = mkF m 0 #[vi x0, vi x1] [] := by first | (simp [entryFrame, mkF, argsToLocals, Value.category]; done) | rfl
def QCi (Z : State) (ix : Int32) (nx : Int32) (cs : Int32) (sf : Value) (h0 : Heap) (n0 : Nat) (v : Option Value) (h : Heap) (L : List Loc) : Prop := v = none ∧ Fr n0 L ∧ h = h0
theorem rmCi (l : Launch) (Z : State) (a0 : Array Value) (hw : ∀ d ∈ tables_1, d.before a0 Z = true) (ws : List Jvm.Cond) (ix : Int32) (nx : Int32) (cs : Int32) (sf : Value) (h0 : Heap) (n0 : Nat) (Z0 : n0 ≤ h0.size) (hW : own_W Z h0 n0 cs sf) (hx1 : ¬ ix < 0) (hx2 : ix < nx) :
    own_Met l (⟨"java/lang/String", "checkIndex", "(II)V"⟩ : MethodName) (Jvm.Cond.code (⟨"java/lang/String", "checkIndex", "(II)V"⟩ : MethodName) jdk_42_method_155_code 2 none :: ws) ({ frames := 1, cells := 0, slots := 0, locals := 17 } : Room) #[.int ix, .int nx] Z h0 (QCi Z ix nx cs sf h0 n0) := by
  refine own_met (plainFor_of_name pn0) (fun m => ef_II2 m ix nx) ?_
  intro p e s m below meth c s₁ B hlk hret hml hZ hown hnm X0 e0
  have hx := B.1
  have hby := B.2
  have N0 := Fr.nil n0
  have r_ix := rng32 ix
  have r_nx := rng32 nx
  rcases ref_cases hW.isr with rfl | ⟨fo, rfl⟩
  · refine w_i X0 B d34_0 rfl (w_i X0 B d34_1 rfl ?_)
    show Sh s₁ 2 #[vi ix, vi nx] [.int nx, .int ix]
    refine w_gs X0 B hZ hown (tw hw 82 rfl) Via.refl e0 hW.sft d34_2 ?_
    intro T2 X2 e2
    refine w_cs X2 B hZ hown hml (rmPcN l Z a0 hw [] ix nx  h0 n0 Z0 hx1 hx2) (tw hw 150 rfl) (tw hw 151 rfl) (tw hw 83 rfl) (tw hw 152 rfl) e2 d34_5 3 0 (lenOf pd1 rfl) rfl rfl rfl (by decide) ?_
    rintro _ T5 Lc5 X5 ⟨rfl, Nq5, hh5⟩
    have N5 := Fr.app N0 Nq5
    refine Dg.st (fun _ kk => XS.pop X5.here hx rfl (hb hby d34_8) rfl rfl kk) ?_
    show Sh T5 9 #[vi ix, vi nx] []
    exact Dg.ret0 X5 hlk hx hret (hb hby d34_9) (by rw [hh5]; exact ⟨rfl, N5, rfl⟩) (by decide) (by decide)
  · refine w_i X0 B d34_0 rfl (w_i X0 B d34_1 rfl ?_)
    show Sh s₁ 2 #[vi ix, vi nx] [.int nx, .int ix]
    refine w_gs X0 B hZ hown (tw hw 82 rfl) Via.refl e0 hW.sft d34_2 ?_
    intro T2 X2 e2
    refine w_cs X2 B hZ hown hml (rmPc l Z a0 hw [] ix nx fo  h0 n0 Z0 hx1 hx2) (tw hw 150 rfl) (tw hw 151 rfl) (tw hw 83 rfl) (tw hw 152 rfl) e2 d34_5 3 0 (lenOf pd1 rfl) rfl rfl rfl (by decide) ?_
    rintro _ T5 Lc5 X5 ⟨rfl, Nq5, hh5⟩
    have N5 := Fr.app N0 Nq5
    refine Dg.st (fun _ kk => XS.pop X5.here hx rfl (hb hby d34_8) rfl rfl kk) ?_
    show Sh T5 9 #[vi ix, vi nx] []
    exact Dg.ret0 X5 hlk hx hret (hb hby d34_9) (by rw [hh5]; exact ⟨rfl, N5, rfl⟩) (by decide) (by decide)

abbrev k10 := jdk_42_method_154_code
theorem d10_0 : Dc k10 0 (.getstatic 38) 3 := by decide +kernel
theorem d10_3 : Dc k10 3 (.ifCond .eq 14) 3 := by decide +kernel
theorem d10_6 : Dc k10 6 (.aload_n 0) 1 := by decide +kernel
theorem d10_7 : Dc k10 7 (.getfield 15) 3 := by decide +kernel
theorem d10_10 : Dc k10 10 (.ifCond .ne 7) 3 := by decide +kernel
theorem d10_13 : Dc k10 13 (.iconst 1) 1 := by decide +kernel
theorem d10_14 : Dc k10 14 (.goto 4) 3 := by decide +kernel
theorem d10_18 : Dc k10 18 (.ireturn) 1 := by decide +kernel
theorem ef_R1 (m : MethodId) (x0 : Addr) : entryFrame m #[.ref x0] 1 = mkF m 0 #[vr x0] [] := by first | (simp [entryFrame, mkF, argsToLocals, Value.category]; done) | rfl
def QIl0 (Z : State) (a : Addr) (cs : Int32) (sf : Value) (h0 : Heap) (n0 : Nat) (v : Option Value) (h : Heap) (L : List Loc) : Prop := v = some (.int 1) ∧ Fr n0 L ∧ h = h0
theorem rmIl0 (l : Launch) (Z : State) (a0 : Array Value) (hw : ∀ d ∈ tables_1, d.before a0 Z = true) (ws : List Jvm.Cond) (a : Addr) (cs : Int32) (sf : Value) (h0 : Heap) (n0 : Nat) (Z0 : n0 ≤ h0.size) (hW : own_W Z h0 n0 cs sf) (Fc : Fld Z h0 a "java/lang/String" "coder" "B" (.int 0)) :
    own_Met l on18 (Jvm.Cond.code on18 jdk_42_method_154_code 1 (some .boolean) :: ws) orm26 #[.ref a] Z h0 (QIl0 Z a cs sf h0 n0) := by
  refine own_met (plainFor_of_name pn0) (fun m => ef_R1 m a) ?_
  intro p e s m below meth c s₁ B hlk hret hml hZ hown hnm X0 e0
  have N0 := Fr.nil n0
  refine w_gs X0 B hZ hown (tw hw 47 rfl) Via.refl e0 hW.cst d10_0 ?_
  intro T0z X0z e0z
  have hc3 : ¬ (cs = (0 : Int32)) := hW.cne
  refine w_f X0z B d10_3 (feq hc3).1 (w_a X0z B d10_6 rfl rfl ?_)
  show Sh T0z 7 #[vr a] [.ref a]
  refine w_gf X0z B hZ hown (tw hw 27 rfl) Via.refl e0z Fc d10_7 ?_
  intro T7 X7 e7
  refine w_f X7 B d10_10 (teq (by decide)).2 (w_c X7 B d10_13 (w_g X7 B 14 18 rfl d10_14 (by decide) ?_))
  show Sh T7 18 #[vr a] [.int 1]
  exact Dg.retI X7 hlk B hret rfl (Or.inr (Or.inl rfl)) d10_18 (by rw [e7]; exact ⟨rfl, N0, rfl⟩) (by decide)

abbrev k8 := jdk_42_method_152_code
theorem d8_0 : Dc k8 0 (.getstatic 38) 3 := by decide +kernel
theorem d8_3 : Dc k8 3 (.ifCond .eq 10) 3 := by decide +kernel
theorem d8_6 : Dc k8 6 (.aload_n 0) 1 := by decide +kernel
theorem d8_7 : Dc k8 7 (.getfield 15) 3 := by decide +kernel
theorem d8_10 : Dc k8 10 (.goto 4) 3 := by decide +kernel
theorem d8_14 : Dc k8 14 (.ireturn) 1 := by decide +kernel
def QCo0 (Z : State) (a : Addr) (cs : Int32) (sf : Value) (h0 : Heap) (n0 : Nat) (v : Option Value) (h : Heap) (L : List Loc) : Prop := v = some (.int 0) ∧ Fr n0 L ∧ h = h0
theorem rmCo0 (l : Launch) (Z : State) (a0 : Array Value) (hw : ∀ d ∈ tables_1, d.before a0 Z = true) (ws : List Jvm.Cond) (a : Addr) (cs : Int32) (sf : Value) (h0 : Heap) (n0 : Nat) (Z0 : n0 ≤ h0.size) (hW : own_W Z h0 n0 cs sf) (Fc : Fld Z h0 a "java/lang/String" "coder" "B" (.int 0)) :
    own_Met l on19 (Jvm.Cond.code on19 jdk_42_method_152_code 1 (some .byte) :: ws) orm26 #[.ref a] Z h0 (QCo0 Z a cs sf h0 n0) := by
  refine own_met (plainFor_of_name pn0) (fun m => ef_R1 m a) ?_
  intro p e s m below meth c s₁ B hlk hret hml hZ hown hnm X0 e0
  have N0 := Fr.nil n0
  refine w_gs X0 B hZ hown (tw hw 47 rfl) Via.refl e0 hW.cst d8_0 ?_
  intro T0z X0z e0z
  have hc3 : ¬ (cs = (0 : Int32)) := hW.cne
  refine w_f X0z B d8_3 (feq hc3).1 (w_a X0z B d8_6 rfl rfl ?_)
  show Sh T0z 7 #[vr a] [.ref a]
  refine w_gf X0z B hZ hown (tw hw 27 rfl) Via.refl e0z Fc d8_7 ?_
  intro T7 X7 e7
  refine w_g X7 B 10 14 rfl d8_10 (by decide) ?_
  show Sh T7 14 #[vr a] [.int 0]
  exact Dg.retI X7 hlk B hret rfl (Or.inr (Or.inr (Or.inl rfl))) d8_14 (by rw [e7]; exact ⟨rfl, N0, rfl⟩) (by decide)

theorem d10_17 : Dc k10 17 (.iconst 0) 1 := by decide +kernel
def QIl1 (Z : State) (a : Addr) (cs : Int32) (sf : Value) (h0 : Heap) (n0 : Nat) (v : Option Value) (h : Heap) (L : List Loc) : Prop := v = some (.int 0) ∧ Fr n0 L ∧ h = h0
theorem rmIl1 (l : Launch) (Z : State) (a0 : Array Value) (hw : ∀ d ∈ tables_1, d.before a0 Z = true) (ws : List Jvm.Cond) (a : Addr) (cs : Int32) (sf : Value) (h0 : Heap) (n0 : Nat) (Z0 : n0 ≤ h0.size) (hW : own_W Z h0 n0 cs sf) (Fc : Fld Z h0 a "java/lang/String" "coder" "B" (.int 1)) :
    own_Met l on18 (Jvm.Cond.code on18 jdk_42_method_154_code 1 (some .boolean) :: ws) orm26 #[.ref a] Z h0 (QIl1 Z a cs sf h0 n0) := by
  refine own_met (plainFor_of_name pn0) (fun m => ef_R1 m a) ?_
  intro p e s m below meth c s₁ B hlk hret hml hZ hown hnm X0 e0
  have N0 := Fr.nil n0
  refine w_gs X0 B hZ hown (tw hw 47 rfl) Via.refl e0 hW.cst d10_0 ?_
  intro T0z X0z e0z
  have hc3 : ¬ (cs = (0 : Int32)) := hW.cne
  refine w_f X0z B d10_3 (feq hc3).1 (w_a X0z B d10_6 rfl rfl ?_)
  show Sh T0z 7 #[vr a] [.ref a]
  refine w_gf X0z B hZ hown (tw hw 27 rfl) Via.refl e0z Fc d10_7 ?_
  intro T7 X7 e7
  refine w_t X7 B 10 17 rfl d10_10 (feq (by decide)).2 (by decide) (w_c X7 B d10_17 ?_)
  show Sh T7 18 #[vr a] [.int 0]
  exact Dg.retI X7 hlk B hret rfl (Or.inr (Or.inl rfl)) d10_18 (by rw [e7]; exact ⟨rfl, N0, rfl⟩) (by decide)

def QCo1 (Z : State) (a : Addr) (cs : Int32) (sf : Value) (h0 : Heap) (n0 : Nat) (v : Option Value) (h : Heap) (L : List Loc) : Prop := v = some (.int 1) ∧ Fr n0 L ∧ h = h0
theorem rmCo1 (l : Launch) (Z : State) (a0 : Array Value) (hw : ∀ d ∈ tables_1, d.before a0 Z = true) (ws : List Jvm.Cond) (a : Addr) (cs : Int32) (sf : Value) (h0 : Heap) (n0 : Nat) (Z0 : n0 ≤ h0.size) (hW : own_W Z h0 n0 cs sf) (Fc : Fld Z h0 a "java/lang/String" "coder" "B" (.int 1)) :
    own_Met l on19 (Jvm.Cond.code on19 jdk_42_method_152_code 1 (some .byte) :: ws) orm26 #[.ref a] Z h0 (QCo1 Z a cs sf h0 n0) := by
  refine own_met (plainFor_of_name pn0) (fun m => ef_R1 m a) ?_
  intro p e s m below meth c s₁ B hlk hret hml hZ hown hnm X0 e0
  have N0 := Fr.nil n0
  refine w_gs X0 B hZ hown (tw hw 47 rfl) Via.refl e0 hW.cst d8_0 ?_
  intro T0z X0z e0z
  have hc3 : ¬ (cs = (0 : Int32)) := hW.cne
  refine w_f X0z B d8_3 (feq hc3).1 (w_a X0z B d8_6 rfl rfl ?_)
  show Sh T0z 7 #[vr a] [.ref a]
  refine w_gf X0z B hZ hown (tw hw 27 rfl) Via.refl e0z Fc d8_7 ?_
  intro T7 X7 e7
  refine w_g X7 B 10 14 rfl d8_10 (by decide) ?_
  show Sh T7 14 #[vr a] [.int 1]
  exact Dg.retI X7 hlk B hret rfl (Or.inr (Or.inr (Or.inl rfl))) d8_14 (by rw [e7]; exact ⟨rfl, N0, rfl⟩) (by decide)

abbrev k7 := jdk_42_method_54_code
theorem d7_0 : Dc k7 0 (.aload_n 0) 1 := by decide +kernel
theorem d7_1 : Dc k7 1 (.getfield 9) 3 := by decide +kernel
theorem d7_4 : Dc k7 4 (.arraylength) 1 := by decide +kernel
theorem d7_5 : Dc k7 5 (.aload_n 0) 1 := by decide +kernel
theorem d7_6 : Dc k7 6 (.invokevirtual 335) 3 := by decide +kernel
theorem d7_9 : Dc k7 9 (.ishr) 1 := by decide +kernel
theorem d7_10 : Dc k7 10 (.ireturn) 1 := by decide +kernel
theorem pd2 : parseMethodDescriptor "()B" = some ⟨[], some .byte⟩ := by decide +kernel
def QLn (Z : State) (a : Addr) (cs : Int32) (sf : Value) (nn mm : Int32) (ls lu : List Value) (PQ : Prop) (h0 : Heap) (n0 : Nat) (v : Option Value) (h : Heap) (L : List Loc) : Prop := v = some (.int nn) ∧ Fr n0 L ∧ h = h0
theorem rmLn (l : Launch) (Z : State) (a0 : Array Value) (hw : ∀ d ∈ tables_1, d.before a0 Z = true) (ws : List Jvm.Cond) (a : Addr) (cs : Int32) (sf : Value) (nn mm : Int32) (ls lu : List Value) (PQ : Prop) (h0 : Heap) (n0 : Nat) (Z0 : n0 ≤ h0.size) (hW : own_W Z h0 n0 cs sf) (hS : own_Str Z h0 a nn mm ls lu PQ) (hs0 : nn >>> ((0 : Int32) &&& 31) = nn) (hs1 : mm >>> ((1 : Int32) &&& 31) = nn) :
    own_Met l (⟨"java/lang/String", "length", "()I"⟩ : MethodName) (Jvm.Cond.code (⟨"java/lang/String", "length", "()I"⟩ : MethodName) jdk_42_method_54_code 1 (some .int) :: ws) orm38 #[.ref a] Z h0 (QLn Z a cs sf nn mm ls lu PQ h0 n0) := by
  refine own_met (plainFor_of_name pn0) (fun m => ef_R1 m a) ?_
  intro p e s m below meth c s₁ B hlk hret hml hZ hown hnm X0 e0
  have hx := B.1
  have hby := B.2
  have N0 := Fr.nil n0
  have hS' := hS
  rcases hS' with ⟨Ea, ⟨bb, kb, Fc, Fv, Vb, hp⟩ | ⟨bb, kb, Fc, Fv, Vb⟩⟩
  · refine w_a X0 B d7_0 rfl rfl ?_
    show Sh s₁ 1 #[vr a] [.ref a]
    refine w_gf X0 B hZ hown (tw hw 26 rfl) Via.refl e0 Fv d7_1 ?_
    intro T1 X1 e1
    refine w_al X1 B hZ e1 Vb d7_4 (w_a X1 B d7_5 rfl rfl ?_)
    show Sh T1 6 #[vr a] [.ref a, .int nn]
    refine w_cv X1 B hZ hown hml (rmCo0 l Z a0 hw [] a cs sf  h0 n0 Z0 hW Fc) (tw hw 42 rfl) (tw hw 43 rfl) (tw hw 45 rfl) (tw hw 44 rfl) (tw hw 9 rfl) (tw hw 46 rfl) e1 Ea d7_6 0 1 rfl (lenOf pd2 rfl) rfl rfl rfl (by decide) ?_
    rintro _ T6 Lc6 X6 ⟨rfl, Nq6, hh6⟩
    have N6 := Fr.app N0 Nq6
    refine Dg.st (fun _ kk => XS.ishr X6.here hx rfl (hb hby d7_9) rfl kk) ?_
    show Sh T6 10 #[vr a] [(.int (nn >>> ((0 : Int32) &&& 31)))]
    rw [hs0]
    exact Dg.retI X6 hlk B hret rfl (Or.inl rfl) d7_10 (by rw [hh6]; exact ⟨rfl, N6, rfl⟩) (by decide)
  · refine w_a X0 B d7_0 rfl rfl ?_
    show Sh s₁ 1 #[vr a] [.ref a]
    refine w_gf X0 B hZ hown (tw hw 26 rfl) Via.refl e0 Fv d7_1 ?_
    intro T1 X1 e1
    refine w_al X1 B hZ e1 Vb d7_4 (w_a X1 B d7_5 rfl rfl ?_)
    show Sh T1 6 #[vr a] [.ref a, .int mm]
    refine w_cv X1 B hZ hown hml (rmCo1 l Z a0 hw [] a cs sf  h0 n0 Z0 hW Fc) (tw hw 42 rfl) (tw hw 43 rfl) (tw hw 45 rfl) (tw hw 44 rfl) (tw hw 9 rfl) (tw hw 46 rfl) e1 Ea d7_6 0 1 rfl (lenOf pd2 rfl) rfl rfl rfl (by decide) ?_
    rintro _ T6 Lc6 X6 ⟨rfl, Nq6, hh6⟩
    have N6 := Fr.app N0 Nq6
    refine Dg.st (fun _ kk => XS.ishr X6.here hx rfl (hb hby d7_9) rfl kk) ?_
    show Sh T6 10 #[vr a] [(.int (mm >>> ((1 : Int32) &&& 31)))]
    rw [hs1]
    exact Dg.retI X6 hlk B hret rfl (Or.inl rfl) d7_10 (by rw [hh6]; exact ⟨rfl, N6, rfl⟩) (by decide)

abbrev k33 := jdk_52_method_6_code
theorem d33_0 : Dc k33 0 (.aload_n 0) 1 := by decide +kernel
theorem d33_1 : Dc k33 1 (.arraylength) 1 := by decide +kernel
theorem d33_2 : Dc k33 2 (.iconst 1) 1 := by decide +kernel
theorem d33_3 : Dc k33 3 (.ishr) 1 := by decide +kernel
theorem d33_4 : Dc k33 4 (.ireturn) 1 := by decide +kernel
theorem pn2 : plainName "java/lang/StringUTF16" = true := by first | (simp [plainName, overriddenIn]; done) | decide +kernel
def QUl (Z : State) (b : Addr) (kb : ClassId) (mm : Int32) (ls : List Value) (h0 : Heap) (n0 : Nat) (v : Option Value) (h : Heap) (L : List Loc) : Prop := v = some (.int (mm >>> ((1 : Int32) &&& 31))) ∧ Fr n0 L ∧ h = h0
theorem rmUl (l : Launch) (Z : State) (a0 : Array Value) (hw : ∀ d ∈ tables_1, d.before a0 Z = true) (ws : List Jvm.Cond) (b : Addr) (kb : ClassId) (mm : Int32) (ls : List Value) (h0 : Heap) (n0 : Nat) (Z0 : n0 ≤ h0.size) (Vb : Arv Z h0 b kb .byte mm ls (.int 0)) :
    own_Met l (⟨"java/lang/StringUTF16", "length", "([B)I"⟩ : MethodName) (Jvm.Cond.code (⟨"java/lang/StringUTF16", "length", "([B)I"⟩ : MethodName) jdk_52_method_6_code 1 (some .int) :: ws) orm26 #[.ref b] Z h0 (QUl Z b kb mm ls h0 n0) := by
  refine own_met (plainFor_of_name pn2) (fun m => ef_R1 m b) ?_
  intro p e s m below meth c s₁ B hlk hret hml hZ hown hnm X0 e0
  have hx := B.1
  have hby := B.2
  have N0 := Fr.nil n0
  refine w_a X0 B d33_0 rfl rfl (w_al X0 B hZ e0 Vb d33_1 (w_c X0 B d33_2 (Dg.st (fun _ kk => XS.ishr X0.here hx rfl (hb hby d33_3) rfl kk) ?_)))
  show Sh s₁ 4 #[vr b] [(.int (mm >>> ((1 : Int32) &&& 31)))]
  exact Dg.retI X0 hlk B hret rfl (Or.inl rfl) d33_4 (by rw [e0]; exact ⟨rfl, N0, rfl⟩) (by decide)

abbrev k32 := jdk_52_method_91_code
theorem d32_0 : Dc k32 0 (.iload_n 0) 1 := by decide +kernel
theorem d32_1 : Dc k32 1 (.aload_n 1) 1 := by decide +kernel
theorem d32_2 : Dc k32 2 (.invokestatic 48) 3 := by decide +kernel
theorem d32_5 : Dc k32 5 (.invokestatic 414) 3 := by decide +kernel
theorem d32_8 : Dc k32 8 (.return_) 1 := by decide +kernel
theorem pd3 : parseMethodDescriptor "([B)I" = some ⟨[(.array .byte)], some .int⟩ := by decide +kernel
theorem pd4 : parseMethodDescriptor "(II)V" = some ⟨[.int, .int], none⟩ := by decide +kernel
theorem ef_IR2 (m : MethodId) (x0 : Int32) (x1 : Addr) : entryFrame m #[.int x0, .ref x1] 2 = mkF m 0 #[vi x0, vr x1] [] := by first | (simp [entryFrame, mkF, argsToLocals, Value.category]; done) | rfl
def QUc (Z : State) (ix : Int32) (b : Addr) (cs : Int32) (sf : Value) (kb : ClassId) (mm : Int32) (ls : List Value) (h0 : Heap) (n0 : Nat) (v : Option Value) (h : Heap) (L : List Loc) : Prop := v = none ∧ Fr n0 L ∧ h = h0
theorem rmUc (l : Launch) (Z : State) (a0 : Array Value) (hw : ∀ d ∈ tables_1, d.before a0 Z = true) (ws : List Jvm.Cond) (ix : Int32) (b : Addr) (cs : Int32) (sf : Value) (kb : ClassId) (mm : Int32) (ls : List Value) (h0 : Heap) (n0 : Nat) (Z0 : n0 ≤ h0.size) (hW : own_W Z h0 n0 cs sf) (Vb : Arv Z h0 b kb .byte mm ls (.int 0)) (hx1 : ¬ ix < 0) (hx2 : ix < mm >>> ((1 : Int32) &&& 31)) :
    own_Met l (⟨"java/lang/StringUTF16", "checkIndex", "(I[B)V"⟩ : MethodName) (Jvm.Cond.code (⟨"java/lang/StringUTF16", "checkIndex", "(I[B)V"⟩ : MethodName) jdk_52_method_91_code 2 none :: ws) ({ frames := 2, cells := 0, slots := 0, locals := 33 } : Room) #[.int ix, .ref b] Z h0 (QUc Z ix b cs sf kb mm ls h0 n0) := by
  refine own_met (plainFor_of_name pn2) (fun m => ef_IR2 m ix b) ?_
  intro p e s m below meth c s₁ B hlk hret hml hZ hown hnm X0 e0
  have hx := B.1
  have hby := B.2
  have N0 := Fr.nil n0
  refine w_i X0 B d32_0 rfl (w_a X0 B d32_1 rfl rfl ?_)
  show Sh s₁ 2 #[vi ix, vr b] [.ref b, .int ix]
  refine w_cs X0 B hZ hown hml (rmUl l Z a0 hw [] b kb mm ls h0 n0 Z0 Vb) (tw hw 144 rfl) (tw hw 145 rfl) (tw hw 93 rfl) (tw hw 146 rfl) e0 d32_2 1 1 (lenOf pd3 rfl) rfl rfl rfl (by decide) ?_
  rintro _ T2 Lc2 X2 ⟨rfl, Nq2, hh2⟩
  have N2 := Fr.app N0 Nq2
  refine w_cs X2 B hZ hown hml (rmCi l Z a0 hw [] ix (mm >>> ((1 : Int32) &&& 31)) cs sf  h0 n0 Z0 hW hx1 hx2) (tw hw 147 rfl) (tw hw 148 rfl) (tw hw 9 rfl) (tw hw 149 rfl) hh2 d32_5 2 0 (lenOf pd4 rfl) rfl rfl rfl (by decide) ?_
  rintro _ T5 Lc5 X5 ⟨rfl, Nq5, hh5⟩
  have N5 := Fr.app N2 Nq5
  exact Dg.ret0 X5 hlk hx hret (hb hby d32_8) (by rw [hh5]; exact ⟨rfl, N5, rfl⟩) (by decide) (by decide)

abbrev k27 := jdk_52_method_5_code
theorem d27_0 : Dc k27 0 (.getstatic 44) 3 := by decide +kernel
theorem d27_3 : Dc k27 3 (.ifCond .ne 25) 3 := by decide +kernel
theorem d27_28 : Dc k27 28 (.iload_n 1) 1 := by decide +kernel
theorem d27_29 : Dc k27 29 (.iconst 1) 1 := by decide +kernel
theorem d27_30 : Dc k27 30 (.ishl) 1 := by decide +kernel
theorem d27_31 : Dc k27 31 (.istore_n 1) 1 := by decide +kernel
theorem d27_32 : Dc k27 32 (.aload_n 0) 1 := by decide +kernel
theorem d27_33 : Dc k27 33 (.iload_n 1) 1 := by decide +kernel
theorem d27_34 : Dc k27 34 (.iinc 1 1) 3 := by decide +kernel
theorem d27_37 : Dc k27 37 (.baload) 1 := by decide +kernel
theorem d27_38 : Dc k27 38 (.sipush 255) 3 := by decide +kernel
theorem d27_41 : Dc k27 41 (.iand) 1 := by decide +kernel
theorem d27_42 : Dc k27 42 (.getstatic 59) 3 := by decide +kernel
theorem d27_45 : Dc k27 45 (.ishl) 1 := by decide +kernel
theorem d27_46 : Dc k27 46 (.aload_n 0) 1 := by decide +kernel
theorem d27_47 : Dc k27 47 (.iload_n 1) 1 := by decide +kernel
theorem d27_48 : Dc k27 48 (.baload) 1 := by decide +kernel
theorem d27_49 : Dc k27 49 (.sipush 255) 3 := by decide +kernel
theorem d27_52 : Dc k27 52 (.iand) 1 := by decide +kernel
theorem d27_53 : Dc k27 53 (.getstatic 63) 3 := by decide +kernel
theorem d27_56 : Dc k27 56 (.ishl) 1 := by decide +kernel
theorem d27_57 : Dc k27 57 (.ior) 1 := by decide +kernel
theorem d27_58 : Dc k27 58 (.i2c) 1 := by decide +kernel
theorem d27_59 : Dc k27 59 (.ireturn) 1 := by decide +kernel
theorem ef_RI2 (m : MethodId) (x0 : Addr) (x1 : Int32) : entryFrame m #[.ref x0, .int x1] 2 = mkF m 0 #[vr x0, vi x1] [] := by first | (simp [entryFrame, mkF, argsToLocals, Value.category]; done) | rfl
def QGc (Z : State) (b : Addr) (ix : Int32) (cs : Int32) (sf : Value) (kb : ClassId) (mm : Int32) (ls : List Value) (yy : Int32) (h0 : Heap) (n0 : Nat) (v : Option Value) (h : Heap) (L : List Loc) : Prop := v = some (.int yy) ∧ Fr n0 L ∧ h = h0
theorem rmGc (l : Launch) (Z : State) (a0 : Array Value) (hw : ∀ d ∈ tables_1, d.before a0 Z = true) (ws : List Jvm.Cond) (b : Addr) (ix : Int32) (cs : Int32) (sf : Value) (kb : ClassId) (mm : Int32) (ls : List Value) (yy : Int32) (h0 : Heap) (n0 : Nat) (Z0 : n0 ≤ h0.size) (hW : own_W Z h0 n0 cs sf) (Vb : Arv Z h0 b kb .byte mm ls (.int 0)) (hm0 : ¬ (ix <<< ((1 : Int32) &&& 31)) < 0 ∧ (ix <<< ((1 : Int32) &&& 31)) < mm) (hm1 : ¬ ((ix <<< ((1 : Int32) &&& 31)) + (1 : Int32)) < 0 ∧ ((ix <<< ((1 : Int32) &&& 31)) + (1 : Int32)) < mm) (ge0 : ls.getD (ix <<< ((1 : Int32) &&& 31)).toNatClampNeg (.int 0) = .int (own_lo yy)) (ge1 : ls.getD ((ix <<< ((1 : Int32) &&& 31)) + (1 : Int32)).toNatClampNeg (.int 0) = .int (own_hi yy)) (hy1 : 0 ≤ yy.toInt) (hy2 : yy.toInt ≤ 65535) :
    own_Met l (⟨"java/lang/StringUTF16", "getChar", "([BI)C"⟩ : MethodName) (Jvm.Cond.code (⟨"java/lang/StringUTF16", "getChar", "([BI)C"⟩ : MethodName) jdk_52_method_5_code 2 (some .char) :: ws) orm26 #[.ref b, .int ix] Z h0 (QGc Z b ix cs sf kb mm ls yy h0 n0) := by
  refine own_met (plainFor_of_name pn2) (fun m => ef_RI2 m b ix) ?_
  intro p e s m below meth c s₁ B hlk hret hml hZ hown hnm X0 e0
  have hx := B.1
  have hby := B.2
  have N0 := Fr.nil n0
  refine w_gs X0 B hZ hown (tw hw 118 rfl) Via.refl e0 hW.adt d27_0 ?_
  intro T0z X0z e0z
  refine w_t X0z B 3 28 rfl d27_3 (feq (by decide)).2 (by decide) (w_i X0z B d27_28 rfl (w_c X0z B d27_29 (Dg.st (fun _ kk => XS.ishl X0z.here hx rfl (hb hby d27_30) rfl kk) (w_S X0z B d27_31 #[vr b, vi (ix <<< ((1 : Int32) &&& 31))] rfl (w_a X0z B d27_32 rfl rfl (w_i X0z B d27_33 rfl (w_p X0z B d27_34 rfl #[vr b, vi ((ix <<< ((1 : Int32) &&& 31)) + (1 : Int32))] rfl ?_)))))))
  show Sh T0z 37 #[vr b, vi ((ix <<< ((1 : Int32) &&& 31)) + (1 : Int32))] [(.int (ix <<< ((1 : Int32) &&& 31))), .ref b]
  refine w_ba X0z B hZ e0z Vb hm0 (v := (.int (own_lo yy))) ge0 d27_37 (w_d X0z B d27_38 (Dg.st (fun _ kk => XS.iand X0z.here hx rfl (hb hby d27_41) rfl kk) ?_))
  show Sh T0z 42 #[vr b, vi ((ix <<< ((1 : Int32) &&& 31)) + (1 : Int32))] [(.int ((own_lo yy) &&& (255 : Int32)))]
  refine w_gs X0z B hZ hown (tw hw 119 rfl) Via.refl e0z hW.hit d27_42 ?_
  intro T42 X42 e42
  refine Dg.st (fun _ kk => XS.ishl X42.here hx rfl (hb hby d27_45) rfl kk) (w_a X42 B d27_46 rfl rfl (w_i X42 B d27_47 rfl (w_ba X42 B hZ e42 Vb hm1 (v := (.int (own_hi yy))) ge1 d27_48 (w_d X42 B d27_49 (Dg.st (fun _ kk => XS.iand X42.here hx rfl (hb hby d27_52) rfl kk) ?_)))))
  show Sh T42 53 #[vr b, vi ((ix <<< ((1 : Int32) &&& 31)) + (1 : Int32))] [(.int ((own_hi yy) &&& (255 : Int32))), (.int (((own_lo yy) &&& (255 : Int32)) <<< ((0 : Int32) &&& 31)))]
  refine w_gs X42 B hZ hown (tw hw 120 rfl) Via.refl e42 hW.lot d27_53 ?_
  intro T53 X53 e53
  refine Dg.st (fun _ kk => XS.ishl X53.here hx rfl (hb hby d27_56) rfl kk) (Dg.st (fun _ kk => XS.ior X53.here hx rfl (hb hby d27_57) rfl kk) (Dg.st (fun _ kk => XS.i2c X53.here hx rfl (hb hby d27_58) rfl kk) ?_))
  show Sh T53 59 #[vr b, vi ((ix <<< ((1 : Int32) &&& 31)) + (1 : Int32))] [(.int (((((own_lo yy) &&& (255 : Int32)) <<< ((0 : Int32) &&& 31)) ||| (((own_hi yy) &&& (255 : Int32)) <<< ((8 : Int32) &&& 31))).toUInt32.toUInt16.toUInt32.toInt32))]
  rw [own_u16 hy1 hy2]
  exact Dg.retI X53 hlk B hret (own_nc (by omega) (by omega)) (Or.inr (Or.inr (Or.inr (Or.inl rfl)))) d27_59 (by rw [e53]; exact ⟨rfl, N0, rfl⟩) (by decide)

abbrev k31 := jdk_52_method_83_code
theorem d31_0 : Dc k31 0 (.iload_n 1) 1 := by decide +kernel
theorem d31_1 : Dc k31 1 (.aload_n 0) 1 := by decide +kernel
theorem d31_2 : Dc k31 2 (.invokestatic 67) 3 := by decide +kernel
theorem d31_5 : Dc k31 5 (.aload_n 0) 1 := by decide +kernel
theorem d31_6 : Dc k31 6 (.iload_n 1) 1 := by decide +kernel
theorem d31_7 : Dc k31 7 (.invokestatic 71) 3 := by decide +kernel
theorem d31_10 : Dc k31 10 (.ireturn) 1 := by decide +kernel
theorem pd5 : parseMethodDescriptor "(I[B)V" = some ⟨[.int, (.array .byte)], none⟩ := by decide +kernel
theorem pd6 : parseMethodDescriptor "([BI)C" = some ⟨[(.array .byte), .int], some .char⟩ := by decide +kernel
def QUch (Z : State) (b : Addr) (ix : Int32) (cs : Int32) (sf : Value) (kb : ClassId) (mm : Int32) (ls : List Value) (yy : Int32) (h0 : Heap) (n0 : Nat) (v : Option Value) (h : Heap) (L : List Loc) : Prop := v = some (.int yy) ∧ Fr n0 L ∧ h = h0
theorem rmUch (l : Launch) (Z : State) (a0 : Array Value) (hw : ∀ d ∈ tables_1, d.before a0 Z = true) (ws : List Jvm.Cond) (b : Addr) (ix : Int32) (cs : Int32) (sf : Value) (kb : ClassId) (mm : Int32) (ls : List Value) (yy : Int32) (h0 : Heap) (n0 : Nat) (Z0 : n0 ≤ h0.size) (hW : own_W Z h0 n0 cs sf) (Vb : Arv Z h0 b kb .byte mm ls (.int 0)) (hm0 : ¬ (ix <<< ((1 : Int32) &&& 31)) < 0 ∧ (ix <<< ((1 : Int32) &&& 31)) < mm) (hm1 : ¬ ((ix <<< ((1 : Int32) &&& 31)) + (1 : Int32)) < 0 ∧ ((ix <<< ((1 : Int32) &&& 31)) + (1 : Int32)) < mm) (ge0 : ls.getD (ix <<< ((1 : Int32) &&& 31)).toNatClampNeg (.int 0) = .int (own_lo yy)) (ge1 : ls.getD ((ix <<< ((1 : Int32) &&& 31)) + (1 : Int32)).toNatClampNeg (.int 0) = .int (own_hi yy)) (hy1 : 0 ≤ yy.toInt) (hy2 : yy.toInt ≤ 65535) (hx1 : ¬ ix < 0) (hx2 : ix < mm >>> ((1 : Int32) &&& 31)) :
    own_Met l (⟨"java/lang/StringUTF16", "charAt", "([BI)C"⟩ : MethodName) (Jvm.Cond.code (⟨"java/lang/StringUTF16", "charAt", "([BI)C"⟩ : MethodName) jdk_52_method_83_code 2 (some .char) :: ws) ({ frames := 3, cells := 0, slots := 0, locals := 49 } : Room) #[.ref b, .int ix] Z h0 (QUch Z b ix cs sf kb mm ls yy h0 n0) := by
  refine own_met (plainFor_of_name pn2) (fun m => ef_RI2 m b ix) ?_
  intro p e s m below meth c s₁ B hlk hret hml hZ hown hnm X0 e0
  have N0 := Fr.nil n0
  refine w_i X0 B d31_0 rfl (w_a X0 B d31_1 rfl rfl ?_)
  show Sh s₁ 2 #[vr b, vi ix] [.ref b, .int ix]
  refine w_cs X0 B hZ hown hml (rmUc l Z a0 hw [] ix b cs sf kb mm ls h0 n0 Z0 hW Vb hx1 hx2) (tw hw 141 rfl) (tw hw 142 rfl) (tw hw 93 rfl) (tw hw 143 rfl) e0 d31_2 2 0 (lenOf pd5 rfl) rfl rfl rfl (by decide) ?_
  rintro _ T2 Lc2 X2 ⟨rfl, Nq2, hh2⟩
  have N2 := Fr.app N0 Nq2
  refine w_a X2 B d31_5 rfl rfl (w_i X2 B d31_6 rfl ?_)
  show Sh T2 7 #[vr b, vi ix] [.int ix, .ref b]
  refine w_cs X2 B hZ hown hml (rmGc l Z a0 hw [] b ix cs sf kb mm ls yy h0 n0 Z0 hW Vb hm0 hm1 ge0 ge1 hy1 hy2) (tw hw 121 rfl) (tw hw 122 rfl) (tw hw 93 rfl) (tw hw 123 rfl) hh2 d31_7 2 0 (lenOf pd6 rfl) rfl rfl rfl (by decide) ?_
  rintro _ T7 Lc7 X7 ⟨rfl, Nq7, hh7⟩
  have N7 := Fr.app N2 Nq7
  exact Dg.retI X7 hlk B hret (own_nc (by omega) (by omega)) (Or.inr (Or.inr (Or.inr (Or.inl rfl)))) d31_10 (by rw [hh7]; exact ⟨rfl, N7, rfl⟩) (by decide)

abbrev k36 := jdk_43_method_2_code
theorem d36_0 : Dc k36 0 (.iload_n 1) 1 := by decide +kernel
theorem d36_1 : Dc k36 1 (.aload_n 0) 1 := by decide +kernel
theorem d36_2 : Dc k36 2 (.arraylength) 1 := by decide +kernel
theorem d36_3 : Dc k36 3 (.invokestatic 9) 3 := by decide +kernel
theorem d36_6 : Dc k36 6 (.aload_n 0) 1 := by decide +kernel
theorem d36_7 : Dc k36 7 (.iload_n 1) 1 := by decide +kernel
theorem d36_8 : Dc k36 8 (.baload) 1 := by decide +kernel
theorem d36_9 : Dc k36 9 (.sipush 255) 3 := by decide +kernel
theorem d36_12 : Dc k36 12 (.iand) 1 := by decide +kernel
theorem d36_13 : Dc k36 13 (.i2c) 1 := by decide +kernel
theorem d36_14 : Dc k36 14 (.ireturn) 1 := by decide +kernel
theorem pn3 : plainName "java/lang/StringLatin1" = true := by first | (simp [plainName, overriddenIn]; done) | decide +kernel
def QLch (Z : State) (b : Addr) (ix : Int32) (cs : Int32) (sf : Value) (kb : ClassId) (mm : Int32) (ls : List Value) (yy : Int32) (h0 : Heap) (n0 : Nat) (v : Option Value) (h : Heap) (L : List Loc) : Prop := v = some (.int yy) ∧ Fr n0 L ∧ h = h0
theorem rmLch (l : Launch) (Z : State) (a0 : Array Value) (hw : ∀ d ∈ tables_1, d.before a0 Z = true) (ws : List Jvm.Cond) (b : Addr) (ix : Int32) (cs : Int32) (sf : Value) (kb : ClassId) (mm : Int32) (ls : List Value) (yy : Int32) (h0 : Heap) (n0 : Nat) (Z0 : n0 ≤ h0.size) (hW : own_W Z h0 n0 cs sf) (Vb : Arv Z h0 b kb .byte mm ls (.int 0)) (hx1 : ¬ ix < 0) (hx2 : ix < mm) (ge0 : ls.getD ix.toNatClampNeg (.int 0) = .int (own_b yy)) (hy1 : 0 ≤ yy.toInt) (hy2 : yy.toInt ≤ 255) :
    own_Met l (⟨"java/lang/StringLatin1", "charAt", "([BI)C"⟩ : MethodName) (Jvm.Cond.code (⟨"java/lang/StringLatin1", "charAt", "([BI)C"⟩ : MethodName) jdk_43_method_2_code 2 (some .char) :: ws) ({ frames := 2, cells := 0, slots := 0, locals := 33 } : Room) #[.ref b, .int ix] Z h0 (QLch Z b ix cs sf kb mm ls yy h0 n0) := by
  refine own_met (plainFor_of_name pn3) (fun m => ef_RI2 m b ix) ?_
  intro p e s m below meth c s₁ B hlk hret hml hZ hown hnm X0 e0
  have hx := B.1
  have hby := B.2
  have N0 := Fr.nil n0
  refine w_i X0 B d36_0 rfl (w_a X0 B d36_1 rfl rfl (w_al X0 B hZ e0 Vb d36_2 ?_))
  show Sh s₁ 3 #[vr b, vi ix] [.int mm, .int ix]
  refine w_cs X0 B hZ hown hml (rmCi l Z a0 hw [] ix mm cs sf  h0 n0 Z0 hW hx1 hx2) (tw hw 156 rfl) (tw hw 148 rfl) (tw hw 9 rfl) (tw hw 149 rfl) e0 d36_3 2 0 (lenOf pd4 rfl) rfl rfl rfl (by decide) ?_
  rintro _ T3 Lc3 X3 ⟨rfl, Nq3, hh3⟩
  have N3 := Fr.app N0 Nq3
  refine w_a X3 B d36_6 rfl rfl (w_i X3 B d36_7 rfl (w_ba X3 B hZ hh3 Vb ⟨hx1, hx2⟩ (v := (.int (own_b yy))) ge0 d36_8 (w_d X3 B d36_9 (Dg.st (fun _ kk => XS.iand X3.here hx rfl (hb hby d36_12) rfl kk) (Dg.st (fun _ kk => XS.i2c X3.here hx rfl (hb hby d36_13) rfl kk) ?_)))))
  show Sh T3 14 #[vr b, vi ix] [(.int (((own_b yy) &&& (255 : Int32)).toUInt32.toUInt16.toUInt32.toInt32))]
  rw [own_lat hy1 hy2]
  exact Dg.retI X3 hlk B hret (own_nc (by omega) (by omega)) (Or.inr (Or.inr (Or.inr (Or.inl rfl)))) d36_14 (by rw [hh3]; exact ⟨rfl, N3, rfl⟩) (by decide)

abbrev k30 := jdk_42_method_56_code
theorem d30_0 : Dc k30 0 (.aload_n 0) 1 := by decide +kernel
theorem d30_1 : Dc k30 1 (.invokevirtual 492) 3 := by decide +kernel
theorem d30_4 : Dc k30 4 (.ifCond .eq 12) 3 := by decide +kernel
theorem d30_7 : Dc k30 7 (.aload_n 0) 1 := by decide +kernel
theorem d30_8 : Dc k30 8 (.getfield 9) 3 := by decide +kernel
theorem d30_11 : Dc k30 11 (.iload_n 1) 1 := by decide +kernel
theorem d30_12 : Dc k30 12 (.invokestatic 495) 3 := by decide +kernel
theorem d30_15 : Dc k30 15 (.ireturn) 1 := by decide +kernel
theorem d30_16 : Dc k30 16 (.aload_n 0) 1 := by decide +kernel
theorem d30_17 : Dc k30 17 (.getfield 9) 3 := by decide +kernel
theorem d30_20 : Dc k30 20 (.iload_n 1) 1 := by decide +kernel
theorem d30_21 : Dc k30 21 (.invokestatic 498) 3 := by decide +kernel
theorem d30_24 : Dc k30 24 (.ireturn) 1 := by decide +kernel
theorem pd7 : parseMethodDescriptor "()Z" = some ⟨[], some .boolean⟩ := by decide +kernel
def QCh (Z : State) (a : Addr) (ix : Int32) (cs : Int32) (sf : Value) (nn mm : Int32) (ls lu : List Value) (PQ : Prop) (yy : Int32) (h0 : Heap) (n0 : Nat) (v : Option Value) (h : Heap) (L : List Loc) : Prop := v = some (.int yy) ∧ Fr n0 L ∧ h = h0
theorem rmCh (l : Launch) (Z : State) (a0 : Array Value) (hw : ∀ d ∈ tables_1, d.before a0 Z = true) (ws : List Jvm.Cond) (a : Addr) (ix : Int32) (cs : Int32) (sf : Value) (nn mm : Int32) (ls lu : List Value) (PQ : Prop) (yy : Int32) (h0 : Heap) (n0 : Nat) (Z0 : n0 ≤ h0.size) (hW : own_W Z h0 n0 cs sf) (hS : own_Str Z h0 a nn mm ls lu PQ) (hx1 : ¬ ix < 0) (hn : ix < nn) (el : ls.getD ix.toNatClampNeg (.int 0) = .int (own_b yy)) (hP : PQ → yy.toInt ≤ 255) (hm0 : ¬ (ix <<< ((1 : Int32) &&& 31)) < 0 ∧ (ix <<< ((1 : Int32) &&& 31)) < mm) (hm1 : ¬ ((ix <<< ((1 : Int32) &&& 31)) + (1 : Int32)) < 0 ∧ ((ix <<< ((1 : Int32) &&& 31)) + (1 : Int32)) < mm) (ge0 : lu.getD (ix <<< ((1 : Int32) &&& 31)).toNatClampNeg (.int 0) = .int (own_lo yy)) (ge1 : lu.getD ((ix <<< ((1 : Int32) &&& 31)) + (1 : Int32)).toNatClampNeg (.int 0) = .int (own_hi yy)) (hx2 : ix < mm >>> ((1 : Int32) &&& 31)) (hr : 0 ≤ yy.toInt ∧ yy.toInt ≤ 65535) :
    own_Met l (⟨"java/lang/String", "charAt", "(I)C"⟩ : MethodName) (Jvm.Cond.code (⟨"java/lang/String", "charAt", "(I)C"⟩ : MethodName) jdk_42_method_56_code 2 (some .char) :: ws) ({ frames := 4, cells := 0, slots := 0, locals := 65 } : Room) #[.ref a, .int ix] Z h0 (QCh Z a ix cs sf nn mm ls lu PQ yy h0 n0) := by
  refine own_met (plainFor_of_name pn0) (fun m => ef_RI2 m a ix) ?_
  intro p e s m below meth c s₁ B hlk hret hml hZ hown hnm X0 e0
  have N0 := Fr.nil n0
  have hS' := hS
  rcases hS' with ⟨Ea, ⟨bb, kb, Fc, Fv, Vb, hp⟩ | ⟨bb, kb, Fc, Fv, Vb⟩⟩
  · refine w_a X0 B d30_0 rfl rfl ?_
    show Sh s₁ 1 #[vr a, vi ix] [.ref a]
    refine w_cv X0 B hZ hown hml (rmIl0 l Z a0 hw [] a cs sf  h0 n0 Z0 hW Fc) (tw hw 53 rfl) (tw hw 54 rfl) (tw hw 56 rfl) (tw hw 55 rfl) (tw hw 9 rfl) (tw hw 57 rfl) e0 Ea d30_1 0 0 rfl (lenOf pd7 rfl) rfl rfl rfl (by decide) ?_
    rintro _ T1 Lc1 X1 ⟨rfl, Nq1, hh1⟩
    have N1 := Fr.app N0 Nq1
    refine w_f X1 B d30_4 (feq (by decide)).1 (w_a X1 B d30_7 rfl rfl ?_)
    show Sh T1 8 #[vr a, vi ix] [.ref a]
    refine w_gf X1 B hZ hown (tw hw 26 rfl) Via.refl hh1 Fv d30_8 ?_
    intro T8 X8 e8
    refine w_i X8 B d30_11 rfl ?_
    show Sh T8 12 #[vr a, vi ix] [.int ix, .ref bb]
    refine w_cs X8 B hZ hown hml (rmLch l Z a0 hw [] bb ix cs sf kb nn ls yy h0 n0 Z0 hW Vb hx1 hn el hr.1 (hP hp)) (tw hw 153 rfl) (tw hw 154 rfl) (tw hw 60 rfl) (tw hw 155 rfl) e8 d30_12 2 0 (lenOf pd6 rfl) rfl rfl rfl (by decide) ?_
    rintro _ T12 Lc12 X12 ⟨rfl, Nq12, hh12⟩
    have N12 := Fr.app N1 Nq12
    exact Dg.retI X12 hlk B hret (own_nc (by omega) (by omega)) (Or.inr (Or.inr (Or.inr (Or.inl rfl)))) d30_15 (by rw [hh12]; exact ⟨rfl, N12, rfl⟩) (by decide)
  · refine w_a X0 B d30_0 rfl rfl ?_
    show Sh s₁ 1 #[vr a, vi ix] [.ref a]
    refine w_cv X0 B hZ hown hml (rmIl1 l Z a0 hw [] a cs sf  h0 n0 Z0 hW Fc) (tw hw 53 rfl) (tw hw 54 rfl) (tw hw 56 rfl) (tw hw 55 rfl) (tw hw 9 rfl) (tw hw 57 rfl) e0 Ea d30_1 0 0 rfl (lenOf pd7 rfl) rfl rfl rfl (by decide) ?_
    rintro _ T1 Lc1 X1 ⟨rfl, Nq1, hh1⟩
    have N1 := Fr.app N0 Nq1
    refine w_t X1 B 4 16 rfl d30_4 (teq (by decide)).1 (by decide) (w_a X1 B d30_16 rfl rfl ?_)
    show Sh T1 17 #[vr a, vi ix] [.ref a]
    refine w_gf X1 B hZ hown (tw hw 26 rfl) Via.refl hh1 Fv d30_17 ?_
    intro T17 X17 e17
    refine w_i X17 B d30_20 rfl ?_
    show Sh T17 21 #[vr a, vi ix] [.int ix, .ref bb]
    refine w_cs X17 B hZ hown hml (rmUch l Z a0 hw [] bb ix cs sf kb mm lu yy h0 n0 Z0 hW Vb hm0 hm1 ge0 ge1 hr.1 hr.2 hx1 hx2) (tw hw 138 rfl) (tw hw 139 rfl) (tw hw 93 rfl) (tw hw 140 rfl) e17 d30_21 2 0 (lenOf pd6 rfl) rfl rfl rfl (by decide) ?_
    rintro _ T21 Lc21 X21 ⟨rfl, Nq21, hh21⟩
    have N21 := Fr.app N1 Nq21
    exact Dg.retI X21 hlk B hret (own_nc (by omega) (by omega)) (Or.inr (Or.inr (Or.inr (Or.inl rfl)))) d30_24 (by rw [hh21]; exact ⟨rfl, N21, rfl⟩) (by decide)

abbrev k26 := jdk_52_method_4_code
theorem d26_0 : Dc k26 0 (.getstatic 44) 3 := by decide +kernel
theorem d26_3 : Dc k26 3 (.ifCond .ne 25) 3 := by decide +kernel
theorem d26_28 : Dc k26 28 (.iload_n 1) 1 := by decide +kernel
theorem d26_29 : Dc k26 29 (.iconst 1) 1 := by decide +kernel
theorem d26_30 : Dc k26 30 (.ishl) 1 := by decide +kernel
theorem d26_31 : Dc k26 31 (.istore_n 1) 1 := by decide +kernel
theorem d26_32 : Dc k26 32 (.aload_n 0) 1 := by decide +kernel
theorem d26_33 : Dc k26 33 (.iload_n 1) 1 := by decide +kernel
theorem d26_34 : Dc k26 34 (.iinc 1 1) 3 := by decide +kernel
theorem d26_37 : Dc k26 37 (.iload_n 2) 1 := by decide +kernel
theorem d26_38 : Dc k26 38 (.getstatic 59) 3 := by decide +kernel
theorem d26_41 : Dc k26 41 (.ishr) 1 := by decide +kernel
theorem d26_42 : Dc k26 42 (.i2b) 1 := by decide +kernel
theorem d26_43 : Dc k26 43 (.bastore) 1 := by decide +kernel
theorem d26_44 : Dc k26 44 (.aload_n 0) 1 := by decide +kernel
theorem d26_45 : Dc k26 45 (.iload_n 1) 1 := by decide +kernel
theorem d26_46 : Dc k26 46 (.iload_n 2) 1 := by decide +kernel
theorem d26_47 : Dc k26 47 (.getstatic 63) 3 := by decide +kernel
theorem d26_50 : Dc k26 50 (.ishr) 1 := by decide +kernel
theorem d26_51 : Dc k26 51 (.i2b) 1 := by decide +kernel
theorem d26_52 : Dc k26 52 (.bastore) 1 := by decide +kernel
theorem d26_53 : Dc k26 53 (.return_) 1 := by decide +kernel
theorem ef_RII3 (m : MethodId) (x0 : Addr) (x1 : Int32) (x2 : Int32) : entryFrame m #[.ref x0, .int x1, .int x2] 3 = mkF m 0 #[vr x0, vi x1, vi x2] [] := by first | (simp [entryFrame, mkF, argsToLocals, Value.category]; done) | rfl
def QPu (Z : State) (b : Addr) (ix : Int32) (yy : Int32) (cs : Int32) (sf : Value) (kb : ClassId) (mm : Int32) (ls : List Value) (h0 : Heap) (n0 : Nat) (v : Option Value) (h : Heap) (L : List Loc) : Prop := v = none ∧ Fr n0 L ∧ Keep h0 h [b] ∧ Arv Z h b kb .byte mm ((ls.set (ix <<< ((1 : Int32) &&& 31)).toNatClampNeg (.int (own_lo yy))).set ((ix <<< ((1 : Int32) &&& 31)) + (1 : Int32)).toNatClampNeg (.int (own_hi yy))) (.int 0)
theorem rmPu (l : Launch) (Z : State) (a0 : Array Value) (hw : ∀ d ∈ tables_1, d.before a0 Z = true) (ws : List Jvm.Cond) (b : Addr) (ix : Int32) (yy : Int32) (cs : Int32) (sf : Value) (kb : ClassId) (mm : Int32) (ls : List Value) (h0 : Heap) (n0 : Nat) (Z0 : n0 ≤ h0.size) (hW : own_W Z h0 n0 cs sf) (gb : n0 ≤ b) (Vb : Arv Z h0 b kb .byte mm ls (.int 0)) (hm0 : ¬ (ix <<< ((1 : Int32) &&& 31)) < 0 ∧ (ix <<< ((1 : Int32) &&& 31)) < mm) (hm1 : ¬ ((ix <<< ((1 : Int32) &&& 31)) + (1 : Int32)) < 0 ∧ ((ix <<< ((1 : Int32) &&& 31)) + (1 : Int32)) < mm) (hl0 : (ix <<< ((1 : Int32) &&& 31)).toNatClampNeg < ls.length) (hl1 : ((ix <<< ((1 : Int32) &&& 31)) + (1 : Int32)).toNatClampNeg < ls.length) :
    own_Met l (⟨"java/lang/StringUTF16", "putChar", "([BII)V"⟩ : MethodName) (Jvm.Cond.code (⟨"java/lang/StringUTF16", "putChar", "([BII)V"⟩ : MethodName) jdk_52_method_4_code 3 none :: ws) orm26 #[.ref b, .int ix, .int yy] Z h0 (QPu Z b ix yy cs sf kb mm ls h0 n0) := by
  refine own_met (plainFor_of_name pn2) (fun m => ef_RII3 m b ix yy) ?_
  intro p e s m below meth c s₁ B hlk hret hml hZ hown hnm X0 e0
  have hx := B.1
  have hby := B.2
  have N0 := Fr.nil n0
  refine w_gs X0 B hZ hown (tw hw 118 rfl) Via.refl e0 hW.adt d26_0 ?_
  intro T0z X0z e0z
  refine w_t X0z B 3 28 rfl d26_3 (feq (by decide)).2 (by decide) (w_i X0z B d26_28 rfl (w_c X0z B d26_29 (Dg.st (fun _ kk => XS.ishl X0z.here hx rfl (hb hby d26_30) rfl kk) (w_S X0z B d26_31 #[vr b, vi (ix <<< ((1 : Int32) &&& 31)), vi yy] rfl (w_a X0z B d26_32 rfl rfl (w_i X0z B d26_33 rfl (w_p X0z B d26_34 rfl #[vr b, vi ((ix <<< ((1 : Int32) &&& 31)) + (1 : Int32)), vi yy] rfl ?_)))))))
  show Sh T0z 37 #[vr b, vi ((ix <<< ((1 : Int32) &&& 31)) + (1 : Int32)), vi yy] [(.int (ix <<< ((1 : Int32) &&& 31))), .ref b]
  refine w_i X0z B d26_37 rfl ?_
  show Sh T0z 38 #[vr b, vi ((ix <<< ((1 : Int32) &&& 31)) + (1 : Int32)), vi yy] [.int yy, (.int (ix <<< ((1 : Int32) &&& 31))), .ref b]
  refine w_gs X0z B hZ hown (tw hw 119 rfl) Via.refl e0z hW.hit d26_38 ?_
  intro T38 X38 e38
  refine Dg.st (fun _ kk => XS.ishr X38.here hx rfl (hb hby d26_41) rfl kk) (Dg.st (fun _ kk => XS.i2b X38.here hx rfl (hb hby d26_42) rfl kk) ?_)
  show Sh T38 43 #[vr b, vi ((ix <<< ((1 : Int32) &&& 31)) + (1 : Int32)), vi yy] [(.int ((yy >>> ((0 : Int32) &&& 31)).toInt8.toInt32)), (.int (ix <<< ((1 : Int32) &&& 31))), .ref b]
  have Vc_b_43 := Vb
  obtain ⟨cl_b_43, Ar_b_43, q_b_43, S_b_43, N_b_43, H_b_43, G_b_43⟩ := Vc_b_43
  have hin43 : ¬ ((ix <<< ((1 : Int32) &&& 31)) < 0 ∨ cl_b_43.slots.size ≤ ((ix <<< ((1 : Int32) &&& 31))).toNatClampNeg) := inb_of S_b_43 hm0
  obtain ⟨T43, h43, X43, e43, W43, st43⟩ := stB X38 hx hZ e38 Ar_b_43 (j := (ix <<< ((1 : Int32) &&& 31))) hin43 (g := (mkF m 43 #[vr b, vi ((ix <<< ((1 : Int32) &&& 31)) + (1 : Int32)), vi yy] [(.int ((yy >>> ((0 : Int32) &&& 31)).toInt8.toInt32)), (.int (ix <<< ((1 : Int32) &&& 31))), .ref b])) rfl rfl (hb hby d26_43)
  have Wo43 := hW.wr W43 gb
  have V_b_43 := Arv.set Ar_b_43 q_b_43 S_b_43 N_b_43 H_b_43 G_b_43 (fits_nar_byte _) W43 _ rfl hl0
  have K43 := (Keep.refl h0 [b]).wr W43 (Or.inl (List.mem_of_getElem? (i := 0) rfl))
  have N43 := Fr.snoc X43 N0 gb
  have Z43 : n0 ≤ h43.size := Nat.le_trans Z0 (Keep.of_wr W43).1
  refine Dg.st st43 ?_
  refine w_a X43 B d26_44 rfl rfl (w_i X43 B d26_45 rfl (w_i X43 B d26_46 rfl ?_))
  show Sh T43 47 #[vr b, vi ((ix <<< ((1 : Int32) &&& 31)) + (1 : Int32)), vi yy] [.int yy, (.int ((ix <<< ((1 : Int32) &&& 31)) + (1 : Int32))), .ref b]
  refine w_gs X43 B hZ hown (tw hw 120 rfl) Via.refl e43 Wo43.lot d26_47 ?_
  intro T47 X47 e47
  refine Dg.st (fun _ kk => XS.ishr X47.here hx rfl (hb hby d26_50) rfl kk) (Dg.st (fun _ kk => XS.i2b X47.here hx rfl (hb hby d26_51) rfl kk) ?_)
  show Sh T47 52 #[vr b, vi ((ix <<< ((1 : Int32) &&& 31)) + (1 : Int32)), vi yy] [(.int ((yy >>> ((8 : Int32) &&& 31)).toInt8.toInt32)), (.int ((ix <<< ((1 : Int32) &&& 31)) + (1 : Int32))), .ref b]
  have Vc_b_52 := V_b_43
  obtain ⟨cl_b_52, Ar_b_52, q_b_52, S_b_52, N_b_52, H_b_52, G_b_52⟩ := Vc_b_52
  have hin52 : ¬ (((ix <<< ((1 : Int32) &&& 31)) + (1 : Int32)) < 0 ∨ cl_b_52.slots.size ≤ (((ix <<< ((1 : Int32) &&& 31)) + (1 : Int32))).toNatClampNeg) := inb_of S_b_52 hm1
  obtain ⟨T52, h52, X52, e52, W52, st52⟩ := stB X47 hx hZ e47 Ar_b_52 (j := ((ix <<< ((1 : Int32) &&& 31)) + (1 : Int32))) hin52 (g := (mkF m 52 #[vr b, vi ((ix <<< ((1 : Int32) &&& 31)) + (1 : Int32)), vi yy] [(.int ((yy >>> ((8 : Int32) &&& 31)).toInt8.toInt32)), (.int ((ix <<< ((1 : Int32) &&& 31)) + (1 : Int32))), .ref b])) rfl rfl (hb hby d26_52)
  have Wo52 := Wo43.wr W52 gb
  have V_b_52 := Arv.set Ar_b_52 q_b_52 S_b_52 N_b_52 H_b_52 G_b_52 (fits_nar_byte _) W52 _ rfl (by rw [List.length_set]; exact hl1)
  have K52 := K43.wr W52 (Or.inl (List.mem_of_getElem? (i := 0) rfl))
  have N52 := Fr.snoc X52 N43 gb
  have Z52 : n0 ≤ h52.size := Nat.le_trans Z43 (Keep.of_wr W52).1
  refine Dg.st st52 ?_
  exact Dg.ret0 X52 hlk hx hret (hb hby d26_53) (by rw [e52]; exact ⟨rfl, N52, K52, V_b_52⟩) (by decide) (by decide)

abbrev k21 := jdk_52_method_15_code
theorem d21_0 : Dc k21 0 (.iload_n 1) 1 := by decide +kernel
theorem d21_1 : Dc k21 1 (.aload_n 0) 1 := by decide +kernel
theorem d21_2 : Dc k21 2 (.arraylength) 1 := by decide +kernel
theorem d21_3 : Dc k21 3 (.isub) 1 := by decide +kernel
theorem d21_4 : Dc k21 4 (.bipush 31) 2 := by decide +kernel
theorem d21_6 : Dc k21 6 (.iushr) 1 := by decide +kernel
theorem d21_7 : Dc k21 7 (.i2b) 1 := by decide +kernel
theorem d21_8 : Dc k21 8 (.ireturn) 1 := by decide +kernel
def QCl (Z : State) (b : Addr) (nx : Int32) (kb : ClassId) (mm : Int32) (ls : List Value) (cd : Int32) (h0 : Heap) (n0 : Nat) (v : Option Value) (h : Heap) (L : List Loc) : Prop := v = some (.int cd) ∧ Fr n0 L ∧ h = h0
theorem rmCl (l : Launch) (Z : State) (a0 : Array Value) (hw : ∀ d ∈ tables_1, d.before a0 Z = true) (ws : List Jvm.Cond) (b : Addr) (nx : Int32) (kb : ClassId) (mm : Int32) (ls : List Value) (cd : Int32) (h0 : Heap) (n0 : Nat) (Z0 : n0 ≤ h0.size) (Vb : Arv Z h0 b kb .byte mm ls (.int 0)) (hcd : ((nx - mm).toUInt32 >>> ((31 : Int32) &&& 31).toUInt32).toInt32.toInt8.toInt32 = cd) (hnb : narrow .byte (.int cd) = .int cd) :
    own_Met l (⟨"java/lang/StringUTF16", "coderFromArrayLen", "([BI)B"⟩ : MethodName) (Jvm.Cond.code (⟨"java/lang/StringUTF16", "coderFromArrayLen", "([BI)B"⟩ : MethodName) jdk_52_method_15_code 2 (some .byte) :: ws) orm26 #[.ref b, .int nx] Z h0 (QCl Z b nx kb mm ls cd h0 n0) := by
  refine own_met (plainFor_of_name pn2) (fun m => ef_RI2 m b nx) ?_
  intro p e s m below meth c s₁ B hlk hret hml hZ hown hnm X0 e0
  have hx := B.1
  have hby := B.2
  have N0 := Fr.nil n0
  refine w_i X0 B d21_0 rfl (w_a X0 B d21_1 rfl rfl (w_al X0 B hZ e0 Vb d21_2 (Dg.st (fun _ kk => XS.isub X0.here hx rfl (hb hby d21_3) rfl kk) (Dg.st (fun _ kk => XS.bipush X0.here hx rfl (hb hby d21_4) kk) (Dg.st (fun _ kk => XS.iushr X0.here hx rfl (hb hby d21_6) rfl kk) (Dg.st (fun _ kk => XS.i2b X0.here hx rfl (hb hby d21_7) rfl kk) ?_))))))
  show Sh s₁ 8 #[vr b, vi nx] [(.int ((((nx - mm).toUInt32 >>> ((31 : Int32) &&& 31).toUInt32).toInt32).toInt8.toInt32))]
  rw [hcd]
  exact Dg.retI X0 hlk B hret hnb (Or.inr (Or.inr (Or.inl rfl))) d21_8 (by rw [e0]; exact ⟨rfl, N0, rfl⟩) (by decide)

abbrev k25 := jdk_52_method_3_code
theorem d25_0 : Dc k25 0 (.iload_n 0) 1 := by decide +kernel
theorem d25_1 : Dc k25 1 (.ifCond .ge 11) 3 := by decide +kernel
theorem d25_12 : Dc k25 12 (.iload_n 0) 1 := by decide +kernel
theorem d25_13 : Dc k25 13 (.ldc 20) 2 := by decide +kernel
theorem d25_15 : Dc k25 15 (.if_icmp .lt 40) 3 := by decide +kernel
theorem d25_55 : Dc k25 55 (.iload_n 0) 1 := by decide +kernel
theorem d25_56 : Dc k25 56 (.iconst 1) 1 := by decide +kernel
theorem d25_57 : Dc k25 57 (.ishl) 1 := by decide +kernel
theorem d25_58 : Dc k25 58 (.ireturn) 1 := by decide +kernel
theorem ef_I1 (m : MethodId) (x0 : Int32) : entryFrame m #[.int x0] 1 = mkF m 0 #[vi x0] [] := by first | (simp [entryFrame, mkF, argsToLocals, Value.category]; done) | rfl
def QNl1 (Z : State)  (h0 : Heap) (n0 : Nat) (v : Option Value) (h : Heap) (L : List Loc) : Prop := v = some (.int 2) ∧ Fr n0 L ∧ h = h0
theorem rmNl1 (l : Launch) (Z : State) (a0 : Array Value) (hw : ∀ d ∈ tables_1, d.before a0 Z = true) (ws : List Jvm.Cond)  (h0 : Heap) (n0 : Nat) (Z0 : n0 ≤ h0.size) :
    own_Met l on5 (Jvm.Cond.code on5 jdk_52_method_3_code 1 (some .int) :: ws) orm26 #[.int 1] Z h0 (QNl1 Z  h0 n0) := by
  refine own_met (plainFor_of_name pn2) (fun m => ef_I1 m (1 : Int32)) ?_
  intro p e s m below meth c s₁ B hlk hret hml hZ hown hnm X0 e0
  have hx := B.1
  have hby := B.2
  have N0 := Fr.nil n0
  refine w_i X0 B d25_0 rfl (w_t X0 B 1 12 rfl d25_1 (flt (by decide)).2.1 (by decide) (w_i X0 B d25_12 rfl (Dg.st (fun _ kk => X0.ldcInt hx hown (mvT hZ (tw hw 114 rfl)) (g := (mkF m 13 #[vi 1] [.int 1])) rfl (hb hby d25_13) _ kk) (w_y X0 B 15 55 rfl d25_15 (tlt (by decide)).1 (by decide) (w_i X0 B d25_55 rfl (w_c X0 B d25_56 (Dg.st (fun _ kk => XS.ishl X0.here hx rfl (hb hby d25_57) rfl kk) ?_)))))))
  show Sh s₁ 58 #[vi 1] [.int 2]
  exact Dg.retI X0 hlk B hret rfl (Or.inl rfl) d25_58 (by rw [e0]; exact ⟨rfl, N0, rfl⟩) (by decide)

abbrev k24 := jdk_52_method_2_code
theorem d24_0 : Dc k24 0 (.iload_n 0) 1 := by decide +kernel
theorem d24_1 : Dc k24 1 (.invokestatic 11) 3 := by decide +kernel
theorem d24_4 : Dc k24 4 (.newarray .byte) 2 := by decide +kernel
theorem d24_6 : Dc k24 6 (.areturn) 1 := by decide +kernel
theorem pd8 : parseMethodDescriptor "(I)I" = some ⟨[.int], some .int⟩ := by decide +kernel
def QNf1 (Z : State)  (h0 : Heap) (n0 : Nat) (v : Option Value) (h : Heap) (L : List Loc) : Prop := ∃ (b : Addr) (kb : ClassId), v = some (.ref b) ∧ h0.size ≤ b ∧ Fr n0 L ∧ Keep h0 h [] ∧ Arv Z h b kb .byte 2 [.int 0, .int 0] (.int 0)
theorem rmNf1 (l : Launch) (Z : State) (a0 : Array Value) (hw : ∀ d ∈ tables_1, d.before a0 Z = true) (ws : List Jvm.Cond)  (h0 : Heap) (n0 : Nat) (Z0 : n0 ≤ h0.size) :
    own_Met l on13 (Jvm.Cond.code on13 jdk_52_method_2_code 1 (some (.array .byte)) :: ws) ({ frames := 1, cells := 1, slots := 2, locals := 15 } : Room) #[.int 1] Z h0 (QNf1 Z  h0 n0) := by
  refine own_met (plainFor_of_name pn2) (fun m => ef_I1 m (1 : Int32)) ?_
  intro p e s m below meth c s₁ B hlk hret hml hZ hown hnm X0 e0
  have hx := B.1
  have hby := B.2
  have N0 := Fr.nil n0
  refine w_i X0 B d24_0 rfl ?_
  show Sh s₁ 1 #[vi 1] [.int 1]
  refine w_cs X0 B hZ hown hml (rmNl1 l Z a0 hw []  h0 n0 Z0 ) (tw hw 111 rfl) (tw hw 112 rfl) (tw hw 93 rfl) (tw hw 113 rfl) e0 d24_1 1 0 (lenOf pd8 rfl) rfl rfl rfl (by decide) ?_
  rintro _ T1 Lc1 X1 ⟨rfl, Nq1, hh1⟩
  have N1 := Fr.app N0 Nq1
  obtain ⟨T4, h4, k4, X4, e4, E4, A4, st4⟩ := newP X1 hx hZ (tw hw 21 rfl) hh1 (g := (mkF m 4 #[vi 1] [.int 2])) rfl (hb hby d24_4) rfl (by decide) (cap := 2) (by decide) (by decide) (by decide) (by decide)
  obtain ⟨b4, g4⟩ : ∃ z, z = h0.size := ⟨_, rfl⟩
  rw [← g4] at A4 st4
  have gz_b4 : h0.size ≤ b4 := Nat.le_trans (Keep.refl h0 []).1 (Nat.le_of_eq g4.symm)
  have K4 := (Keep.refl h0 []).ext E4
  have gn_b4 : n0 ≤ b4 := Nat.le_trans Z0 (Nat.le_of_eq g4.symm)
  have Z4 : n0 ≤ h4.size := Nat.le_trans Z0 E4.1
  have V_b4 : Arv Z h4 b4 k4 .byte (2 : Int32) [.int 0, .int 0] (.int 0) := (Arv.new A4 (by decide)).pad (pad_rep [] (.int 0) 2)
  refine Dg.st st4 ?_
  exact Dg.retA X4 hlk B hret rfl ⟨rfl, rfl⟩ d24_6 (by rw [e4]; exact ⟨b4, k4, rfl, gz_b4, N1, K4, V_b4⟩) (by decide)

abbrev k23 := jdk_52_method_14_code
theorem d23_0 : Dc k23 0 (.iload_n 2) 1 := by decide +kernel
theorem d23_1 : Dc k23 1 (.invokestatic 107) 3 := by decide +kernel
theorem d23_4 : Dc k23 4 (.astore_n 3) 1 := by decide +kernel
theorem d23_5 : Dc k23 5 (.iconst 0) 1 := by decide +kernel
theorem d23_6 : Dc k23 6 (.istore 4) 2 := by decide +kernel
theorem d23_8 : Dc k23 8 (.iload 4) 2 := by decide +kernel
theorem d23_10 : Dc k23 10 (.iload_n 2) 1 := by decide +kernel
theorem d23_11 : Dc k23 11 (.if_icmp .ge 21) 3 := by decide +kernel
theorem d23_14 : Dc k23 14 (.aload_n 3) 1 := by decide +kernel
theorem d23_15 : Dc k23 15 (.iload 4) 2 := by decide +kernel
theorem d23_17 : Dc k23 17 (.aload_n 0) 1 := by decide +kernel
theorem d23_18 : Dc k23 18 (.iload_n 1) 1 := by decide +kernel
theorem d23_19 : Dc k23 19 (.caload) 1 := by decide +kernel
theorem d23_20 : Dc k23 20 (.invokestatic 111) 3 := by decide +kernel
theorem d23_23 : Dc k23 23 (.iinc 1 1) 3 := by decide +kernel
theorem d23_26 : Dc k23 26 (.iinc 4 1) 3 := by decide +kernel
theorem d23_29 : Dc k23 29 (.goto (-21)) 3 := by decide +kernel
theorem d23_32 : Dc k23 32 (.aload_n 3) 1 := by decide +kernel
theorem d23_33 : Dc k23 33 (.areturn) 1 := by decide +kernel
theorem pd9 : parseMethodDescriptor "(I)[B" = some ⟨[.int], some (.array .byte)⟩ := by decide +kernel
theorem pd10 : parseMethodDescriptor "([BII)V" = some ⟨[(.array .byte), .int, .int], none⟩ := by decide +kernel
theorem ef_RII5 (m : MethodId) (x0 : Addr) (x1 : Int32) (x2 : Int32) : entryFrame m #[.ref x0, .int x1, .int x2] 5 = mkF m 0 #[vr x0, vi x1, vi x2, .unset, .unset] [] := by first | (simp [entryFrame, mkF, argsToLocals, Value.category]; done) | rfl
def QTb1 (Z : State) (a : Addr) (cs : Int32) (sf : Value) (ka : ClassId) (y0 : Int32) (h0 : Heap) (n0 : Nat) (v : Option Value) (h : Heap) (L : List Loc) : Prop := ∃ (b : Addr) (kb : ClassId), v = some (.ref b) ∧ h0.size ≤ b ∧ Fr n0 L ∧ Keep h0 h [] ∧ Arv Z h b kb .byte 2 [.int (own_lo y0), .int (own_hi y0)] (.int 0)
theorem rmTb1 (l : Launch) (Z : State) (a0 : Array Value) (hw : ∀ d ∈ tables_1, d.before a0 Z = true) (ws : List Jvm.Cond) (a : Addr) (cs : Int32) (sf : Value) (ka : ClassId) (y0 : Int32) (h0 : Heap) (n0 : Nat) (Z0 : n0 ≤ h0.size) (hW : own_W Z h0 n0 cs sf) (Va : Arv Z h0 a ka .char 1 [.int y0] (.int 0)) :
    own_Met l on15 (Jvm.Cond.code on15 jdk_52_method_14_code 5 (some (.array .byte)) :: ws) ({ frames := 2, cells := 1, slots := 2, locals := 30 } : Room) #[.ref a, .int 0, .int 1] Z h0 (QTb1 Z a cs sf ka y0 h0 n0) := by
  refine own_met (plainFor_of_name pn2) (fun m => ef_RII5 m a (0 : Int32) (1 : Int32)) ?_
  intro p e s m below meth c s₁ B hlk hret hml hZ hown hnm X0 e0
  have hx := B.1
  have hby := B.2
  have N0 := Fr.nil n0
  refine w_i X0 B d23_0 rfl ?_
  show Sh s₁ 1 #[vr a, vi 0, vi 1, .unset, .unset] [.int 1]
  refine w_cs X0 B hZ hown hml (rmNf1 l Z a0 hw []  h0 n0 Z0 ) (tw hw 108 rfl) (tw hw 109 rfl) (tw hw 93 rfl) (tw hw 110 rfl) e0 d23_1 1 0 (lenOf pd9 rfl) rfl rfl rfl (by decide) ?_
  rintro _ T1 Lc1 X1 ⟨bb1, kb1, rfl, gz1, Nq1, K1, V_bb1⟩
  have N1 := Fr.app N0 Nq1
  have ne_a_bb1 : a ≠ bb1 := Nat.ne_of_lt (Nat.lt_of_lt_of_le Va.lt gz1)
  have gn_bb1 : n0 ≤ bb1 := Nat.le_trans Z0 gz1
  have gz_bb1 : h0.size ≤ bb1 := Nat.le_trans (Keep.refl h0 []).1 gz1
  have Wo1 := hW.keep K1 own_k0
  have V_a_1 := Va.keep K1 nin0
  have Kt1 := Keep.trans (Keep.refl h0 []) K1 (by simp)
  have Z1 : n0 ≤ T1.heap.size := Nat.le_trans Z0 K1.1
  refine w_U X1 B d23_4 rfl #[vr a, vi 0, vi 1, vr bb1, .unset] rfl (w_c X1 B d23_5 (w_s X1 B d23_6 #[vr a, vi 0, vi 1, vr bb1, vi 0] rfl (w_j X1 B d23_8 rfl (w_i X1 B d23_10 rfl (w_n X1 B d23_11 (tlt (by decide)).2.1 (w_a X1 B d23_14 rfl rfl (w_j X1 B d23_15 rfl ?_)))))))
  show Sh T1 17 #[vr a, vi 0, vi 1, vr bb1, vi 0] [.int 0, .ref bb1]
  refine w_a X1 B d23_17 rfl rfl (w_i X1 B d23_18 rfl (w_ca X1 B hZ rfl V_a_1 (by decide) (v := (.int y0)) rfl d23_19 ?_))
  show Sh T1 20 #[vr a, vi 0, vi 1, vr bb1, vi 0] [.int y0, .int 0, .ref bb1]
  refine w_cs X1 B hZ hown hml (rmPu l Z a0 hw [] bb1 (0 : Int32) y0 cs sf _ _ _ T1.heap n0 Z1 Wo1 gn_bb1 V_bb1 (by decide) (by decide) (Nat.le_of_ble_eq_true rfl) (Nat.le_of_ble_eq_true rfl)) (tw hw 115 rfl) (tw hw 116 rfl) (tw hw 93 rfl) (tw hw 117 rfl) rfl d23_20 3 0 (lenOf pd10 rfl) rfl rfl rfl (by decide) ?_
  rintro _ T20 Lc20 X20 ⟨rfl, Nq20, K20, V20⟩
  have N20 := Fr.app N1 Nq20
  have Wo20 := Wo1.keep K20 (own_k1 gn_bb1)
  have V_a_20 := V_a_1.keep K20 (ninS ne_a_bb1 nin0)
  have Kt20 := Keep.trans Kt1 K20 (fun x hx => Or.inr ((List.mem_singleton.mp hx) ▸ gz_bb1))
  have Z20 : n0 ≤ T20.heap.size := Nat.le_trans Z1 K20.1
  refine w_p X20 B d23_23 rfl #[vr a, vi 1, vi 1, vr bb1, vi 0] rfl (w_p X20 B d23_26 rfl #[vr a, vi 1, vi 1, vr bb1, vi 1] rfl (w_g X20 B 29 8 rfl d23_29 (by decide) (w_j X20 B d23_8 rfl (w_i X20 B d23_10 rfl (w_y X20 B 11 32 rfl d23_11 (flt (by decide)).2.1 (by decide) (w_a X20 B d23_32 rfl rfl ?_))))))
  show Sh T20 33 #[vr a, vi 1, vi 1, vr bb1, vi 1] [.ref bb1]
  exact Dg.retA X20 hlk B hret rfl ⟨rfl, rfl⟩ d23_33 ⟨bb1, kb1, rfl, gz_bb1, N20, Kt20, V20⟩ (by decide)

abbrev k20 := jdk_52_method_21_code
theorem d20_0 : Dc k20 0 (.iconst 0) 1 := by decide +kernel
theorem d20_1 : Dc k20 1 (.istore 5) 2 := by decide +kernel
theorem d20_3 : Dc k20 3 (.iload 5) 2 := by decide +kernel
theorem d20_5 : Dc k20 5 (.iload 4) 2 := by decide +kernel
theorem d20_7 : Dc k20 7 (.if_icmp .ge 37) 3 := by decide +kernel
theorem d20_10 : Dc k20 10 (.aload_n 0) 1 := by decide +kernel
theorem d20_11 : Dc k20 11 (.iload_n 1) 1 := by decide +kernel
theorem d20_12 : Dc k20 12 (.caload) 1 := by decide +kernel
theorem d20_13 : Dc k20 13 (.istore 6) 2 := by decide +kernel
theorem d20_15 : Dc k20 15 (.iload 6) 2 := by decide +kernel
theorem d20_17 : Dc k20 17 (.sipush 255) 3 := by decide +kernel
theorem d20_20 : Dc k20 20 (.if_icmp .le 6) 3 := by decide +kernel
theorem d20_23 : Dc k20 23 (.iload 5) 2 := by decide +kernel
theorem d20_25 : Dc k20 25 (.ireturn) 1 := by decide +kernel
theorem d20_26 : Dc k20 26 (.aload_n 2) 1 := by decide +kernel
theorem d20_27 : Dc k20 27 (.iload_n 3) 1 := by decide +kernel
theorem d20_28 : Dc k20 28 (.iload 6) 2 := by decide +kernel
theorem d20_30 : Dc k20 30 (.i2b) 1 := by decide +kernel
theorem d20_31 : Dc k20 31 (.bastore) 1 := by decide +kernel
theorem d20_32 : Dc k20 32 (.iinc 1 1) 3 := by decide +kernel
theorem d20_35 : Dc k20 35 (.iinc 3 1) 3 := by decide +kernel
theorem d20_38 : Dc k20 38 (.iinc 5 1) 3 := by decide +kernel
theorem d20_41 : Dc k20 41 (.goto (-38)) 3 := by decide +kernel
theorem d20_44 : Dc k20 44 (.iload 4) 2 := by decide +kernel
theorem d20_46 : Dc k20 46 (.ireturn) 1 := by decide +kernel
theorem ef_RIRII7 (m : MethodId) (x0 : Addr) (x1 : Int32) (x2 : Addr) (x3 : Int32) (x4 : Int32) : entryFrame m #[.ref x0, .int x1, .ref x2, .int x3, .int x4] 7 = mkF m 0 #[vr x0, vi x1, vr x2, vi x3, vi x4, .unset, .unset] [] := by first | (simp [entryFrame, mkF, argsToLocals, Value.category]; done) | rfl
def QC5_1 (Z : State) (a : Addr) (b : Addr) (ka kb : ClassId) (y0 : Int32) (h0 : Heap) (n0 : Nat) (v : Option Value) (h : Heap) (L : List Loc) : Prop := Fr n0 L ∧ Keep h0 h [b] ∧ ((v = some (.int 0) ∧ 255 < y0.toInt) ∨ (v = some (.int 1) ∧ (y0.toInt ≤ 255 ∧ True) ∧ Arv Z h b kb .byte 1 [.int (own_b y0)] (.int 0)))
theorem rmC5_1 (l : Launch) (Z : State) (a0 : Array Value) (hw : ∀ d ∈ tables_1, d.before a0 Z = true) (ws : List Jvm.Cond) (a : Addr) (b : Addr) (ka kb : ClassId) (y0 : Int32) (h0 : Heap) (n0 : Nat) (Z0 : n0 ≤ h0.size) (Va : Arv Z h0 a ka .char 1 [.int y0] (.int 0)) (Vb : Arv Z h0 b kb .byte 1 [.int 0] (.int 0)) (gb : n0 ≤ b) (hne : a ≠ b) :
    own_Met l on14 (Jvm.Cond.code on14 jdk_52_method_21_code 7 (some .int) :: ws) orm26 #[.ref a, .int 0, .ref b, .int 0, .int 1] Z h0 (QC5_1 Z a b ka kb y0 h0 n0) := by
  refine own_met (plainFor_of_name pn2) (fun m => ef_RIRII7 m a (0 : Int32) b (0 : Int32) (1 : Int32)) ?_
  intro p e s m below meth c s₁ B hlk hret hml hZ hown hnm X0 e0
  have hx := B.1
  have hby := B.2
  have N0 := Fr.nil n0
  refine w_c X0 B d20_0 (w_s X0 B d20_1 #[vr a, vi 0, vr b, vi 0, vi 1, vi 0, .unset] rfl (w_j X0 B d20_3 rfl (w_j X0 B d20_5 rfl (w_n X0 B d20_7 (tlt (by decide)).2.1 (w_a X0 B d20_10 rfl rfl (w_i X0 B d20_11 rfl (w_ca X0 B hZ e0 Va (by decide) (v := (.int y0)) rfl d20_12 ?_)))))))
  show Sh s₁ 13 #[vr a, vi 0, vr b, vi 0, vi 1, vi 0, .unset] [.int y0]
  refine w_s X0 B d20_13 #[vr a, vi 0, vr b, vi 0, vi 1, vi 0, vi y0] rfl (w_j X0 B d20_15 rfl (w_d X0 B d20_17 ?_))
  show Sh s₁ 20 #[vr a, vi 0, vr b, vi 0, vi 1, vi 0, vi y0] [.int 255, .int y0]
  by_cases hc20 : (255 : Int32) < y0
  · have hi20 : 255 < y0.toInt := Int32.lt_iff_toInt_lt.mp hc20
    refine w_n X0 B d20_20 (tlt hc20).2.2.2 (w_j X0 B d20_23 rfl ?_)
    show Sh s₁ 25 #[vr a, vi 0, vr b, vi 0, vi 1, vi 0, vi y0] [.int 0]
    exact Dg.retI X0 hlk B hret rfl (Or.inl rfl) d20_25 (by rw [e0]; exact ⟨N0, (Keep.refl h0 [b]), (Or.inl ⟨rfl, hi20⟩)⟩) (by decide)
  · have hi20 : ¬ 255 < y0.toInt := fun qq => hc20 (Int32.lt_iff_toInt_lt.mpr qq)
    refine w_y X0 B 20 26 rfl d20_20 (flt hc20).2.2.2 (by decide) (w_a X0 B d20_26 rfl rfl (w_i X0 B d20_27 rfl (w_j X0 B d20_28 rfl (Dg.st (fun _ kk => XS.i2b X0.here hx rfl (hb hby d20_30) rfl kk) ?_))))
    show Sh s₁ 31 #[vr a, vi 0, vr b, vi 0, vi 1, vi 0, vi y0] [.int (y0.toInt8.toInt32), .int 0, .ref b]
    have Vc_b_31 := Vb
    obtain ⟨cl_b_31, Ar_b_31, q_b_31, S_b_31, N_b_31, H_b_31, G_b_31⟩ := Vc_b_31
    have hin31 : ¬ ((0 : Int32) < 0 ∨ cl_b_31.slots.size ≤ ((0 : Int32)).toNatClampNeg) := inb_of S_b_31 ⟨by decide, by decide⟩
    obtain ⟨T31, h31, X31, e31, W31, st31⟩ := stB X0 hx hZ e0 Ar_b_31 (j := (0 : Int32)) hin31 (g := (mkF m 31 #[vr a, vi 0, vr b, vi 0, vi 1, vi 0, vi y0] [.int (y0.toInt8.toInt32), .int 0, .ref b])) rfl rfl (hb hby d20_31)
    have V_a_31 := Va.other W31 hne
    have V_b_31 := Arv.set Ar_b_31 q_b_31 S_b_31 N_b_31 H_b_31 G_b_31 (fits_nar_byte _) W31 0 rfl (Nat.le_of_ble_eq_true rfl)
    have K31 := (Keep.refl h0 [b]).wr W31 (Or.inl (List.mem_of_getElem? (i := 0) rfl))
    have N31 := Fr.snoc X31 N0 gb
    have Z31 : n0 ≤ h31.size := Nat.le_trans Z0 (Keep.of_wr W31).1
    refine Dg.st st31 ?_
    refine w_p X31 B d20_32 rfl #[vr a, vi 1, vr b, vi 0, vi 1, vi 0, vi y0] rfl (w_p X31 B d20_35 rfl #[vr a, vi 1, vr b, vi 1, vi 1, vi 0, vi y0] rfl (w_p X31 B d20_38 rfl #[vr a, vi 1, vr b, vi 1, vi 1, vi 1, vi y0] rfl (w_g X31 B 41 3 rfl d20_41 (by decide) (w_j X31 B d20_3 rfl (w_j X31 B d20_5 rfl (w_y X31 B 7 44 rfl d20_7 (flt (by decide)).2.1 (by decide) (w_j X31 B d20_44 rfl ?_)))))))
    show Sh T31 46 #[vr a, vi 1, vr b, vi 1, vi 1, vi 1, vi y0] [.int 1]
    exact Dg.retI X31 hlk B hret rfl (Or.inl rfl) d20_46 (by rw [e31]; exact ⟨N31, K31, (Or.inr ⟨rfl, ⟨Int.not_lt.mp hi20, trivial⟩, V_b_31⟩)⟩) (by decide)

abbrev k19 := jdk_52_method_16_code
theorem d19_0 : Dc k19 0 (.iload_n 2) 1 := by decide +kernel
theorem d19_1 : Dc k19 1 (.newarray .byte) 2 := by decide +kernel
theorem d19_3 : Dc k19 3 (.astore_n 3) 1 := by decide +kernel
theorem d19_4 : Dc k19 4 (.aload_n 0) 1 := by decide +kernel
theorem d19_5 : Dc k19 5 (.iload_n 1) 1 := by decide +kernel
theorem d19_6 : Dc k19 6 (.aload_n 3) 1 := by decide +kernel
theorem d19_7 : Dc k19 7 (.iconst 0) 1 := by decide +kernel
theorem d19_8 : Dc k19 8 (.iload_n 2) 1 := by decide +kernel
theorem d19_9 : Dc k19 9 (.invokestatic 115) 3 := by decide +kernel
theorem d19_12 : Dc k19 12 (.istore 4) 2 := by decide +kernel
theorem d19_14 : Dc k19 14 (.iload 4) 2 := by decide +kernel
theorem d19_16 : Dc k19 16 (.iload_n 2) 1 := by decide +kernel
theorem d19_17 : Dc k19 17 (.if_icmp .eq 40) 3 := by decide +kernel
theorem d19_20 : Dc k19 20 (.aload_n 0) 1 := by decide +kernel
theorem d19_21 : Dc k19 21 (.iload_n 1) 1 := by decide +kernel
theorem d19_22 : Dc k19 22 (.iload_n 2) 1 := by decide +kernel
theorem d19_23 : Dc k19 23 (.invokestatic 119) 3 := by decide +kernel
theorem d19_26 : Dc k19 26 (.astore 5) 2 := by decide +kernel
theorem d19_28 : Dc k19 28 (.aload 5) 2 := by decide +kernel
theorem d19_30 : Dc k19 30 (.iload 4) 2 := by decide +kernel
theorem d19_32 : Dc k19 32 (.invokestatic 71) 3 := by decide +kernel
theorem d19_35 : Dc k19 35 (.sipush 255) 3 := by decide +kernel
theorem d19_38 : Dc k19 38 (.if_icmp .gt 16) 3 := by decide +kernel
theorem d19_54 : Dc k19 54 (.aload 5) 2 := by decide +kernel
theorem d19_56 : Dc k19 56 (.areturn) 1 := by decide +kernel
theorem d19_57 : Dc k19 57 (.aload_n 3) 1 := by decide +kernel
theorem d19_58 : Dc k19 58 (.areturn) 1 := by decide +kernel
theorem pd11 : parseMethodDescriptor "([CI[BII)I" = some ⟨[(.array .char), .int, (.array .byte), .int, .int], some .int⟩ := by decide +kernel
theorem pd12 : parseMethodDescriptor "([CII)[B" = some ⟨[(.array .char), .int, .int], some (.array .byte)⟩ := by decide +kernel
theorem ef_RII6 (m : MethodId) (x0 : Addr) (x1 : Int32) (x2 : Int32) : entryFrame m #[.ref x0, .int x1, .int x2] 6 = mkF m 0 #[vr x0, vi x1, vi x2, .unset, .unset, .unset] [] := by first | (simp [entryFrame, mkF, argsToLocals, Value.category]; done) | rfl
def QC3_1 (Z : State) (a : Addr) (cs : Int32) (sf : Value) (ka : ClassId) (y0 : Int32) (h0 : Heap) (n0 : Nat) (v : Option Value) (h : Heap) (L : List Loc) : Prop := ∃ (b : Addr) (kb : ClassId), v = some (.ref b) ∧ h0.size ≤ b ∧ Fr n0 L ∧ Keep h0 h [] ∧ ((Arv Z h b kb .byte 1 [.int (own_b y0)] (.int 0) ∧ (y0.toInt ≤ 255 ∧ True)) ∨ Arv Z h b kb .byte 2 [.int (own_lo y0), .int (own_hi y0)] (.int 0))
theorem rmC3_1 (l : Launch) (Z : State) (a0 : Array Value) (hw : ∀ d ∈ tables_1, d.before a0 Z = true) (ws : List Jvm.Cond) (a : Addr) (cs : Int32) (sf : Value) (ka : ClassId) (y0 : Int32) (h0 : Heap) (n0 : Nat) (Z0 : n0 ≤ h0.size) (hW : own_W Z h0 n0 cs sf) (Va : Arv Z h0 a ka .char 1 [.int y0] (.int 0)) (hr0 : 0 ≤ y0.toInt ∧ y0.toInt ≤ 65535) :
    own_Met l on12 (Jvm.Cond.code on12 jdk_52_method_16_code 6 (some (.array .byte)) :: ws) ({ frames := 3, cells := 2, slots := 3, locals := 49 } : Room) #[.ref a, .int 0, .int 1] Z h0 (QC3_1 Z a cs sf ka y0 h0 n0) := by
  refine own_met (plainFor_of_name pn2) (fun m => ef_RII6 m a (0 : Int32) (1 : Int32)) ?_
  intro p e s m below meth c s₁ B hlk hret hml hZ hown hnm X0 e0
  have hx := B.1
  have hby := B.2
  have N0 := Fr.nil n0
  refine w_i X0 B d19_0 rfl ?_
  show Sh s₁ 1 #[vr a, vi 0, vi 1, .unset, .unset, .unset] [.int 1]
  obtain ⟨T1, h1, k1, X1, e1, E1, A1, st1⟩ := newP X0 hx hZ (tw hw 21 rfl) e0 (g := (mkF m 1 #[vr a, vi 0, vi 1, .unset, .unset, .unset] [.int 1])) rfl (hb hby d19_1) rfl (by decide) (cap := 1) (by decide) (by decide) (by decide) (by decide)
  obtain ⟨b1, g1⟩ : ∃ z, z = h0.size := ⟨_, rfl⟩
  rw [← g1] at A1 st1
  have ne_a_b1 : a ≠ b1 := Nat.ne_of_lt (Nat.lt_of_lt_of_le Va.lt (Nat.le_of_eq g1.symm))
  have gz_b1 : h0.size ≤ b1 := Nat.le_trans (Keep.refl h0 []).1 (Nat.le_of_eq g1.symm)
  have V_a_1 := Va.ext E1
  have K1 := (Keep.refl h0 []).ext E1
  have Wo1 := hW.ext E1
  have gn_b1 : n0 ≤ b1 := Nat.le_trans Z0 (Nat.le_of_eq g1.symm)
  have Z1 : n0 ≤ h1.size := Nat.le_trans Z0 E1.1
  have V_b1 : Arv Z h1 b1 k1 .byte (1 : Int32) [.int 0] (.int 0) := (Arv.new A1 (by decide)).pad (pad_rep [] (.int 0) 1)
  refine Dg.st st1 ?_
  refine w_U X1 B d19_3 rfl #[vr a, vi 0, vi 1, vr b1, .unset, .unset] rfl (w_a X1 B d19_4 rfl rfl (w_i X1 B d19_5 rfl (w_a X1 B d19_6 rfl rfl (w_c X1 B d19_7 (w_i X1 B d19_8 rfl ?_)))))
  show Sh T1 9 #[vr a, vi 0, vi 1, vr b1, .unset, .unset] [.int 1, .int 0, .ref b1, .int 0, .ref a]
  refine w_cs X1 B hZ hown hml (rmC5_1 l Z a0 hw [] a b1 ka k1 y0 h1 n0 Z1 V_a_1 V_b1 gn_b1 ne_a_b1) (tw hw 95 rfl) (tw hw 96 rfl) (tw hw 93 rfl) (tw hw 97 rfl) e1 d19_9 5 0 (lenOf pd11 rfl) rfl rfl rfl (by decide) ?_
  rintro _ T9 Lc9 X9 ⟨Nq9, K9, hq9⟩
  have N9 := Fr.app N0 Nq9
  have Wo9 := Wo1.keep K9 (own_k1 gn_b1)
  have V_a_9 := V_a_1.keep K9 (ninS ne_a_b1 nin0)
  have Kt9 := Keep.trans K1 K9 (fun x hx => Or.inr ((List.mem_singleton.mp hx) ▸ gz_b1))
  have Z9 : n0 ≤ T9.heap.size := Nat.le_trans Z1 K9.1
  rcases hq9 with ⟨rfl, gt9⟩ | ⟨rfl, hp9, VL9⟩
  · refine w_s X9 B d19_12 #[vr a, vi 0, vi 1, vr b1, vi 0, .unset] rfl (w_j X9 B d19_14 rfl (w_i X9 B d19_16 rfl (w_n X9 B d19_17 (feq (by decide)).1 (w_a X9 B d19_20 rfl rfl (w_i X9 B d19_21 rfl (w_i X9 B d19_22 rfl ?_))))))
    show Sh T9 23 #[vr a, vi 0, vi 1, vr b1, vi 0, .unset] [.int 1, .int 0, .ref a]
    refine w_cs X9 B hZ hown hml (rmTb1 l Z a0 hw [] a cs sf ka y0 T9.heap n0 Z9 Wo9 V_a_9) (tw hw 105 rfl) (tw hw 106 rfl) (tw hw 93 rfl) (tw hw 107 rfl) rfl d19_23 3 0 (lenOf pd12 rfl) rfl rfl rfl (by decide) ?_
    rintro _ T23 Lc23 X23 ⟨bb23, kb23, rfl, gz23, Nq23, K23, V_bb23⟩
    have N23 := Fr.app N9 Nq23
    have ne_a_bb23 : a ≠ bb23 := Nat.ne_of_lt (Nat.lt_of_lt_of_le V_a_9.lt gz23)
    have gn_bb23 : n0 ≤ bb23 := Nat.le_trans Z9 gz23
    have gz_bb23 : h0.size ≤ bb23 := Nat.le_trans Kt9.1 gz23
    have Wo23 := Wo9.keep K23 own_k0
    have V_a_23 := V_a_9.keep K23 nin0
    have Kt23 := Keep.trans Kt9 K23 (by simp)
    have Z23 : n0 ≤ T23.heap.size := Nat.le_trans Z9 K23.1
    refine w_u X23 B d19_26 rfl #[vr a, vi 0, vi 1, vr b1, vi 0, vr bb23] rfl (w_k X23 B d19_28 rfl rfl (w_j X23 B d19_30 rfl ?_))
    show Sh T23 32 #[vr a, vi 0, vi 1, vr b1, vi 0, vr bb23] [.int 0, .ref bb23]
    refine w_cs X23 B hZ hown hml (rmGc l Z a0 hw [] bb23 (0 : Int32) cs sf _ _ _ y0 T23.heap n0 Z23 Wo23 V_bb23 (by decide) (by decide) rfl rfl hr0.1 hr0.2) (tw hw 121 rfl) (tw hw 122 rfl) (tw hw 93 rfl) (tw hw 123 rfl) rfl d19_32 2 0 (lenOf pd6 rfl) rfl rfl rfl (by decide) ?_
    rintro _ T32 Lc32 X32 ⟨rfl, Nq32, hh32⟩
    have N32 := Fr.app N23 Nq32
    refine w_d X32 B d19_35 ?_
    show Sh T32 38 #[vr a, vi 0, vi 1, vr b1, vi 0, vr bb23] [.int 255, .int y0]
    have hc38 : (255 : Int32) < y0 := (Int32.lt_iff_toInt_lt.mpr gt9)
    refine w_y X32 B 38 54 rfl d19_38 (tlt hc38).2.2.1 (by decide) (w_k X32 B d19_54 rfl rfl ?_)
    show Sh T32 56 #[vr a, vi 0, vi 1, vr b1, vi 0, vr bb23] [.ref bb23]
    exact Dg.retA X32 hlk B hret rfl ⟨rfl, rfl⟩ d19_56 (by rw [hh32]; exact ⟨bb23, kb23, rfl, gz_bb23, N32, Kt23, Or.inr V_bb23⟩) (by decide)
  · refine w_s X9 B d19_12 #[vr a, vi 0, vi 1, vr b1, vi 1, .unset] rfl (w_j X9 B d19_14 rfl (w_i X9 B d19_16 rfl (w_y X9 B 17 57 rfl d19_17 (teq (by decide)).1 (by decide) (w_a X9 B d19_57 rfl rfl ?_))))
    show Sh T9 58 #[vr a, vi 0, vi 1, vr b1, vi 1, .unset] [.ref b1]
    exact Dg.retA X9 hlk B hret rfl ⟨rfl, rfl⟩ d19_58 ⟨b1, k1, rfl, gz_b1, N9, Kt9, Or.inl ⟨VL9, hp9⟩⟩ (by decide)

theorem d3_27 : Dc k3 27 (.getstatic 38) 3 := by decide +kernel
theorem d3_30 : Dc k3 30 (.ifCond .eq 28) 3 := by decide +kernel
theorem d3_33 : Dc k3 33 (.aload_n 1) 1 := by decide +kernel
theorem d3_34 : Dc k3 34 (.iload_n 2) 1 := by decide +kernel
theorem d3_35 : Dc k3 35 (.iload_n 3) 1 := by decide +kernel
theorem d3_36 : Dc k3 36 (.invokestatic 177) 3 := by decide +kernel
theorem d3_39 : Dc k3 39 (.astore 5) 2 := by decide +kernel
theorem d3_41 : Dc k3 41 (.aload_n 0) 1 := by decide +kernel
theorem d3_42 : Dc k3 42 (.aload 5) 2 := by decide +kernel
theorem d3_44 : Dc k3 44 (.iload_n 3) 1 := by decide +kernel
theorem d3_45 : Dc k3 45 (.invokestatic 47) 3 := by decide +kernel
theorem d3_48 : Dc k3 48 (.putfield 15) 3 := by decide +kernel
theorem d3_51 : Dc k3 51 (.aload_n 0) 1 := by decide +kernel
theorem d3_52 : Dc k3 52 (.aload 5) 2 := by decide +kernel
theorem d3_54 : Dc k3 54 (.putfield 9) 3 := by decide +kernel
theorem d3_57 : Dc k3 57 (.return_) 1 := by decide +kernel
theorem pd13 : parseMethodDescriptor "([BI)B" = some ⟨[(.array .byte), .int], some .byte⟩ := by decide +kernel
def QVc1 (Z : State) (a : Addr) (ar : Addr) (cs : Int32) (sf : Value) (ka : ClassId) (y0 : Int32) (h0 : Heap) (n0 : Nat) (v : Option Value) (h : Heap) (L : List Loc) : Prop := v = none ∧ Fr n0 L ∧ Keep h0 h [a] ∧ own_Str Z h a 1 2 [.int (own_b y0)] [.int (own_lo y0), .int (own_hi y0)] (y0.toInt ≤ 255 ∧ True)
theorem rmVc1 (l : Launch) (Z : State) (a0 : Array Value) (hw : ∀ d ∈ tables_1, d.before a0 Z = true) (ws : List Jvm.Cond) (a : Addr) (ar : Addr) (cs : Int32) (sf : Value) (ka : ClassId) (y0 : Int32) (h0 : Heap) (n0 : Nat) (Z0 : n0 ≤ h0.size) (hW : own_W Z h0 n0 cs sf) (ga : n0 ≤ a) (Ea : Exa Z h0 a "java/lang/String") (Fc : Fld Z h0 a "java/lang/String" "coder" "B" (.int 0)) (Fv : Fld Z h0 a "java/lang/String" "value" "[B" .null) (Vr : Arv Z h0 ar ka .char 1 [.int y0] (.int 0)) (hne : a ≠ ar) (hr0 : 0 ≤ y0.toInt ∧ y0.toInt ≤ 65535) :
    own_Met l on4 (Jvm.Cond.code on4 jdk_42_method_149_code 6 none :: ws) ({ frames := 4, cells := 2, slots := 3, locals := 69 } : Room) #[.ref a, .ref ar, .int 0, .int 1, .null] Z h0 (QVc1 Z a ar cs sf ka y0 h0 n0) := by
  refine own_met (plainFor_of_name pn0) (fun m => ef_RRIIN6 m a ar (0 : Int32) (1 : Int32)) ?_
  intro p e s m below meth c s₁ B hlk hret hml hZ hown hnm X0 e0
  have hx := B.1
  have hby := B.2
  have N0 := Fr.nil n0
  refine w_a X0 B d3_0 rfl rfl ?_
  show Sh s₁ 1 #[vr a, vr ar, vi 0, vi 1, .val .null, .unset] [.ref a]
  obtain ⟨T1, X1, e1, st1⟩ := initO X0 hx hZ hown (tw hw 17 rfl) (tw hw 18 rfl) (tw hw 19 rfl) e0 (g := (mkF m 1 #[vr a, vr ar, vi 0, vi 1, .val .null, .unset] [.ref a])) rfl (by rw [hml]; rfl) rfl (hb hby d3_1) (by decide) (W := 0) (by show 2 * 0 + _ ≤ _; exact Nat.le_of_eq rfl) (by decide)
  refine Dg.st st1 ?_
  refine w_i X1 B d3_4 rfl (w_t X1 B 5 27 rfl d3_5 (feq (by decide)).2 (by decide) ?_)
  show Sh T1 27 #[vr a, vr ar, vi 0, vi 1, .val .null, .unset] []
  refine w_gs X1 B hZ hown (tw hw 47 rfl) Via.refl e1 hW.cst d3_27 ?_
  intro T27 X27 e27
  have hc30 : ¬ (cs = (0 : Int32)) := hW.cne
  refine w_f X27 B d3_30 (feq hc30).1 (w_a X27 B d3_33 rfl rfl (w_i X27 B d3_34 rfl (w_i X27 B d3_35 rfl ?_)))
  show Sh T27 36 #[vr a, vr ar, vi 0, vi 1, .val .null, .unset] [.int 1, .int 0, .ref ar]
  refine w_cs X27 B hZ hown hml (rmC3_1 l Z a0 hw [] ar cs sf ka y0 h0 n0 Z0 hW Vr hr0) (tw hw 91 rfl) (tw hw 92 rfl) (tw hw 93 rfl) (tw hw 94 rfl) e27 d3_36 3 0 (lenOf pd12 rfl) rfl rfl rfl (by decide) ?_
  rintro _ T36 Lc36 X36 ⟨bb36, kb36, rfl, gz36, Nq36, K36, hq36⟩
  have N36 := Fr.app N0 Nq36
  have ne_a_bb36 : a ≠ bb36 := Nat.ne_of_lt (Nat.lt_of_lt_of_le Ea.lt gz36)
  have ne_ar_bb36 : ar ≠ bb36 := Nat.ne_of_lt (Nat.lt_of_lt_of_le Vr.lt gz36)
  have gn_bb36 : n0 ≤ bb36 := Nat.le_trans Z0 gz36
  have gz_bb36 : h0.size ≤ bb36 := Nat.le_trans (Keep.refl h0 [a]).1 gz36
  have Wo36 := hW.keep K36 own_k0
  have E_a_36 := Ea.keep K36
  have F_a_coder_36 := Fc.keep K36 nin0
  have F_a_value_36 := Fv.keep K36 nin0
  have V_ar_36 := Vr.keep K36 nin0
  have Kt36 := Keep.trans (Keep.refl h0 [a]) K36 (by simp)
  have Z36 : n0 ≤ T36.heap.size := Nat.le_trans Z0 K36.1
  rcases hq36 with ⟨VL36, hp36⟩ | VU36
  · refine w_u X36 B d3_39 rfl #[vr a, vr ar, vi 0, vi 1, .val .null, vr bb36] rfl (w_a X36 B d3_41 rfl rfl (w_k X36 B d3_42 rfl rfl (w_i X36 B d3_44 rfl ?_)))
    show Sh T36 45 #[vr a, vr ar, vi 0, vi 1, .val .null, vr bb36] [.int 1, .ref bb36, .ref a]
    refine w_cs X36 B hZ hown hml (rmCl l Z a0 hw [] bb36 (1 : Int32) _ _ _ 0 T36.heap n0 Z36 VL36 (by decide) rfl) (tw hw 98 rfl) (tw hw 99 rfl) (tw hw 93 rfl) (tw hw 100 rfl) rfl d3_45 2 1 (lenOf pd13 rfl) rfl rfl rfl (by decide) ?_
    rintro _ T45 Lc45 X45 ⟨rfl, Nq45, hh45⟩
    have N45 := Fr.app N36 Nq45
    obtain ⟨T48, h48, X48, e48, W48, st48⟩ := putF X45 hx hZ hown (host := "") (Or.inl (tw hw 27 rfl)) Via.refl hh45 F_a_coder_36 E_a_36 (Or.inr ⟨(tw hw 23 rfl), rfl, hnm⟩) (tw hw 8 rfl) (ty := .byte) (by decide) rfl rfl (g := (mkF m 48 #[vr a, vr ar, vi 0, vi 1, .val .null, vr bb36] [.int 0, .ref a])) rfl rfl (hb hby d3_48)
    have Wo48 := Wo36.wr W48 ga
    have E_a_48 := E_a_36.wr W48
    have F_a_value_48 := F_a_value_36.other W48 (Or.inr (slot_ne (Or.inr (tw hw 22 rfl)) (Or.inr (tw hw 23 rfl)) (by decide) (t := (.array .byte)) (t' := .byte) (by decide) (by decide)))
    have V_ar_48 := V_ar_36.other W48 (Ne.symm hne)
    have V_bb36_48 := VL36.other W48 (Ne.symm ne_a_bb36)
    have F_a_coder_48 := F_a_coder_36.same W48
    have K48 := Kt36.wr W48 (Or.inl (List.mem_of_getElem? (i := 0) rfl))
    have N48 := Fr.snoc X48 N45 ga
    have Z48 : n0 ≤ h48.size := Nat.le_trans Z36 (Keep.of_wr W48).1
    refine Dg.st st48 ?_
    refine w_a X48 B d3_51 rfl rfl (w_k X48 B d3_52 rfl rfl ?_)
    show Sh T48 54 #[vr a, vr ar, vi 0, vi 1, .val .null, vr bb36] [.ref bb36, .ref a]
    obtain ⟨T54, h54, X54, e54, W54, st54⟩ := putF X48 hx hZ hown (host := "") (Or.inl (tw hw 26 rfl)) Via.refl e48 F_a_value_48 E_a_48 (Or.inr ⟨(tw hw 22 rfl), rfl, hnm⟩) (tw hw 8 rfl) (ty := (.array .byte)) (by decide) rfl rfl (g := (mkF m 54 #[vr a, vr ar, vi 0, vi 1, .val .null, vr bb36] [.ref bb36, .ref a])) rfl rfl (hb hby d3_54)
    have Wo54 := Wo48.wr W54 ga
    have E_a_54 := E_a_48.wr W54
    have F_a_coder_54 := F_a_coder_48.other W54 (Or.inr (slot_ne (Or.inr (tw hw 23 rfl)) (Or.inr (tw hw 22 rfl)) (by decide) (t := .byte) (t' := (.array .byte)) (by decide) (by decide)))
    have V_ar_54 := V_ar_48.other W54 (Ne.symm hne)
    have V_bb36_54 := V_bb36_48.other W54 (Ne.symm ne_a_bb36)
    have F_a_value_54 := F_a_value_48.same W54
    have K54 := K48.wr W54 (Or.inl (List.mem_of_getElem? (i := 0) rfl))
    have N54 := Fr.snoc X54 N48 ga
    have Z54 : n0 ≤ h54.size := Nat.le_trans Z48 (Keep.of_wr W54).1
    refine Dg.st st54 ?_
    exact Dg.ret0 X54 hlk hx hret (hb hby d3_57) (by rw [e54]; exact ⟨rfl, N54, K54, E_a_54, Or.inl ⟨bb36, kb36, F_a_coder_54, F_a_value_54, V_bb36_54, hp36⟩⟩) (by decide) (by decide)
  · refine w_u X36 B d3_39 rfl #[vr a, vr ar, vi 0, vi 1, .val .null, vr bb36] rfl (w_a X36 B d3_41 rfl rfl (w_k X36 B d3_42 rfl rfl (w_i X36 B d3_44 rfl ?_)))
    show Sh T36 45 #[vr a, vr ar, vi 0, vi 1, .val .null, vr bb36] [.int 1, .ref bb36, .ref a]
    refine w_cs X36 B hZ hown hml (rmCl l Z a0 hw [] bb36 (1 : Int32) _ _ _ 1 T36.heap n0 Z36 VU36 (by decide) rfl) (tw hw 98 rfl) (tw hw 99 rfl) (tw hw 93 rfl) (tw hw 100 rfl) rfl d3_45 2 1 (lenOf pd13 rfl) rfl rfl rfl (by decide) ?_
    rintro _ T45 Lc45 X45 ⟨rfl, Nq45, hh45⟩
    have N45 := Fr.app N36 Nq45
    obtain ⟨T48, h48, X48, e48, W48, st48⟩ := putF X45 hx hZ hown (host := "") (Or.inl (tw hw 27 rfl)) Via.refl hh45 F_a_coder_36 E_a_36 (Or.inr ⟨(tw hw 23 rfl), rfl, hnm⟩) (tw hw 8 rfl) (ty := .byte) (by decide) rfl rfl (g := (mkF m 48 #[vr a, vr ar, vi 0, vi 1, .val .null, vr bb36] [.int 1, .ref a])) rfl rfl (hb hby d3_48)
    have Wo48 := Wo36.wr W48 ga
    have E_a_48 := E_a_36.wr W48
    have F_a_value_48 := F_a_value_36.other W48 (Or.inr (slot_ne (Or.inr (tw hw 22 rfl)) (Or.inr (tw hw 23 rfl)) (by decide) (t := (.array .byte)) (t' := .byte) (by decide) (by decide)))
    have V_ar_48 := V_ar_36.other W48 (Ne.symm hne)
    have V_bb36_48 := VU36.other W48 (Ne.symm ne_a_bb36)
    have F_a_coder_48 := F_a_coder_36.same W48
    have K48 := Kt36.wr W48 (Or.inl (List.mem_of_getElem? (i := 0) rfl))
    have N48 := Fr.snoc X48 N45 ga
    have Z48 : n0 ≤ h48.size := Nat.le_trans Z36 (Keep.of_wr W48).1
    refine Dg.st st48 ?_
    refine w_a X48 B d3_51 rfl rfl (w_k X48 B d3_52 rfl rfl ?_)
    show Sh T48 54 #[vr a, vr ar, vi 0, vi 1, .val .null, vr bb36] [.ref bb36, .ref a]
    obtain ⟨T54, h54, X54, e54, W54, st54⟩ := putF X48 hx hZ hown (host := "") (Or.inl (tw hw 26 rfl)) Via.refl e48 F_a_value_48 E_a_48 (Or.inr ⟨(tw hw 22 rfl), rfl, hnm⟩) (tw hw 8 rfl) (ty := (.array .byte)) (by decide) rfl rfl (g := (mkF m 54 #[vr a, vr ar, vi 0, vi 1, .val .null, vr bb36] [.ref bb36, .ref a])) rfl rfl (hb hby d3_54)
    have Wo54 := Wo48.wr W54 ga
    have E_a_54 := E_a_48.wr W54
    have F_a_coder_54 := F_a_coder_48.other W54 (Or.inr (slot_ne (Or.inr (tw hw 23 rfl)) (Or.inr (tw hw 22 rfl)) (by decide) (t := .byte) (t' := (.array .byte)) (by decide) (by decide)))
    have V_ar_54 := V_ar_48.other W54 (Ne.symm hne)
    have V_bb36_54 := V_bb36_48.other W54 (Ne.symm ne_a_bb36)
    have F_a_value_54 := F_a_value_48.same W54
    have K54 := K48.wr W54 (Or.inl (List.mem_of_getElem? (i := 0) rfl))
    have N54 := Fr.snoc X54 N48 ga
    have Z54 : n0 ≤ h54.size := Nat.le_trans Z48 (Keep.of_wr W54).1
    refine Dg.st st54 ?_
    exact Dg.ret0 X54 hlk hx hret (hb hby d3_57) (by rw [e54]; exact ⟨rfl, N54, K54, E_a_54, Or.inr ⟨bb36, kb36, F_a_coder_54, F_a_value_54, V_bb36_54⟩⟩) (by decide) (by decide)

def QSc1 (Z : State) (a : Addr) (ar : Addr) (cs : Int32) (sf : Value) (ka : ClassId) (y0 : Int32) (h0 : Heap) (n0 : Nat) (v : Option Value) (h : Heap) (L : List Loc) : Prop := v = none ∧ Fr n0 L ∧ Keep h0 h [a] ∧ own_Str Z h a 1 2 [.int (own_b y0)] [.int (own_lo y0), .int (own_hi y0)] (y0.toInt ≤ 255 ∧ True)
theorem rmSc1 (l : Launch) (Z : State) (a0 : Array Value) (hw : ∀ d ∈ tables_1, d.before a0 Z = true) (ws : List Jvm.Cond) (a : Addr) (ar : Addr) (cs : Int32) (sf : Value) (ka : ClassId) (y0 : Int32) (h0 : Heap) (n0 : Nat) (Z0 : n0 ≤ h0.size) (hW : own_W Z h0 n0 cs sf) (ga : n0 ≤ a) (Ea : Exa Z h0 a "java/lang/String") (Fc : Fld Z h0 a "java/lang/String" "coder" "B" (.int 0)) (Fv : Fld Z h0 a "java/lang/String" "value" "[B" .null) (Vr : Arv Z h0 ar ka .char 1 [.int y0] (.int 0)) (hne : a ≠ ar) (hr0 : 0 ≤ y0.toInt ∧ y0.toInt ≤ 65535) :
    own_Met l on3 (Jvm.Cond.code on3 jdk_42_method_3_code 2 none :: ws) ({ frames := 5, cells := 2, slots := 3, locals := 89 } : Room) #[.ref a, .ref ar] Z h0 (QSc1 Z a ar cs sf ka y0 h0 n0) := by
  refine own_met (plainFor_of_name pn0) (fun m => ef_RR2 m a ar) ?_
  intro p e s m below meth c s₁ B hlk hret hml hZ hown hnm X0 e0
  have hx := B.1
  have hby := B.2
  have N0 := Fr.nil n0
  refine w_a X0 B d2_0 rfl rfl (w_a X0 B d2_1 rfl rfl (w_c X0 B d2_2 (w_a X0 B d2_3 rfl rfl (w_al X0 B hZ e0 Vr d2_4 (Dg.st (fun _ kk => XS.aconstNull X0.here hx rfl (hb hby d2_5) kk) ?_)))))
  show Sh s₁ 6 #[vr a, vr ar] [.null, .int 1, .int 0, .ref ar, .ref a]
  refine w_ci X0 B hZ hown hml (rmVc1 l Z a0 hw [] a ar cs sf ka y0 h0 n0 Z0 hW ga Ea Fc Fv Vr hne hr0) (tw hw 13 rfl) (tw hw 14 rfl) (tw hw 9 rfl) (tw hw 16 rfl) e0 d2_6 4 0 rfl (lenOf pd0 rfl) rfl rfl rfl rfl (by decide) ?_
  rintro _ T6 Lc6 X6 ⟨rfl, Nq6, K6, S6⟩
  have N6 := Fr.app N0 Nq6
  exact Dg.ret0 X6 hlk hx hret (hb hby d2_9) ⟨rfl, N6, K6, S6⟩ (by decide) (by decide)

def QNl2 (Z : State)  (h0 : Heap) (n0 : Nat) (v : Option Value) (h : Heap) (L : List Loc) : Prop := v = some (.int 4) ∧ Fr n0 L ∧ h = h0
theorem rmNl2 (l : Launch) (Z : State) (a0 : Array Value) (hw : ∀ d ∈ tables_1, d.before a0 Z = true) (ws : List Jvm.Cond)  (h0 : Heap) (n0 : Nat) (Z0 : n0 ≤ h0.size) :
    own_Met l on5 (Jvm.Cond.code on5 jdk_52_method_3_code 1 (some .int) :: ws) orm26 #[.int 2] Z h0 (QNl2 Z  h0 n0) := by
  refine own_met (plainFor_of_name pn2) (fun m => ef_I1 m (2 : Int32)) ?_
  intro p e s m below meth c s₁ B hlk hret hml hZ hown hnm X0 e0
  have hx := B.1
  have hby := B.2
  have N0 := Fr.nil n0
  refine w_i X0 B d25_0 rfl (w_t X0 B 1 12 rfl d25_1 (flt (by decide)).2.1 (by decide) (w_i X0 B d25_12 rfl (Dg.st (fun _ kk => X0.ldcInt hx hown (mvT hZ (tw hw 114 rfl)) (g := (mkF m 13 #[vi 2] [.int 2])) rfl (hb hby d25_13) _ kk) (w_y X0 B 15 55 rfl d25_15 (tlt (by decide)).1 (by decide) (w_i X0 B d25_55 rfl (w_c X0 B d25_56 (Dg.st (fun _ kk => XS.ishl X0.here hx rfl (hb hby d25_57) rfl kk) ?_)))))))
  show Sh s₁ 58 #[vi 2] [.int 4]
  exact Dg.retI X0 hlk B hret rfl (Or.inl rfl) d25_58 (by rw [e0]; exact ⟨rfl, N0, rfl⟩) (by decide)

def QNf2 (Z : State)  (h0 : Heap) (n0 : Nat) (v : Option Value) (h : Heap) (L : List Loc) : Prop := ∃ (b : Addr) (kb : ClassId), v = some (.ref b) ∧ h0.size ≤ b ∧ Fr n0 L ∧ Keep h0 h [] ∧ Arv Z h b kb .byte 4 [.int 0, .int 0, .int 0, .int 0] (.int 0)
theorem rmNf2 (l : Launch) (Z : State) (a0 : Array Value) (hw : ∀ d ∈ tables_1, d.before a0 Z = true) (ws : List Jvm.Cond)  (h0 : Heap) (n0 : Nat) (Z0 : n0 ≤ h0.size) :
    own_Met l on13 (Jvm.Cond.code on13 jdk_52_method_2_code 1 (some (.array .byte)) :: ws) ({ frames := 1, cells := 1, slots := 4, locals := 15 } : Room) #[.int 2] Z h0 (QNf2 Z  h0 n0) := by
  refine own_met (plainFor_of_name pn2) (fun m => ef_I1 m (2 : Int32)) ?_
  intro p e s m below meth c s₁ B hlk hret hml hZ hown hnm X0 e0
  have hx := B.1
  have hby := B.2
  have N0 := Fr.nil n0
  refine w_i X0 B d24_0 rfl ?_
  show Sh s₁ 1 #[vi 2] [.int 2]
  refine w_cs X0 B hZ hown hml (rmNl2 l Z a0 hw []  h0 n0 Z0 ) (tw hw 111 rfl) (tw hw 112 rfl) (tw hw 93 rfl) (tw hw 113 rfl) e0 d24_1 1 0 (lenOf pd8 rfl) rfl rfl rfl (by decide) ?_
  rintro _ T1 Lc1 X1 ⟨rfl, Nq1, hh1⟩
  have N1 := Fr.app N0 Nq1
  obtain ⟨T4, h4, k4, X4, e4, E4, A4, st4⟩ := newP X1 hx hZ (tw hw 21 rfl) hh1 (g := (mkF m 4 #[vi 2] [.int 4])) rfl (hb hby d24_4) rfl (by decide) (cap := 4) (by decide) (by decide) (by decide) (by decide)
  obtain ⟨b4, g4⟩ : ∃ z, z = h0.size := ⟨_, rfl⟩
  rw [← g4] at A4 st4
  have gz_b4 : h0.size ≤ b4 := Nat.le_trans (Keep.refl h0 []).1 (Nat.le_of_eq g4.symm)
  have K4 := (Keep.refl h0 []).ext E4
  have gn_b4 : n0 ≤ b4 := Nat.le_trans Z0 (Nat.le_of_eq g4.symm)
  have Z4 : n0 ≤ h4.size := Nat.le_trans Z0 E4.1
  have V_b4 : Arv Z h4 b4 k4 .byte (4 : Int32) [.int 0, .int 0, .int 0, .int 0] (.int 0) := (Arv.new A4 (by decide)).pad (pad_rep [] (.int 0) 4)
  refine Dg.st st4 ?_
  exact Dg.retA X4 hlk B hret rfl ⟨rfl, rfl⟩ d24_6 (by rw [e4]; exact ⟨b4, k4, rfl, gz_b4, N1, K4, V_b4⟩) (by decide)

def QTb2 (Z : State) (a : Addr) (cs : Int32) (sf : Value) (ka : ClassId) (y0 : Int32) (y1 : Int32) (h0 : Heap) (n0 : Nat) (v : Option Value) (h : Heap) (L : List Loc) : Prop := ∃ (b : Addr) (kb : ClassId), v = some (.ref b) ∧ h0.size ≤ b ∧ Fr n0 L ∧ Keep h0 h [] ∧ Arv Z h b kb .byte 4 [.int (own_lo y0), .int (own_hi y0), .int (own_lo y1), .int (own_hi y1)] (.int 0)
theorem rmTb2 (l : Launch) (Z : State) (a0 : Array Value) (hw : ∀ d ∈ tables_1, d.before a0 Z = true) (ws : List Jvm.Cond) (a : Addr) (cs : Int32) (sf : Value) (ka : ClassId) (y0 : Int32) (y1 : Int32) (h0 : Heap) (n0 : Nat) (Z0 : n0 ≤ h0.size) (hW : own_W Z h0 n0 cs sf) (Va : Arv Z h0 a ka .char 2 [.int y0, .int y1] (.int 0)) :
    own_Met l on15 (Jvm.Cond.code on15 jdk_52_method_14_code 5 (some (.array .byte)) :: ws) ({ frames := 2, cells := 1, slots := 4, locals := 30 } : Room) #[.ref a, .int 0, .int 2] Z h0 (QTb2 Z a cs sf ka y0 y1 h0 n0) := by
  refine own_met (plainFor_of_name pn2) (fun m => ef_RII5 m a (0 : Int32) (2 : Int32)) ?_
  intro p e s m below meth c s₁ B hlk hret hml hZ hown hnm X0 e0
  have hx := B.1
  have hby := B.2
  have N0 := Fr.nil n0
  refine w_i X0 B d23_0 rfl ?_
  show Sh s₁ 1 #[vr a, vi 0, vi 2, .unset, .unset] [.int 2]
  refine w_cs X0 B hZ hown hml (rmNf2 l Z a0 hw []  h0 n0 Z0 ) (tw hw 108 rfl) (tw hw 109 rfl) (tw hw 93 rfl) (tw hw 110 rfl) e0 d23_1 1 0 (lenOf pd9 rfl) rfl rfl rfl (by decide) ?_
  rintro _ T1 Lc1 X1 ⟨bb1, kb1, rfl, gz1, Nq1, K1, V_bb1⟩
  have N1 := Fr.app N0 Nq1
  have ne_a_bb1 : a ≠ bb1 := Nat.ne_of_lt (Nat.lt_of_lt_of_le Va.lt gz1)
  have gn_bb1 : n0 ≤ bb1 := Nat.le_trans Z0 gz1
  have gz_bb1 : h0.size ≤ bb1 := Nat.le_trans (Keep.refl h0 []).1 gz1
  have Wo1 := hW.keep K1 own_k0
  have V_a_1 := Va.keep K1 nin0
  have Kt1 := Keep.trans (Keep.refl h0 []) K1 (by simp)
  have Z1 : n0 ≤ T1.heap.size := Nat.le_trans Z0 K1.1
  refine w_U X1 B d23_4 rfl #[vr a, vi 0, vi 2, vr bb1, .unset] rfl (w_c X1 B d23_5 (w_s X1 B d23_6 #[vr a, vi 0, vi 2, vr bb1, vi 0] rfl (w_j X1 B d23_8 rfl (w_i X1 B d23_10 rfl (w_n X1 B d23_11 (tlt (by decide)).2.1 (w_a X1 B d23_14 rfl rfl (w_j X1 B d23_15 rfl ?_)))))))
  show Sh T1 17 #[vr a, vi 0, vi 2, vr bb1, vi 0] [.int 0, .ref bb1]
  refine w_a X1 B d23_17 rfl rfl (w_i X1 B d23_18 rfl (w_ca X1 B hZ rfl V_a_1 (by decide) (v := (.int y0)) rfl d23_19 ?_))
  show Sh T1 20 #[vr a, vi 0, vi 2, vr bb1, vi 0] [.int y0, .int 0, .ref bb1]
  refine w_cs X1 B hZ hown hml (rmPu l Z a0 hw [] bb1 (0 : Int32) y0 cs sf _ _ _ T1.heap n0 Z1 Wo1 gn_bb1 V_bb1 (by decide) (by decide) (Nat.le_of_ble_eq_true rfl) (Nat.le_of_ble_eq_true rfl)) (tw hw 115 rfl) (tw hw 116 rfl) (tw hw 93 rfl) (tw hw 117 rfl) rfl d23_20 3 0 (lenOf pd10 rfl) rfl rfl rfl (by decide) ?_
  rintro _ T20 Lc20 X20 ⟨rfl, Nq20, K20, V20⟩
  have N20 := Fr.app N1 Nq20
  have Wo20 := Wo1.keep K20 (own_k1 gn_bb1)
  have V_a_20 := V_a_1.keep K20 (ninS ne_a_bb1 nin0)
  have Kt20 := Keep.trans Kt1 K20 (fun x hx => Or.inr ((List.mem_singleton.mp hx) ▸ gz_bb1))
  have Z20 : n0 ≤ T20.heap.size := Nat.le_trans Z1 K20.1
  refine w_p X20 B d23_23 rfl #[vr a, vi 1, vi 2, vr bb1, vi 0] rfl (w_p X20 B d23_26 rfl #[vr a, vi 1, vi 2, vr bb1, vi 1] rfl (w_g X20 B 29 8 rfl d23_29 (by decide) (w_j X20 B d23_8 rfl (w_i X20 B d23_10 rfl (w_n X20 B d23_11 (tlt (by decide)).2.1 (w_a X20 B d23_14 rfl rfl (w_j X20 B d23_15 rfl ?_)))))))
  show Sh T20 17 #[vr a, vi 1, vi 2, vr bb1, vi 1] [.int 1, .ref bb1]
  refine w_a X20 B d23_17 rfl rfl (w_i X20 B d23_18 rfl (w_ca X20 B hZ rfl V_a_20 (by decide) (v := (.int y1)) rfl d23_19 ?_))
  show Sh T20 20 #[vr a, vi 1, vi 2, vr bb1, vi 1] [.int y1, .int 1, .ref bb1]
  refine w_cs X20 B hZ hown hml (rmPu l Z a0 hw [] bb1 (1 : Int32) y1 cs sf _ _ _ T20.heap n0 Z20 Wo20 gn_bb1 V20 (by decide) (by decide) (Nat.le_of_ble_eq_true rfl) (Nat.le_of_ble_eq_true rfl)) (tw hw 115 rfl) (tw hw 116 rfl) (tw hw 93 rfl) (tw hw 117 rfl) rfl d23_20 3 0 (lenOf pd10 rfl) rfl rfl rfl (by decide) ?_
  rintro _ T20_2 Lc20_2 X20_2 ⟨rfl, Nq20_2, K20_2, V20_2⟩
  have N20_2 := Fr.app N20 Nq20_2
  have Wo20_2 := Wo20.keep K20_2 (own_k1 gn_bb1)
  have V_a_20_2 := V_a_20.keep K20_2 (ninS ne_a_bb1 nin0)
  have Kt20_2 := Keep.trans Kt20 K20_2 (fun x hx => Or.inr ((List.mem_singleton.mp hx) ▸ gz_bb1))
  have Z20_2 : n0 ≤ T20_2.heap.size := Nat.le_trans Z20 K20_2.1
  refine w_p X20_2 B d23_23 rfl #[vr a, vi 2, vi 2, vr bb1, vi 1] rfl (w_p X20_2 B d23_26 rfl #[vr a, vi 2, vi 2, vr bb1, vi 2] rfl (w_g X20_2 B 29 8 rfl d23_29 (by decide) (w_j X20_2 B d23_8 rfl (w_i X20_2 B d23_10 rfl (w_y X20_2 B 11 32 rfl d23_11 (flt (by decide)).2.1 (by decide) (w_a X20_2 B d23_32 rfl rfl ?_))))))
  show Sh T20_2 33 #[vr a, vi 2, vi 2, vr bb1, vi 2] [.ref bb1]
  exact Dg.retA X20_2 hlk B hret rfl ⟨rfl, rfl⟩ d23_33 ⟨bb1, kb1, rfl, gz_bb1, N20_2, Kt20_2, V20_2⟩ (by decide)

def QC5_2 (Z : State) (a : Addr) (b : Addr) (ka kb : ClassId) (y0 : Int32) (y1 : Int32) (h0 : Heap) (n0 : Nat) (v : Option Value) (h : Heap) (L : List Loc) : Prop := Fr n0 L ∧ Keep h0 h [b] ∧ ((v = some (.int 0) ∧ 255 < y0.toInt) ∨ (v = some (.int 1) ∧ 255 < y1.toInt) ∨ (v = some (.int 2) ∧ (y0.toInt ≤ 255 ∧ y1.toInt ≤ 255 ∧ True) ∧ Arv Z h b kb .byte 2 [.int (own_b y0), .int (own_b y1)] (.int 0)))
theorem rmC5_2 (l : Launch) (Z : State) (a0 : Array Value) (hw : ∀ d ∈ tables_1, d.before a0 Z = true) (ws : List Jvm.Cond) (a : Addr) (b : Addr) (ka kb : ClassId) (y0 : Int32) (y1 : Int32) (h0 : Heap) (n0 : Nat) (Z0 : n0 ≤ h0.size) (Va : Arv Z h0 a ka .char 2 [.int y0, .int y1] (.int 0)) (Vb : Arv Z h0 b kb .byte 2 [.int 0, .int 0] (.int 0)) (gb : n0 ≤ b) (hne : a ≠ b) :
    own_Met l on14 (Jvm.Cond.code on14 jdk_52_method_21_code 7 (some .int) :: ws) orm26 #[.ref a, .int 0, .ref b, .int 0, .int 2] Z h0 (QC5_2 Z a b ka kb y0 y1 h0 n0) := by
  refine own_met (plainFor_of_name pn2) (fun m => ef_RIRII7 m a (0 : Int32) b (0 : Int32) (2 : Int32)) ?_
  intro p e s m below meth c s₁ B hlk hret hml hZ hown hnm X0 e0
  have hx := B.1
  have hby := B.2
  have N0 := Fr.nil n0
  refine w_c X0 B d20_0 (w_s X0 B d20_1 #[vr a, vi 0, vr b, vi 0, vi 2, vi 0, .unset] rfl (w_j X0 B d20_3 rfl (w_j X0 B d20_5 rfl (w_n X0 B d20_7 (tlt (by decide)).2.1 (w_a X0 B d20_10 rfl rfl (w_i X0 B d20_11 rfl (w_ca X0 B hZ e0 Va (by decide) (v := (.int y0)) rfl d20_12 ?_)))))))
  show Sh s₁ 13 #[vr a, vi 0, vr b, vi 0, vi 2, vi 0, .unset] [.int y0]
  refine w_s X0 B d20_13 #[vr a, vi 0, vr b, vi 0, vi 2, vi 0, vi y0] rfl (w_j X0 B d20_15 rfl (w_d X0 B d20_17 ?_))
  show Sh s₁ 20 #[vr a, vi 0, vr b, vi 0, vi 2, vi 0, vi y0] [.int 255, .int y0]
  by_cases hc20 : (255 : Int32) < y0
  · have hi20 : 255 < y0.toInt := Int32.lt_iff_toInt_lt.mp hc20
    refine w_n X0 B d20_20 (tlt hc20).2.2.2 (w_j X0 B d20_23 rfl ?_)
    show Sh s₁ 25 #[vr a, vi 0, vr b, vi 0, vi 2, vi 0, vi y0] [.int 0]
    exact Dg.retI X0 hlk B hret rfl (Or.inl rfl) d20_25 (by rw [e0]; exact ⟨N0, (Keep.refl h0 [b]), (Or.inl ⟨rfl, hi20⟩)⟩) (by decide)
  · have hi20 : ¬ 255 < y0.toInt := fun qq => hc20 (Int32.lt_iff_toInt_lt.mpr qq)
    refine w_y X0 B 20 26 rfl d20_20 (flt hc20).2.2.2 (by decide) (w_a X0 B d20_26 rfl rfl (w_i X0 B d20_27 rfl (w_j X0 B d20_28 rfl (Dg.st (fun _ kk => XS.i2b X0.here hx rfl (hb hby d20_30) rfl kk) ?_))))
    show Sh s₁ 31 #[vr a, vi 0, vr b, vi 0, vi 2, vi 0, vi y0] [.int (y0.toInt8.toInt32), .int 0, .ref b]
    have Vc_b_31 := Vb
    obtain ⟨cl_b_31, Ar_b_31, q_b_31, S_b_31, N_b_31, H_b_31, G_b_31⟩ := Vc_b_31
    have hin31 : ¬ ((0 : Int32) < 0 ∨ cl_b_31.slots.size ≤ ((0 : Int32)).toNatClampNeg) := inb_of S_b_31 ⟨by decide, by decide⟩
    obtain ⟨T31, h31, X31, e31, W31, st31⟩ := stB X0 hx hZ e0 Ar_b_31 (j := (0 : Int32)) hin31 (g := (mkF m 31 #[vr a, vi 0, vr b, vi 0, vi 2, vi 0, vi y0] [.int (y0.toInt8.toInt32), .int 0, .ref b])) rfl rfl (hb hby d20_31)
    have V_a_31 := Va.other W31 hne
    have V_b_31 := Arv.set Ar_b_31 q_b_31 S_b_31 N_b_31 H_b_31 G_b_31 (fits_nar_byte _) W31 0 rfl (Nat.le_of_ble_eq_true rfl)
    have K31 := (Keep.refl h0 [b]).wr W31 (Or.inl (List.mem_of_getElem? (i := 0) rfl))
    have N31 := Fr.snoc X31 N0 gb
    have Z31 : n0 ≤ h31.size := Nat.le_trans Z0 (Keep.of_wr W31).1
    refine Dg.st st31 ?_
    refine w_p X31 B d20_32 rfl #[vr a, vi 1, vr b, vi 0, vi 2, vi 0, vi y0] rfl (w_p X31 B d20_35 rfl #[vr a, vi 1, vr b, vi 1, vi 2, vi 0, vi y0] rfl (w_p X31 B d20_38 rfl #[vr a, vi 1, vr b, vi 1, vi 2, vi 1, vi y0] rfl (w_g X31 B 41 3 rfl d20_41 (by decide) (w_j X31 B d20_3 rfl (w_j X31 B d20_5 rfl (w_n X31 B d20_7 (tlt (by decide)).2.1 (w_a X31 B d20_10 rfl rfl ?_)))))))
    show Sh T31 11 #[vr a, vi 1, vr b, vi 1, vi 2, vi 1, vi y0] [.ref a]
    refine w_i X31 B d20_11 rfl (w_ca X31 B hZ e31 V_a_31 (by decide) (v := (.int y1)) rfl d20_12 (w_s X31 B d20_13 #[vr a, vi 1, vr b, vi 1, vi 2, vi 1, vi y1] rfl (w_j X31 B d20_15 rfl (w_d X31 B d20_17 ?_))))
    show Sh T31 20 #[vr a, vi 1, vr b, vi 1, vi 2, vi 1, vi y1] [.int 255, .int y1]
    by_cases hc20_2 : (255 : Int32) < y1
    · have hi20_2 : 255 < y1.toInt := Int32.lt_iff_toInt_lt.mp hc20_2
      refine w_n X31 B d20_20 (tlt hc20_2).2.2.2 (w_j X31 B d20_23 rfl ?_)
      show Sh T31 25 #[vr a, vi 1, vr b, vi 1, vi 2, vi 1, vi y1] [.int 1]
      exact Dg.retI X31 hlk B hret rfl (Or.inl rfl) d20_25 (by rw [e31]; exact ⟨N31, K31, (Or.inr (Or.inl ⟨rfl, hi20_2⟩))⟩) (by decide)
    · have hi20_2 : ¬ 255 < y1.toInt := fun qq => hc20_2 (Int32.lt_iff_toInt_lt.mpr qq)
      refine w_y X31 B 20 26 rfl d20_20 (flt hc20_2).2.2.2 (by decide) (w_a X31 B d20_26 rfl rfl (w_i X31 B d20_27 rfl (w_j X31 B d20_28 rfl (Dg.st (fun _ kk => XS.i2b X31.here hx rfl (hb hby d20_30) rfl kk) ?_))))
      show Sh T31 31 #[vr a, vi 1, vr b, vi 1, vi 2, vi 1, vi y1] [.int (y1.toInt8.toInt32), .int 1, .ref b]
      have Vc_b_31_2 := V_b_31
      obtain ⟨cl_b_31_2, Ar_b_31_2, q_b_31_2, S_b_31_2, N_b_31_2, H_b_31_2, G_b_31_2⟩ := Vc_b_31_2
      have hin31_2 : ¬ ((1 : Int32) < 0 ∨ cl_b_31_2.slots.size ≤ ((1 : Int32)).toNatClampNeg) := inb_of S_b_31_2 ⟨by decide, by decide⟩
      obtain ⟨T31_2, h31_2, X31_2, e31_2, W31_2, st31_2⟩ := stB X31 hx hZ e31 Ar_b_31_2 (j := (1 : Int32)) hin31_2 (g := (mkF m 31 #[vr a, vi 1, vr b, vi 1, vi 2, vi 1, vi y1] [.int (y1.toInt8.toInt32), .int 1, .ref b])) rfl rfl (hb hby d20_31)
      have V_a_31_2 := V_a_31.other W31_2 hne
      have V_b_31_2 := Arv.set Ar_b_31_2 q_b_31_2 S_b_31_2 N_b_31_2 H_b_31_2 G_b_31_2 (fits_nar_byte _) W31_2 1 rfl (Nat.le_of_ble_eq_true rfl)
      have K31_2 := K31.wr W31_2 (Or.inl (List.mem_of_getElem? (i := 0) rfl))
      have N31_2 := Fr.snoc X31_2 N31 gb
      have Z31_2 : n0 ≤ h31_2.size := Nat.le_trans Z31 (Keep.of_wr W31_2).1
      refine Dg.st st31_2 ?_
      refine w_p X31_2 B d20_32 rfl #[vr a, vi 2, vr b, vi 1, vi 2, vi 1, vi y1] rfl (w_p X31_2 B d20_35 rfl #[vr a, vi 2, vr b, vi 2, vi 2, vi 1, vi y1] rfl (w_p X31_2 B d20_38 rfl #[vr a, vi 2, vr b, vi 2, vi 2, vi 2, vi y1] rfl (w_g X31_2 B 41 3 rfl d20_41 (by decide) (w_j X31_2 B d20_3 rfl (w_j X31_2 B d20_5 rfl (w_y X31_2 B 7 44 rfl d20_7 (flt (by decide)).2.1 (by decide) (w_j X31_2 B d20_44 rfl ?_)))))))
      show Sh T31_2 46 #[vr a, vi 2, vr b, vi 2, vi 2, vi 2, vi y1] [.int 2]
      exact Dg.retI X31_2 hlk B hret rfl (Or.inl rfl) d20_46 (by rw [e31_2]; exact ⟨N31_2, K31_2, (Or.inr (Or.inr ⟨rfl, ⟨Int.not_lt.mp hi20, Int.not_lt.mp hi20_2, trivial⟩, V_b_31_2⟩))⟩) (by decide)

def QC3_2 (Z : State) (a : Addr) (cs : Int32) (sf : Value) (ka : ClassId) (y0 : Int32) (y1 : Int32) (h0 : Heap) (n0 : Nat) (v : Option Value) (h : Heap) (L : List Loc) : Prop := ∃ (b : Addr) (kb : ClassId), v = some (.ref b) ∧ h0.size ≤ b ∧ Fr n0 L ∧ Keep h0 h [] ∧ ((Arv Z h b kb .byte 2 [.int (own_b y0), .int (own_b y1)] (.int 0) ∧ (y0.toInt ≤ 255 ∧ y1.toInt ≤ 255 ∧ True)) ∨ Arv Z h b kb .byte 4 [.int (own_lo y0), .int (own_hi y0), .int (own_lo y1), .int (own_hi y1)] (.int 0))
theorem rmC3_2 (l : Launch) (Z : State) (a0 : Array Value) (hw : ∀ d ∈ tables_1, d.before a0 Z = true) (ws : List Jvm.Cond) (a : Addr) (cs : Int32) (sf : Value) (ka : ClassId) (y0 : Int32) (y1 : Int32) (h0 : Heap) (n0 : Nat) (Z0 : n0 ≤ h0.size) (hW : own_W Z h0 n0 cs sf) (Va : Arv Z h0 a ka .char 2 [.int y0, .int y1] (.int 0)) (hr0 : 0 ≤ y0.toInt ∧ y0.toInt ≤ 65535) (hr1 : 0 ≤ y1.toInt ∧ y1.toInt ≤ 65535) :
    own_Met l on12 (Jvm.Cond.code on12 jdk_52_method_16_code 6 (some (.array .byte)) :: ws) ({ frames := 3, cells := 2, slots := 6, locals := 49 } : Room) #[.ref a, .int 0, .int 2] Z h0 (QC3_2 Z a cs sf ka y0 y1 h0 n0) := by
  refine own_met (plainFor_of_name pn2) (fun m => ef_RII6 m a (0 : Int32) (2 : Int32)) ?_
  intro p e s m below meth c s₁ B hlk hret hml hZ hown hnm X0 e0
  have hx := B.1
  have hby := B.2
  have N0 := Fr.nil n0
  refine w_i X0 B d19_0 rfl ?_
  show Sh s₁ 1 #[vr a, vi 0, vi 2, .unset, .unset, .unset] [.int 2]
  obtain ⟨T1, h1, k1, X1, e1, E1, A1, st1⟩ := newP X0 hx hZ (tw hw 21 rfl) e0 (g := (mkF m 1 #[vr a, vi 0, vi 2, .unset, .unset, .unset] [.int 2])) rfl (hb hby d19_1) rfl (by decide) (cap := 2) (by decide) (by decide) (by decide) (by decide)
  obtain ⟨b1, g1⟩ : ∃ z, z = h0.size := ⟨_, rfl⟩
  rw [← g1] at A1 st1
  have ne_a_b1 : a ≠ b1 := Nat.ne_of_lt (Nat.lt_of_lt_of_le Va.lt (Nat.le_of_eq g1.symm))
  have gz_b1 : h0.size ≤ b1 := Nat.le_trans (Keep.refl h0 []).1 (Nat.le_of_eq g1.symm)
  have V_a_1 := Va.ext E1
  have K1 := (Keep.refl h0 []).ext E1
  have Wo1 := hW.ext E1
  have gn_b1 : n0 ≤ b1 := Nat.le_trans Z0 (Nat.le_of_eq g1.symm)
  have Z1 : n0 ≤ h1.size := Nat.le_trans Z0 E1.1
  have V_b1 : Arv Z h1 b1 k1 .byte (2 : Int32) [.int 0, .int 0] (.int 0) := (Arv.new A1 (by decide)).pad (pad_rep [] (.int 0) 2)
  refine Dg.st st1 ?_
  refine w_U X1 B d19_3 rfl #[vr a, vi 0, vi 2, vr b1, .unset, .unset] rfl (w_a X1 B d19_4 rfl rfl (w_i X1 B d19_5 rfl (w_a X1 B d19_6 rfl rfl (w_c X1 B d19_7 (w_i X1 B d19_8 rfl ?_)))))
  show Sh T1 9 #[vr a, vi 0, vi 2, vr b1, .unset, .unset] [.int 2, .int 0, .ref b1, .int 0, .ref a]
  refine w_cs X1 B hZ hown hml (rmC5_2 l Z a0 hw [] a b1 ka k1 y0 y1 h1 n0 Z1 V_a_1 V_b1 gn_b1 ne_a_b1) (tw hw 95 rfl) (tw hw 96 rfl) (tw hw 93 rfl) (tw hw 97 rfl) e1 d19_9 5 0 (lenOf pd11 rfl) rfl rfl rfl (by decide) ?_
  rintro _ T9 Lc9 X9 ⟨Nq9, K9, hq9⟩
  have N9 := Fr.app N0 Nq9
  have Wo9 := Wo1.keep K9 (own_k1 gn_b1)
  have V_a_9 := V_a_1.keep K9 (ninS ne_a_b1 nin0)
  have Kt9 := Keep.trans K1 K9 (fun x hx => Or.inr ((List.mem_singleton.mp hx) ▸ gz_b1))
  have Z9 : n0 ≤ T9.heap.size := Nat.le_trans Z1 K9.1
  rcases hq9 with ⟨rfl, gt9⟩ | ⟨rfl, gt9⟩ | ⟨rfl, hp9, VL9⟩
  · refine w_s X9 B d19_12 #[vr a, vi 0, vi 2, vr b1, vi 0, .unset] rfl (w_j X9 B d19_14 rfl (w_i X9 B d19_16 rfl (w_n X9 B d19_17 (feq (by decide)).1 (w_a X9 B d19_20 rfl rfl (w_i X9 B d19_21 rfl (w_i X9 B d19_22 rfl ?_))))))
    show Sh T9 23 #[vr a, vi 0, vi 2, vr b1, vi 0, .unset] [.int 2, .int 0, .ref a]
    refine w_cs X9 B hZ hown hml (rmTb2 l Z a0 hw [] a cs sf ka y0 y1 T9.heap n0 Z9 Wo9 V_a_9) (tw hw 105 rfl) (tw hw 106 rfl) (tw hw 93 rfl) (tw hw 107 rfl) rfl d19_23 3 0 (lenOf pd12 rfl) rfl rfl rfl (by decide) ?_
    rintro _ T23 Lc23 X23 ⟨bb23, kb23, rfl, gz23, Nq23, K23, V_bb23⟩
    have N23 := Fr.app N9 Nq23
    have ne_a_bb23 : a ≠ bb23 := Nat.ne_of_lt (Nat.lt_of_lt_of_le V_a_9.lt gz23)
    have gn_bb23 : n0 ≤ bb23 := Nat.le_trans Z9 gz23
    have gz_bb23 : h0.size ≤ bb23 := Nat.le_trans Kt9.1 gz23
    have Wo23 := Wo9.keep K23 own_k0
    have V_a_23 := V_a_9.keep K23 nin0
    have Kt23 := Keep.trans Kt9 K23 (by simp)
    have Z23 : n0 ≤ T23.heap.size := Nat.le_trans Z9 K23.1
    refine w_u X23 B d19_26 rfl #[vr a, vi 0, vi 2, vr b1, vi 0, vr bb23] rfl (w_k X23 B d19_28 rfl rfl (w_j X23 B d19_30 rfl ?_))
    show Sh T23 32 #[vr a, vi 0, vi 2, vr b1, vi 0, vr bb23] [.int 0, .ref bb23]
    refine w_cs X23 B hZ hown hml (rmGc l Z a0 hw [] bb23 (0 : Int32) cs sf _ _ _ y0 T23.heap n0 Z23 Wo23 V_bb23 (by decide) (by decide) rfl rfl hr0.1 hr0.2) (tw hw 121 rfl) (tw hw 122 rfl) (tw hw 93 rfl) (tw hw 123 rfl) rfl d19_32 2 0 (lenOf pd6 rfl) rfl rfl rfl (by decide) ?_
    rintro _ T32 Lc32 X32 ⟨rfl, Nq32, hh32⟩
    have N32 := Fr.app N23 Nq32
    refine w_d X32 B d19_35 ?_
    show Sh T32 38 #[vr a, vi 0, vi 2, vr b1, vi 0, vr bb23] [.int 255, .int y0]
    have hc38 : (255 : Int32) < y0 := (Int32.lt_iff_toInt_lt.mpr gt9)
    refine w_y X32 B 38 54 rfl d19_38 (tlt hc38).2.2.1 (by decide) (w_k X32 B d19_54 rfl rfl ?_)
    show Sh T32 56 #[vr a, vi 0, vi 2, vr b1, vi 0, vr bb23] [.ref bb23]
    exact Dg.retA X32 hlk B hret rfl ⟨rfl, rfl⟩ d19_56 (by rw [hh32]; exact ⟨bb23, kb23, rfl, gz_bb23, N32, Kt23, Or.inr V_bb23⟩) (by decide)
  · refine w_s X9 B d19_12 #[vr a, vi 0, vi 2, vr b1, vi 1, .unset] rfl (w_j X9 B d19_14 rfl (w_i X9 B d19_16 rfl (w_n X9 B d19_17 (feq (by decide)).1 (w_a X9 B d19_20 rfl rfl (w_i X9 B d19_21 rfl (w_i X9 B d19_22 rfl ?_))))))
    show Sh T9 23 #[vr a, vi 0, vi 2, vr b1, vi 1, .unset] [.int 2, .int 0, .ref a]
    refine w_cs X9 B hZ hown hml (rmTb2 l Z a0 hw [] a cs sf ka y0 y1 T9.heap n0 Z9 Wo9 V_a_9) (tw hw 105 rfl) (tw hw 106 rfl) (tw hw 93 rfl) (tw hw 107 rfl) rfl d19_23 3 0 (lenOf pd12 rfl) rfl rfl rfl (by decide) ?_
    rintro _ T23 Lc23 X23 ⟨bb23, kb23, rfl, gz23, Nq23, K23, V_bb23⟩
    have N23 := Fr.app N9 Nq23
    have ne_a_bb23 : a ≠ bb23 := Nat.ne_of_lt (Nat.lt_of_lt_of_le V_a_9.lt gz23)
    have gn_bb23 : n0 ≤ bb23 := Nat.le_trans Z9 gz23
    have gz_bb23 : h0.size ≤ bb23 := Nat.le_trans Kt9.1 gz23
    have Wo23 := Wo9.keep K23 own_k0
    have V_a_23 := V_a_9.keep K23 nin0
    have Kt23 := Keep.trans Kt9 K23 (by simp)
    have Z23 : n0 ≤ T23.heap.size := Nat.le_trans Z9 K23.1
    refine w_u X23 B d19_26 rfl #[vr a, vi 0, vi 2, vr b1, vi 1, vr bb23] rfl (w_k X23 B d19_28 rfl rfl (w_j X23 B d19_30 rfl ?_))
    show Sh T23 32 #[vr a, vi 0, vi 2, vr b1, vi 1, vr bb23] [.int 1, .ref bb23]
    refine w_cs X23 B hZ hown hml (rmGc l Z a0 hw [] bb23 (1 : Int32) cs sf _ _ _ y1 T23.heap n0 Z23 Wo23 V_bb23 (by decide) (by decide) rfl rfl hr1.1 hr1.2) (tw hw 121 rfl) (tw hw 122 rfl) (tw hw 93 rfl) (tw hw 123 rfl) rfl d19_32 2 0 (lenOf pd6 rfl) rfl rfl rfl (by decide) ?_
    rintro _ T32 Lc32 X32 ⟨rfl, Nq32, hh32⟩
    have N32 := Fr.app N23 Nq32
    refine w_d X32 B d19_35 ?_
    show Sh T32 38 #[vr a, vi 0, vi 2, vr b1, vi 1, vr bb23] [.int 255, .int y1]
    have hc38 : (255 : Int32) < y1 := (Int32.lt_iff_toInt_lt.mpr gt9)
    refine w_y X32 B 38 54 rfl d19_38 (tlt hc38).2.2.1 (by decide) (w_k X32 B d19_54 rfl rfl ?_)
    show Sh T32 56 #[vr a, vi 0, vi 2, vr b1, vi 1, vr bb23] [.ref bb23]
    exact Dg.retA X32 hlk B hret rfl ⟨rfl, rfl⟩ d19_56 (by rw [hh32]; exact ⟨bb23, kb23, rfl, gz_bb23, N32, Kt23, Or.inr V_bb23⟩) (by decide)
  · refine w_s X9 B d19_12 #[vr a, vi 0, vi 2, vr b1, vi 2, .unset] rfl (w_j X9 B d19_14 rfl (w_i X9 B d19_16 rfl (w_y X9 B 17 57 rfl d19_17 (teq (by decide)).1 (by decide) (w_a X9 B d19_57 rfl rfl ?_))))
    show Sh T9 58 #[vr a, vi 0, vi 2, vr b1, vi 2, .unset] [.ref b1]
    exact Dg.retA X9 hlk B hret rfl ⟨rfl, rfl⟩ d19_58 ⟨b1, k1, rfl, gz_b1, N9, Kt9, Or.inl ⟨VL9, hp9⟩⟩ (by decide)

def QVc2 (Z : State) (a : Addr) (ar : Addr) (cs : Int32) (sf : Value) (ka : ClassId) (y0 : Int32) (y1 : Int32) (h0 : Heap) (n0 : Nat) (v : Option Value) (h : Heap) (L : List Loc) : Prop := v = none ∧ Fr n0 L ∧ Keep h0 h [a] ∧ own_Str Z h a 2 4 [.int (own_b y0), .int (own_b y1)] [.int (own_lo y0), .int (own_hi y0), .int (own_lo y1), .int (own_hi y1)] (y0.toInt ≤ 255 ∧ y1.toInt ≤ 255 ∧ True)
theorem rmVc2 (l : Launch) (Z : State) (a0 : Array Value) (hw : ∀ d ∈ tables_1, d.before a0 Z = true) (ws : List Jvm.Cond) (a : Addr) (ar : Addr) (cs : Int32) (sf : Value) (ka : ClassId) (y0 : Int32) (y1 : Int32) (h0 : Heap) (n0 : Nat) (Z0 : n0 ≤ h0.size) (hW : own_W Z h0 n0 cs sf) (ga : n0 ≤ a) (Ea : Exa Z h0 a "java/lang/String") (Fc : Fld Z h0 a "java/lang/String" "coder" "B" (.int 0)) (Fv : Fld Z h0 a "java/lang/String" "value" "[B" .null) (Vr : Arv Z h0 ar ka .char 2 [.int y0, .int y1] (.int 0)) (hne : a ≠ ar) (hr0 : 0 ≤ y0.toInt ∧ y0.toInt ≤ 65535) (hr1 : 0 ≤ y1.toInt ∧ y1.toInt ≤ 65535) :
    own_Met l on4 (Jvm.Cond.code on4 jdk_42_method_149_code 6 none :: ws) ({ frames := 4, cells := 2, slots := 6, locals := 69 } : Room) #[.ref a, .ref ar, .int 0, .int 2, .null] Z h0 (QVc2 Z a ar cs sf ka y0 y1 h0 n0) := by
  refine own_met (plainFor_of_name pn0) (fun m => ef_RRIIN6 m a ar (0 : Int32) (2 : Int32)) ?_
  intro p e s m below meth c s₁ B hlk hret hml hZ hown hnm X0 e0
  have hx := B.1
  have hby := B.2
  have N0 := Fr.nil n0
  refine w_a X0 B d3_0 rfl rfl ?_
  show Sh s₁ 1 #[vr a, vr ar, vi 0, vi 2, .val .null, .unset] [.ref a]
  obtain ⟨T1, X1, e1, st1⟩ := initO X0 hx hZ hown (tw hw 17 rfl) (tw hw 18 rfl) (tw hw 19 rfl) e0 (g := (mkF m 1 #[vr a, vr ar, vi 0, vi 2, .val .null, .unset] [.ref a])) rfl (by rw [hml]; rfl) rfl (hb hby d3_1) (by decide) (W := 0) (by show 2 * 0 + _ ≤ _; exact Nat.le_of_eq rfl) (by decide)
  refine Dg.st st1 ?_
  refine w_i X1 B d3_4 rfl (w_t X1 B 5 27 rfl d3_5 (feq (by decide)).2 (by decide) ?_)
  show Sh T1 27 #[vr a, vr ar, vi 0, vi 2, .val .null, .unset] []
  refine w_gs X1 B hZ hown (tw hw 47 rfl) Via.refl e1 hW.cst d3_27 ?_
  intro T27 X27 e27
  have hc30 : ¬ (cs = (0 : Int32)) := hW.cne
  refine w_f X27 B d3_30 (feq hc30).1 (w_a X27 B d3_33 rfl rfl (w_i X27 B d3_34 rfl (w_i X27 B d3_35 rfl ?_)))
  show Sh T27 36 #[vr a, vr ar, vi 0, vi 2, .val .null, .unset] [.int 2, .int 0, .ref ar]
  refine w_cs X27 B hZ hown hml (rmC3_2 l Z a0 hw [] ar cs sf ka y0 y1 h0 n0 Z0 hW Vr hr0 hr1) (tw hw 91 rfl) (tw hw 92 rfl) (tw hw 93 rfl) (tw hw 94 rfl) e27 d3_36 3 0 (lenOf pd12 rfl) rfl rfl rfl (by decide) ?_
  rintro _ T36 Lc36 X36 ⟨bb36, kb36, rfl, gz36, Nq36, K36, hq36⟩
  have N36 := Fr.app N0 Nq36
  have ne_a_bb36 : a ≠ bb36 := Nat.ne_of_lt (Nat.lt_of_lt_of_le Ea.lt gz36)
  have ne_ar_bb36 : ar ≠ bb36 := Nat.ne_of_lt (Nat.lt_of_lt_of_le Vr.lt gz36)
  have gn_bb36 : n0 ≤ bb36 := Nat.le_trans Z0 gz36
  have gz_bb36 : h0.size ≤ bb36 := Nat.le_trans (Keep.refl h0 [a]).1 gz36
  have Wo36 := hW.keep K36 own_k0
  have E_a_36 := Ea.keep K36
  have F_a_coder_36 := Fc.keep K36 nin0
  have F_a_value_36 := Fv.keep K36 nin0
  have V_ar_36 := Vr.keep K36 nin0
  have Kt36 := Keep.trans (Keep.refl h0 [a]) K36 (by simp)
  have Z36 : n0 ≤ T36.heap.size := Nat.le_trans Z0 K36.1
  rcases hq36 with ⟨VL36, hp36⟩ | VU36
  · refine w_u X36 B d3_39 rfl #[vr a, vr ar, vi 0, vi 2, .val .null, vr bb36] rfl (w_a X36 B d3_41 rfl rfl (w_k X36 B d3_42 rfl rfl (w_i X36 B d3_44 rfl ?_)))
    show Sh T36 45 #[vr a, vr ar, vi 0, vi 2, .val .null, vr bb36] [.int 2, .ref bb36, .ref a]
    refine w_cs X36 B hZ hown hml (rmCl l Z a0 hw [] bb36 (2 : Int32) _ _ _ 0 T36.heap n0 Z36 VL36 (by decide) rfl) (tw hw 98 rfl) (tw hw 99 rfl) (tw hw 93 rfl) (tw hw 100 rfl) rfl d3_45 2 1 (lenOf pd13 rfl) rfl rfl rfl (by decide) ?_
    rintro _ T45 Lc45 X45 ⟨rfl, Nq45, hh45⟩
    have N45 := Fr.app N36 Nq45
    obtain ⟨T48, h48, X48, e48, W48, st48⟩ := putF X45 hx hZ hown (host := "") (Or.inl (tw hw 27 rfl)) Via.refl hh45 F_a_coder_36 E_a_36 (Or.inr ⟨(tw hw 23 rfl), rfl, hnm⟩) (tw hw 8 rfl) (ty := .byte) (by decide) rfl rfl (g := (mkF m 48 #[vr a, vr ar, vi 0, vi 2, .val .null, vr bb36] [.int 0, .ref a])) rfl rfl (hb hby d3_48)
    have Wo48 := Wo36.wr W48 ga
    have E_a_48 := E_a_36.wr W48
    have F_a_value_48 := F_a_value_36.other W48 (Or.inr (slot_ne (Or.inr (tw hw 22 rfl)) (Or.inr (tw hw 23 rfl)) (by decide) (t := (.array .byte)) (t' := .byte) (by decide) (by decide)))
    have V_ar_48 := V_ar_36.other W48 (Ne.symm hne)
    have V_bb36_48 := VL36.other W48 (Ne.symm ne_a_bb36)
    have F_a_coder_48 := F_a_coder_36.same W48
    have K48 := Kt36.wr W48 (Or.inl (List.mem_of_getElem? (i := 0) rfl))
    have N48 := Fr.snoc X48 N45 ga
    have Z48 : n0 ≤ h48.size := Nat.le_trans Z36 (Keep.of_wr W48).1
    refine Dg.st st48 ?_
    refine w_a X48 B d3_51 rfl rfl (w_k X48 B d3_52 rfl rfl ?_)
    show Sh T48 54 #[vr a, vr ar, vi 0, vi 2, .val .null, vr bb36] [.ref bb36, .ref a]
    obtain ⟨T54, h54, X54, e54, W54, st54⟩ := putF X48 hx hZ hown (host := "") (Or.inl (tw hw 26 rfl)) Via.refl e48 F_a_value_48 E_a_48 (Or.inr ⟨(tw hw 22 rfl), rfl, hnm⟩) (tw hw 8 rfl) (ty := (.array .byte)) (by decide) rfl rfl (g := (mkF m 54 #[vr a, vr ar, vi 0, vi 2, .val .null, vr bb36] [.ref bb36, .ref a])) rfl rfl (hb hby d3_54)
    have Wo54 := Wo48.wr W54 ga
    have E_a_54 := E_a_48.wr W54
    have F_a_coder_54 := F_a_coder_48.other W54 (Or.inr (slot_ne (Or.inr (tw hw 23 rfl)) (Or.inr (tw hw 22 rfl)) (by decide) (t := .byte) (t' := (.array .byte)) (by decide) (by decide)))
    have V_ar_54 := V_ar_48.other W54 (Ne.symm hne)
    have V_bb36_54 := V_bb36_48.other W54 (Ne.symm ne_a_bb36)
    have F_a_value_54 := F_a_value_48.same W54
    have K54 := K48.wr W54 (Or.inl (List.mem_of_getElem? (i := 0) rfl))
    have N54 := Fr.snoc X54 N48 ga
    have Z54 : n0 ≤ h54.size := Nat.le_trans Z48 (Keep.of_wr W54).1
    refine Dg.st st54 ?_
    exact Dg.ret0 X54 hlk hx hret (hb hby d3_57) (by rw [e54]; exact ⟨rfl, N54, K54, E_a_54, Or.inl ⟨bb36, kb36, F_a_coder_54, F_a_value_54, V_bb36_54, hp36⟩⟩) (by decide) (by decide)
  · refine w_u X36 B d3_39 rfl #[vr a, vr ar, vi 0, vi 2, .val .null, vr bb36] rfl (w_a X36 B d3_41 rfl rfl (w_k X36 B d3_42 rfl rfl (w_i X36 B d3_44 rfl ?_)))
    show Sh T36 45 #[vr a, vr ar, vi 0, vi 2, .val .null, vr bb36] [.int 2, .ref bb36, .ref a]
    refine w_cs X36 B hZ hown hml (rmCl l Z a0 hw [] bb36 (2 : Int32) _ _ _ 1 T36.heap n0 Z36 VU36 (by decide) rfl) (tw hw 98 rfl) (tw hw 99 rfl) (tw hw 93 rfl) (tw hw 100 rfl) rfl d3_45 2 1 (lenOf pd13 rfl) rfl rfl rfl (by decide) ?_
    rintro _ T45 Lc45 X45 ⟨rfl, Nq45, hh45⟩
    have N45 := Fr.app N36 Nq45
    obtain ⟨T48, h48, X48, e48, W48, st48⟩ := putF X45 hx hZ hown (host := "") (Or.inl (tw hw 27 rfl)) Via.refl hh45 F_a_coder_36 E_a_36 (Or.inr ⟨(tw hw 23 rfl), rfl, hnm⟩) (tw hw 8 rfl) (ty := .byte) (by decide) rfl rfl (g := (mkF m 48 #[vr a, vr ar, vi 0, vi 2, .val .null, vr bb36] [.int 1, .ref a])) rfl rfl (hb hby d3_48)
    have Wo48 := Wo36.wr W48 ga
    have E_a_48 := E_a_36.wr W48
    have F_a_value_48 := F_a_value_36.other W48 (Or.inr (slot_ne (Or.inr (tw hw 22 rfl)) (Or.inr (tw hw 23 rfl)) (by decide) (t := (.array .byte)) (t' := .byte) (by decide) (by decide)))
    have V_ar_48 := V_ar_36.other W48 (Ne.symm hne)
    have V_bb36_48 := VU36.other W48 (Ne.symm ne_a_bb36)
    have F_a_coder_48 := F_a_coder_36.same W48
    have K48 := Kt36.wr W48 (Or.inl (List.mem_of_getElem? (i := 0) rfl))
    have N48 := Fr.snoc X48 N45 ga
    have Z48 : n0 ≤ h48.size := Nat.le_trans Z36 (Keep.of_wr W48).1
    refine Dg.st st48 ?_
    refine w_a X48 B d3_51 rfl rfl (w_k X48 B d3_52 rfl rfl ?_)
    show Sh T48 54 #[vr a, vr ar, vi 0, vi 2, .val .null, vr bb36] [.ref bb36, .ref a]
    obtain ⟨T54, h54, X54, e54, W54, st54⟩ := putF X48 hx hZ hown (host := "") (Or.inl (tw hw 26 rfl)) Via.refl e48 F_a_value_48 E_a_48 (Or.inr ⟨(tw hw 22 rfl), rfl, hnm⟩) (tw hw 8 rfl) (ty := (.array .byte)) (by decide) rfl rfl (g := (mkF m 54 #[vr a, vr ar, vi 0, vi 2, .val .null, vr bb36] [.ref bb36, .ref a])) rfl rfl (hb hby d3_54)
    have Wo54 := Wo48.wr W54 ga
    have E_a_54 := E_a_48.wr W54
    have F_a_coder_54 := F_a_coder_48.other W54 (Or.inr (slot_ne (Or.inr (tw hw 23 rfl)) (Or.inr (tw hw 22 rfl)) (by decide) (t := .byte) (t' := (.array .byte)) (by decide) (by decide)))
    have V_ar_54 := V_ar_48.other W54 (Ne.symm hne)
    have V_bb36_54 := V_bb36_48.other W54 (Ne.symm ne_a_bb36)
    have F_a_value_54 := F_a_value_48.same W54
    have K54 := K48.wr W54 (Or.inl (List.mem_of_getElem? (i := 0) rfl))
    have N54 := Fr.snoc X54 N48 ga
    have Z54 : n0 ≤ h54.size := Nat.le_trans Z48 (Keep.of_wr W54).1
    refine Dg.st st54 ?_
    exact Dg.ret0 X54 hlk hx hret (hb hby d3_57) (by rw [e54]; exact ⟨rfl, N54, K54, E_a_54, Or.inr ⟨bb36, kb36, F_a_coder_54, F_a_value_54, V_bb36_54⟩⟩) (by decide) (by decide)

def QSc2 (Z : State) (a : Addr) (ar : Addr) (cs : Int32) (sf : Value) (ka : ClassId) (y0 : Int32) (y1 : Int32) (h0 : Heap) (n0 : Nat) (v : Option Value) (h : Heap) (L : List Loc) : Prop := v = none ∧ Fr n0 L ∧ Keep h0 h [a] ∧ own_Str Z h a 2 4 [.int (own_b y0), .int (own_b y1)] [.int (own_lo y0), .int (own_hi y0), .int (own_lo y1), .int (own_hi y1)] (y0.toInt ≤ 255 ∧ y1.toInt ≤ 255 ∧ True)
theorem rmSc2 (l : Launch) (Z : State) (a0 : Array Value) (hw : ∀ d ∈ tables_1, d.before a0 Z = true) (ws : List Jvm.Cond) (a : Addr) (ar : Addr) (cs : Int32) (sf : Value) (ka : ClassId) (y0 : Int32) (y1 : Int32) (h0 : Heap) (n0 : Nat) (Z0 : n0 ≤ h0.size) (hW : own_W Z h0 n0 cs sf) (ga : n0 ≤ a) (Ea : Exa Z h0 a "java/lang/String") (Fc : Fld Z h0 a "java/lang/String" "coder" "B" (.int 0)) (Fv : Fld Z h0 a "java/lang/String" "value" "[B" .null) (Vr : Arv Z h0 ar ka .char 2 [.int y0, .int y1] (.int 0)) (hne : a ≠ ar) (hr0 : 0 ≤ y0.toInt ∧ y0.toInt ≤ 65535) (hr1 : 0 ≤ y1.toInt ∧ y1.toInt ≤ 65535) :
    own_Met l on3 (Jvm.Cond.code on3 jdk_42_method_3_code 2 none :: ws) ({ frames := 5, cells := 2, slots := 6, locals := 89 } : Room) #[.ref a, .ref ar] Z h0 (QSc2 Z a ar cs sf ka y0 y1 h0 n0) := by
  refine own_met (plainFor_of_name pn0) (fun m => ef_RR2 m a ar) ?_
  intro p e s m below meth c s₁ B hlk hret hml hZ hown hnm X0 e0
  have hx := B.1
  have hby := B.2
  have N0 := Fr.nil n0
  refine w_a X0 B d2_0 rfl rfl (w_a X0 B d2_1 rfl rfl (w_c X0 B d2_2 (w_a X0 B d2_3 rfl rfl (w_al X0 B hZ e0 Vr d2_4 (Dg.st (fun _ kk => XS.aconstNull X0.here hx rfl (hb hby d2_5) kk) ?_)))))
  show Sh s₁ 6 #[vr a, vr ar] [.null, .int 2, .int 0, .ref ar, .ref a]
  refine w_ci X0 B hZ hown hml (rmVc2 l Z a0 hw [] a ar cs sf ka y0 y1 h0 n0 Z0 hW ga Ea Fc Fv Vr hne hr0 hr1) (tw hw 13 rfl) (tw hw 14 rfl) (tw hw 9 rfl) (tw hw 16 rfl) e0 d2_6 4 0 rfl (lenOf pd0 rfl) rfl rfl rfl rfl (by decide) ?_
  rintro _ T6 Lc6 X6 ⟨rfl, Nq6, K6, S6⟩
  have N6 := Fr.app N0 Nq6
  exact Dg.ret0 X6 hlk hx hret (hb hby d2_9) ⟨rfl, N6, K6, S6⟩ (by decide) (by decide)

def QNl3 (Z : State)  (h0 : Heap) (n0 : Nat) (v : Option Value) (h : Heap) (L : List Loc) : Prop := v = some (.int 6) ∧ Fr n0 L ∧ h = h0
theorem rmNl3 (l : Launch) (Z : State) (a0 : Array Value) (hw : ∀ d ∈ tables_1, d.before a0 Z = true) (ws : List Jvm.Cond)  (h0 : Heap) (n0 : Nat) (Z0 : n0 ≤ h0.size) :
    own_Met l on5 (Jvm.Cond.code on5 jdk_52_method_3_code 1 (some .int) :: ws) orm26 #[.int 3] Z h0 (QNl3 Z  h0 n0) := by
  refine own_met (plainFor_of_name pn2) (fun m => ef_I1 m (3 : Int32)) ?_
  intro p e s m below meth c s₁ B hlk hret hml hZ hown hnm X0 e0
  have hx := B.1
  have hby := B.2
  have N0 := Fr.nil n0
  refine w_i X0 B d25_0 rfl (w_t X0 B 1 12 rfl d25_1 (flt (by decide)).2.1 (by decide) (w_i X0 B d25_12 rfl (Dg.st (fun _ kk => X0.ldcInt hx hown (mvT hZ (tw hw 114 rfl)) (g := (mkF m 13 #[vi 3] [.int 3])) rfl (hb hby d25_13) _ kk) (w_y X0 B 15 55 rfl d25_15 (tlt (by decide)).1 (by decide) (w_i X0 B d25_55 rfl (w_c X0 B d25_56 (Dg.st (fun _ kk => XS.ishl X0.here hx rfl (hb hby d25_57) rfl kk) ?_)))))))
  show Sh s₁ 58 #[vi 3] [.int 6]
  exact Dg.retI X0 hlk B hret rfl (Or.inl rfl) d25_58 (by rw [e0]; exact ⟨rfl, N0, rfl⟩) (by decide)

def QNf3 (Z : State)  (h0 : Heap) (n0 : Nat) (v : Option Value) (h : Heap) (L : List Loc) : Prop := ∃ (b : Addr) (kb : ClassId), v = some (.ref b) ∧ h0.size ≤ b ∧ Fr n0 L ∧ Keep h0 h [] ∧ Arv Z h b kb .byte 6 [.int 0, .int 0, .int 0, .int 0, .int 0, .int 0] (.int 0)
theorem rmNf3 (l : Launch) (Z : State) (a0 : Array Value) (hw : ∀ d ∈ tables_1, d.before a0 Z = true) (ws : List Jvm.Cond)  (h0 : Heap) (n0 : Nat) (Z0 : n0 ≤ h0.size) :
    own_Met l on13 (Jvm.Cond.code on13 jdk_52_method_2_code 1 (some (.array .byte)) :: ws) ({ frames := 1, cells := 1, slots := 6, locals := 15 } : Room) #[.int 3] Z h0 (QNf3 Z  h0 n0) := by
  refine own_met (plainFor_of_name pn2) (fun m => ef_I1 m (3 : Int32)) ?_
  intro p e s m below meth c s₁ B hlk hret hml hZ hown hnm X0 e0
  have hx := B.1
  have hby := B.2
  have N0 := Fr.nil n0
  refine w_i X0 B d24_0 rfl ?_
  show Sh s₁ 1 #[vi 3] [.int 3]
  refine w_cs X0 B hZ hown hml (rmNl3 l Z a0 hw []  h0 n0 Z0 ) (tw hw 111 rfl) (tw hw 112 rfl) (tw hw 93 rfl) (tw hw 113 rfl) e0 d24_1 1 0 (lenOf pd8 rfl) rfl rfl rfl (by decide) ?_
  rintro _ T1 Lc1 X1 ⟨rfl, Nq1, hh1⟩
  have N1 := Fr.app N0 Nq1
  obtain ⟨T4, h4, k4, X4, e4, E4, A4, st4⟩ := newP X1 hx hZ (tw hw 21 rfl) hh1 (g := (mkF m 4 #[vi 3] [.int 6])) rfl (hb hby d24_4) rfl (by decide) (cap := 6) (by decide) (by decide) (by decide) (by decide)
  obtain ⟨b4, g4⟩ : ∃ z, z = h0.size := ⟨_, rfl⟩
  rw [← g4] at A4 st4
  have gz_b4 : h0.size ≤ b4 := Nat.le_trans (Keep.refl h0 []).1 (Nat.le_of_eq g4.symm)
  have K4 := (Keep.refl h0 []).ext E4
  have gn_b4 : n0 ≤ b4 := Nat.le_trans Z0 (Nat.le_of_eq g4.symm)
  have Z4 : n0 ≤ h4.size := Nat.le_trans Z0 E4.1
  have V_b4 : Arv Z h4 b4 k4 .byte (6 : Int32) [.int 0, .int 0, .int 0, .int 0, .int 0, .int 0] (.int 0) := (Arv.new A4 (by decide)).pad (pad_rep [] (.int 0) 6)
  refine Dg.st st4 ?_
  exact Dg.retA X4 hlk B hret rfl ⟨rfl, rfl⟩ d24_6 (by rw [e4]; exact ⟨b4, k4, rfl, gz_b4, N1, K4, V_b4⟩) (by decide)

def QTb3 (Z : State) (a : Addr) (cs : Int32) (sf : Value) (ka : ClassId) (y0 : Int32) (y1 : Int32) (y2 : Int32) (h0 : Heap) (n0 : Nat) (v : Option Value) (h : Heap) (L : List Loc) : Prop := ∃ (b : Addr) (kb : ClassId), v = some (.ref b) ∧ h0.size ≤ b ∧ Fr n0 L ∧ Keep h0 h [] ∧ Arv Z h b kb .byte 6 [.int (own_lo y0), .int (own_hi y0), .int (own_lo y1), .int (own_hi y1), .int (own_lo y2), .int (own_hi y2)] (.int 0)
theorem rmTb3 (l : Launch) (Z : State) (a0 : Array Value) (hw : ∀ d ∈ tables_1, d.before a0 Z = true) (ws : List Jvm.Cond) (a : Addr) (cs : Int32) (sf : Value) (ka : ClassId) (y0 : Int32) (y1 : Int32) (y2 : Int32) (h0 : Heap) (n0 : Nat) (Z0 : n0 ≤ h0.size) (hW : own_W Z h0 n0 cs sf) (Va : Arv Z h0 a ka .char 3 [.int y0, .int y1, .int y2] (.int 0)) :
    own_Met l on15 (Jvm.Cond.code on15 jdk_52_method_14_code 5 (some (.array .byte)) :: ws) ({ frames := 2, cells := 1, slots := 6, locals := 30 } : Room) #[.ref a, .int 0, .int 3] Z h0 (QTb3 Z a cs sf ka y0 y1 y2 h0 n0) := by
  refine own_met (plainFor_of_name pn2) (fun m => ef_RII5 m a (0 : Int32) (3 : Int32)) ?_
  intro p e s m below meth c s₁ B hlk hret hml hZ hown hnm X0 e0
  have hx := B.1
  have hby := B.2
  have N0 := Fr.nil n0
  refine w_i X0 B d23_0 rfl ?_
  show Sh s₁ 1 #[vr a, vi 0, vi 3, .unset, .unset] [.int 3]
  refine w_cs X0 B hZ hown hml (rmNf3 l Z a0 hw []  h0 n0 Z0 ) (tw hw 108 rfl) (tw hw 109 rfl) (tw hw 93 rfl) (tw hw 110 rfl) e0 d23_1 1 0 (lenOf pd9 rfl) rfl rfl rfl (by decide) ?_
  rintro _ T1 Lc1 X1 ⟨bb1, kb1, rfl, gz1, Nq1, K1, V_bb1⟩
  have N1 := Fr.app N0 Nq1
  have ne_a_bb1 : a ≠ bb1 := Nat.ne_of_lt (Nat.lt_of_lt_of_le Va.lt gz1)
  have gn_bb1 : n0 ≤ bb1 := Nat.le_trans Z0 gz1
  have gz_bb1 : h0.size ≤ bb1 := Nat.le_trans (Keep.refl h0 []).1 gz1
  have Wo1 := hW.keep K1 own_k0
  have V_a_1 := Va.keep K1 nin0
  have Kt1 := Keep.trans (Keep.refl h0 []) K1 (by simp)
  have Z1 : n0 ≤ T1.heap.size := Nat.le_trans Z0 K1.1
  refine w_U X1 B d23_4 rfl #[vr a, vi 0, vi 3, vr bb1, .unset] rfl (w_c X1 B d23_5 (w_s X1 B d23_6 #[vr a, vi 0, vi 3, vr bb1, vi 0] rfl (w_j X1 B d23_8 rfl (w_i X1 B d23_10 rfl (w_n X1 B d23_11 (tlt (by decide)).2.1 (w_a X1 B d23_14 rfl rfl (w_j X1 B d23_15 rfl ?_)))))))
  show Sh T1 17 #[vr a, vi 0, vi 3, vr bb1, vi 0] [.int 0, .ref bb1]
  refine w_a X1 B d23_17 rfl rfl (w_i X1 B d23_18 rfl (w_ca X1 B hZ rfl V_a_1 (by decide) (v := (.int y0)) rfl d23_19 ?_))
  show Sh T1 20 #[vr a, vi 0, vi 3, vr bb1, vi 0] [.int y0, .int 0, .ref bb1]
  refine w_cs X1 B hZ hown hml (rmPu l Z a0 hw [] bb1 (0 : Int32) y0 cs sf _ _ _ T1.heap n0 Z1 Wo1 gn_bb1 V_bb1 (by decide) (by decide) (Nat.le_of_ble_eq_true rfl) (Nat.le_of_ble_eq_true rfl)) (tw hw 115 rfl) (tw hw 116 rfl) (tw hw 93 rfl) (tw hw 117 rfl) rfl d23_20 3 0 (lenOf pd10 rfl) rfl rfl rfl (by decide) ?_
  rintro _ T20 Lc20 X20 ⟨rfl, Nq20, K20, V20⟩
  have N20 := Fr.app N1 Nq20
  have Wo20 := Wo1.keep K20 (own_k1 gn_bb1)
  have V_a_20 := V_a_1.keep K20 (ninS ne_a_bb1 nin0)
  have Kt20 := Keep.trans Kt1 K20 (fun x hx => Or.inr ((List.mem_singleton.mp hx) ▸ gz_bb1))
  have Z20 : n0 ≤ T20.heap.size := Nat.le_trans Z1 K20.1
  refine w_p X20 B d23_23 rfl #[vr a, vi 1, vi 3, vr bb1, vi 0] rfl (w_p X20 B d23_26 rfl #[vr a, vi 1, vi 3, vr bb1, vi 1] rfl (w_g X20 B 29 8 rfl d23_29 (by decide) (w_j X20 B d23_8 rfl (w_i X20 B d23_10 rfl (w_n X20 B d23_11 (tlt (by decide)).2.1 (w_a X20 B d23_14 rfl rfl (w_j X20 B d23_15 rfl ?_)))))))
  show Sh T20 17 #[vr a, vi 1, vi 3, vr bb1, vi 1] [.int 1, .ref bb1]
  refine w_a X20 B d23_17 rfl rfl (w_i X20 B d23_18 rfl (w_ca X20 B hZ rfl V_a_20 (by decide) (v := (.int y1)) rfl d23_19 ?_))
  show Sh T20 20 #[vr a, vi 1, vi 3, vr bb1, vi 1] [.int y1, .int 1, .ref bb1]
  refine w_cs X20 B hZ hown hml (rmPu l Z a0 hw [] bb1 (1 : Int32) y1 cs sf _ _ _ T20.heap n0 Z20 Wo20 gn_bb1 V20 (by decide) (by decide) (Nat.le_of_ble_eq_true rfl) (Nat.le_of_ble_eq_true rfl)) (tw hw 115 rfl) (tw hw 116 rfl) (tw hw 93 rfl) (tw hw 117 rfl) rfl d23_20 3 0 (lenOf pd10 rfl) rfl rfl rfl (by decide) ?_
  rintro _ T20_2 Lc20_2 X20_2 ⟨rfl, Nq20_2, K20_2, V20_2⟩
  have N20_2 := Fr.app N20 Nq20_2
  have Wo20_2 := Wo20.keep K20_2 (own_k1 gn_bb1)
  have V_a_20_2 := V_a_20.keep K20_2 (ninS ne_a_bb1 nin0)
  have Kt20_2 := Keep.trans Kt20 K20_2 (fun x hx => Or.inr ((List.mem_singleton.mp hx) ▸ gz_bb1))
  have Z20_2 : n0 ≤ T20_2.heap.size := Nat.le_trans Z20 K20_2.1
  refine w_p X20_2 B d23_23 rfl #[vr a, vi 2, vi 3, vr bb1, vi 1] rfl (w_p X20_2 B d23_26 rfl #[vr a, vi 2, vi 3, vr bb1, vi 2] rfl (w_g X20_2 B 29 8 rfl d23_29 (by decide) (w_j X20_2 B d23_8 rfl (w_i X20_2 B d23_10 rfl (w_n X20_2 B d23_11 (tlt (by decide)).2.1 (w_a X20_2 B d23_14 rfl rfl (w_j X20_2 B d23_15 rfl ?_)))))))
  show Sh T20_2 17 #[vr a, vi 2, vi 3, vr bb1, vi 2] [.int 2, .ref bb1]
  refine w_a X20_2 B d23_17 rfl rfl (w_i X20_2 B d23_18 rfl (w_ca X20_2 B hZ rfl V_a_20_2 (by decide) (v := (.int y2)) rfl d23_19 ?_))
  show Sh T20_2 20 #[vr a, vi 2, vi 3, vr bb1, vi 2] [.int y2, .int 2, .ref bb1]
  refine w_cs X20_2 B hZ hown hml (rmPu l Z a0 hw [] bb1 (2 : Int32) y2 cs sf _ _ _ T20_2.heap n0 Z20_2 Wo20_2 gn_bb1 V20_2 (by decide) (by decide) (Nat.le_of_ble_eq_true rfl) (Nat.le_of_ble_eq_true rfl)) (tw hw 115 rfl) (tw hw 116 rfl) (tw hw 93 rfl) (tw hw 117 rfl) rfl d23_20 3 0 (lenOf pd10 rfl) rfl rfl rfl (by decide) ?_
  rintro _ T20_3 Lc20_3 X20_3 ⟨rfl, Nq20_3, K20_3, V20_3⟩
  have N20_3 := Fr.app N20_2 Nq20_3
  have Wo20_3 := Wo20_2.keep K20_3 (own_k1 gn_bb1)
  have V_a_20_3 := V_a_20_2.keep K20_3 (ninS ne_a_bb1 nin0)
  have Kt20_3 := Keep.trans Kt20_2 K20_3 (fun x hx => Or.inr ((List.mem_singleton.mp hx) ▸ gz_bb1))
  have Z20_3 : n0 ≤ T20_3.heap.size := Nat.le_trans Z20_2 K20_3.1
  refine w_p X20_3 B d23_23 rfl #[vr a, vi 3, vi 3, vr bb1, vi 2] rfl (w_p X20_3 B d23_26 rfl #[vr a, vi 3, vi 3, vr bb1, vi 3] rfl (w_g X20_3 B 29 8 rfl d23_29 (by decide) (w_j X20_3 B d23_8 rfl (w_i X20_3 B d23_10 rfl (w_y X20_3 B 11 32 rfl d23_11 (flt (by decide)).2.1 (by decide) (w_a X20_3 B d23_32 rfl rfl ?_))))))
  show Sh T20_3 33 #[vr a, vi 3, vi 3, vr bb1, vi 3] [.ref bb1]
  exact Dg.retA X20_3 hlk B hret rfl ⟨rfl, rfl⟩ d23_33 ⟨bb1, kb1, rfl, gz_bb1, N20_3, Kt20_3, V20_3⟩ (by decide)

def QC5_3 (Z : State) (a : Addr) (b : Addr) (ka kb : ClassId) (y0 : Int32) (y1 : Int32) (y2 : Int32) (h0 : Heap) (n0 : Nat) (v : Option Value) (h : Heap) (L : List Loc) : Prop := Fr n0 L ∧ Keep h0 h [b] ∧ ((v = some (.int 0) ∧ 255 < y0.toInt) ∨ (v = some (.int 1) ∧ 255 < y1.toInt) ∨ (v = some (.int 2) ∧ 255 < y2.toInt) ∨ (v = some (.int 3) ∧ (y0.toInt ≤ 255 ∧ y1.toInt ≤ 255 ∧ y2.toInt ≤ 255 ∧ True) ∧ Arv Z h b kb .byte 3 [.int (own_b y0), .int (own_b y1), .int (own_b y2)] (.int 0)))
theorem rmC5_3 (l : Launch) (Z : State) (a0 : Array Value) (hw : ∀ d ∈ tables_1, d.before a0 Z = true) (ws : List Jvm.Cond) (a : Addr) (b : Addr) (ka kb : ClassId) (y0 : Int32) (y1 : Int32) (y2 : Int32) (h0 : Heap) (n0 : Nat) (Z0 : n0 ≤ h0.size) (Va : Arv Z h0 a ka .char 3 [.int y0, .int y1, .int y2] (.int 0)) (Vb : Arv Z h0 b kb .byte 3 [.int 0, .int 0, .int 0] (.int 0)) (gb : n0 ≤ b) (hne : a ≠ b) :
    own_Met l on14 (Jvm.Cond.code on14 jdk_52_method_21_code 7 (some .int) :: ws) orm26 #[.ref a, .int 0, .ref b, .int 0, .int 3] Z h0 (QC5_3 Z a b ka kb y0 y1 y2 h0 n0) := by
  refine own_met (plainFor_of_name pn2) (fun m => ef_RIRII7 m a (0 : Int32) b (0 : Int32) (3 : Int32)) ?_
  intro p e s m below meth c s₁ B hlk hret hml hZ hown hnm X0 e0
  have hx := B.1
  have hby := B.2
  have N0 := Fr.nil n0
  refine w_c X0 B d20_0 (w_s X0 B d20_1 #[vr a, vi 0, vr b, vi 0, vi 3, vi 0, .unset] rfl (w_j X0 B d20_3 rfl (w_j X0 B d20_5 rfl (w_n X0 B d20_7 (tlt (by decide)).2.1 (w_a X0 B d20_10 rfl rfl (w_i X0 B d20_11 rfl (w_ca X0 B hZ e0 Va (by decide) (v := (.int y0)) rfl d20_12 ?_)))))))
  show Sh s₁ 13 #[vr a, vi 0, vr b, vi 0, vi 3, vi 0, .unset] [.int y0]
  refine w_s X0 B d20_13 #[vr a, vi 0, vr b, vi 0, vi 3, vi 0, vi y0] rfl (w_j X0 B d20_15 rfl (w_d X0 B d20_17 ?_))
  show Sh s₁ 20 #[vr a, vi 0, vr b, vi 0, vi 3, vi 0, vi y0] [.int 255, .int y0]
  by_cases hc20 : (255 : Int32) < y0
  · have hi20 : 255 < y0.toInt := Int32.lt_iff_toInt_lt.mp hc20
    refine w_n X0 B d20_20 (tlt hc20).2.2.2 (w_j X0 B d20_23 rfl ?_)
    show Sh s₁ 25 #[vr a, vi 0, vr b, vi 0, vi 3, vi 0, vi y0] [.int 0]
    exact Dg.retI X0 hlk B hret rfl (Or.inl rfl) d20_25 (by rw [e0]; exact ⟨N0, (Keep.refl h0 [b]), (Or.inl ⟨rfl, hi20⟩)⟩) (by decide)
  · have hi20 : ¬ 255 < y0.toInt := fun qq => hc20 (Int32.lt_iff_toInt_lt.mpr qq)
    refine w_y X0 B 20 26 rfl d20_20 (flt hc20).2.2.2 (by decide) (w_a X0 B d20_26 rfl rfl (w_i X0 B d20_27 rfl (w_j X0 B d20_28 rfl (Dg.st (fun _ kk => XS.i2b X0.here hx rfl (hb hby d20_30) rfl kk) ?_))))
    show Sh s₁ 31 #[vr a, vi 0, vr b, vi 0, vi 3, vi 0, vi y0] [.int (y0.toInt8.toInt32), .int 0, .ref b]
    have Vc_b_31 := Vb
    obtain ⟨cl_b_31, Ar_b_31, q_b_31, S_b_31, N_b_31, H_b_31, G_b_31⟩ := Vc_b_31
    have hin31 : ¬ ((0 : Int32) < 0 ∨ cl_b_31.slots.size ≤ ((0 : Int32)).toNatClampNeg) := inb_of S_b_31 ⟨by decide, by decide⟩
    obtain ⟨T31, h31, X31, e31, W31, st31⟩ := stB X0 hx hZ e0 Ar_b_31 (j := (0 : Int32)) hin31 (g := (mkF m 31 #[vr a, vi 0, vr b, vi 0, vi 3, vi 0, vi y0] [.int (y0.toInt8.toInt32), .int 0, .ref b])) rfl rfl (hb hby d20_31)
    have V_a_31 := Va.other W31 hne
    have V_b_31 := Arv.set Ar_b_31 q_b_31 S_b_31 N_b_31 H_b_31 G_b_31 (fits_nar_byte _) W31 0 rfl (Nat.le_of_ble_eq_true rfl)
    have K31 := (Keep.refl h0 [b]).wr W31 (Or.inl (List.mem_of_getElem? (i := 0) rfl))
    have N31 := Fr.snoc X31 N0 gb
    have Z31 : n0 ≤ h31.size := Nat.le_trans Z0 (Keep.of_wr W31).1
    refine Dg.st st31 ?_
    refine w_p X31 B d20_32 rfl #[vr a, vi 1, vr b, vi 0, vi 3, vi 0, vi y0] rfl (w_p X31 B d20_35 rfl #[vr a, vi 1, vr b, vi 1, vi 3, vi 0, vi y0] rfl (w_p X31 B d20_38 rfl #[vr a, vi 1, vr b, vi 1, vi 3, vi 1, vi y0] rfl (w_g X31 B 41 3 rfl d20_41 (by decide) (w_j X31 B d20_3 rfl (w_j X31 B d20_5 rfl (w_n X31 B d20_7 (tlt (by decide)).2.1 (w_a X31 B d20_10 rfl rfl ?_)))))))
    show Sh T31 11 #[vr a, vi 1, vr b, vi 1, vi 3, vi 1, vi y0] [.ref a]
    refine w_i X31 B d20_11 rfl (w_ca X31 B hZ e31 V_a_31 (by decide) (v := (.int y1)) rfl d20_12 (w_s X31 B d20_13 #[vr a, vi 1, vr b, vi 1, vi 3, vi 1, vi y1] rfl (w_j X31 B d20_15 rfl (w_d X31 B d20_17 ?_))))
    show Sh T31 20 #[vr a, vi 1, vr b, vi 1, vi 3, vi 1, vi y1] [.int 255, .int y1]
    by_cases hc20_2 : (255 : Int32) < y1
    · have hi20_2 : 255 < y1.toInt := Int32.lt_iff_toInt_lt.mp hc20_2
      refine w_n X31 B d20_20 (tlt hc20_2).2.2.2 (w_j X31 B d20_23 rfl ?_)
      show Sh T31 25 #[vr a, vi 1, vr b, vi 1, vi 3, vi 1, vi y1] [.int 1]
      exact Dg.retI X31 hlk B hret rfl (Or.inl rfl) d20_25 (by rw [e31]; exact ⟨N31, K31, (Or.inr (Or.inl ⟨rfl, hi20_2⟩))⟩) (by decide)
    · have hi20_2 : ¬ 255 < y1.toInt := fun qq => hc20_2 (Int32.lt_iff_toInt_lt.mpr qq)
      refine w_y X31 B 20 26 rfl d20_20 (flt hc20_2).2.2.2 (by decide) (w_a X31 B d20_26 rfl rfl (w_i X31 B d20_27 rfl (w_j X31 B d20_28 rfl (Dg.st (fun _ kk => XS.i2b X31.here hx rfl (hb hby d20_30) rfl kk) ?_))))
      show Sh T31 31 #[vr a, vi 1, vr b, vi 1, vi 3, vi 1, vi y1] [.int (y1.toInt8.toInt32), .int 1, .ref b]
      have Vc_b_31_2 := V_b_31
      obtain ⟨cl_b_31_2, Ar_b_31_2, q_b_31_2, S_b_31_2, N_b_31_2, H_b_31_2, G_b_31_2⟩ := Vc_b_31_2
      have hin31_2 : ¬ ((1 : Int32) < 0 ∨ cl_b_31_2.slots.size ≤ ((1 : Int32)).toNatClampNeg) := inb_of S_b_31_2 ⟨by decide, by decide⟩
      obtain ⟨T31_2, h31_2, X31_2, e31_2, W31_2, st31_2⟩ := stB X31 hx hZ e31 Ar_b_31_2 (j := (1 : Int32)) hin31_2 (g := (mkF m 31 #[vr a, vi 1, vr b, vi 1, vi 3, vi 1, vi y1] [.int (y1.toInt8.toInt32), .int 1, .ref b])) rfl rfl (hb hby d20_31)
      have V_a_31_2 := V_a_31.other W31_2 hne
      have V_b_31_2 := Arv.set Ar_b_31_2 q_b_31_2 S_b_31_2 N_b_31_2 H_b_31_2 G_b_31_2 (fits_nar_byte _) W31_2 1 rfl (Nat.le_of_ble_eq_true rfl)
      have K31_2 := K31.wr W31_2 (Or.inl (List.mem_of_getElem? (i := 0) rfl))
      have N31_2 := Fr.snoc X31_2 N31 gb
      have Z31_2 : n0 ≤ h31_2.size := Nat.le_trans Z31 (Keep.of_wr W31_2).1
      refine Dg.st st31_2 ?_
      refine w_p X31_2 B d20_32 rfl #[vr a, vi 2, vr b, vi 1, vi 3, vi 1, vi y1] rfl (w_p X31_2 B d20_35 rfl #[vr a, vi 2, vr b, vi 2, vi 3, vi 1, vi y1] rfl (w_p X31_2 B d20_38 rfl #[vr a, vi 2, vr b, vi 2, vi 3, vi 2, vi y1] rfl (w_g X31_2 B 41 3 rfl d20_41 (by decide) (w_j X31_2 B d20_3 rfl (w_j X31_2 B d20_5 rfl (w_n X31_2 B d20_7 (tlt (by decide)).2.1 (w_a X31_2 B d20_10 rfl rfl ?_)))))))
      show Sh T31_2 11 #[vr a, vi 2, vr b, vi 2, vi 3, vi 2, vi y1] [.ref a]
      refine w_i X31_2 B d20_11 rfl (w_ca X31_2 B hZ e31_2 V_a_31_2 (by decide) (v := (.int y2)) rfl d20_12 (w_s X31_2 B d20_13 #[vr a, vi 2, vr b, vi 2, vi 3, vi 2, vi y2] rfl (w_j X31_2 B d20_15 rfl (w_d X31_2 B d20_17 ?_))))
      show Sh T31_2 20 #[vr a, vi 2, vr b, vi 2, vi 3, vi 2, vi y2] [.int 255, .int y2]
      by_cases hc20_3 : (255 : Int32) < y2
      · have hi20_3 : 255 < y2.toInt := Int32.lt_iff_toInt_lt.mp hc20_3
        refine w_n X31_2 B d20_20 (tlt hc20_3).2.2.2 (w_j X31_2 B d20_23 rfl ?_)
        show Sh T31_2 25 #[vr a, vi 2, vr b, vi 2, vi 3, vi 2, vi y2] [.int 2]
        exact Dg.retI X31_2 hlk B hret rfl (Or.inl rfl) d20_25 (by rw [e31_2]; exact ⟨N31_2, K31_2, (Or.inr (Or.inr (Or.inl ⟨rfl, hi20_3⟩)))⟩) (by decide)
      · have hi20_3 : ¬ 255 < y2.toInt := fun qq => hc20_3 (Int32.lt_iff_toInt_lt.mpr qq)
        refine w_y X31_2 B 20 26 rfl d20_20 (flt hc20_3).2.2.2 (by decide) (w_a X31_2 B d20_26 rfl rfl (w_i X31_2 B d20_27 rfl (w_j X31_2 B d20_28 rfl (Dg.st (fun _ kk => XS.i2b X31_2.here hx rfl (hb hby d20_30) rfl kk) ?_))))
        show Sh T31_2 31 #[vr a, vi 2, vr b, vi 2, vi 3, vi 2, vi y2] [.int (y2.toInt8.toInt32), .int 2, .ref b]
        have Vc_b_31_3 := V_b_31_2
        obtain ⟨cl_b_31_3, Ar_b_31_3, q_b_31_3, S_b_31_3, N_b_31_3, H_b_31_3, G_b_31_3⟩ := Vc_b_31_3
        have hin31_3 : ¬ ((2 : Int32) < 0 ∨ cl_b_31_3.slots.size ≤ ((2 : Int32)).toNatClampNeg) := inb_of S_b_31_3 ⟨by decide, by decide⟩
        obtain ⟨T31_3, h31_3, X31_3, e31_3, W31_3, st31_3⟩ := stB X31_2 hx hZ e31_2 Ar_b_31_3 (j := (2 : Int32)) hin31_3 (g := (mkF m 31 #[vr a, vi 2, vr b, vi 2, vi 3, vi 2, vi y2] [.int (y2.toInt8.toInt32), .int 2, .ref b])) rfl rfl (hb hby d20_31)
        have V_a_31_3 := V_a_31_2.other W31_3 hne
        have V_b_31_3 := Arv.set Ar_b_31_3 q_b_31_3 S_b_31_3 N_b_31_3 H_b_31_3 G_b_31_3 (fits_nar_byte _) W31_3 2 rfl (Nat.le_of_ble_eq_true rfl)
        have K31_3 := K31_2.wr W31_3 (Or.inl (List.mem_of_getElem? (i := 0) rfl))
        have N31_3 := Fr.snoc X31_3 N31_2 gb
        have Z31_3 : n0 ≤ h31_3.size := Nat.le_trans Z31_2 (Keep.of_wr W31_3).1
        refine Dg.st st31_3 ?_
        refine w_p X31_3 B d20_32 rfl #[vr a, vi 3, vr b, vi 2, vi 3, vi 2, vi y2] rfl (w_p X31_3 B d20_35 rfl #[vr a, vi 3, vr b, vi 3, vi 3, vi 2, vi y2] rfl (w_p X31_3 B d20_38 rfl #[vr a, vi 3, vr b, vi 3, vi 3, vi 3, vi y2] rfl (w_g X31_3 B 41 3 rfl d20_41 (by decide) (w_j X31_3 B d20_3 rfl (w_j X31_3 B d20_5 rfl (w_y X31_3 B 7 44 rfl d20_7 (flt (by decide)).2.1 (by decide) (w_j X31_3 B d20_44 rfl ?_)))))))
        show Sh T31_3 46 #[vr a, vi 3, vr b, vi 3, vi 3, vi 3, vi y2] [.int 3]
        exact Dg.retI X31_3 hlk B hret rfl (Or.inl rfl) d20_46 (by rw [e31_3]; exact ⟨N31_3, K31_3, (Or.inr (Or.inr (Or.inr ⟨rfl, ⟨Int.not_lt.mp hi20, Int.not_lt.mp hi20_2, Int.not_lt.mp hi20_3, trivial⟩, V_b_31_3⟩)))⟩) (by decide)

def QC3_3 (Z : State) (a : Addr) (cs : Int32) (sf : Value) (ka : ClassId) (y0 : Int32) (y1 : Int32) (y2 : Int32) (h0 : Heap) (n0 : Nat) (v : Option Value) (h : Heap) (L : List Loc) : Prop := ∃ (b : Addr) (kb : ClassId), v = some (.ref b) ∧ h0.size ≤ b ∧ Fr n0 L ∧ Keep h0 h [] ∧ ((Arv Z h b kb .byte 3 [.int (own_b y0), .int (own_b y1), .int (own_b y2)] (.int 0) ∧ (y0.toInt ≤ 255 ∧ y1.toInt ≤ 255 ∧ y2.toInt ≤ 255 ∧ True)) ∨ Arv Z h b kb .byte 6 [.int (own_lo y0), .int (own_hi y0), .int (own_lo y1), .int (own_hi y1), .int (own_lo y2), .int (own_hi y2)] (.int 0))
theorem rmC3_3 (l : Launch) (Z : State) (a0 : Array Value) (hw : ∀ d ∈ tables_1, d.before a0 Z = true) (ws : List Jvm.Cond) (a : Addr) (cs : Int32) (sf : Value) (ka : ClassId) (y0 : Int32) (y1 : Int32) (y2 : Int32) (h0 : Heap) (n0 : Nat) (Z0 : n0 ≤ h0.size) (hW : own_W Z h0 n0 cs sf) (Va : Arv Z h0 a ka .char 3 [.int y0, .int y1, .int y2] (.int 0)) (hr0 : 0 ≤ y0.toInt ∧ y0.toInt ≤ 65535) (hr1 : 0 ≤ y1.toInt ∧ y1.toInt ≤ 65535) (hr2 : 0 ≤ y2.toInt ∧ y2.toInt ≤ 65535) :
    own_Met l on12 (Jvm.Cond.code on12 jdk_52_method_16_code 6 (some (.array .byte)) :: ws) ({ frames := 3, cells := 2, slots := 9, locals := 49 } : Room) #[.ref a, .int 0, .int 3] Z h0 (QC3_3 Z a cs sf ka y0 y1 y2 h0 n0) := by
  refine own_met (plainFor_of_name pn2) (fun m => ef_RII6 m a (0 : Int32) (3 : Int32)) ?_
  intro p e s m below meth c s₁ B hlk hret hml hZ hown hnm X0 e0
  have hx := B.1
  have hby := B.2
  have N0 := Fr.nil n0
  refine w_i X0 B d19_0 rfl ?_
  show Sh s₁ 1 #[vr a, vi 0, vi 3, .unset, .unset, .unset] [.int 3]
  obtain ⟨T1, h1, k1, X1, e1, E1, A1, st1⟩ := newP X0 hx hZ (tw hw 21 rfl) e0 (g := (mkF m 1 #[vr a, vi 0, vi 3, .unset, .unset, .unset] [.int 3])) rfl (hb hby d19_1) rfl (by decide) (cap := 3) (by decide) (by decide) (by decide) (by decide)
  obtain ⟨b1, g1⟩ : ∃ z, z = h0.size := ⟨_, rfl⟩
  rw [← g1] at A1 st1
  have ne_a_b1 : a ≠ b1 := Nat.ne_of_lt (Nat.lt_of_lt_of_le Va.lt (Nat.le_of_eq g1.symm))
  have gz_b1 : h0.size ≤ b1 := Nat.le_trans (Keep.refl h0 []).1 (Nat.le_of_eq g1.symm)
  have V_a_1 := Va.ext E1
  have K1 := (Keep.refl h0 []).ext E1
  have Wo1 := hW.ext E1
  have gn_b1 : n0 ≤ b1 := Nat.le_trans Z0 (Nat.le_of_eq g1.symm)
  have Z1 : n0 ≤ h1.size := Nat.le_trans Z0 E1.1
  have V_b1 : Arv Z h1 b1 k1 .byte (3 : Int32) [.int 0, .int 0, .int 0] (.int 0) := (Arv.new A1 (by decide)).pad (pad_rep [] (.int 0) 3)
  refine Dg.st st1 ?_
  refine w_U X1 B d19_3 rfl #[vr a, vi 0, vi 3, vr b1, .unset, .unset] rfl (w_a X1 B d19_4 rfl rfl (w_i X1 B d19_5 rfl (w_a X1 B d19_6 rfl rfl (w_c X1 B d19_7 (w_i X1 B d19_8 rfl ?_)))))
  show Sh T1 9 #[vr a, vi 0, vi 3, vr b1, .unset, .unset] [.int 3, .int 0, .ref b1, .int 0, .ref a]
  refine w_cs X1 B hZ hown hml (rmC5_3 l Z a0 hw [] a b1 ka k1 y0 y1 y2 h1 n0 Z1 V_a_1 V_b1 gn_b1 ne_a_b1) (tw hw 95 rfl) (tw hw 96 rfl) (tw hw 93 rfl) (tw hw 97 rfl) e1 d19_9 5 0 (lenOf pd11 rfl) rfl rfl rfl (by decide) ?_
  rintro _ T9 Lc9 X9 ⟨Nq9, K9, hq9⟩
  have N9 := Fr.app N0 Nq9
  have Wo9 := Wo1.keep K9 (own_k1 gn_b1)
  have V_a_9 := V_a_1.keep K9 (ninS ne_a_b1 nin0)
  have Kt9 := Keep.trans K1 K9 (fun x hx => Or.inr ((List.mem_singleton.mp hx) ▸ gz_b1))
  have Z9 : n0 ≤ T9.heap.size := Nat.le_trans Z1 K9.1
  rcases hq9 with ⟨rfl, gt9⟩ | ⟨rfl, gt9⟩ | ⟨rfl, gt9⟩ | ⟨rfl, hp9, VL9⟩
  · refine w_s X9 B d19_12 #[vr a, vi 0, vi 3, vr b1, vi 0, .unset] rfl (w_j X9 B d19_14 rfl (w_i X9 B d19_16 rfl (w_n X9 B d19_17 (feq (by decide)).1 (w_a X9 B d19_20 rfl rfl (w_i X9 B d19_21 rfl (w_i X9 B d19_22 rfl ?_))))))
    show Sh T9 23 #[vr a, vi 0, vi 3, vr b1, vi 0, .unset] [.int 3, .int 0, .ref a]
    refine w_cs X9 B hZ hown hml (rmTb3 l Z a0 hw [] a cs sf ka y0 y1 y2 T9.heap n0 Z9 Wo9 V_a_9) (tw hw 105 rfl) (tw hw 106 rfl) (tw hw 93 rfl) (tw hw 107 rfl) rfl d19_23 3 0 (lenOf pd12 rfl) rfl rfl rfl (by decide) ?_
    rintro _ T23 Lc23 X23 ⟨bb23, kb23, rfl, gz23, Nq23, K23, V_bb23⟩
    have N23 := Fr.app N9 Nq23
    have ne_a_bb23 : a ≠ bb23 := Nat.ne_of_lt (Nat.lt_of_lt_of_le V_a_9.lt gz23)
    have gn_bb23 : n0 ≤ bb23 := Nat.le_trans Z9 gz23
    have gz_bb23 : h0.size ≤ bb23 := Nat.le_trans Kt9.1 gz23
    have Wo23 := Wo9.keep K23 own_k0
    have V_a_23 := V_a_9.keep K23 nin0
    have Kt23 := Keep.trans Kt9 K23 (by simp)
    have Z23 : n0 ≤ T23.heap.size := Nat.le_trans Z9 K23.1
    refine w_u X23 B d19_26 rfl #[vr a, vi 0, vi 3, vr b1, vi 0, vr bb23] rfl (w_k X23 B d19_28 rfl rfl (w_j X23 B d19_30 rfl ?_))
    show Sh T23 32 #[vr a, vi 0, vi 3, vr b1, vi 0, vr bb23] [.int 0, .ref bb23]
    refine w_cs X23 B hZ hown hml (rmGc l Z a0 hw [] bb23 (0 : Int32) cs sf _ _ _ y0 T23.heap n0 Z23 Wo23 V_bb23 (by decide) (by decide) rfl rfl hr0.1 hr0.2) (tw hw 121 rfl) (tw hw 122 rfl) (tw hw 93 rfl) (tw hw 123 rfl) rfl d19_32 2 0 (lenOf pd6 rfl) rfl rfl rfl (by decide) ?_
    rintro _ T32 Lc32 X32 ⟨rfl, Nq32, hh32⟩
    have N32 := Fr.app N23 Nq32
    refine w_d X32 B d19_35 ?_
    show Sh T32 38 #[vr a, vi 0, vi 3, vr b1, vi 0, vr bb23] [.int 255, .int y0]
    have hc38 : (255 : Int32) < y0 := (Int32.lt_iff_toInt_lt.mpr gt9)
    refine w_y X32 B 38 54 rfl d19_38 (tlt hc38).2.2.1 (by decide) (w_k X32 B d19_54 rfl rfl ?_)
    show Sh T32 56 #[vr a, vi 0, vi 3, vr b1, vi 0, vr bb23] [.ref bb23]
    exact Dg.retA X32 hlk B hret rfl ⟨rfl, rfl⟩ d19_56 (by rw [hh32]; exact ⟨bb23, kb23, rfl, gz_bb23, N32, Kt23, Or.inr V_bb23⟩) (by decide)
  · refine w_s X9 B d19_12 #[vr a, vi 0, vi 3, vr b1, vi 1, .unset] rfl (w_j X9 B d19_14 rfl (w_i X9 B d19_16 rfl (w_n X9 B d19_17 (feq (by decide)).1 (w_a X9 B d19_20 rfl rfl (w_i X9 B d19_21 rfl (w_i X9 B d19_22 rfl ?_))))))
    show Sh T9 23 #[vr a, vi 0, vi 3, vr b1, vi 1, .unset] [.int 3, .int 0, .ref a]
    refine w_cs X9 B hZ hown hml (rmTb3 l Z a0 hw [] a cs sf ka y0 y1 y2 T9.heap n0 Z9 Wo9 V_a_9) (tw hw 105 rfl) (tw hw 106 rfl) (tw hw 93 rfl) (tw hw 107 rfl) rfl d19_23 3 0 (lenOf pd12 rfl) rfl rfl rfl (by decide) ?_
    rintro _ T23 Lc23 X23 ⟨bb23, kb23, rfl, gz23, Nq23, K23, V_bb23⟩
    have N23 := Fr.app N9 Nq23
    have ne_a_bb23 : a ≠ bb23 := Nat.ne_of_lt (Nat.lt_of_lt_of_le V_a_9.lt gz23)
    have gn_bb23 : n0 ≤ bb23 := Nat.le_trans Z9 gz23
    have gz_bb23 : h0.size ≤ bb23 := Nat.le_trans Kt9.1 gz23
    have Wo23 := Wo9.keep K23 own_k0
    have V_a_23 := V_a_9.keep K23 nin0
    have Kt23 := Keep.trans Kt9 K23 (by simp)
    have Z23 : n0 ≤ T23.heap.size := Nat.le_trans Z9 K23.1
    refine w_u X23 B d19_26 rfl #[vr a, vi 0, vi 3, vr b1, vi 1, vr bb23] rfl (w_k X23 B d19_28 rfl rfl (w_j X23 B d19_30 rfl ?_))
    show Sh T23 32 #[vr a, vi 0, vi 3, vr b1, vi 1, vr bb23] [.int 1, .ref bb23]
    refine w_cs X23 B hZ hown hml (rmGc l Z a0 hw [] bb23 (1 : Int32) cs sf _ _ _ y1 T23.heap n0 Z23 Wo23 V_bb23 (by decide) (by decide) rfl rfl hr1.1 hr1.2) (tw hw 121 rfl) (tw hw 122 rfl) (tw hw 93 rfl) (tw hw 123 rfl) rfl d19_32 2 0 (lenOf pd6 rfl) rfl rfl rfl (by decide) ?_
    rintro _ T32 Lc32 X32 ⟨rfl, Nq32, hh32⟩
    have N32 := Fr.app N23 Nq32
    refine w_d X32 B d19_35 ?_
    show Sh T32 38 #[vr a, vi 0, vi 3, vr b1, vi 1, vr bb23] [.int 255, .int y1]
    have hc38 : (255 : Int32) < y1 := (Int32.lt_iff_toInt_lt.mpr gt9)
    refine w_y X32 B 38 54 rfl d19_38 (tlt hc38).2.2.1 (by decide) (w_k X32 B d19_54 rfl rfl ?_)
    show Sh T32 56 #[vr a, vi 0, vi 3, vr b1, vi 1, vr bb23] [.ref bb23]
    exact Dg.retA X32 hlk B hret rfl ⟨rfl, rfl⟩ d19_56 (by rw [hh32]; exact ⟨bb23, kb23, rfl, gz_bb23, N32, Kt23, Or.inr V_bb23⟩) (by decide)
  · refine w_s X9 B d19_12 #[vr a, vi 0, vi 3, vr b1, vi 2, .unset] rfl (w_j X9 B d19_14 rfl (w_i X9 B d19_16 rfl (w_n X9 B d19_17 (feq (by decide)).1 (w_a X9 B d19_20 rfl rfl (w_i X9 B d19_21 rfl (w_i X9 B d19_22 rfl ?_))))))
    show Sh T9 23 #[vr a, vi 0, vi 3, vr b1, vi 2, .unset] [.int 3, .int 0, .ref a]
    refine w_cs X9 B hZ hown hml (rmTb3 l Z a0 hw [] a cs sf ka y0 y1 y2 T9.heap n0 Z9 Wo9 V_a_9) (tw hw 105 rfl) (tw hw 106 rfl) (tw hw 93 rfl) (tw hw 107 rfl) rfl d19_23 3 0 (lenOf pd12 rfl) rfl rfl rfl (by decide) ?_
    rintro _ T23 Lc23 X23 ⟨bb23, kb23, rfl, gz23, Nq23, K23, V_bb23⟩
    have N23 := Fr.app N9 Nq23
    have ne_a_bb23 : a ≠ bb23 := Nat.ne_of_lt (Nat.lt_of_lt_of_le V_a_9.lt gz23)
    have gn_bb23 : n0 ≤ bb23 := Nat.le_trans Z9 gz23
    have gz_bb23 : h0.size ≤ bb23 := Nat.le_trans Kt9.1 gz23
    have Wo23 := Wo9.keep K23 own_k0
    have V_a_23 := V_a_9.keep K23 nin0
    have Kt23 := Keep.trans Kt9 K23 (by simp)
    have Z23 : n0 ≤ T23.heap.size := Nat.le_trans Z9 K23.1
    refine w_u X23 B d19_26 rfl #[vr a, vi 0, vi 3, vr b1, vi 2, vr bb23] rfl (w_k X23 B d19_28 rfl rfl (w_j X23 B d19_30 rfl ?_))
    show Sh T23 32 #[vr a, vi 0, vi 3, vr b1, vi 2, vr bb23] [.int 2, .ref bb23]
    refine w_cs X23 B hZ hown hml (rmGc l Z a0 hw [] bb23 (2 : Int32) cs sf _ _ _ y2 T23.heap n0 Z23 Wo23 V_bb23 (by decide) (by decide) rfl rfl hr2.1 hr2.2) (tw hw 121 rfl) (tw hw 122 rfl) (tw hw 93 rfl) (tw hw 123 rfl) rfl d19_32 2 0 (lenOf pd6 rfl) rfl rfl rfl (by decide) ?_
    rintro _ T32 Lc32 X32 ⟨rfl, Nq32, hh32⟩
    have N32 := Fr.app N23 Nq32
    refine w_d X32 B d19_35 ?_
    show Sh T32 38 #[vr a, vi 0, vi 3, vr b1, vi 2, vr bb23] [.int 255, .int y2]
    have hc38 : (255 : Int32) < y2 := (Int32.lt_iff_toInt_lt.mpr gt9)
    refine w_y X32 B 38 54 rfl d19_38 (tlt hc38).2.2.1 (by decide) (w_k X32 B d19_54 rfl rfl ?_)
    show Sh T32 56 #[vr a, vi 0, vi 3, vr b1, vi 2, vr bb23] [.ref bb23]
    exact Dg.retA X32 hlk B hret rfl ⟨rfl, rfl⟩ d19_56 (by rw [hh32]; exact ⟨bb23, kb23, rfl, gz_bb23, N32, Kt23, Or.inr V_bb23⟩) (by decide)
  · refine w_s X9 B d19_12 #[vr a, vi 0, vi 3, vr b1, vi 3, .unset] rfl (w_j X9 B d19_14 rfl (w_i X9 B d19_16 rfl (w_y X9 B 17 57 rfl d19_17 (teq (by decide)).1 (by decide) (w_a X9 B d19_57 rfl rfl ?_))))
    show Sh T9 58 #[vr a, vi 0, vi 3, vr b1, vi 3, .unset] [.ref b1]
    exact Dg.retA X9 hlk B hret rfl ⟨rfl, rfl⟩ d19_58 ⟨b1, k1, rfl, gz_b1, N9, Kt9, Or.inl ⟨VL9, hp9⟩⟩ (by decide)

def QVc3 (Z : State) (a : Addr) (ar : Addr) (cs : Int32) (sf : Value) (ka : ClassId) (y0 : Int32) (y1 : Int32) (y2 : Int32) (h0 : Heap) (n0 : Nat) (v : Option Value) (h : Heap) (L : List Loc) : Prop := v = none ∧ Fr n0 L ∧ Keep h0 h [a] ∧ own_Str Z h a 3 6 [.int (own_b y0), .int (own_b y1), .int (own_b y2)] [.int (own_lo y0), .int (own_hi y0), .int (own_lo y1), .int (own_hi y1), .int (own_lo y2), .int (own_hi y2)] (y0.toInt ≤ 255 ∧ y1.toInt ≤ 255 ∧ y2.toInt ≤ 255 ∧ True)
theorem rmVc3 (l : Launch) (Z : State) (a0 : Array Value) (hw : ∀ d ∈ tables_1, d.before a0 Z = true) (ws : List Jvm.Cond) (a : Addr) (ar : Addr) (cs : Int32) (sf : Value) (ka : ClassId) (y0 : Int32) (y1 : Int32) (y2 : Int32) (h0 : Heap) (n0 : Nat) (Z0 : n0 ≤ h0.size) (hW : own_W Z h0 n0 cs sf) (ga : n0 ≤ a) (Ea : Exa Z h0 a "java/lang/String") (Fc : Fld Z h0 a "java/lang/String" "coder" "B" (.int 0)) (Fv : Fld Z h0 a "java/lang/String" "value" "[B" .null) (Vr : Arv Z h0 ar ka .char 3 [.int y0, .int y1, .int y2] (.int 0)) (hne : a ≠ ar) (hr0 : 0 ≤ y0.toInt ∧ y0.toInt ≤ 65535) (hr1 : 0 ≤ y1.toInt ∧ y1.toInt ≤ 65535) (hr2 : 0 ≤ y2.toInt ∧ y2.toInt ≤ 65535) :
    own_Met l on4 (Jvm.Cond.code on4 jdk_42_method_149_code 6 none :: ws) ({ frames := 4, cells := 2, slots := 9, locals := 69 } : Room) #[.ref a, .ref ar, .int 0, .int 3, .null] Z h0 (QVc3 Z a ar cs sf ka y0 y1 y2 h0 n0) := by
  refine own_met (plainFor_of_name pn0) (fun m => ef_RRIIN6 m a ar (0 : Int32) (3 : Int32)) ?_
  intro p e s m below meth c s₁ B hlk hret hml hZ hown hnm X0 e0
  have hx := B.1
  have hby := B.2
  have N0 := Fr.nil n0
  refine w_a X0 B d3_0 rfl rfl ?_
  show Sh s₁ 1 #[vr a, vr ar, vi 0, vi 3, .val .null, .unset] [.ref a]
  obtain ⟨T1, X1, e1, st1⟩ := initO X0 hx hZ hown (tw hw 17 rfl) (tw hw 18 rfl) (tw hw 19 rfl) e0 (g := (mkF m 1 #[vr a, vr ar, vi 0, vi 3, .val .null, .unset] [.ref a])) rfl (by rw [hml]; rfl) rfl (hb hby d3_1) (by decide) (W := 0) (by show 2 * 0 + _ ≤ _; exact Nat.le_of_eq rfl) (by decide)
  refine Dg.st st1 ?_
  refine w_i X1 B d3_4 rfl (w_t X1 B 5 27 rfl d3_5 (feq (by decide)).2 (by decide) ?_)
  show Sh T1 27 #[vr a, vr ar, vi 0, vi 3, .val .null, .unset] []
  refine w_gs X1 B hZ hown (tw hw 47 rfl) Via.refl e1 hW.cst d3_27 ?_
  intro T27 X27 e27
  have hc30 : ¬ (cs = (0 : Int32)) := hW.cne
  refine w_f X27 B d3_30 (feq hc30).1 (w_a X27 B d3_33 rfl rfl (w_i X27 B d3_34 rfl (w_i X27 B d3_35 rfl ?_)))
  show Sh T27 36 #[vr a, vr ar, vi 0, vi 3, .val .null, .unset] [.int 3, .int 0, .ref ar]
  refine w_cs X27 B hZ hown hml (rmC3_3 l Z a0 hw [] ar cs sf ka y0 y1 y2 h0 n0 Z0 hW Vr hr0 hr1 hr2) (tw hw 91 rfl) (tw hw 92 rfl) (tw hw 93 rfl) (tw hw 94 rfl) e27 d3_36 3 0 (lenOf pd12 rfl) rfl rfl rfl (by decide) ?_
  rintro _ T36 Lc36 X36 ⟨bb36, kb36, rfl, gz36, Nq36, K36, hq36⟩
  have N36 := Fr.app N0 Nq36
  have ne_a_bb36 : a ≠ bb36 := Nat.ne_of_lt (Nat.lt_of_lt_of_le Ea.lt gz36)
  have ne_ar_bb36 : ar ≠ bb36 := Nat.ne_of_lt (Nat.lt_of_lt_of_le Vr.lt gz36)
  have gn_bb36 : n0 ≤ bb36 := Nat.le_trans Z0 gz36
  have gz_bb36 : h0.size ≤ bb36 := Nat.le_trans (Keep.refl h0 [a]).1 gz36
  have Wo36 := hW.keep K36 own_k0
  have E_a_36 := Ea.keep K36
  have F_a_coder_36 := Fc.keep K36 nin0
  have F_a_value_36 := Fv.keep K36 nin0
  have V_ar_36 := Vr.keep K36 nin0
  have Kt36 := Keep.trans (Keep.refl h0 [a]) K36 (by simp)
  have Z36 : n0 ≤ T36.heap.size := Nat.le_trans Z0 K36.1
  rcases hq36 with ⟨VL36, hp36⟩ | VU36
  · refine w_u X36 B d3_39 rfl #[vr a, vr ar, vi 0, vi 3, .val .null, vr bb36] rfl (w_a X36 B d3_41 rfl rfl (w_k X36 B d3_42 rfl rfl (w_i X36 B d3_44 rfl ?_)))
    show Sh T36 45 #[vr a, vr ar, vi 0, vi 3, .val .null, vr bb36] [.int 3, .ref bb36, .ref a]
    refine w_cs X36 B hZ hown hml (rmCl l Z a0 hw [] bb36 (3 : Int32) _ _ _ 0 T36.heap n0 Z36 VL36 (by decide) rfl) (tw hw 98 rfl) (tw hw 99 rfl) (tw hw 93 rfl) (tw hw 100 rfl) rfl d3_45 2 1 (lenOf pd13 rfl) rfl rfl rfl (by decide) ?_
    rintro _ T45 Lc45 X45 ⟨rfl, Nq45, hh45⟩
    have N45 := Fr.app N36 Nq45
    obtain ⟨T48, h48, X48, e48, W48, st48⟩ := putF X45 hx hZ hown (host := "") (Or.inl (tw hw 27 rfl)) Via.refl hh45 F_a_coder_36 E_a_36 (Or.inr ⟨(tw hw 23 rfl), rfl, hnm⟩) (tw hw 8 rfl) (ty := .byte) (by decide) rfl rfl (g := (mkF m 48 #[vr a, vr ar, vi 0, vi 3, .val .null, vr bb36] [.int 0, .ref a])) rfl rfl (hb hby d3_48)
    have Wo48 := Wo36.wr W48 ga
    have E_a_48 := E_a_36.wr W48
    have F_a_value_48 := F_a_value_36.other W48 (Or.inr (slot_ne (Or.inr (tw hw 22 rfl)) (Or.inr (tw hw 23 rfl)) (by decide) (t := (.array .byte)) (t' := .byte) (by decide) (by decide)))
    have V_ar_48 := V_ar_36.other W48 (Ne.symm hne)
    have V_bb36_48 := VL36.other W48 (Ne.symm ne_a_bb36)
    have F_a_coder_48 := F_a_coder_36.same W48
    have K48 := Kt36.wr W48 (Or.inl (List.mem_of_getElem? (i := 0) rfl))
    have N48 := Fr.snoc X48 N45 ga
    have Z48 : n0 ≤ h48.size := Nat.le_trans Z36 (Keep.of_wr W48).1
    refine Dg.st st48 ?_
    refine w_a X48 B d3_51 rfl rfl (w_k X48 B d3_52 rfl rfl ?_)
    show Sh T48 54 #[vr a, vr ar, vi 0, vi 3, .val .null, vr bb36] [.ref bb36, .ref a]
    obtain ⟨T54, h54, X54, e54, W54, st54⟩ := putF X48 hx hZ hown (host := "") (Or.inl (tw hw 26 rfl)) Via.refl e48 F_a_value_48 E_a_48 (Or.inr ⟨(tw hw 22 rfl), rfl, hnm⟩) (tw hw 8 rfl) (ty := (.array .byte)) (by decide) rfl rfl (g := (mkF m 54 #[vr a, vr ar, vi 0, vi 3, .val .null, vr bb36] [.ref bb36, .ref a])) rfl rfl (hb hby d3_54)
    have Wo54 := Wo48.wr W54 ga
    have E_a_54 := E_a_48.wr W54
    have F_a_coder_54 := F_a_coder_48.other W54 (Or.inr (slot_ne (Or.inr (tw hw 23 rfl)) (Or.inr (tw hw 22 rfl)) (by decide) (t := .byte) (t' := (.array .byte)) (by decide) (by decide)))
    have V_ar_54 := V_ar_48.other W54 (Ne.symm hne)
    have V_bb36_54 := V_bb36_48.other W54 (Ne.symm ne_a_bb36)
    have F_a_value_54 := F_a_value_48.same W54
    have K54 := K48.wr W54 (Or.inl (List.mem_of_getElem? (i := 0) rfl))
    have N54 := Fr.snoc X54 N48 ga
    have Z54 : n0 ≤ h54.size := Nat.le_trans Z48 (Keep.of_wr W54).1
    refine Dg.st st54 ?_
    exact Dg.ret0 X54 hlk hx hret (hb hby d3_57) (by rw [e54]; exact ⟨rfl, N54, K54, E_a_54, Or.inl ⟨bb36, kb36, F_a_coder_54, F_a_value_54, V_bb36_54, hp36⟩⟩) (by decide) (by decide)
  · refine w_u X36 B d3_39 rfl #[vr a, vr ar, vi 0, vi 3, .val .null, vr bb36] rfl (w_a X36 B d3_41 rfl rfl (w_k X36 B d3_42 rfl rfl (w_i X36 B d3_44 rfl ?_)))
    show Sh T36 45 #[vr a, vr ar, vi 0, vi 3, .val .null, vr bb36] [.int 3, .ref bb36, .ref a]
    refine w_cs X36 B hZ hown hml (rmCl l Z a0 hw [] bb36 (3 : Int32) _ _ _ 1 T36.heap n0 Z36 VU36 (by decide) rfl) (tw hw 98 rfl) (tw hw 99 rfl) (tw hw 93 rfl) (tw hw 100 rfl) rfl d3_45 2 1 (lenOf pd13 rfl) rfl rfl rfl (by decide) ?_
    rintro _ T45 Lc45 X45 ⟨rfl, Nq45, hh45⟩
    have N45 := Fr.app N36 Nq45
    obtain ⟨T48, h48, X48, e48, W48, st48⟩ := putF X45 hx hZ hown (host := "") (Or.inl (tw hw 27 rfl)) Via.refl hh45 F_a_coder_36 E_a_36 (Or.inr ⟨(tw hw 23 rfl), rfl, hnm⟩) (tw hw 8 rfl) (ty := .byte) (by decide) rfl rfl (g := (mkF m 48 #[vr a, vr ar, vi 0, vi 3, .val .null, vr bb36] [.int 1, .ref a])) rfl rfl (hb hby d3_48)
    have Wo48 := Wo36.wr W48 ga
    have E_a_48 := E_a_36.wr W48
    have F_a_value_48 := F_a_value_36.other W48 (Or.inr (slot_ne (Or.inr (tw hw 22 rfl)) (Or.inr (tw hw 23 rfl)) (by decide) (t := (.array .byte)) (t' := .byte) (by decide) (by decide)))
    have V_ar_48 := V_ar_36.other W48 (Ne.symm hne)
    have V_bb36_48 := VU36.other W48 (Ne.symm ne_a_bb36)
    have F_a_coder_48 := F_a_coder_36.same W48
    have K48 := Kt36.wr W48 (Or.inl (List.mem_of_getElem? (i := 0) rfl))
    have N48 := Fr.snoc X48 N45 ga
    have Z48 : n0 ≤ h48.size := Nat.le_trans Z36 (Keep.of_wr W48).1
    refine Dg.st st48 ?_
    refine w_a X48 B d3_51 rfl rfl (w_k X48 B d3_52 rfl rfl ?_)
    show Sh T48 54 #[vr a, vr ar, vi 0, vi 3, .val .null, vr bb36] [.ref bb36, .ref a]
    obtain ⟨T54, h54, X54, e54, W54, st54⟩ := putF X48 hx hZ hown (host := "") (Or.inl (tw hw 26 rfl)) Via.refl e48 F_a_value_48 E_a_48 (Or.inr ⟨(tw hw 22 rfl), rfl, hnm⟩) (tw hw 8 rfl) (ty := (.array .byte)) (by decide) rfl rfl (g := (mkF m 54 #[vr a, vr ar, vi 0, vi 3, .val .null, vr bb36] [.ref bb36, .ref a])) rfl rfl (hb hby d3_54)
    have Wo54 := Wo48.wr W54 ga
    have E_a_54 := E_a_48.wr W54
    have F_a_coder_54 := F_a_coder_48.other W54 (Or.inr (slot_ne (Or.inr (tw hw 23 rfl)) (Or.inr (tw hw 22 rfl)) (by decide) (t := .byte) (t' := (.array .byte)) (by decide) (by decide)))
    have V_ar_54 := V_ar_48.other W54 (Ne.symm hne)
    have V_bb36_54 := V_bb36_48.other W54 (Ne.symm ne_a_bb36)
    have F_a_value_54 := F_a_value_48.same W54
    have K54 := K48.wr W54 (Or.inl (List.mem_of_getElem? (i := 0) rfl))
    have N54 := Fr.snoc X54 N48 ga
    have Z54 : n0 ≤ h54.size := Nat.le_trans Z48 (Keep.of_wr W54).1
    refine Dg.st st54 ?_
    exact Dg.ret0 X54 hlk hx hret (hb hby d3_57) (by rw [e54]; exact ⟨rfl, N54, K54, E_a_54, Or.inr ⟨bb36, kb36, F_a_coder_54, F_a_value_54, V_bb36_54⟩⟩) (by decide) (by decide)

def QSc3 (Z : State) (a : Addr) (ar : Addr) (cs : Int32) (sf : Value) (ka : ClassId) (y0 : Int32) (y1 : Int32) (y2 : Int32) (h0 : Heap) (n0 : Nat) (v : Option Value) (h : Heap) (L : List Loc) : Prop := v = none ∧ Fr n0 L ∧ Keep h0 h [a] ∧ own_Str Z h a 3 6 [.int (own_b y0), .int (own_b y1), .int (own_b y2)] [.int (own_lo y0), .int (own_hi y0), .int (own_lo y1), .int (own_hi y1), .int (own_lo y2), .int (own_hi y2)] (y0.toInt ≤ 255 ∧ y1.toInt ≤ 255 ∧ y2.toInt ≤ 255 ∧ True)
theorem rmSc3 (l : Launch) (Z : State) (a0 : Array Value) (hw : ∀ d ∈ tables_1, d.before a0 Z = true) (ws : List Jvm.Cond) (a : Addr) (ar : Addr) (cs : Int32) (sf : Value) (ka : ClassId) (y0 : Int32) (y1 : Int32) (y2 : Int32) (h0 : Heap) (n0 : Nat) (Z0 : n0 ≤ h0.size) (hW : own_W Z h0 n0 cs sf) (ga : n0 ≤ a) (Ea : Exa Z h0 a "java/lang/String") (Fc : Fld Z h0 a "java/lang/String" "coder" "B" (.int 0)) (Fv : Fld Z h0 a "java/lang/String" "value" "[B" .null) (Vr : Arv Z h0 ar ka .char 3 [.int y0, .int y1, .int y2] (.int 0)) (hne : a ≠ ar) (hr0 : 0 ≤ y0.toInt ∧ y0.toInt ≤ 65535) (hr1 : 0 ≤ y1.toInt ∧ y1.toInt ≤ 65535) (hr2 : 0 ≤ y2.toInt ∧ y2.toInt ≤ 65535) :
    own_Met l on3 (Jvm.Cond.code on3 jdk_42_method_3_code 2 none :: ws) ({ frames := 5, cells := 2, slots := 9, locals := 89 } : Room) #[.ref a, .ref ar] Z h0 (QSc3 Z a ar cs sf ka y0 y1 y2 h0 n0) := by
  refine own_met (plainFor_of_name pn0) (fun m => ef_RR2 m a ar) ?_
  intro p e s m below meth c s₁ B hlk hret hml hZ hown hnm X0 e0
  have hx := B.1
  have hby := B.2
  have N0 := Fr.nil n0
  refine w_a X0 B d2_0 rfl rfl (w_a X0 B d2_1 rfl rfl (w_c X0 B d2_2 (w_a X0 B d2_3 rfl rfl (w_al X0 B hZ e0 Vr d2_4 (Dg.st (fun _ kk => XS.aconstNull X0.here hx rfl (hb hby d2_5) kk) ?_)))))
  show Sh s₁ 6 #[vr a, vr ar] [.null, .int 3, .int 0, .ref ar, .ref a]
  refine w_ci X0 B hZ hown hml (rmVc3 l Z a0 hw [] a ar cs sf ka y0 y1 y2 h0 n0 Z0 hW ga Ea Fc Fv Vr hne hr0 hr1 hr2) (tw hw 13 rfl) (tw hw 14 rfl) (tw hw 9 rfl) (tw hw 16 rfl) e0 d2_6 4 0 rfl (lenOf pd0 rfl) rfl rfl rfl rfl (by decide) ?_
  rintro _ T6 Lc6 X6 ⟨rfl, Nq6, K6, S6⟩
  have N6 := Fr.app N0 Nq6
  exact Dg.ret0 X6 hlk hx hret (hb hby d2_9) ⟨rfl, N6, K6, S6⟩ (by decide) (by decide)

def QNl4 (Z : State)  (h0 : Heap) (n0 : Nat) (v : Option Value) (h : Heap) (L : List Loc) : Prop := v = some (.int 8) ∧ Fr n0 L ∧ h = h0
theorem rmNl4 (l : Launch) (Z : State) (a0 : Array Value) (hw : ∀ d ∈ tables_1, d.before a0 Z = true) (ws : List Jvm.Cond)  (h0 : Heap) (n0 : Nat) (Z0 : n0 ≤ h0.size) :
    own_Met l on5 (Jvm.Cond.code on5 jdk_52_method_3_code 1 (some .int) :: ws) orm26 #[.int 4] Z h0 (QNl4 Z  h0 n0) := by
  refine own_met (plainFor_of_name pn2) (fun m => ef_I1 m (4 : Int32)) ?_
  intro p e s m below meth c s₁ B hlk hret hml hZ hown hnm X0 e0
  have hx := B.1
  have hby := B.2
  have N0 := Fr.nil n0
  refine w_i X0 B d25_0 rfl (w_t X0 B 1 12 rfl d25_1 (flt (by decide)).2.1 (by decide) (w_i X0 B d25_12 rfl (Dg.st (fun _ kk => X0.ldcInt hx hown (mvT hZ (tw hw 114 rfl)) (g := (mkF m 13 #[vi 4] [.int 4])) rfl (hb hby d25_13) _ kk) (w_y X0 B 15 55 rfl d25_15 (tlt (by decide)).1 (by decide) (w_i X0 B d25_55 rfl (w_c X0 B d25_56 (Dg.st (fun _ kk => XS.ishl X0.here hx rfl (hb hby d25_57) rfl kk) ?_)))))))
  show Sh s₁ 58 #[vi 4] [.int 8]
  exact Dg.retI X0 hlk B hret rfl (Or.inl rfl) d25_58 (by rw [e0]; exact ⟨rfl, N0, rfl⟩) (by decide)

def QNf4 (Z : State)  (h0 : Heap) (n0 : Nat) (v : Option Value) (h : Heap) (L : List Loc) : Prop := ∃ (b : Addr) (kb : ClassId), v = some (.ref b) ∧ h0.size ≤ b ∧ Fr n0 L ∧ Keep h0 h [] ∧ Arv Z h b kb .byte 8 [.int 0, .int 0, .int 0, .int 0, .int 0, .int 0, .int 0, .int 0] (.int 0)
theorem rmNf4 (l : Launch) (Z : State) (a0 : Array Value) (hw : ∀ d ∈ tables_1, d.before a0 Z = true) (ws : List Jvm.Cond)  (h0 : Heap) (n0 : Nat) (Z0 : n0 ≤ h0.size) :
    own_Met l on13 (Jvm.Cond.code on13 jdk_52_method_2_code 1 (some (.array .byte)) :: ws) ({ frames := 1, cells := 1, slots := 8, locals := 15 } : Room) #[.int 4] Z h0 (QNf4 Z  h0 n0) := by
  refine own_met (plainFor_of_name pn2) (fun m => ef_I1 m (4 : Int32)) ?_
  intro p e s m below meth c s₁ B hlk hret hml hZ hown hnm X0 e0
  have hx := B.1
  have hby := B.2
  have N0 := Fr.nil n0
  refine w_i X0 B d24_0 rfl ?_
  show Sh s₁ 1 #[vi 4] [.int 4]
  refine w_cs X0 B hZ hown hml (rmNl4 l Z a0 hw []  h0 n0 Z0 ) (tw hw 111 rfl) (tw hw 112 rfl) (tw hw 93 rfl) (tw hw 113 rfl) e0 d24_1 1 0 (lenOf pd8 rfl) rfl rfl rfl (by decide) ?_
  rintro _ T1 Lc1 X1 ⟨rfl, Nq1, hh1⟩
  have N1 := Fr.app N0 Nq1
  obtain ⟨T4, h4, k4, X4, e4, E4, A4, st4⟩ := newP X1 hx hZ (tw hw 21 rfl) hh1 (g := (mkF m 4 #[vi 4] [.int 8])) rfl (hb hby d24_4) rfl (by decide) (cap := 8) (by decide) (by decide) (by decide) (by decide)
  obtain ⟨b4, g4⟩ : ∃ z, z = h0.size := ⟨_, rfl⟩
  rw [← g4] at A4 st4
  have gz_b4 : h0.size ≤ b4 := Nat.le_trans (Keep.refl h0 []).1 (Nat.le_of_eq g4.symm)
  have K4 := (Keep.refl h0 []).ext E4
  have gn_b4 : n0 ≤ b4 := Nat.le_trans Z0 (Nat.le_of_eq g4.symm)
  have Z4 : n0 ≤ h4.size := Nat.le_trans Z0 E4.1
  have V_b4 : Arv Z h4 b4 k4 .byte (8 : Int32) [.int 0, .int 0, .int 0, .int 0, .int 0, .int 0, .int 0, .int 0] (.int 0) := (Arv.new A4 (by decide)).pad (pad_rep [] (.int 0) 8)
  refine Dg.st st4 ?_
  exact Dg.retA X4 hlk B hret rfl ⟨rfl, rfl⟩ d24_6 (by rw [e4]; exact ⟨b4, k4, rfl, gz_b4, N1, K4, V_b4⟩) (by decide)

def QTb4 (Z : State) (a : Addr) (cs : Int32) (sf : Value) (ka : ClassId) (y0 : Int32) (y1 : Int32) (y2 : Int32) (y3 : Int32) (h0 : Heap) (n0 : Nat) (v : Option Value) (h : Heap) (L : List Loc) : Prop := ∃ (b : Addr) (kb : ClassId), v = some (.ref b) ∧ h0.size ≤ b ∧ Fr n0 L ∧ Keep h0 h [] ∧ Arv Z h b kb .byte 8 [.int (own_lo y0), .int (own_hi y0), .int (own_lo y1), .int (own_hi y1), .int (own_lo y2), .int (own_hi y2), .int (own_lo y3), .int (own_hi y3)] (.int 0)
theorem rmTb4 (l : Launch) (Z : State) (a0 : Array Value) (hw : ∀ d ∈ tables_1, d.before a0 Z = true) (ws : List Jvm.Cond) (a : Addr) (cs : Int32) (sf : Value) (ka : ClassId) (y0 : Int32) (y1 : Int32) (y2 : Int32) (y3 : Int32) (h0 : Heap) (n0 : Nat) (Z0 : n0 ≤ h0.size) (hW : own_W Z h0 n0 cs sf) (Va : Arv Z h0 a ka .char 4 [.int y0, .int y1, .int y2, .int y3] (.int 0)) :
    own_Met l on15 (Jvm.Cond.code on15 jdk_52_method_14_code 5 (some (.array .byte)) :: ws) ({ frames := 2, cells := 1, slots := 8, locals := 30 } : Room) #[.ref a, .int 0, .int 4] Z h0 (QTb4 Z a cs sf ka y0 y1 y2 y3 h0 n0) := by
  refine own_met (plainFor_of_name pn2) (fun m => ef_RII5 m a (0 : Int32) (4 : Int32)) ?_
  intro p e s m below meth c s₁ B hlk hret hml hZ hown hnm X0 e0
  have hx := B.1
  have hby := B.2
  have N0 := Fr.nil n0
  refine w_i X0 B d23_0 rfl ?_
  show Sh s₁ 1 #[vr a, vi 0, vi 4, .unset, .unset] [.int 4]
  refine w_cs X0 B hZ hown hml (rmNf4 l Z a0 hw []  h0 n0 Z0 ) (tw hw 108 rfl) (tw hw 109 rfl) (tw hw 93 rfl) (tw hw 110 rfl) e0 d23_1 1 0 (lenOf pd9 rfl) rfl rfl rfl (by decide) ?_
  rintro _ T1 Lc1 X1 ⟨bb1, kb1, rfl, gz1, Nq1, K1, V_bb1⟩
  have N1 := Fr.app N0 Nq1
  have ne_a_bb1 : a ≠ bb1 := Nat.ne_of_lt (Nat.lt_of_lt_of_le Va.lt gz1)
  have gn_bb1 : n0 ≤ bb1 := Nat.le_trans Z0 gz1
  have gz_bb1 : h0.size ≤ bb1 := Nat.le_trans (Keep.refl h0 []).1 gz1
  have Wo1 := hW.keep K1 own_k0
  have V_a_1 := Va.keep K1 nin0
  have Kt1 := Keep.trans (Keep.refl h0 []) K1 (by simp)
  have Z1 : n0 ≤ T1.heap.size := Nat.le_trans Z0 K1.1
  refine w_U X1 B d23_4 rfl #[vr a, vi 0, vi 4, vr bb1, .unset] rfl (w_c X1 B d23_5 (w_s X1 B d23_6 #[vr a, vi 0, vi 4, vr bb1, vi 0] rfl (w_j X1 B d23_8 rfl (w_i X1 B d23_10 rfl (w_n X1 B d23_11 (tlt (by decide)).2.1 (w_a X1 B d23_14 rfl rfl (w_j X1 B d23_15 rfl ?_)))))))
  show Sh T1 17 #[vr a, vi 0, vi 4, vr bb1, vi 0] [.int 0, .ref bb1]
  refine w_a X1 B d23_17 rfl rfl (w_i X1 B d23_18 rfl (w_ca X1 B hZ rfl V_a_1 (by decide) (v := (.int y0)) rfl d23_19 ?_))
  show Sh T1 20 #[vr a, vi 0, vi 4, vr bb1, vi 0] [.int y0, .int 0, .ref bb1]
  refine w_cs X1 B hZ hown hml (rmPu l Z a0 hw [] bb1 (0 : Int32) y0 cs sf _ _ _ T1.heap n0 Z1 Wo1 gn_bb1 V_bb1 (by decide) (by decide) (Nat.le_of_ble_eq_true rfl) (Nat.le_of_ble_eq_true rfl)) (tw hw 115 rfl) (tw hw 116 rfl) (tw hw 93 rfl) (tw hw 117 rfl) rfl d23_20 3 0 (lenOf pd10 rfl) rfl rfl rfl (by decide) ?_
  rintro _ T20 Lc20 X20 ⟨rfl, Nq20, K20, V20⟩
  have N20 := Fr.app N1 Nq20
  have Wo20 := Wo1.keep K20 (own_k1 gn_bb1)
  have V_a_20 := V_a_1.keep K20 (ninS ne_a_bb1 nin0)
  have Kt20 := Keep.trans Kt1 K20 (fun x hx => Or.inr ((List.mem_singleton.mp hx) ▸ gz_bb1))
  have Z20 : n0 ≤ T20.heap.size := Nat.le_trans Z1 K20.1
  refine w_p X20 B d23_23 rfl #[vr a, vi 1, vi 4, vr bb1, vi 0] rfl (w_p X20 B d23_26 rfl #[vr a, vi 1, vi 4, vr bb1, vi 1] rfl (w_g X20 B 29 8 rfl d23_29 (by decide) (w_j X20 B d23_8 rfl (w_i X20 B d23_10 rfl (w_n X20 B d23_11 (tlt (by decide)).2.1 (w_a X20 B d23_14 rfl rfl (w_j X20 B d23_15 rfl ?_)))))))
  show Sh T20 17 #[vr a, vi 1, vi 4, vr bb1, vi 1] [.int 1, .ref bb1]
  refine w_a X20 B d23_17 rfl rfl (w_i X20 B d23_18 rfl (w_ca X20 B hZ rfl V_a_20 (by decide) (v := (.int y1)) rfl d23_19 ?_))
  show Sh T20 20 #[vr a, vi 1, vi 4, vr bb1, vi 1] [.int y1, .int 1, .ref bb1]
  refine w_cs X20 B hZ hown hml (rmPu l Z a0 hw [] bb1 (1 : Int32) y1 cs sf _ _ _ T20.heap n0 Z20 Wo20 gn_bb1 V20 (by decide) (by decide) (Nat.le_of_ble_eq_true rfl) (Nat.le_of_ble_eq_true rfl)) (tw hw 115 rfl) (tw hw 116 rfl) (tw hw 93 rfl) (tw hw 117 rfl) rfl d23_20 3 0 (lenOf pd10 rfl) rfl rfl rfl (by decide) ?_
  rintro _ T20_2 Lc20_2 X20_2 ⟨rfl, Nq20_2, K20_2, V20_2⟩
  have N20_2 := Fr.app N20 Nq20_2
  have Wo20_2 := Wo20.keep K20_2 (own_k1 gn_bb1)
  have V_a_20_2 := V_a_20.keep K20_2 (ninS ne_a_bb1 nin0)
  have Kt20_2 := Keep.trans Kt20 K20_2 (fun x hx => Or.inr ((List.mem_singleton.mp hx) ▸ gz_bb1))
  have Z20_2 : n0 ≤ T20_2.heap.size := Nat.le_trans Z20 K20_2.1
  refine w_p X20_2 B d23_23 rfl #[vr a, vi 2, vi 4, vr bb1, vi 1] rfl (w_p X20_2 B d23_26 rfl #[vr a, vi 2, vi 4, vr bb1, vi 2] rfl (w_g X20_2 B 29 8 rfl d23_29 (by decide) (w_j X20_2 B d23_8 rfl (w_i X20_2 B d23_10 rfl (w_n X20_2 B d23_11 (tlt (by decide)).2.1 (w_a X20_2 B d23_14 rfl rfl (w_j X20_2 B d23_15 rfl ?_)))))))
  show Sh T20_2 17 #[vr a, vi 2, vi 4, vr bb1, vi 2] [.int 2, .ref bb1]
  refine w_a X20_2 B d23_17 rfl rfl (w_i X20_2 B d23_18 rfl (w_ca X20_2 B hZ rfl V_a_20_2 (by decide) (v := (.int y2)) rfl d23_19 ?_))
  show Sh T20_2 20 #[vr a, vi 2, vi 4, vr bb1, vi 2] [.int y2, .int 2, .ref bb1]
  refine w_cs X20_2 B hZ hown hml (rmPu l Z a0 hw [] bb1 (2 : Int32) y2 cs sf _ _ _ T20_2.heap n0 Z20_2 Wo20_2 gn_bb1 V20_2 (by decide) (by decide) (Nat.le_of_ble_eq_true rfl) (Nat.le_of_ble_eq_true rfl)) (tw hw 115 rfl) (tw hw 116 rfl) (tw hw 93 rfl) (tw hw 117 rfl) rfl d23_20 3 0 (lenOf pd10 rfl) rfl rfl rfl (by decide) ?_
  rintro _ T20_3 Lc20_3 X20_3 ⟨rfl, Nq20_3, K20_3, V20_3⟩
  have N20_3 := Fr.app N20_2 Nq20_3
  have Wo20_3 := Wo20_2.keep K20_3 (own_k1 gn_bb1)
  have V_a_20_3 := V_a_20_2.keep K20_3 (ninS ne_a_bb1 nin0)
  have Kt20_3 := Keep.trans Kt20_2 K20_3 (fun x hx => Or.inr ((List.mem_singleton.mp hx) ▸ gz_bb1))
  have Z20_3 : n0 ≤ T20_3.heap.size := Nat.le_trans Z20_2 K20_3.1
  refine w_p X20_3 B d23_23 rfl #[vr a, vi 3, vi 4, vr bb1, vi 2] rfl (w_p X20_3 B d23_26 rfl #[vr a, vi 3, vi 4, vr bb1, vi 3] rfl (w_g X20_3 B 29 8 rfl d23_29 (by decide) (w_j X20_3 B d23_8 rfl (w_i X20_3 B d23_10 rfl (w_n X20_3 B d23_11 (tlt (by decide)).2.1 (w_a X20_3 B d23_14 rfl rfl (w_j X20_3 B d23_15 rfl ?_)))))))
  show Sh T20_3 17 #[vr a, vi 3, vi 4, vr bb1, vi 3] [.int 3, .ref bb1]
  refine w_a X20_3 B d23_17 rfl rfl (w_i X20_3 B d23_18 rfl (w_ca X20_3 B hZ rfl V_a_20_3 (by decide) (v := (.int y3)) rfl d23_19 ?_))
  show Sh T20_3 20 #[vr a, vi 3, vi 4, vr bb1, vi 3] [.int y3, .int 3, .ref bb1]
  refine w_cs X20_3 B hZ hown hml (rmPu l Z a0 hw [] bb1 (3 : Int32) y3 cs sf _ _ _ T20_3.heap n0 Z20_3 Wo20_3 gn_bb1 V20_3 (by decide) (by decide) (Nat.le_of_ble_eq_true rfl) (Nat.le_of_ble_eq_true rfl)) (tw hw 115 rfl) (tw hw 116 rfl) (tw hw 93 rfl) (tw hw 117 rfl) rfl d23_20 3 0 (lenOf pd10 rfl) rfl rfl rfl (by decide) ?_
  rintro _ T20_4 Lc20_4 X20_4 ⟨rfl, Nq20_4, K20_4, V20_4⟩
  have N20_4 := Fr.app N20_3 Nq20_4
  have Wo20_4 := Wo20_3.keep K20_4 (own_k1 gn_bb1)
  have V_a_20_4 := V_a_20_3.keep K20_4 (ninS ne_a_bb1 nin0)
  have Kt20_4 := Keep.trans Kt20_3 K20_4 (fun x hx => Or.inr ((List.mem_singleton.mp hx) ▸ gz_bb1))
  have Z20_4 : n0 ≤ T20_4.heap.size := Nat.le_trans Z20_3 K20_4.1
  refine w_p X20_4 B d23_23 rfl #[vr a, vi 4, vi 4, vr bb1, vi 3] rfl (w_p X20_4 B d23_26 rfl #[vr a, vi 4, vi 4, vr bb1, vi 4] rfl (w_g X20_4 B 29 8 rfl d23_29 (by decide) (w_j X20_4 B d23_8 rfl (w_i X20_4 B d23_10 rfl (w_y X20_4 B 11 32 rfl d23_11 (flt (by decide)).2.1 (by decide) (w_a X20_4 B d23_32 rfl rfl ?_))))))
  show Sh T20_4 33 #[vr a, vi 4, vi 4, vr bb1, vi 4] [.ref bb1]
  exact Dg.retA X20_4 hlk B hret rfl ⟨rfl, rfl⟩ d23_33 ⟨bb1, kb1, rfl, gz_bb1, N20_4, Kt20_4, V20_4⟩ (by decide)

def QC5_4 (Z : State) (a : Addr) (b : Addr) (ka kb : ClassId) (y0 : Int32) (y1 : Int32) (y2 : Int32) (y3 : Int32) (h0 : Heap) (n0 : Nat) (v : Option Value) (h : Heap) (L : List Loc) : Prop := Fr n0 L ∧ Keep h0 h [b] ∧ ((v = some (.int 0) ∧ 255 < y0.toInt) ∨ (v = some (.int 1) ∧ 255 < y1.toInt) ∨ (v = some (.int 2) ∧ 255 < y2.toInt) ∨ (v = some (.int 3) ∧ 255 < y3.toInt) ∨ (v = some (.int 4) ∧ (y0.toInt ≤ 255 ∧ y1.toInt ≤ 255 ∧ y2.toInt ≤ 255 ∧ y3.toInt ≤ 255 ∧ True) ∧ Arv Z h b kb .byte 4 [.int (own_b y0), .int (own_b y1), .int (own_b y2), .int (own_b y3)] (.int 0)))
theorem rmC5_4 (l : Launch) (Z : State) (a0 : Array Value) (hw : ∀ d ∈ tables_1, d.before a0 Z = true) (ws : List Jvm.Cond) (a : Addr) (b : Addr) (ka kb : ClassId) (y0 : Int32) (y1 : Int32) (y2 : Int32) (y3 : Int32) (h0 : Heap) (n0 : Nat) (Z0 : n0 ≤ h0.size) (Va : Arv Z h0 a ka .char 4 [.int y0, .int y1, .int y2, .int y3] (.int 0)) (Vb : Arv Z h0 b kb .byte 4 [.int 0, .int 0, .int 0, .int 0] (.int 0)) (gb : n0 ≤ b) (hne : a ≠ b) :
    own_Met l on14 (Jvm.Cond.code on14 jdk_52_method_21_code 7 (some .int) :: ws) orm26 #[.ref a, .int 0, .ref b, .int 0, .int 4] Z h0 (QC5_4 Z a b ka kb y0 y1 y2 y3 h0 n0) := by
  refine own_met (plainFor_of_name pn2) (fun m => ef_RIRII7 m a (0 : Int32) b (0 : Int32) (4 : Int32)) ?_
  intro p e s m below meth c s₁ B hlk hret hml hZ hown hnm X0 e0
  have hx := B.1
  have hby := B.2
  have N0 := Fr.nil n0
  refine w_c X0 B d20_0 (w_s X0 B d20_1 #[vr a, vi 0, vr b, vi 0, vi 4, vi 0, .unset] rfl (w_j X0 B d20_3 rfl (w_j X0 B d20_5 rfl (w_n X0 B d20_7 (tlt (by decide)).2.1 (w_a X0 B d20_10 rfl rfl (w_i X0 B d20_11 rfl (w_ca X0 B hZ e0 Va (by decide) (v := (.int y0)) rfl d20_12 ?_)))))))
  show Sh s₁ 13 #[vr a, vi 0, vr b, vi 0, vi 4, vi 0, .unset] [.int y0]
  refine w_s X0 B d20_13 #[vr a, vi 0, vr b, vi 0, vi 4, vi 0, vi y0] rfl (w_j X0 B d20_15 rfl (w_d X0 B d20_17 ?_))
  show Sh s₁ 20 #[vr a, vi 0, vr b, vi 0, vi 4, vi 0, vi y0] [.int 255, .int y0]
  by_cases hc20 : (255 : Int32) < y0
  · have hi20 : 255 < y0.toInt := Int32.lt_iff_toInt_lt.mp hc20
    refine w_n X0 B d20_20 (tlt hc20).2.2.2 (w_j X0 B d20_23 rfl ?_)
    show Sh s₁ 25 #[vr a, vi 0, vr b, vi 0, vi 4, vi 0, vi y0] [.int 0]
    exact Dg.retI X0 hlk B hret rfl (Or.inl rfl) d20_25 (by rw [e0]; exact ⟨N0, (Keep.refl h0 [b]), (Or.inl ⟨rfl, hi20⟩)⟩) (by decide)
  · have hi20 : ¬ 255 < y0.toInt := fun qq => hc20 (Int32.lt_iff_toInt_lt.mpr qq)
    refine w_y X0 B 20 26 rfl d20_20 (flt hc20).2.2.2 (by decide) (w_a X0 B d20_26 rfl rfl (w_i X0 B d20_27 rfl (w_j X0 B d20_28 rfl (Dg.st (fun _ kk => XS.i2b X0.here hx rfl (hb hby d20_30) rfl kk) ?_))))
    show Sh s₁ 31 #[vr a, vi 0, vr b, vi 0, vi 4, vi 0, vi y0] [.int (y0.toInt8.toInt32), .int 0, .ref b]
    have Vc_b_31 := Vb
    obtain ⟨cl_b_31, Ar_b_31, q_b_31, S_b_31, N_b_31, H_b_31, G_b_31⟩ := Vc_b_31
    have hin31 : ¬ ((0 : Int32) < 0 ∨ cl_b_31.slots.size ≤ ((0 : Int32)).toNatClampNeg) := inb_of S_b_31 ⟨by decide, by decide⟩
    obtain ⟨T31, h31, X31, e31, W31, st31⟩ := stB X0 hx hZ e0 Ar_b_31 (j := (0 : Int32)) hin31 (g := (mkF m 31 #[vr a, vi 0, vr b, vi 0, vi 4, vi 0, vi y0] [.int (y0.toInt8.toInt32), .int 0, .ref b])) rfl rfl (hb hby d20_31)
    have V_a_31 := Va.other W31 hne
    have V_b_31 := Arv.set Ar_b_31 q_b_31 S_b_31 N_b_31 H_b_31 G_b_31 (fits_nar_byte _) W31 0 rfl (Nat.le_of_ble_eq_true rfl)
    have K31 := (Keep.refl h0 [b]).wr W31 (Or.inl (List.mem_of_getElem? (i := 0) rfl))
    have N31 := Fr.snoc X31 N0 gb
    have Z31 : n0 ≤ h31.size := Nat.le_trans Z0 (Keep.of_wr W31).1
    refine Dg.st st31 ?_
    refine w_p X31 B d20_32 rfl #[vr a, vi 1, vr b, vi 0, vi 4, vi 0, vi y0] rfl (w_p X31 B d20_35 rfl #[vr a, vi 1, vr b, vi 1, vi 4, vi 0, vi y0] rfl (w_p X31 B d20_38 rfl #[vr a, vi 1, vr b, vi 1, vi 4, vi 1, vi y0] rfl (w_g X31 B 41 3 rfl d20_41 (by decide) (w_j X31 B d20_3 rfl (w_j X31 B d20_5 rfl (w_n X31 B d20_7 (tlt (by decide)).2.1 (w_a X31 B d20_10 rfl rfl ?_)))))))
    show Sh T31 11 #[vr a, vi 1, vr b, vi 1, vi 4, vi 1, vi y0] [.ref a]
    refine w_i X31 B d20_11 rfl (w_ca X31 B hZ e31 V_a_31 (by decide) (v := (.int y1)) rfl d20_12 (w_s X31 B d20_13 #[vr a, vi 1, vr b, vi 1, vi 4, vi 1, vi y1] rfl (w_j X31 B d20_15 rfl (w_d X31 B d20_17 ?_))))
    show Sh T31 20 #[vr a, vi 1, vr b, vi 1, vi 4, vi 1, vi y1] [.int 255, .int y1]
    by_cases hc20_2 : (255 : Int32) < y1
    · have hi20_2 : 255 < y1.toInt := Int32.lt_iff_toInt_lt.mp hc20_2
      refine w_n X31 B d20_20 (tlt hc20_2).2.2.2 (w_j X31 B d20_23 rfl ?_)
      show Sh T31 25 #[vr a, vi 1, vr b, vi 1, vi 4, vi 1, vi y1] [.int 1]
      exact Dg.retI X31 hlk B hret rfl (Or.inl rfl) d20_25 (by rw [e31]; exact ⟨N31, K31, (Or.inr (Or.inl ⟨rfl, hi20_2⟩))⟩) (by decide)
    · have hi20_2 : ¬ 255 < y1.toInt := fun qq => hc20_2 (Int32.lt_iff_toInt_lt.mpr qq)
      refine w_y X31 B 20 26 rfl d20_20 (flt hc20_2).2.2.2 (by decide) (w_a X31 B d20_26 rfl rfl (w_i X31 B d20_27 rfl (w_j X31 B d20_28 rfl (Dg.st (fun _ kk => XS.i2b X31.here hx rfl (hb hby d20_30) rfl kk) ?_))))
      show Sh T31 31 #[vr a, vi 1, vr b, vi 1, vi 4, vi 1, vi y1] [.int (y1.toInt8.toInt32), .int 1, .ref b]
      have Vc_b_31_2 := V_b_31
      obtain ⟨cl_b_31_2, Ar_b_31_2, q_b_31_2, S_b_31_2, N_b_31_2, H_b_31_2, G_b_31_2⟩ := Vc_b_31_2
      have hin31_2 : ¬ ((1 : Int32) < 0 ∨ cl_b_31_2.slots.size ≤ ((1 : Int32)).toNatClampNeg) := inb_of S_b_31_2 ⟨by decide, by decide⟩
      obtain ⟨T31_2, h31_2, X31_2, e31_2, W31_2, st31_2⟩ := stB X31 hx hZ e31 Ar_b_31_2 (j := (1 : Int32)) hin31_2 (g := (mkF m 31 #[vr a, vi 1, vr b, vi 1, vi 4, vi 1, vi y1] [.int (y1.toInt8.toInt32), .int 1, .ref b])) rfl rfl (hb hby d20_31)
      have V_a_31_2 := V_a_31.other W31_2 hne
      have V_b_31_2 := Arv.set Ar_b_31_2 q_b_31_2 S_b_31_2 N_b_31_2 H_b_31_2 G_b_31_2 (fits_nar_byte _) W31_2 1 rfl (Nat.le_of_ble_eq_true rfl)
      have K31_2 := K31.wr W31_2 (Or.inl (List.mem_of_getElem? (i := 0) rfl))
      have N31_2 := Fr.snoc X31_2 N31 gb
      have Z31_2 : n0 ≤ h31_2.size := Nat.le_trans Z31 (Keep.of_wr W31_2).1
      refine Dg.st st31_2 ?_
      refine w_p X31_2 B d20_32 rfl #[vr a, vi 2, vr b, vi 1, vi 4, vi 1, vi y1] rfl (w_p X31_2 B d20_35 rfl #[vr a, vi 2, vr b, vi 2, vi 4, vi 1, vi y1] rfl (w_p X31_2 B d20_38 rfl #[vr a, vi 2, vr b, vi 2, vi 4, vi 2, vi y1] rfl (w_g X31_2 B 41 3 rfl d20_41 (by decide) (w_j X31_2 B d20_3 rfl (w_j X31_2 B d20_5 rfl (w_n X31_2 B d20_7 (tlt (by decide)).2.1 (w_a X31_2 B d20_10 rfl rfl ?_)))))))
      show Sh T31_2 11 #[vr a, vi 2, vr b, vi 2, vi 4, vi 2, vi y1] [.ref a]
      refine w_i X31_2 B d20_11 rfl (w_ca X31_2 B hZ e31_2 V_a_31_2 (by decide) (v := (.int y2)) rfl d20_12 (w_s X31_2 B d20_13 #[vr a, vi 2, vr b, vi 2, vi 4, vi 2, vi y2] rfl (w_j X31_2 B d20_15 rfl (w_d X31_2 B d20_17 ?_))))
      show Sh T31_2 20 #[vr a, vi 2, vr b, vi 2, vi 4, vi 2, vi y2] [.int 255, .int y2]
      by_cases hc20_3 : (255 : Int32) < y2
      · have hi20_3 : 255 < y2.toInt := Int32.lt_iff_toInt_lt.mp hc20_3
        refine w_n X31_2 B d20_20 (tlt hc20_3).2.2.2 (w_j X31_2 B d20_23 rfl ?_)
        show Sh T31_2 25 #[vr a, vi 2, vr b, vi 2, vi 4, vi 2, vi y2] [.int 2]
        exact Dg.retI X31_2 hlk B hret rfl (Or.inl rfl) d20_25 (by rw [e31_2]; exact ⟨N31_2, K31_2, (Or.inr (Or.inr (Or.inl ⟨rfl, hi20_3⟩)))⟩) (by decide)
      · have hi20_3 : ¬ 255 < y2.toInt := fun qq => hc20_3 (Int32.lt_iff_toInt_lt.mpr qq)
        refine w_y X31_2 B 20 26 rfl d20_20 (flt hc20_3).2.2.2 (by decide) (w_a X31_2 B d20_26 rfl rfl (w_i X31_2 B d20_27 rfl (w_j X31_2 B d20_28 rfl (Dg.st (fun _ kk => XS.i2b X31_2.here hx rfl (hb hby d20_30) rfl kk) ?_))))
        show Sh T31_2 31 #[vr a, vi 2, vr b, vi 2, vi 4, vi 2, vi y2] [.int (y2.toInt8.toInt32), .int 2, .ref b]
        have Vc_b_31_3 := V_b_31_2
        obtain ⟨cl_b_31_3, Ar_b_31_3, q_b_31_3, S_b_31_3, N_b_31_3, H_b_31_3, G_b_31_3⟩ := Vc_b_31_3
        have hin31_3 : ¬ ((2 : Int32) < 0 ∨ cl_b_31_3.slots.size ≤ ((2 : Int32)).toNatClampNeg) := inb_of S_b_31_3 ⟨by decide, by decide⟩
        obtain ⟨T31_3, h31_3, X31_3, e31_3, W31_3, st31_3⟩ := stB X31_2 hx hZ e31_2 Ar_b_31_3 (j := (2 : Int32)) hin31_3 (g := (mkF m 31 #[vr a, vi 2, vr b, vi 2, vi 4, vi 2, vi y2] [.int (y2.toInt8.toInt32), .int 2, .ref b])) rfl rfl (hb hby d20_31)
        have V_a_31_3 := V_a_31_2.other W31_3 hne
        have V_b_31_3 := Arv.set Ar_b_31_3 q_b_31_3 S_b_31_3 N_b_31_3 H_b_31_3 G_b_31_3 (fits_nar_byte _) W31_3 2 rfl (Nat.le_of_ble_eq_true rfl)
        have K31_3 := K31_2.wr W31_3 (Or.inl (List.mem_of_getElem? (i := 0) rfl))
        have N31_3 := Fr.snoc X31_3 N31_2 gb
        have Z31_3 : n0 ≤ h31_3.size := Nat.le_trans Z31_2 (Keep.of_wr W31_3).1
        refine Dg.st st31_3 ?_
        refine w_p X31_3 B d20_32 rfl #[vr a, vi 3, vr b, vi 2, vi 4, vi 2, vi y2] rfl (w_p X31_3 B d20_35 rfl #[vr a, vi 3, vr b, vi 3, vi 4, vi 2, vi y2] rfl (w_p X31_3 B d20_38 rfl #[vr a, vi 3, vr b, vi 3, vi 4, vi 3, vi y2] rfl (w_g X31_3 B 41 3 rfl d20_41 (by decide) (w_j X31_3 B d20_3 rfl (w_j X31_3 B d20_5 rfl (w_n X31_3 B d20_7 (tlt (by decide)).2.1 (w_a X31_3 B d20_10 rfl rfl ?_)))))))
        show Sh T31_3 11 #[vr a, vi 3, vr b, vi 3, vi 4, vi 3, vi y2] [.ref a]
        refine w_i X31_3 B d20_11 rfl (w_ca X31_3 B hZ e31_3 V_a_31_3 (by decide) (v := (.int y3)) rfl d20_12 (w_s X31_3 B d20_13 #[vr a, vi 3, vr b, vi 3, vi 4, vi 3, vi y3] rfl (w_j X31_3 B d20_15 rfl (w_d X31_3 B d20_17 ?_))))
        show Sh T31_3 20 #[vr a, vi 3, vr b, vi 3, vi 4, vi 3, vi y3] [.int 255, .int y3]
        by_cases hc20_4 : (255 : Int32) < y3
        · have hi20_4 : 255 < y3.toInt := Int32.lt_iff_toInt_lt.mp hc20_4
          refine w_n X31_3 B d20_20 (tlt hc20_4).2.2.2 (w_j X31_3 B d20_23 rfl ?_)
          show Sh T31_3 25 #[vr a, vi 3, vr b, vi 3, vi 4, vi 3, vi y3] [.int 3]
          exact Dg.retI X31_3 hlk B hret rfl (Or.inl rfl) d20_25 (by rw [e31_3]; exact ⟨N31_3, K31_3, (Or.inr (Or.inr (Or.inr (Or.inl ⟨rfl, hi20_4⟩))))⟩) (by decide)
        · have hi20_4 : ¬ 255 < y3.toInt := fun qq => hc20_4 (Int32.lt_iff_toInt_lt.mpr qq)
          refine w_y X31_3 B 20 26 rfl d20_20 (flt hc20_4).2.2.2 (by decide) (w_a X31_3 B d20_26 rfl rfl (w_i X31_3 B d20_27 rfl (w_j X31_3 B d20_28 rfl (Dg.st (fun _ kk => XS.i2b X31_3.here hx rfl (hb hby d20_30) rfl kk) ?_))))
          show Sh T31_3 31 #[vr a, vi 3, vr b, vi 3, vi 4, vi 3, vi y3] [.int (y3.toInt8.toInt32), .int 3, .ref b]
          have Vc_b_31_4 := V_b_31_3
          obtain ⟨cl_b_31_4, Ar_b_31_4, q_b_31_4, S_b_31_4, N_b_31_4, H_b_31_4, G_b_31_4⟩ := Vc_b_31_4
          have hin31_4 : ¬ ((3 : Int32) < 0 ∨ cl_b_31_4.slots.size ≤ ((3 : Int32)).toNatClampNeg) := inb_of S_b_31_4 ⟨by decide, by decide⟩
          obtain ⟨T31_4, h31_4, X31_4, e31_4, W31_4, st31_4⟩ := stB X31_3 hx hZ e31_3 Ar_b_31_4 (j := (3 : Int32)) hin31_4 (g := (mkF m 31 #[vr a, vi 3, vr b, vi 3, vi 4, vi 3, vi y3] [.int (y3.toInt8.toInt32), .int 3, .ref b])) rfl rfl (hb hby d20_31)
          have V_a_31_4 := V_a_31_3.other W31_4 hne
          have V_b_31_4 := Arv.set Ar_b_31_4 q_b_31_4 S_b_31_4 N_b_31_4 H_b_31_4 G_b_31_4 (fits_nar_byte _) W31_4 3 rfl (Nat.le_of_ble_eq_true rfl)
          have K31_4 := K31_3.wr W31_4 (Or.inl (List.mem_of_getElem? (i := 0) rfl))
          have N31_4 := Fr.snoc X31_4 N31_3 gb
          have Z31_4 : n0 ≤ h31_4.size := Nat.le_trans Z31_3 (Keep.of_wr W31_4).1
          refine Dg.st st31_4 ?_
          refine w_p X31_4 B d20_32 rfl #[vr a, vi 4, vr b, vi 3, vi 4, vi 3, vi y3] rfl (w_p X31_4 B d20_35 rfl #[vr a, vi 4, vr b, vi 4, vi 4, vi 3, vi y3] rfl (w_p X31_4 B d20_38 rfl #[vr a, vi 4, vr b, vi 4, vi 4, vi 4, vi y3] rfl (w_g X31_4 B 41 3 rfl d20_41 (by decide) (w_j X31_4 B d20_3 rfl (w_j X31_4 B d20_5 rfl (w_y X31_4 B 7 44 rfl d20_7 (flt (by decide)).2.1 (by decide) (w_j X31_4 B d20_44 rfl ?_)))))))
          show Sh T31_4 46 #[vr a, vi 4, vr b, vi 4, vi 4, vi 4, vi y3] [.int 4]
          exact Dg.retI X31_4 hlk B hret rfl (Or.inl rfl) d20_46 (by rw [e31_4]; exact ⟨N31_4, K31_4, (Or.inr (Or.inr (Or.inr (Or.inr ⟨rfl, ⟨Int.not_lt.mp hi20, Int.not_lt.mp hi20_2, Int.not_lt.mp hi20_3, Int.not_lt.mp hi20_4, trivial⟩, V_b_31_4⟩))))⟩) (by decide)

def QC3_4 (Z : State) (a : Addr) (cs : Int32) (sf : Value) (ka : ClassId) (y0 : Int32) (y1 : Int32) (y2 : Int32) (y3 : Int32) (h0 : Heap) (n0 : Nat) (v : Option Value) (h : Heap) (L : List Loc) : Prop := ∃ (b : Addr) (kb : ClassId), v = some (.ref b) ∧ h0.size ≤ b ∧ Fr n0 L ∧ Keep h0 h [] ∧ ((Arv Z h b kb .byte 4 [.int (own_b y0), .int (own_b y1), .int (own_b y2), .int (own_b y3)] (.int 0) ∧ (y0.toInt ≤ 255 ∧ y1.toInt ≤ 255 ∧ y2.toInt ≤ 255 ∧ y3.toInt ≤ 255 ∧ True)) ∨ Arv Z h b kb .byte 8 [.int (own_lo y0), .int (own_hi y0), .int (own_lo y1), .int (own_hi y1), .int (own_lo y2), .int (own_hi y2), .int (own_lo y3), .int (own_hi y3)] (.int 0))
theorem rmC3_4 (l : Launch) (Z : State) (a0 : Array Value) (hw : ∀ d ∈ tables_1, d.before a0 Z = true) (ws : List Jvm.Cond) (a : Addr) (cs : Int32) (sf : Value) (ka : ClassId) (y0 : Int32) (y1 : Int32) (y2 : Int32) (y3 : Int32) (h0 : Heap) (n0 : Nat) (Z0 : n0 ≤ h0.size) (hW : own_W Z h0 n0 cs sf) (Va : Arv Z h0 a ka .char 4 [.int y0, .int y1, .int y2, .int y3] (.int 0)) (hr0 : 0 ≤ y0.toInt ∧ y0.toInt ≤ 65535) (hr1 : 0 ≤ y1.toInt ∧ y1.toInt ≤ 65535) (hr2 : 0 ≤ y2.toInt ∧ y2.toInt ≤ 65535) (hr3 : 0 ≤ y3.toInt ∧ y3.toInt ≤ 65535) :
    own_Met l on12 (Jvm.Cond.code on12 jdk_52_method_16_code 6 (some (.array .byte)) :: ws) ({ frames := 3, cells := 2, slots := 12, locals := 49 } : Room) #[.ref a, .int 0, .int 4] Z h0 (QC3_4 Z a cs sf ka y0 y1 y2 y3 h0 n0) := by
  refine own_met (plainFor_of_name pn2) (fun m => ef_RII6 m a (0 : Int32) (4 : Int32)) ?_
  intro p e s m below meth c s₁ B hlk hret hml hZ hown hnm X0 e0
  have hx := B.1
  have hby := B.2
  have N0 := Fr.nil n0
  refine w_i X0 B d19_0 rfl ?_
  show Sh s₁ 1 #[vr a, vi 0, vi 4, .unset, .unset, .unset] [.int 4]
  obtain ⟨T1, h1, k1, X1, e1, E1, A1, st1⟩ := newP X0 hx hZ (tw hw 21 rfl) e0 (g := (mkF m 1 #[vr a, vi 0, vi 4, .unset, .unset, .unset] [.int 4])) rfl (hb hby d19_1) rfl (by decide) (cap := 4) (by decide) (by decide) (by decide) (by decide)
  obtain ⟨b1, g1⟩ : ∃ z, z = h0.size := ⟨_, rfl⟩
  rw [← g1] at A1 st1
  have ne_a_b1 : a ≠ b1 := Nat.ne_of_lt (Nat.lt_of_lt_of_le Va.lt (Nat.le_of_eq g1.symm))
  have gz_b1 : h0.size ≤ b1 := Nat.le_trans (Keep.refl h0 []).1 (Nat.le_of_eq g1.symm)
  have V_a_1 := Va.ext E1
  have K1 := (Keep.refl h0 []).ext E1
  have Wo1 := hW.ext E1
  have gn_b1 : n0 ≤ b1 := Nat.le_trans Z0 (Nat.le_of_eq g1.symm)
  have Z1 : n0 ≤ h1.size := Nat.le_trans Z0 E1.1
  have V_b1 : Arv Z h1 b1 k1 .byte (4 : Int32) [.int 0, .int 0, .int 0, .int 0] (.int 0) := (Arv.new A1 (by decide)).pad (pad_rep [] (.int 0) 4)
  refine Dg.st st1 ?_
  refine w_U X1 B d19_3 rfl #[vr a, vi 0, vi 4, vr b1, .unset, .unset] rfl (w_a X1 B d19_4 rfl rfl (w_i X1 B d19_5 rfl (w_a X1 B d19_6 rfl rfl (w_c X1 B d19_7 (w_i X1 B d19_8 rfl ?_)))))
  show Sh T1 9 #[vr a, vi 0, vi 4, vr b1, .unset, .unset] [.int 4, .int 0, .ref b1, .int 0, .ref a]
  refine w_cs X1 B hZ hown hml (rmC5_4 l Z a0 hw [] a b1 ka k1 y0 y1 y2 y3 h1 n0 Z1 V_a_1 V_b1 gn_b1 ne_a_b1) (tw hw 95 rfl) (tw hw 96 rfl) (tw hw 93 rfl) (tw hw 97 rfl) e1 d19_9 5 0 (lenOf pd11 rfl) rfl rfl rfl (by decide) ?_
  rintro _ T9 Lc9 X9 ⟨Nq9, K9, hq9⟩
  have N9 := Fr.app N0 Nq9
  have Wo9 := Wo1.keep K9 (own_k1 gn_b1)
  have V_a_9 := V_a_1.keep K9 (ninS ne_a_b1 nin0)
  have Kt9 := Keep.trans K1 K9 (fun x hx => Or.inr ((List.mem_singleton.mp hx) ▸ gz_b1))
  have Z9 : n0 ≤ T9.heap.size := Nat.le_trans Z1 K9.1
  rcases hq9 with ⟨rfl, gt9⟩ | ⟨rfl, gt9⟩ | ⟨rfl, gt9⟩ | ⟨rfl, gt9⟩ | ⟨rfl, hp9, VL9⟩
  · refine w_s X9 B d19_12 #[vr a, vi 0, vi 4, vr b1, vi 0, .unset] rfl (w_j X9 B d19_14 rfl (w_i X9 B d19_16 rfl (w_n X9 B d19_17 (feq (by decide)).1 (w_a X9 B d19_20 rfl rfl (w_i X9 B d19_21 rfl (w_i X9 B d19_22 rfl ?_))))))
    show Sh T9 23 #[vr a, vi 0, vi 4, vr b1, vi 0, .unset] [.int 4, .int 0, .ref a]
    refine w_cs X9 B hZ hown hml (rmTb4 l Z a0 hw [] a cs sf ka y0 y1 y2 y3 T9.heap n0 Z9 Wo9 V_a_9) (tw hw 105 rfl) (tw hw 106 rfl) (tw hw 93 rfl) (tw hw 107 rfl) rfl d19_23 3 0 (lenOf pd12 rfl) rfl rfl rfl (by decide) ?_
    rintro _ T23 Lc23 X23 ⟨bb23, kb23, rfl, gz23, Nq23, K23, V_bb23⟩
    have N23 := Fr.app N9 Nq23
    have ne_a_bb23 : a ≠ bb23 := Nat.ne_of_lt (Nat.lt_of_lt_of_le V_a_9.lt gz23)
    have gn_bb23 : n0 ≤ bb23 := Nat.le_trans Z9 gz23
    have gz_bb23 : h0.size ≤ bb23 := Nat.le_trans Kt9.1 gz23
    have Wo23 := Wo9.keep K23 own_k0
    have V_a_23 := V_a_9.keep K23 nin0
    have Kt23 := Keep.trans Kt9 K23 (by simp)
    have Z23 : n0 ≤ T23.heap.size := Nat.le_trans Z9 K23.1
    refine w_u X23 B d19_26 rfl #[vr a, vi 0, vi 4, vr b1, vi 0, vr bb23] rfl (w_k X23 B d19_28 rfl rfl (w_j X23 B d19_30 rfl ?_))
    show Sh T23 32 #[vr a, vi 0, vi 4, vr b1, vi 0, vr bb23] [.int 0, .ref bb23]
    refine w_cs X23 B hZ hown hml (rmGc l Z a0 hw [] bb23 (0 : Int32) cs sf _ _ _ y0 T23.heap n0 Z23 Wo23 V_bb23 (by decide) (by decide) rfl rfl hr0.1 hr0.2) (tw hw 121 rfl) (tw hw 122 rfl) (tw hw 93 rfl) (tw hw 123 rfl) rfl d19_32 2 0 (lenOf pd6 rfl) rfl rfl rfl (by decide) ?_
    rintro _ T32 Lc32 X32 ⟨rfl, Nq32, hh32⟩
    have N32 := Fr.app N23 Nq32
    refine w_d X32 B d19_35 ?_
    show Sh T32 38 #[vr a, vi 0, vi 4, vr b1, vi 0, vr bb23] [.int 255, .int y0]
    have hc38 : (255 : Int32) < y0 := (Int32.lt_iff_toInt_lt.mpr gt9)
    refine w_y X32 B 38 54 rfl d19_38 (tlt hc38).2.2.1 (by decide) (w_k X32 B d19_54 rfl rfl ?_)
    show Sh T32 56 #[vr a, vi 0, vi 4, vr b1, vi 0, vr bb23] [.ref bb23]
    exact Dg.retA X32 hlk B hret rfl ⟨rfl, rfl⟩ d19_56 (by rw [hh32]; exact ⟨bb23, kb23, rfl, gz_bb23, N32, Kt23, Or.inr V_bb23⟩) (by decide)
  · refine w_s X9 B d19_12 #[vr a, vi 0, vi 4, vr b1, vi 1, .unset] rfl (w_j X9 B d19_14 rfl (w_i X9 B d19_16 rfl (w_n X9 B d19_17 (feq (by decide)).1 (w_a X9 B d19_20 rfl rfl (w_i X9 B d19_21 rfl (w_i X9 B d19_22 rfl ?_))))))
    show Sh T9 23 #[vr a, vi 0, vi 4, vr b1, vi 1, .unset] [.int 4, .int 0, .ref a]
    refine w_cs X9 B hZ hown hml (rmTb4 l Z a0 hw [] a cs sf ka y0 y1 y2 y3 T9.heap n0 Z9 Wo9 V_a_9) (tw hw 105 rfl) (tw hw 106 rfl) (tw hw 93 rfl) (tw hw 107 rfl) rfl d19_23 3 0 (lenOf pd12 rfl) rfl rfl rfl (by decide) ?_
    rintro _ T23 Lc23 X23 ⟨bb23, kb23, rfl, gz23, Nq23, K23, V_bb23⟩
    have N23 := Fr.app N9 Nq23
    have ne_a_bb23 : a ≠ bb23 := Nat.ne_of_lt (Nat.lt_of_lt_of_le V_a_9.lt gz23)
    have gn_bb23 : n0 ≤ bb23 := Nat.le_trans Z9 gz23
    have gz_bb23 : h0.size ≤ bb23 := Nat.le_trans Kt9.1 gz23
    have Wo23 := Wo9.keep K23 own_k0
    have V_a_23 := V_a_9.keep K23 nin0
    have Kt23 := Keep.trans Kt9 K23 (by simp)
    have Z23 : n0 ≤ T23.heap.size := Nat.le_trans Z9 K23.1
    refine w_u X23 B d19_26 rfl #[vr a, vi 0, vi 4, vr b1, vi 1, vr bb23] rfl (w_k X23 B d19_28 rfl rfl (w_j X23 B d19_30 rfl ?_))
    show Sh T23 32 #[vr a, vi 0, vi 4, vr b1, vi 1, vr bb23] [.int 1, .ref bb23]
    refine w_cs X23 B hZ hown hml (rmGc l Z a0 hw [] bb23 (1 : Int32) cs sf _ _ _ y1 T23.heap n0 Z23 Wo23 V_bb23 (by decide) (by decide) rfl rfl hr1.1 hr1.2) (tw hw 121 rfl) (tw hw 122 rfl) (tw hw 93 rfl) (tw hw 123 rfl) rfl d19_32 2 0 (lenOf pd6 rfl) rfl rfl rfl (by decide) ?_
    rintro _ T32 Lc32 X32 ⟨rfl, Nq32, hh32⟩
    have N32 := Fr.app N23 Nq32
    refine w_d X32 B d19_35 ?_
    show Sh T32 38 #[vr a, vi 0, vi 4, vr b1, vi 1, vr bb23] [.int 255, .int y1]
    have hc38 : (255 : Int32) < y1 := (Int32.lt_iff_toInt_lt.mpr gt9)
    refine w_y X32 B 38 54 rfl d19_38 (tlt hc38).2.2.1 (by decide) (w_k X32 B d19_54 rfl rfl ?_)
    show Sh T32 56 #[vr a, vi 0, vi 4, vr b1, vi 1, vr bb23] [.ref bb23]
    exact Dg.retA X32 hlk B hret rfl ⟨rfl, rfl⟩ d19_56 (by rw [hh32]; exact ⟨bb23, kb23, rfl, gz_bb23, N32, Kt23, Or.inr V_bb23⟩) (by decide)
  · refine w_s X9 B d19_12 #[vr a, vi 0, vi 4, vr b1, vi 2, .unset] rfl (w_j X9 B d19_14 rfl (w_i X9 B d19_16 rfl (w_n X9 B d19_17 (feq (by decide)).1 (w_a X9 B d19_20 rfl rfl (w_i X9 B d19_21 rfl (w_i X9 B d19_22 rfl ?_))))))
    show Sh T9 23 #[vr a, vi 0, vi 4, vr b1, vi 2, .unset] [.int 4, .int 0, .ref a]
    refine w_cs X9 B hZ hown hml (rmTb4 l Z a0 hw [] a cs sf ka y0 y1 y2 y3 T9.heap n0 Z9 Wo9 V_a_9) (tw hw 105 rfl) (tw hw 106 rfl) (tw hw 93 rfl) (tw hw 107 rfl) rfl d19_23 3 0 (lenOf pd12 rfl) rfl rfl rfl (by decide) ?_
    rintro _ T23 Lc23 X23 ⟨bb23, kb23, rfl, gz23, Nq23, K23, V_bb23⟩
    have N23 := Fr.app N9 Nq23
    have ne_a_bb23 : a ≠ bb23 := Nat.ne_of_lt (Nat.lt_of_lt_of_le V_a_9.lt gz23)
    have gn_bb23 : n0 ≤ bb23 := Nat.le_trans Z9 gz23
    have gz_bb23 : h0.size ≤ bb23 := Nat.le_trans Kt9.1 gz23
    have Wo23 := Wo9.keep K23 own_k0
    have V_a_23 := V_a_9.keep K23 nin0
    have Kt23 := Keep.trans Kt9 K23 (by simp)
    have Z23 : n0 ≤ T23.heap.size := Nat.le_trans Z9 K23.1
    refine w_u X23 B d19_26 rfl #[vr a, vi 0, vi 4, vr b1, vi 2, vr bb23] rfl (w_k X23 B d19_28 rfl rfl (w_j X23 B d19_30 rfl ?_))
    show Sh T23 32 #[vr a, vi 0, vi 4, vr b1, vi 2, vr bb23] [.int 2, .ref bb23]
    refine w_cs X23 B hZ hown hml (rmGc l Z a0 hw [] bb23 (2 : Int32) cs sf _ _ _ y2 T23.heap n0 Z23 Wo23 V_bb23 (by decide) (by decide) rfl rfl hr2.1 hr2.2) (tw hw 121 rfl) (tw hw 122 rfl) (tw hw 93 rfl) (tw hw 123 rfl) rfl d19_32 2 0 (lenOf pd6 rfl) rfl rfl rfl (by decide) ?_
    rintro _ T32 Lc32 X32 ⟨rfl, Nq32, hh32⟩
    have N32 := Fr.app N23 Nq32
    refine w_d X32 B d19_35 ?_
    show Sh T32 38 #[vr a, vi 0, vi 4, vr b1, vi 2, vr bb23] [.int 255, .int y2]
    have hc38 : (255 : Int32) < y2 := (Int32.lt_iff_toInt_lt.mpr gt9)
    refine w_y X32 B 38 54 rfl d19_38 (tlt hc38).2.2.1 (by decide) (w_k X32 B d19_54 rfl rfl ?_)
    show Sh T32 56 #[vr a, vi 0, vi 4, vr b1, vi 2, vr bb23] [.ref bb23]
    exact Dg.retA X32 hlk B hret rfl ⟨rfl, rfl⟩ d19_56 (by rw [hh32]; exact ⟨bb23, kb23, rfl, gz_bb23, N32, Kt23, Or.inr V_bb23⟩) (by decide)
  · refine w_s X9 B d19_12 #[vr a, vi 0, vi 4, vr b1, vi 3, .unset] rfl (w_j X9 B d19_14 rfl (w_i X9 B d19_16 rfl (w_n X9 B d19_17 (feq (by decide)).1 (w_a X9 B d19_20 rfl rfl (w_i X9 B d19_21 rfl (w_i X9 B d19_22 rfl ?_))))))
    show Sh T9 23 #[vr a, vi 0, vi 4, vr b1, vi 3, .unset] [.int 4, .int 0, .ref a]
    refine w_cs X9 B hZ hown hml (rmTb4 l Z a0 hw [] a cs sf ka y0 y1 y2 y3 T9.heap n0 Z9 Wo9 V_a_9) (tw hw 105 rfl) (tw hw 106 rfl) (tw hw 93 rfl) (tw hw 107 rfl) rfl d19_23 3 0 (lenOf pd12 rfl) rfl rfl rfl (by decide) ?_
    rintro _ T23 Lc23 X23 ⟨bb23, kb23, rfl, gz23, Nq23, K23, V_bb23⟩
    have N23 := Fr.app N9 Nq23
    have ne_a_bb23 : a ≠ bb23 := Nat.ne_of_lt (Nat.lt_of_lt_of_le V_a_9.lt gz23)
    have gn_bb23 : n0 ≤ bb23 := Nat.le_trans Z9 gz23
    have gz_bb23 : h0.size ≤ bb23 := Nat.le_trans Kt9.1 gz23
    have Wo23 := Wo9.keep K23 own_k0
    have V_a_23 := V_a_9.keep K23 nin0
    have Kt23 := Keep.trans Kt9 K23 (by simp)
    have Z23 : n0 ≤ T23.heap.size := Nat.le_trans Z9 K23.1
    refine w_u X23 B d19_26 rfl #[vr a, vi 0, vi 4, vr b1, vi 3, vr bb23] rfl (w_k X23 B d19_28 rfl rfl (w_j X23 B d19_30 rfl ?_))
    show Sh T23 32 #[vr a, vi 0, vi 4, vr b1, vi 3, vr bb23] [.int 3, .ref bb23]
    refine w_cs X23 B hZ hown hml (rmGc l Z a0 hw [] bb23 (3 : Int32) cs sf _ _ _ y3 T23.heap n0 Z23 Wo23 V_bb23 (by decide) (by decide) rfl rfl hr3.1 hr3.2) (tw hw 121 rfl) (tw hw 122 rfl) (tw hw 93 rfl) (tw hw 123 rfl) rfl d19_32 2 0 (lenOf pd6 rfl) rfl rfl rfl (by decide) ?_
    rintro _ T32 Lc32 X32 ⟨rfl, Nq32, hh32⟩
    have N32 := Fr.app N23 Nq32
    refine w_d X32 B d19_35 ?_
    show Sh T32 38 #[vr a, vi 0, vi 4, vr b1, vi 3, vr bb23] [.int 255, .int y3]
    have hc38 : (255 : Int32) < y3 := (Int32.lt_iff_toInt_lt.mpr gt9)
    refine w_y X32 B 38 54 rfl d19_38 (tlt hc38).2.2.1 (by decide) (w_k X32 B d19_54 rfl rfl ?_)
    show Sh T32 56 #[vr a, vi 0, vi 4, vr b1, vi 3, vr bb23] [.ref bb23]
    exact Dg.retA X32 hlk B hret rfl ⟨rfl, rfl⟩ d19_56 (by rw [hh32]; exact ⟨bb23, kb23, rfl, gz_bb23, N32, Kt23, Or.inr V_bb23⟩) (by decide)
  · refine w_s X9 B d19_12 #[vr a, vi 0, vi 4, vr b1, vi 4, .unset] rfl (w_j X9 B d19_14 rfl (w_i X9 B d19_16 rfl (w_y X9 B 17 57 rfl d19_17 (teq (by decide)).1 (by decide) (w_a X9 B d19_57 rfl rfl ?_))))
    show Sh T9 58 #[vr a, vi 0, vi 4, vr b1, vi 4, .unset] [.ref b1]
    exact Dg.retA X9 hlk B hret rfl ⟨rfl, rfl⟩ d19_58 ⟨b1, k1, rfl, gz_b1, N9, Kt9, Or.inl ⟨VL9, hp9⟩⟩ (by decide)

def QVc4 (Z : State) (a : Addr) (ar : Addr) (cs : Int32) (sf : Value) (ka : ClassId) (y0 : Int32) (y1 : Int32) (y2 : Int32) (y3 : Int32) (h0 : Heap) (n0 : Nat) (v : Option Value) (h : Heap) (L : List Loc) : Prop := v = none ∧ Fr n0 L ∧ Keep h0 h [a] ∧ own_Str Z h a 4 8 [.int (own_b y0), .int (own_b y1), .int (own_b y2), .int (own_b y3)] [.int (own_lo y0), .int (own_hi y0), .int (own_lo y1), .int (own_hi y1), .int (own_lo y2), .int (own_hi y2), .int (own_lo y3), .int (own_hi y3)] (y0.toInt ≤ 255 ∧ y1.toInt ≤ 255 ∧ y2.toInt ≤ 255 ∧ y3.toInt ≤ 255 ∧ True)
theorem rmVc4 (l : Launch) (Z : State) (a0 : Array Value) (hw : ∀ d ∈ tables_1, d.before a0 Z = true) (ws : List Jvm.Cond) (a : Addr) (ar : Addr) (cs : Int32) (sf : Value) (ka : ClassId) (y0 : Int32) (y1 : Int32) (y2 : Int32) (y3 : Int32) (h0 : Heap) (n0 : Nat) (Z0 : n0 ≤ h0.size) (hW : own_W Z h0 n0 cs sf) (ga : n0 ≤ a) (Ea : Exa Z h0 a "java/lang/String") (Fc : Fld Z h0 a "java/lang/String" "coder" "B" (.int 0)) (Fv : Fld Z h0 a "java/lang/String" "value" "[B" .null) (Vr : Arv Z h0 ar ka .char 4 [.int y0, .int y1, .int y2, .int y3] (.int 0)) (hne : a ≠ ar) (hr0 : 0 ≤ y0.toInt ∧ y0.toInt ≤ 65535) (hr1 : 0 ≤ y1.toInt ∧ y1.toInt ≤ 65535) (hr2 : 0 ≤ y2.toInt ∧ y2.toInt ≤ 65535) (hr3 : 0 ≤ y3.toInt ∧ y3.toInt ≤ 65535) :
    own_Met l on4 (Jvm.Cond.code on4 jdk_42_method_149_code 6 none :: ws) ({ frames := 4, cells := 2, slots := 12, locals := 69 } : Room) #[.ref a, .ref ar, .int 0, .int 4, .null] Z h0 (QVc4 Z a ar cs sf ka y0 y1 y2 y3 h0 n0) := by
  refine own_met (plainFor_of_name pn0) (fun m => ef_RRIIN6 m a ar (0 : Int32) (4 : Int32)) ?_
  intro p e s m below meth c s₁ B hlk hret hml hZ hown hnm X0 e0
  have hx := B.1
  have hby := B.2
  have N0 := Fr.nil n0
  refine w_a X0 B d3_0 rfl rfl ?_
  show Sh s₁ 1 #[vr a, vr ar, vi 0, vi 4, .val .null, .unset] [.ref a]
  obtain ⟨T1, X1, e1, st1⟩ := initO X0 hx hZ hown (tw hw 17 rfl) (tw hw 18 rfl) (tw hw 19 rfl) e0 (g := (mkF m 1 #[vr a, vr ar, vi 0, vi 4, .val .null, .unset] [.ref a])) rfl (by rw [hml]; rfl) rfl (hb hby d3_1) (by decide) (W := 0) (by show 2 * 0 + _ ≤ _; exact Nat.le_of_eq rfl) (by decide)
  refine Dg.st st1 ?_
  refine w_i X1 B d3_4 rfl (w_t X1 B 5 27 rfl d3_5 (feq (by decide)).2 (by decide) ?_)
  show Sh T1 27 #[vr a, vr ar, vi 0, vi 4, .val .null, .unset] []
  refine w_gs X1 B hZ hown (tw hw 47 rfl) Via.refl e1 hW.cst d3_27 ?_
  intro T27 X27 e27
  have hc30 : ¬ (cs = (0 : Int32)) := hW.cne
  refine w_f X27 B d3_30 (feq hc30).1 (w_a X27 B d3_33 rfl rfl (w_i X27 B d3_34 rfl (w_i X27 B d3_35 rfl ?_)))
  show Sh T27 36 #[vr a, vr ar, vi 0, vi 4, .val .null, .unset] [.int 4, .int 0, .ref ar]
  refine w_cs X27 B hZ hown hml (rmC3_4 l Z a0 hw [] ar cs sf ka y0 y1 y2 y3 h0 n0 Z0 hW Vr hr0 hr1 hr2 hr3) (tw hw 91 rfl) (tw hw 92 rfl) (tw hw 93 rfl) (tw hw 94 rfl) e27 d3_36 3 0 (lenOf pd12 rfl) rfl rfl rfl (by decide) ?_
  rintro _ T36 Lc36 X36 ⟨bb36, kb36, rfl, gz36, Nq36, K36, hq36⟩
  have N36 := Fr.app N0 Nq36
  have ne_a_bb36 : a ≠ bb36 := Nat.ne_of_lt (Nat.lt_of_lt_of_le Ea.lt gz36)
  have ne_ar_bb36 : ar ≠ bb36 := Nat.ne_of_lt (Nat.lt_of_lt_of_le Vr.lt gz36)
  have gn_bb36 : n0 ≤ bb36 := Nat.le_trans Z0 gz36
  have gz_bb36 : h0.size ≤ bb36 := Nat.le_trans (Keep.refl h0 [a]).1 gz36
  have Wo36 := hW.keep K36 own_k0
  have E_a_36 := Ea.keep K36
  have F_a_coder_36 := Fc.keep K36 nin0
  have F_a_value_36 := Fv.keep K36 nin0
  have V_ar_36 := Vr.keep K36 nin0
  have Kt36 := Keep.trans (Keep.refl h0 [a]) K36 (by simp)
  have Z36 : n0 ≤ T36.heap.size := Nat.le_trans Z0 K36.1
  rcases hq36 with ⟨VL36, hp36⟩ | VU36
  · refine w_u X36 B d3_39 rfl #[vr a, vr ar, vi 0, vi 4, .val .null, vr bb36] rfl (w_a X36 B d3_41 rfl rfl (w_k X36 B d3_42 rfl rfl (w_i X36 B d3_44 rfl ?_)))
    show Sh T36 45 #[vr a, vr ar, vi 0, vi 4, .val .null, vr bb36] [.int 4, .ref bb36, .ref a]
    refine w_cs X36 B hZ hown hml (rmCl l Z a0 hw [] bb36 (4 : Int32) _ _ _ 0 T36.heap n0 Z36 VL36 (by decide) rfl) (tw hw 98 rfl) (tw hw 99 rfl) (tw hw 93 rfl) (tw hw 100 rfl) rfl d3_45 2 1 (lenOf pd13 rfl) rfl rfl rfl (by decide) ?_
    rintro _ T45 Lc45 X45 ⟨rfl, Nq45, hh45⟩
    have N45 := Fr.app N36 Nq45
    obtain ⟨T48, h48, X48, e48, W48, st48⟩ := putF X45 hx hZ hown (host := "") (Or.inl (tw hw 27 rfl)) Via.refl hh45 F_a_coder_36 E_a_36 (Or.inr ⟨(tw hw 23 rfl), rfl, hnm⟩) (tw hw 8 rfl) (ty := .byte) (by decide) rfl rfl (g := (mkF m 48 #[vr a, vr ar, vi 0, vi 4, .val .null, vr bb36] [.int 0, .ref a])) rfl rfl (hb hby d3_48)
    have Wo48 := Wo36.wr W48 ga
    have E_a_48 := E_a_36.wr W48
    have F_a_value_48 := F_a_value_36.other W48 (Or.inr (slot_ne (Or.inr (tw hw 22 rfl)) (Or.inr (tw hw 23 rfl)) (by decide) (t := (.array .byte)) (t' := .byte) (by decide) (by decide)))
    have V_ar_48 := V_ar_36.other W48 (Ne.symm hne)
    have V_bb36_48 := VL36.other W48 (Ne.symm ne_a_bb36)
    have F_a_coder_48 := F_a_coder_36.same W48
    have K48 := Kt36.wr W48 (Or.inl (List.mem_of_getElem? (i := 0) rfl))
    have N48 := Fr.snoc X48 N45 ga
    have Z48 : n0 ≤ h48.size := Nat.le_trans Z36 (Keep.of_wr W48).1
    refine Dg.st st48 ?_
    refine w_a X48 B d3_51 rfl rfl (w_k X48 B d3_52 rfl rfl ?_)
    show Sh T48 54 #[vr a, vr ar, vi 0, vi 4, .val .null, vr bb36] [.ref bb36, .ref a]
    obtain ⟨T54, h54, X54, e54, W54, st54⟩ := putF X48 hx hZ hown (host := "") (Or.inl (tw hw 26 rfl)) Via.refl e48 F_a_value_48 E_a_48 (Or.inr ⟨(tw hw 22 rfl), rfl, hnm⟩) (tw hw 8 rfl) (ty := (.array .byte)) (by decide) rfl rfl (g := (mkF m 54 #[vr a, vr ar, vi 0, vi 4, .val .null, vr bb36] [.ref bb36, .ref a])) rfl rfl (hb hby d3_54)
    have Wo54 := Wo48.wr W54 ga
    have E_a_54 := E_a_48.wr W54
    have F_a_coder_54 := F_a_coder_48.other W54 (Or.inr (slot_ne (Or.inr (tw hw 23 rfl)) (Or.inr (tw hw 22 rfl)) (by decide) (t := .byte) (t' := (.array .byte)) (by decide) (by decide)))
    have V_ar_54 := V_ar_48.other W54 (Ne.symm hne)
    have V_bb36_54 := V_bb36_48.other W54 (Ne.symm ne_a_bb36)
    have F_a_value_54 := F_a_value_48.same W54
    have K54 := K48.wr W54 (Or.inl (List.mem_of_getElem? (i := 0) rfl))
    have N54 := Fr.snoc X54 N48 ga
    have Z54 : n0 ≤ h54.size := Nat.le_trans Z48 (Keep.of_wr W54).1
    refine Dg.st st54 ?_
    exact Dg.ret0 X54 hlk hx hret (hb hby d3_57) (by rw [e54]; exact ⟨rfl, N54, K54, E_a_54, Or.inl ⟨bb36, kb36, F_a_coder_54, F_a_value_54, V_bb36_54, hp36⟩⟩) (by decide) (by decide)
  · refine w_u X36 B d3_39 rfl #[vr a, vr ar, vi 0, vi 4, .val .null, vr bb36] rfl (w_a X36 B d3_41 rfl rfl (w_k X36 B d3_42 rfl rfl (w_i X36 B d3_44 rfl ?_)))
    show Sh T36 45 #[vr a, vr ar, vi 0, vi 4, .val .null, vr bb36] [.int 4, .ref bb36, .ref a]
    refine w_cs X36 B hZ hown hml (rmCl l Z a0 hw [] bb36 (4 : Int32) _ _ _ 1 T36.heap n0 Z36 VU36 (by decide) rfl) (tw hw 98 rfl) (tw hw 99 rfl) (tw hw 93 rfl) (tw hw 100 rfl) rfl d3_45 2 1 (lenOf pd13 rfl) rfl rfl rfl (by decide) ?_
    rintro _ T45 Lc45 X45 ⟨rfl, Nq45, hh45⟩
    have N45 := Fr.app N36 Nq45
    obtain ⟨T48, h48, X48, e48, W48, st48⟩ := putF X45 hx hZ hown (host := "") (Or.inl (tw hw 27 rfl)) Via.refl hh45 F_a_coder_36 E_a_36 (Or.inr ⟨(tw hw 23 rfl), rfl, hnm⟩) (tw hw 8 rfl) (ty := .byte) (by decide) rfl rfl (g := (mkF m 48 #[vr a, vr ar, vi 0, vi 4, .val .null, vr bb36] [.int 1, .ref a])) rfl rfl (hb hby d3_48)
    have Wo48 := Wo36.wr W48 ga
    have E_a_48 := E_a_36.wr W48
    have F_a_value_48 := F_a_value_36.other W48 (Or.inr (slot_ne (Or.inr (tw hw 22 rfl)) (Or.inr (tw hw 23 rfl)) (by decide) (t := (.array .byte)) (t' := .byte) (by decide) (by decide)))
    have V_ar_48 := V_ar_36.other W48 (Ne.symm hne)
    have V_bb36_48 := VU36.other W48 (Ne.symm ne_a_bb36)
    have F_a_coder_48 := F_a_coder_36.same W48
    have K48 := Kt36.wr W48 (Or.inl (List.mem_of_getElem? (i := 0) rfl))
    have N48 := Fr.snoc X48 N45 ga
    have Z48 : n0 ≤ h48.size := Nat.le_trans Z36 (Keep.of_wr W48).1
    refine Dg.st st48 ?_
    refine w_a X48 B d3_51 rfl rfl (w_k X48 B d3_52 rfl rfl ?_)
    show Sh T48 54 #[vr a, vr ar, vi 0, vi 4, .val .null, vr bb36] [.ref bb36, .ref a]
    obtain ⟨T54, h54, X54, e54, W54, st54⟩ := putF X48 hx hZ hown (host := "") (Or.inl (tw hw 26 rfl)) Via.refl e48 F_a_value_48 E_a_48 (Or.inr ⟨(tw hw 22 rfl), rfl, hnm⟩) (tw hw 8 rfl) (ty := (.array .byte)) (by decide) rfl rfl (g := (mkF m 54 #[vr a, vr ar, vi 0, vi 4, .val .null, vr bb36] [.ref bb36, .ref a])) rfl rfl (hb hby d3_54)
    have Wo54 := Wo48.wr W54 ga
    have E_a_54 := E_a_48.wr W54
    have F_a_coder_54 := F_a_coder_48.other W54 (Or.inr (slot_ne (Or.inr (tw hw 23 rfl)) (Or.inr (tw hw 22 rfl)) (by decide) (t := .byte) (t' := (.array .byte)) (by decide) (by decide)))
    have V_ar_54 := V_ar_48.other W54 (Ne.symm hne)
    have V_bb36_54 := V_bb36_48.other W54 (Ne.symm ne_a_bb36)
    have F_a_value_54 := F_a_value_48.same W54
    have K54 := K48.wr W54 (Or.inl (List.mem_of_getElem? (i := 0) rfl))
    have N54 := Fr.snoc X54 N48 ga
    have Z54 : n0 ≤ h54.size := Nat.le_trans Z48 (Keep.of_wr W54).1
    refine Dg.st st54 ?_
    exact Dg.ret0 X54 hlk hx hret (hb hby d3_57) (by rw [e54]; exact ⟨rfl, N54, K54, E_a_54, Or.inr ⟨bb36, kb36, F_a_coder_54, F_a_value_54, V_bb36_54⟩⟩) (by decide) (by decide)

def QSc4 (Z : State) (a : Addr) (ar : Addr) (cs : Int32) (sf : Value) (ka : ClassId) (y0 : Int32) (y1 : Int32) (y2 : Int32) (y3 : Int32) (h0 : Heap) (n0 : Nat) (v : Option Value) (h : Heap) (L : List Loc) : Prop := v = none ∧ Fr n0 L ∧ Keep h0 h [a] ∧ own_Str Z h a 4 8 [.int (own_b y0), .int (own_b y1), .int (own_b y2), .int (own_b y3)] [.int (own_lo y0), .int (own_hi y0), .int (own_lo y1), .int (own_hi y1), .int (own_lo y2), .int (own_hi y2), .int (own_lo y3), .int (own_hi y3)] (y0.toInt ≤ 255 ∧ y1.toInt ≤ 255 ∧ y2.toInt ≤ 255 ∧ y3.toInt ≤ 255 ∧ True)
theorem rmSc4 (l : Launch) (Z : State) (a0 : Array Value) (hw : ∀ d ∈ tables_1, d.before a0 Z = true) (ws : List Jvm.Cond) (a : Addr) (ar : Addr) (cs : Int32) (sf : Value) (ka : ClassId) (y0 : Int32) (y1 : Int32) (y2 : Int32) (y3 : Int32) (h0 : Heap) (n0 : Nat) (Z0 : n0 ≤ h0.size) (hW : own_W Z h0 n0 cs sf) (ga : n0 ≤ a) (Ea : Exa Z h0 a "java/lang/String") (Fc : Fld Z h0 a "java/lang/String" "coder" "B" (.int 0)) (Fv : Fld Z h0 a "java/lang/String" "value" "[B" .null) (Vr : Arv Z h0 ar ka .char 4 [.int y0, .int y1, .int y2, .int y3] (.int 0)) (hne : a ≠ ar) (hr0 : 0 ≤ y0.toInt ∧ y0.toInt ≤ 65535) (hr1 : 0 ≤ y1.toInt ∧ y1.toInt ≤ 65535) (hr2 : 0 ≤ y2.toInt ∧ y2.toInt ≤ 65535) (hr3 : 0 ≤ y3.toInt ∧ y3.toInt ≤ 65535) :
    own_Met l on3 (Jvm.Cond.code on3 jdk_42_method_3_code 2 none :: ws) ({ frames := 5, cells := 2, slots := 12, locals := 89 } : Room) #[.ref a, .ref ar] Z h0 (QSc4 Z a ar cs sf ka y0 y1 y2 y3 h0 n0) := by
  refine own_met (plainFor_of_name pn0) (fun m => ef_RR2 m a ar) ?_
  intro p e s m below meth c s₁ B hlk hret hml hZ hown hnm X0 e0
  have hx := B.1
  have hby := B.2
  have N0 := Fr.nil n0
  refine w_a X0 B d2_0 rfl rfl (w_a X0 B d2_1 rfl rfl (w_c X0 B d2_2 (w_a X0 B d2_3 rfl rfl (w_al X0 B hZ e0 Vr d2_4 (Dg.st (fun _ kk => XS.aconstNull X0.here hx rfl (hb hby d2_5) kk) ?_)))))
  show Sh s₁ 6 #[vr a, vr ar] [.null, .int 4, .int 0, .ref ar, .ref a]
  refine w_ci X0 B hZ hown hml (rmVc4 l Z a0 hw [] a ar cs sf ka y0 y1 y2 y3 h0 n0 Z0 hW ga Ea Fc Fv Vr hne hr0 hr1 hr2 hr3) (tw hw 13 rfl) (tw hw 14 rfl) (tw hw 9 rfl) (tw hw 16 rfl) e0 d2_6 4 0 rfl (lenOf pd0 rfl) rfl rfl rfl rfl (by decide) ?_
  rintro _ T6 Lc6 X6 ⟨rfl, Nq6, K6, S6⟩
  have N6 := Fr.app N0 Nq6
  exact Dg.ret0 X6 hlk hx hret (hb hby d2_9) ⟨rfl, N6, K6, S6⟩ (by decide) (by decide)

abbrev k13 := jdk_29_method_69_code
theorem d13_0 : Dc k13 0 (.iload_n 0) 1 := by decide +kernel
theorem d13_1 : Dc k13 1 (.iload_n 1) 1 := by decide +kernel
theorem d13_2 : Dc k13 2 (.if_icmp .gt 7) 3 := by decide +kernel
theorem d13_5 : Dc k13 5 (.iload_n 0) 1 := by decide +kernel
theorem d13_6 : Dc k13 6 (.goto 4) 3 := by decide +kernel
theorem d13_10 : Dc k13 10 (.ireturn) 1 := by decide +kernel
def QMn (Z : State) (ix : Int32) (nx : Int32) (h0 : Heap) (n0 : Nat) (v : Option Value) (h : Heap) (L : List Loc) : Prop := v = some (.int ix) ∧ Fr n0 L ∧ h = h0
theorem rmMn (l : Launch) (Z : State) (a0 : Array Value) (hw : ∀ d ∈ tables_1, d.before a0 Z = true) (ws : List Jvm.Cond) (ix : Int32) (nx : Int32) (h0 : Heap) (n0 : Nat) (Z0 : n0 ≤ h0.size) (hle : ¬ nx < ix) :
    own_Met l on20 (Jvm.Cond.code on20 jdk_29_method_69_code 2 (some .int) :: ws) orm26 #[.int ix, .int nx] Z h0 (QMn Z ix nx h0 n0) := by
  refine own_met (Jvm.Free.JP.mathPlain rfl (by decide +kernel)) (fun m => ef_II2 m ix nx) ?_
  intro p e s m below meth c s₁ B hlk hret hml hZ hown hnm X0 e0
  have N0 := Fr.nil n0
  have r_ix := rng32 ix
  have r_nx := rng32 nx
  refine w_i X0 B d13_0 rfl (w_i X0 B d13_1 rfl ?_)
  show Sh s₁ 2 #[vi ix, vi nx] [.int nx, .int ix]
  have hc2 : ¬ (nx < ix) := hle
  refine w_n X0 B d13_2 (flt hc2).2.2.1 (w_i X0 B d13_5 rfl (w_g X0 B 6 10 rfl d13_6 (by decide) ?_))
  show Sh s₁ 10 #[vi ix, vi nx] [.int ix]
  exact Dg.retI X0 hlk B hret rfl (Or.inl rfl) d13_10 (by rw [e0]; exact ⟨rfl, N0, rfl⟩) (by decide)

theorem d13_9 : Dc k13 9 (.iload_n 1) 1 := by decide +kernel
def QMg (Z : State) (ix : Int32) (nx : Int32) (h0 : Heap) (n0 : Nat) (v : Option Value) (h : Heap) (L : List Loc) : Prop := v = some (.int nx) ∧ Fr n0 L ∧ h = h0
theorem rmMg (l : Launch) (Z : State) (a0 : Array Value) (hw : ∀ d ∈ tables_1, d.before a0 Z = true) (ws : List Jvm.Cond) (ix : Int32) (nx : Int32) (h0 : Heap) (n0 : Nat) (Z0 : n0 ≤ h0.size) (hlt : nx < ix) :
    own_Met l on20 (Jvm.Cond.code on20 jdk_29_method_69_code 2 (some .int) :: ws) orm26 #[.int ix, .int nx] Z h0 (QMg Z ix nx h0 n0) := by
  refine own_met (Jvm.Free.JP.mathPlain rfl (by decide +kernel)) (fun m => ef_II2 m ix nx) ?_
  intro p e s m below meth c s₁ B hlk hret hml hZ hown hnm X0 e0
  have N0 := Fr.nil n0
  have r_ix := rng32 ix
  have r_nx := rng32 nx
  refine w_i X0 B d13_0 rfl (w_i X0 B d13_1 rfl ?_)
  show Sh s₁ 2 #[vi ix, vi nx] [.int nx, .int ix]
  have hc2 : nx < ix := hlt
  refine w_y X0 B 2 9 rfl d13_2 (tlt hc2).2.2.1 (by decide) (w_i X0 B d13_9 rfl ?_)
  show Sh s₁ 10 #[vi ix, vi nx] [.int nx]
  exact Dg.retI X0 hlk B hret rfl (Or.inl rfl) d13_10 (by rw [e0]; exact ⟨rfl, N0, rfl⟩) (by decide)

abbrev k12 := jdk_43_method_4_code
theorem d12_0 : Dc k12 0 (.iload_n 0) 1 := by decide +kernel
theorem d12_1 : Dc k12 1 (.ifCond .lt 14) 3 := by decide +kernel
theorem d12_4 : Dc k12 4 (.iload_n 0) 1 := by decide +kernel
theorem d12_5 : Dc k12 5 (.sipush 255) 3 := by decide +kernel
theorem d12_8 : Dc k12 8 (.if_icmp .gt 7) 3 := by decide +kernel
theorem d12_11 : Dc k12 11 (.iconst 1) 1 := by decide +kernel
theorem d12_12 : Dc k12 12 (.goto 4) 3 := by decide +kernel
theorem d12_16 : Dc k12 16 (.ireturn) 1 := by decide +kernel
def QCe (Z : State)  (h0 : Heap) (n0 : Nat) (v : Option Value) (h : Heap) (L : List Loc) : Prop := v = some (.int 1) ∧ Fr n0 L ∧ h = h0
theorem rmCe (l : Launch) (Z : State) (a0 : Array Value) (hw : ∀ d ∈ tables_1, d.before a0 Z = true) (ws : List Jvm.Cond)  (h0 : Heap) (n0 : Nat) (Z0 : n0 ≤ h0.size) :
    own_Met l (⟨"java/lang/StringLatin1", "canEncode", "(I)Z"⟩ : MethodName) (Jvm.Cond.code (⟨"java/lang/StringLatin1", "canEncode", "(I)Z"⟩ : MethodName) jdk_43_method_4_code 1 (some .boolean) :: ws) orm26 #[.int 47] Z h0 (QCe Z  h0 n0) := by
  refine own_met (plainFor_of_name pn3) (fun m => ef_I1 m (47 : Int32)) ?_
  intro p e s m below meth c s₁ B hlk hret hml hZ hown hnm X0 e0
  have N0 := Fr.nil n0
  refine w_i X0 B d12_0 rfl (w_f X0 B d12_1 (flt (by decide)).1 (w_i X0 B d12_4 rfl (w_d X0 B d12_5 (w_n X0 B d12_8 (flt (by decide)).2.2.1 (w_c X0 B d12_11 (w_g X0 B 12 16 rfl d12_12 (by decide) ?_))))))
  show Sh s₁ 16 #[vi 47] [.int 1]
  exact Dg.retI X0 hlk B hret rfl (Or.inr (Or.inl rfl)) d12_16 (by rw [e0]; exact ⟨rfl, N0, rfl⟩) (by decide)

abbrev k11 := jdk_43_method_27_code
theorem d11_0 : Dc k11 0 (.iload_n 1) 1 := by decide +kernel
theorem d11_1 : Dc k11 1 (.invokestatic 88) 3 := by decide +kernel
theorem d11_4 : Dc k11 4 (.ifCond .ne 5) 3 := by decide +kernel
theorem d11_9 : Dc k11 9 (.iload_n 2) 1 := by decide +kernel
theorem d11_10 : Dc k11 10 (.aload_n 0) 1 := by decide +kernel
theorem d11_11 : Dc k11 11 (.arraylength) 1 := by decide +kernel
theorem d11_12 : Dc k11 12 (.iconst 1) 1 := by decide +kernel
theorem d11_13 : Dc k11 13 (.isub) 1 := by decide +kernel
theorem d11_14 : Dc k11 14 (.invokestatic 38) 3 := by decide +kernel
theorem d11_17 : Dc k11 17 (.istore_n 3) 1 := by decide +kernel
theorem d11_18 : Dc k11 18 (.iload_n 3) 1 := by decide +kernel
theorem d11_19 : Dc k11 19 (.ifCond .lt 19) 3 := by decide +kernel
theorem d11_38 : Dc k11 38 (.iconst (-1)) 1 := by decide +kernel
theorem d11_39 : Dc k11 39 (.ireturn) 1 := by decide +kernel
theorem pd14 : parseMethodDescriptor "(I)Z" = some ⟨[.int], some .boolean⟩ := by decide +kernel
theorem pd15 : parseMethodDescriptor "(II)I" = some ⟨[.int, .int], some .int⟩ := by decide +kernel
theorem ef_RII4 (m : MethodId) (x0 : Addr) (x1 : Int32) (x2 : Int32) : entryFrame m #[.ref x0, .int x1, .int x2] 4 = mkF m 0 #[vr x0, vi x1, vi x2, .unset] [] := by first | (simp [entryFrame, mkF, argsToLocals, Value.category]; done) | rfl
def QLl0 (Z : State) (b : Addr) (kb : ClassId) (h0 : Heap) (n0 : Nat) (v : Option Value) (h : Heap) (L : List Loc) : Prop := Fr n0 L ∧ h = h0 ∧ ((v = some (.int (-1)) ∧ (True)))
theorem rmLl0 (l : Launch) (Z : State) (a0 : Array Value) (hw : ∀ d ∈ tables_1, d.before a0 Z = true) (ws : List Jvm.Cond) (b : Addr) (kb : ClassId) (h0 : Heap) (n0 : Nat) (Z0 : n0 ≤ h0.size) (Vb : Arv Z h0 b kb .byte 0 [] (.int 0)) (hp : (True)) :
    own_Met l on9 (Jvm.Cond.code on9 jdk_43_method_27_code 4 (some .int) :: ws) orm30 #[.ref b, .int 47, .int (-1)] Z h0 (QLl0 Z b kb h0 n0) := by
  refine own_met (plainFor_of_name pn3) (fun m => ef_RII4 m b (47 : Int32) (-1 : Int32)) ?_
  intro p e s m below meth c s₁ B hlk hret hml hZ hown hnm X0 e0
  have hx := B.1
  have hby := B.2
  have N0 := Fr.nil n0
  refine w_i X0 B d11_0 rfl ?_
  show Sh s₁ 1 #[vr b, vi 47, vi (-1), .unset] [.int 47]
  refine w_cs X0 B hZ hown hml (rmCe l Z a0 hw []  h0 n0 Z0 ) (tw hw 62 rfl) (tw hw 63 rfl) (tw hw 60 rfl) (tw hw 64 rfl) e0 d11_1 1 0 (lenOf pd14 rfl) rfl rfl rfl (by decide) ?_
  rintro _ T1 Lc1 X1 ⟨rfl, Nq1, hh1⟩
  have N1 := Fr.app N0 Nq1
  refine w_t X1 B 4 9 rfl d11_4 (feq (by decide)).2 (by decide) (w_i X1 B d11_9 rfl (w_a X1 B d11_10 rfl rfl (w_al X1 B hZ hh1 Vb d11_11 (w_c X1 B d11_12 (Dg.st (fun _ kk => XS.isub X1.here hx rfl (hb hby d11_13) rfl kk) ?_)))))
  show Sh T1 14 #[vr b, vi 47, vi (-1), .unset] [.int (-1), .int (-1)]
  refine w_cs X1 B hZ hown hml (rmMn l Z a0 hw [] (-1 : Int32) (-1 : Int32)  h0 n0 Z0 (by decide)) (tw hw 65 rfl) (tw hw 66 rfl) (tw hw 67 rfl) (tw hw 68 rfl) hh1 d11_14 2 0 (lenOf pd15 rfl) rfl rfl rfl (by decide) ?_
  rintro _ T14 Lc14 X14 ⟨rfl, Nq14, hh14⟩
  have N14 := Fr.app N1 Nq14
  refine w_S X14 B d11_17 #[vr b, vi 47, vi (-1), vi (-1)] rfl (w_i X14 B d11_18 rfl (w_t X14 B 19 38 rfl d11_19 (tlt (by decide)).1 (by decide) (w_c X14 B d11_38 ?_)))
  show Sh T14 39 #[vr b, vi 47, vi (-1), vi (-1)] [.int (-1)]
  exact Dg.retI X14 hlk B hret rfl (Or.inl rfl) d11_39 (by rw [hh14]; exact ⟨N14, rfl, ⟨rfl, trivial⟩⟩) (by decide)

abbrev k28 := jdk_52_method_51_code
theorem d28_0 : Dc k28 0 (.iload_n 1) 1 := by decide +kernel
theorem d28_1 : Dc k28 1 (.ldc 227) 2 := by decide +kernel
theorem d28_3 : Dc k28 3 (.if_icmp .ge 37) 3 := by decide +kernel
theorem d28_6 : Dc k28 6 (.iload_n 2) 1 := by decide +kernel
theorem d28_7 : Dc k28 7 (.aload_n 0) 1 := by decide +kernel
theorem d28_8 : Dc k28 8 (.arraylength) 1 := by decide +kernel
theorem d28_9 : Dc k28 9 (.iconst 1) 1 := by decide +kernel
theorem d28_10 : Dc k28 10 (.ishr) 1 := by decide +kernel
theorem d28_11 : Dc k28 11 (.iconst 1) 1 := by decide +kernel
theorem d28_12 : Dc k28 12 (.isub) 1 := by decide +kernel
theorem d28_13 : Dc k28 13 (.invokestatic 183) 3 := by decide +kernel
theorem d28_16 : Dc k28 16 (.istore_n 3) 1 := by decide +kernel
theorem d28_17 : Dc k28 17 (.iload_n 3) 1 := by decide +kernel
theorem d28_18 : Dc k28 18 (.ifCond .lt 20) 3 := by decide +kernel
theorem d28_38 : Dc k28 38 (.iconst (-1)) 1 := by decide +kernel
theorem d28_39 : Dc k28 39 (.ireturn) 1 := by decide +kernel
def QLu0 (Z : State) (b : Addr) (cs : Int32) (sf : Value) (kb : ClassId) (h0 : Heap) (n0 : Nat) (v : Option Value) (h : Heap) (L : List Loc) : Prop := Fr n0 L ∧ h = h0 ∧ ((v = some (.int (-1)) ∧ (True)))
theorem rmLu0 (l : Launch) (Z : State) (a0 : Array Value) (hw : ∀ d ∈ tables_1, d.before a0 Z = true) (ws : List Jvm.Cond) (b : Addr) (cs : Int32) (sf : Value) (kb : ClassId) (h0 : Heap) (n0 : Nat) (Z0 : n0 ≤ h0.size) (hW : own_W Z h0 n0 cs sf) (Vb : Arv Z h0 b kb .byte 0 [] (.int 0)) :
    own_Met l on6 (Jvm.Cond.code on6 jdk_52_method_51_code 4 (some .int) :: ws) orm30 #[.ref b, .int 47, .int (-1)] Z h0 (QLu0 Z b cs sf kb h0 n0) := by
  refine own_met (plainFor_of_name pn2) (fun m => ef_RII4 m b (47 : Int32) (-1 : Int32)) ?_
  intro p e s m below meth c s₁ B hlk hret hml hZ hown hnm X0 e0
  have hx := B.1
  have hby := B.2
  have N0 := Fr.nil n0
  refine w_i X0 B d28_0 rfl (Dg.st (fun _ kk => X0.ldcInt hx hown (mvT hZ (tw hw 127 rfl)) (g := (mkF m 1 #[vr b, vi 47, vi (-1), .unset] [.int 47])) rfl (hb hby d28_1) _ kk) (w_n X0 B d28_3 (tlt (by decide)).2.1 (w_i X0 B d28_6 rfl (w_a X0 B d28_7 rfl rfl (w_al X0 B hZ e0 Vb d28_8 (w_c X0 B d28_9 (Dg.st (fun _ kk => XS.ishr X0.here hx rfl (hb hby d28_10) rfl kk) ?_)))))))
  show Sh s₁ 11 #[vr b, vi 47, vi (-1), .unset] [.int 0, .int (-1)]
  refine w_c X0 B d28_11 (Dg.st (fun _ kk => XS.isub X0.here hx rfl (hb hby d28_12) rfl kk) ?_)
  show Sh s₁ 13 #[vr b, vi 47, vi (-1), .unset] [.int (-1), .int (-1)]
  refine w_cs X0 B hZ hown hml (rmMn l Z a0 hw [] (-1 : Int32) (-1 : Int32)  h0 n0 Z0 (by decide)) (tw hw 128 rfl) (tw hw 66 rfl) (tw hw 67 rfl) (tw hw 68 rfl) e0 d28_13 2 0 (lenOf pd15 rfl) rfl rfl rfl (by decide) ?_
  rintro _ T13 Lc13 X13 ⟨rfl, Nq13, hh13⟩
  have N13 := Fr.app N0 Nq13
  refine w_S X13 B d28_16 #[vr b, vi 47, vi (-1), vi (-1)] rfl (w_i X13 B d28_17 rfl (w_t X13 B 18 38 rfl d28_18 (tlt (by decide)).1 (by decide) (w_c X13 B d28_38 ?_)))
  show Sh T13 39 #[vr b, vi 47, vi (-1), vi (-1)] [.int (-1)]
  exact Dg.retI X13 hlk B hret rfl (Or.inl rfl) d28_39 (by rw [hh13]; exact ⟨N13, rfl, ⟨rfl, trivial⟩⟩) (by decide)

abbrev k9 := jdk_42_method_83_code
theorem d9_0 : Dc k9 0 (.aload_n 0) 1 := by decide +kernel
theorem d9_1 : Dc k9 1 (.invokevirtual 492) 3 := by decide +kernel
theorem d9_4 : Dc k9 4 (.ifCond .eq 15) 3 := by decide +kernel
theorem d9_7 : Dc k9 7 (.aload_n 0) 1 := by decide +kernel
theorem d9_8 : Dc k9 8 (.getfield 9) 3 := by decide +kernel
theorem d9_11 : Dc k9 11 (.iload_n 1) 1 := by decide +kernel
theorem d9_12 : Dc k9 12 (.iload_n 2) 1 := by decide +kernel
theorem d9_13 : Dc k9 13 (.invokestatic 644) 3 := by decide +kernel
theorem d9_16 : Dc k9 16 (.goto 12) 3 := by decide +kernel
theorem d9_19 : Dc k9 19 (.aload_n 0) 1 := by decide +kernel
theorem d9_20 : Dc k9 20 (.getfield 9) 3 := by decide +kernel
theorem d9_23 : Dc k9 23 (.iload_n 1) 1 := by decide +kernel
theorem d9_24 : Dc k9 24 (.iload_n 2) 1 := by decide +kernel
theorem d9_25 : Dc k9 25 (.invokestatic 646) 3 := by decide +kernel
theorem d9_28 : Dc k9 28 (.ireturn) 1 := by decide +kernel
theorem pd16 : parseMethodDescriptor "([BII)I" = some ⟨[(.array .byte), .int, .int], some .int⟩ := by decide +kernel
def QL2_0 (Z : State) (a : Addr) (cs : Int32) (sf : Value) (h0 : Heap) (n0 : Nat) (v : Option Value) (h : Heap) (L : List Loc) : Prop := Fr n0 L ∧ h = h0 ∧ ((v = some (.int (-1)) ∧ (True)))
theorem rmL2_0 (l : Launch) (Z : State) (a0 : Array Value) (hw : ∀ d ∈ tables_1, d.before a0 Z = true) (ws : List Jvm.Cond) (a : Addr) (cs : Int32) (sf : Value) (h0 : Heap) (n0 : Nat) (Z0 : n0 ≤ h0.size) (hW : own_W Z h0 n0 cs sf) (hS : own_Str Z h0 a 0 0 [] [] (True)) :
    own_Met l on8 (Jvm.Cond.code on8 jdk_42_method_83_code 3 (some .int) :: ws) orm34 #[.ref a, .int 47, .int (-1)] Z h0 (QL2_0 Z a cs sf h0 n0) := by
  refine own_met (plainFor_of_name pn0) (fun m => ef_RII3 m a (47 : Int32) (-1 : Int32)) ?_
  intro p e s m below meth c s₁ B hlk hret hml hZ hown hnm X0 e0
  have N0 := Fr.nil n0
  have hS' := hS
  rcases hS' with ⟨Ea, ⟨bb, kb, Fc, Fv, Vb, hp⟩ | ⟨bb, kb, Fc, Fv, Vb⟩⟩
  · refine w_a X0 B d9_0 rfl rfl ?_
    show Sh s₁ 1 #[vr a, vi 47, vi (-1)] [.ref a]
    refine w_cv X0 B hZ hown hml (rmIl0 l Z a0 hw [] a cs sf  h0 n0 Z0 hW Fc) (tw hw 53 rfl) (tw hw 54 rfl) (tw hw 56 rfl) (tw hw 55 rfl) (tw hw 9 rfl) (tw hw 57 rfl) e0 Ea d9_1 0 0 rfl (lenOf pd7 rfl) rfl rfl rfl (by decide) ?_
    rintro _ T1 Lc1 X1 ⟨rfl, Nq1, hh1⟩
    have N1 := Fr.app N0 Nq1
    refine w_f X1 B d9_4 (feq (by decide)).1 (w_a X1 B d9_7 rfl rfl ?_)
    show Sh T1 8 #[vr a, vi 47, vi (-1)] [.ref a]
    refine w_gf X1 B hZ hown (tw hw 26 rfl) Via.refl hh1 Fv d9_8 ?_
    intro T8 X8 e8
    refine w_i X8 B d9_11 rfl (w_i X8 B d9_12 rfl ?_)
    show Sh T8 13 #[vr a, vi 47, vi (-1)] [.int (-1), .int 47, .ref bb]
    refine w_cs X8 B hZ hown hml (rmLl0 l Z a0 hw [] bb kb  h0 n0 Z0 Vb hp ) (tw hw 58 rfl) (tw hw 59 rfl) (tw hw 60 rfl) (tw hw 61 rfl) e8 d9_13 3 0 (lenOf pd16 rfl) rfl rfl rfl (by decide) ?_
    rintro _ T13 Lc13 X13 ⟨Nq13, hh13, hq13⟩
    have N13 := Fr.app N1 Nq13
    rcases hq13 with ⟨rfl, gl13⟩
    · refine w_g X13 B 16 28 rfl d9_16 (by decide) ?_
      show Sh T13 28 #[vr a, vi 47, vi (-1)] [.int (-1)]
      exact Dg.retI X13 hlk B hret rfl (Or.inl rfl) d9_28 (by rw [hh13]; exact ⟨N13, rfl, ⟨rfl, gl13⟩⟩) (by decide)
  · refine w_a X0 B d9_0 rfl rfl ?_
    show Sh s₁ 1 #[vr a, vi 47, vi (-1)] [.ref a]
    refine w_cv X0 B hZ hown hml (rmIl1 l Z a0 hw [] a cs sf  h0 n0 Z0 hW Fc) (tw hw 53 rfl) (tw hw 54 rfl) (tw hw 56 rfl) (tw hw 55 rfl) (tw hw 9 rfl) (tw hw 57 rfl) e0 Ea d9_1 0 0 rfl (lenOf pd7 rfl) rfl rfl rfl (by decide) ?_
    rintro _ T1 Lc1 X1 ⟨rfl, Nq1, hh1⟩
    have N1 := Fr.app N0 Nq1
    refine w_t X1 B 4 19 rfl d9_4 (teq (by decide)).1 (by decide) (w_a X1 B d9_19 rfl rfl ?_)
    show Sh T1 20 #[vr a, vi 47, vi (-1)] [.ref a]
    refine w_gf X1 B hZ hown (tw hw 26 rfl) Via.refl hh1 Fv d9_20 ?_
    intro T20 X20 e20
    refine w_i X20 B d9_23 rfl (w_i X20 B d9_24 rfl ?_)
    show Sh T20 25 #[vr a, vi 47, vi (-1)] [.int (-1), .int 47, .ref bb]
    refine w_cs X20 B hZ hown hml (rmLu0 l Z a0 hw [] bb cs sf kb  h0 n0 Z0 hW Vb ) (tw hw 124 rfl) (tw hw 125 rfl) (tw hw 93 rfl) (tw hw 126 rfl) e20 d9_25 3 0 (lenOf pd16 rfl) rfl rfl rfl (by decide) ?_
    rintro _ T25 Lc25 X25 ⟨Nq25, hh25, hq25⟩
    have N25 := Fr.app N1 Nq25
    rcases hq25 with ⟨rfl, gl25⟩
    · exact Dg.retI X25 hlk B hret rfl (Or.inl rfl) d9_28 (by rw [hh25]; exact ⟨N25, rfl, ⟨rfl, gl25⟩⟩) (by decide)

abbrev k6 := jdk_42_method_82_code
theorem d6_0 : Dc k6 0 (.aload_n 0) 1 := by decide +kernel
theorem d6_1 : Dc k6 1 (.iload_n 1) 1 := by decide +kernel
theorem d6_2 : Dc k6 2 (.aload_n 0) 1 := by decide +kernel
theorem d6_3 : Dc k6 3 (.invokevirtual 505) 3 := by decide +kernel
theorem d6_6 : Dc k6 6 (.iconst 1) 1 := by decide +kernel
theorem d6_7 : Dc k6 7 (.isub) 1 := by decide +kernel
theorem d6_8 : Dc k6 8 (.invokevirtual 641) 3 := by decide +kernel
theorem d6_11 : Dc k6 11 (.ireturn) 1 := by decide +kernel
theorem pd17 : parseMethodDescriptor "()I" = some ⟨[], some .int⟩ := by decide +kernel
def QL1_0 (Z : State) (a : Addr) (cs : Int32) (sf : Value) (h0 : Heap) (n0 : Nat) (v : Option Value) (h : Heap) (L : List Loc) : Prop := Fr n0 L ∧ h = h0 ∧ ((v = some (.int (-1)) ∧ (True)))
theorem rmL1_0 (l : Launch) (Z : State) (a0 : Array Value) (hw : ∀ d ∈ tables_1, d.before a0 Z = true) (ws : List Jvm.Cond) (a : Addr) (cs : Int32) (sf : Value) (h0 : Heap) (n0 : Nat) (Z0 : n0 ≤ h0.size) (hW : own_W Z h0 n0 cs sf) (hS : own_Str Z h0 a 0 0 [] [] (True)) :
    own_Met l on7 (Jvm.Cond.code on7 jdk_42_method_82_code 2 (some .int) :: ws) orm35 #[.ref a, .int 47] Z h0 (QL1_0 Z a cs sf h0 n0) := by
  refine own_met (plainFor_of_name pn0) (fun m => ef_RI2 m a (47 : Int32)) ?_
  intro p e s m below meth c s₁ B hlk hret hml hZ hown hnm X0 e0
  have hx := B.1
  have hby := B.2
  have N0 := Fr.nil n0
  refine w_a X0 B d6_0 rfl rfl (w_i X0 B d6_1 rfl (w_a X0 B d6_2 rfl rfl ?_))
  show Sh s₁ 3 #[vr a, vi 47] [.ref a, .int 47, .ref a]
  refine w_cv X0 B hZ hown hml (rmLn l Z a0 hw [] a cs sf _ _ _ _ _ h0 n0 Z0 hW hS (by decide) (by decide)) (tw hw 37 rfl) (tw hw 38 rfl) (tw hw 40 rfl) (tw hw 39 rfl) (tw hw 9 rfl) (tw hw 41 rfl) e0 hS.1 d6_3 0 2 rfl (lenOf pd17 rfl) rfl rfl rfl (by decide) ?_
  rintro _ T3 Lc3 X3 ⟨rfl, Nq3, hh3⟩
  have N3 := Fr.app N0 Nq3
  refine w_c X3 B d6_6 (Dg.st (fun _ kk => XS.isub X3.here hx rfl (hb hby d6_7) rfl kk) ?_)
  show Sh T3 8 #[vr a, vi 47] [.int (-1), .int 47, .ref a]
  refine w_cv X3 B hZ hown hml (rmL2_0 l Z a0 hw [] a cs sf  h0 n0 Z0 hW hS ) (tw hw 48 rfl) (tw hw 49 rfl) (tw hw 51 rfl) (tw hw 50 rfl) (tw hw 9 rfl) (tw hw 52 rfl) hh3 hS.1 d6_8 2 0 rfl (lenOf pd15 rfl) rfl rfl rfl (by decide) ?_
  rintro _ T8 Lc8 X8 ⟨Nq8, hh8, hq8⟩
  have N8 := Fr.app N3 Nq8
  rcases hq8 with ⟨rfl, gl8⟩
  · exact Dg.retI X8 hlk B hret rfl (Or.inl rfl) d6_11 (by rw [hh8]; exact ⟨N8, rfl, ⟨rfl, gl8⟩⟩) (by decide)

theorem d11_22 : Dc k11 22 (.aload_n 0) 1 := by decide +kernel
theorem d11_23 : Dc k11 23 (.iload_n 3) 1 := by decide +kernel
theorem d11_24 : Dc k11 24 (.baload) 1 := by decide +kernel
theorem d11_25 : Dc k11 25 (.iload_n 1) 1 := by decide +kernel
theorem d11_26 : Dc k11 26 (.i2b) 1 := by decide +kernel
theorem d11_27 : Dc k11 27 (.if_icmp .ne 5) 3 := by decide +kernel
theorem d11_30 : Dc k11 30 (.iload_n 3) 1 := by decide +kernel
theorem d11_31 : Dc k11 31 (.ireturn) 1 := by decide +kernel
theorem d11_32 : Dc k11 32 (.iinc 3 (-1)) 3 := by decide +kernel
theorem d11_35 : Dc k11 35 (.goto (-17)) 3 := by decide +kernel
def QLl1 (Z : State) (b : Addr) (kb : ClassId) (y0 : Int32) (h0 : Heap) (n0 : Nat) (v : Option Value) (h : Heap) (L : List Loc) : Prop := Fr n0 L ∧ h = h0 ∧ ((v = some (.int 0) ∧ (y0 = 47 ∧ True)) ∨ (v = some (.int (-1)) ∧ (¬ y0 = 47 ∧ True)))
theorem rmLl1 (l : Launch) (Z : State) (a0 : Array Value) (hw : ∀ d ∈ tables_1, d.before a0 Z = true) (ws : List Jvm.Cond) (b : Addr) (kb : ClassId) (y0 : Int32) (h0 : Heap) (n0 : Nat) (Z0 : n0 ≤ h0.size) (Vb : Arv Z h0 b kb .byte 1 [.int (own_b y0)] (.int 0)) (hp : (y0.toInt ≤ 255 ∧ True)) (hr0 : 0 ≤ y0.toInt ∧ y0.toInt ≤ 65535) :
    own_Met l on9 (Jvm.Cond.code on9 jdk_43_method_27_code 4 (some .int) :: ws) orm30 #[.ref b, .int 47, .int 0] Z h0 (QLl1 Z b kb y0 h0 n0) := by
  refine own_met (plainFor_of_name pn3) (fun m => ef_RII4 m b (47 : Int32) (0 : Int32)) ?_
  intro p e s m below meth c s₁ B hlk hret hml hZ hown hnm X0 e0
  have hx := B.1
  have hby := B.2
  have N0 := Fr.nil n0
  refine w_i X0 B d11_0 rfl ?_
  show Sh s₁ 1 #[vr b, vi 47, vi 0, .unset] [.int 47]
  refine w_cs X0 B hZ hown hml (rmCe l Z a0 hw []  h0 n0 Z0 ) (tw hw 62 rfl) (tw hw 63 rfl) (tw hw 60 rfl) (tw hw 64 rfl) e0 d11_1 1 0 (lenOf pd14 rfl) rfl rfl rfl (by decide) ?_
  rintro _ T1 Lc1 X1 ⟨rfl, Nq1, hh1⟩
  have N1 := Fr.app N0 Nq1
  refine w_t X1 B 4 9 rfl d11_4 (feq (by decide)).2 (by decide) (w_i X1 B d11_9 rfl (w_a X1 B d11_10 rfl rfl (w_al X1 B hZ hh1 Vb d11_11 (w_c X1 B d11_12 (Dg.st (fun _ kk => XS.isub X1.here hx rfl (hb hby d11_13) rfl kk) ?_)))))
  show Sh T1 14 #[vr b, vi 47, vi 0, .unset] [.int 0, .int 0]
  refine w_cs X1 B hZ hown hml (rmMn l Z a0 hw [] (0 : Int32) (0 : Int32)  h0 n0 Z0 (by decide)) (tw hw 65 rfl) (tw hw 66 rfl) (tw hw 67 rfl) (tw hw 68 rfl) hh1 d11_14 2 0 (lenOf pd15 rfl) rfl rfl rfl (by decide) ?_
  rintro _ T14 Lc14 X14 ⟨rfl, Nq14, hh14⟩
  have N14 := Fr.app N1 Nq14
  refine w_S X14 B d11_17 #[vr b, vi 47, vi 0, vi 0] rfl (w_i X14 B d11_18 rfl (w_f X14 B d11_19 (flt (by decide)).1 (w_a X14 B d11_22 rfl rfl (w_i X14 B d11_23 rfl (w_ba X14 B hZ hh14 Vb (by decide) (v := (.int (own_b y0))) rfl d11_24 (w_i X14 B d11_25 rfl (Dg.st (fun _ kk => XS.i2b X14.here hx rfl (hb hby d11_26) rfl kk) ?_)))))))
  show Sh T14 27 #[vr b, vi 47, vi 0, vi 0] [.int 47, .int (own_b y0)]
  by_cases hc27 : (own_b y0) = (47 : Int32)
  · refine w_n X14 B d11_27 (teq hc27).2 (w_i X14 B d11_30 rfl ?_)
    show Sh T14 31 #[vr b, vi 47, vi 0, vi 0] [.int 0]
    exact Dg.retI X14 hlk B hret rfl (Or.inl rfl) d11_31 (by rw [hh14]; exact ⟨N14, rfl, (Or.inl ⟨rfl, ⟨(own_b47 hr0.1 hp.1).mp hc27, trivial⟩⟩)⟩) (by decide)
  · refine w_y X14 B 27 32 rfl d11_27 (feq hc27).2 (by decide) (w_p X14 B d11_32 rfl #[vr b, vi 47, vi 0, vi (-1)] rfl (w_g X14 B 35 18 rfl d11_35 (by decide) (w_i X14 B d11_18 rfl (w_t X14 B 19 38 rfl d11_19 (tlt (by decide)).1 (by decide) (w_c X14 B d11_38 ?_)))))
    show Sh T14 39 #[vr b, vi 47, vi 0, vi (-1)] [.int (-1)]
    exact Dg.retI X14 hlk B hret rfl (Or.inl rfl) d11_39 (by rw [hh14]; exact ⟨N14, rfl, (Or.inr ⟨rfl, ⟨mt (own_b47 hr0.1 hp.1).mpr hc27, trivial⟩⟩)⟩) (by decide)

theorem d28_21 : Dc k28 21 (.aload_n 0) 1 := by decide +kernel
theorem d28_22 : Dc k28 22 (.iload_n 3) 1 := by decide +kernel
theorem d28_23 : Dc k28 23 (.invokestatic 71) 3 := by decide +kernel
theorem d28_26 : Dc k28 26 (.iload_n 1) 1 := by decide +kernel
theorem d28_27 : Dc k28 27 (.if_icmp .ne 5) 3 := by decide +kernel
theorem d28_30 : Dc k28 30 (.iload_n 3) 1 := by decide +kernel
theorem d28_31 : Dc k28 31 (.ireturn) 1 := by decide +kernel
theorem d28_32 : Dc k28 32 (.iinc 3 (-1)) 3 := by decide +kernel
theorem d28_35 : Dc k28 35 (.goto (-18)) 3 := by decide +kernel
def QLu1 (Z : State) (b : Addr) (cs : Int32) (sf : Value) (kb : ClassId) (y0 : Int32) (h0 : Heap) (n0 : Nat) (v : Option Value) (h : Heap) (L : List Loc) : Prop := Fr n0 L ∧ h = h0 ∧ ((v = some (.int 0) ∧ (y0 = 47 ∧ True)) ∨ (v = some (.int (-1)) ∧ (¬ y0 = 47 ∧ True)))
theorem rmLu1 (l : Launch) (Z : State) (a0 : Array Value) (hw : ∀ d ∈ tables_1, d.before a0 Z = true) (ws : List Jvm.Cond) (b : Addr) (cs : Int32) (sf : Value) (kb : ClassId) (y0 : Int32) (h0 : Heap) (n0 : Nat) (Z0 : n0 ≤ h0.size) (hW : own_W Z h0 n0 cs sf) (Vb : Arv Z h0 b kb .byte 2 [.int (own_lo y0), .int (own_hi y0)] (.int 0)) (hr0 : 0 ≤ y0.toInt ∧ y0.toInt ≤ 65535) :
    own_Met l on6 (Jvm.Cond.code on6 jdk_52_method_51_code 4 (some .int) :: ws) orm30 #[.ref b, .int 47, .int 0] Z h0 (QLu1 Z b cs sf kb y0 h0 n0) := by
  refine own_met (plainFor_of_name pn2) (fun m => ef_RII4 m b (47 : Int32) (0 : Int32)) ?_
  intro p e s m below meth c s₁ B hlk hret hml hZ hown hnm X0 e0
  have hx := B.1
  have hby := B.2
  have N0 := Fr.nil n0
  refine w_i X0 B d28_0 rfl (Dg.st (fun _ kk => X0.ldcInt hx hown (mvT hZ (tw hw 127 rfl)) (g := (mkF m 1 #[vr b, vi 47, vi 0, .unset] [.int 47])) rfl (hb hby d28_1) _ kk) (w_n X0 B d28_3 (tlt (by decide)).2.1 (w_i X0 B d28_6 rfl (w_a X0 B d28_7 rfl rfl (w_al X0 B hZ e0 Vb d28_8 (w_c X0 B d28_9 (Dg.st (fun _ kk => XS.ishr X0.here hx rfl (hb hby d28_10) rfl kk) ?_)))))))
  show Sh s₁ 11 #[vr b, vi 47, vi 0, .unset] [.int 1, .int 0]
  refine w_c X0 B d28_11 (Dg.st (fun _ kk => XS.isub X0.here hx rfl (hb hby d28_12) rfl kk) ?_)
  show Sh s₁ 13 #[vr b, vi 47, vi 0, .unset] [.int 0, .int 0]
  refine w_cs X0 B hZ hown hml (rmMn l Z a0 hw [] (0 : Int32) (0 : Int32)  h0 n0 Z0 (by decide)) (tw hw 128 rfl) (tw hw 66 rfl) (tw hw 67 rfl) (tw hw 68 rfl) e0 d28_13 2 0 (lenOf pd15 rfl) rfl rfl rfl (by decide) ?_
  rintro _ T13 Lc13 X13 ⟨rfl, Nq13, hh13⟩
  have N13 := Fr.app N0 Nq13
  refine w_S X13 B d28_16 #[vr b, vi 47, vi 0, vi 0] rfl (w_i X13 B d28_17 rfl (w_f X13 B d28_18 (flt (by decide)).1 (w_a X13 B d28_21 rfl rfl (w_i X13 B d28_22 rfl ?_))))
  show Sh T13 23 #[vr b, vi 47, vi 0, vi 0] [.int 0, .ref b]
  refine w_cs X13 B hZ hown hml (rmGc l Z a0 hw [] b (0 : Int32) cs sf _ _ _ y0 h0 n0 Z0 hW Vb (by decide) (by decide) rfl rfl hr0.1 hr0.2) (tw hw 121 rfl) (tw hw 122 rfl) (tw hw 93 rfl) (tw hw 123 rfl) hh13 d28_23 2 0 (lenOf pd6 rfl) rfl rfl rfl (by decide) ?_
  rintro _ T23 Lc23 X23 ⟨rfl, Nq23, hh23⟩
  have N23 := Fr.app N13 Nq23
  refine w_i X23 B d28_26 rfl ?_
  show Sh T23 27 #[vr b, vi 47, vi 0, vi 0] [.int 47, .int y0]
  by_cases hc27 : y0 = (47 : Int32)
  · refine w_n X23 B d28_27 (teq hc27).2 (w_i X23 B d28_30 rfl ?_)
    show Sh T23 31 #[vr b, vi 47, vi 0, vi 0] [.int 0]
    exact Dg.retI X23 hlk B hret rfl (Or.inl rfl) d28_31 (by rw [hh23]; exact ⟨N23, rfl, (Or.inl ⟨rfl, ⟨hc27, trivial⟩⟩)⟩) (by decide)
  · refine w_y X23 B 27 32 rfl d28_27 (feq hc27).2 (by decide) (w_p X23 B d28_32 rfl #[vr b, vi 47, vi 0, vi (-1)] rfl (w_g X23 B 35 17 rfl d28_35 (by decide) (w_i X23 B d28_17 rfl (w_t X23 B 18 38 rfl d28_18 (tlt (by decide)).1 (by decide) (w_c X23 B d28_38 ?_)))))
    show Sh T23 39 #[vr b, vi 47, vi 0, vi (-1)] [.int (-1)]
    exact Dg.retI X23 hlk B hret rfl (Or.inl rfl) d28_39 (by rw [hh23]; exact ⟨N23, rfl, (Or.inr ⟨rfl, ⟨hc27, trivial⟩⟩)⟩) (by decide)

def QL2_1 (Z : State) (a : Addr) (cs : Int32) (sf : Value) (y0 : Int32) (h0 : Heap) (n0 : Nat) (v : Option Value) (h : Heap) (L : List Loc) : Prop := Fr n0 L ∧ h = h0 ∧ ((v = some (.int 0) ∧ (y0 = 47 ∧ True)) ∨ (v = some (.int (-1)) ∧ (¬ y0 = 47 ∧ True)))
theorem rmL2_1 (l : Launch) (Z : State) (a0 : Array Value) (hw : ∀ d ∈ tables_1, d.before a0 Z = true) (ws : List Jvm.Cond) (a : Addr) (cs : Int32) (sf : Value) (y0 : Int32) (h0 : Heap) (n0 : Nat) (Z0 : n0 ≤ h0.size) (hW : own_W Z h0 n0 cs sf) (hS : own_Str Z h0 a 1 2 [.int (own_b y0)] [.int (own_lo y0), .int (own_hi y0)] (y0.toInt ≤ 255 ∧ True)) (hr0 : 0 ≤ y0.toInt ∧ y0.toInt ≤ 65535) :
    own_Met l on8 (Jvm.Cond.code on8 jdk_42_method_83_code 3 (some .int) :: ws) orm34 #[.ref a, .int 47, .int 0] Z h0 (QL2_1 Z a cs sf y0 h0 n0) := by
  refine own_met (plainFor_of_name pn0) (fun m => ef_RII3 m a (47 : Int32) (0 : Int32)) ?_
  intro p e s m below meth c s₁ B hlk hret hml hZ hown hnm X0 e0
  have N0 := Fr.nil n0
  have hS' := hS
  rcases hS' with ⟨Ea, ⟨bb, kb, Fc, Fv, Vb, hp⟩ | ⟨bb, kb, Fc, Fv, Vb⟩⟩
  · refine w_a X0 B d9_0 rfl rfl ?_
    show Sh s₁ 1 #[vr a, vi 47, vi 0] [.ref a]
    refine w_cv X0 B hZ hown hml (rmIl0 l Z a0 hw [] a cs sf  h0 n0 Z0 hW Fc) (tw hw 53 rfl) (tw hw 54 rfl) (tw hw 56 rfl) (tw hw 55 rfl) (tw hw 9 rfl) (tw hw 57 rfl) e0 Ea d9_1 0 0 rfl (lenOf pd7 rfl) rfl rfl rfl (by decide) ?_
    rintro _ T1 Lc1 X1 ⟨rfl, Nq1, hh1⟩
    have N1 := Fr.app N0 Nq1
    refine w_f X1 B d9_4 (feq (by decide)).1 (w_a X1 B d9_7 rfl rfl ?_)
    show Sh T1 8 #[vr a, vi 47, vi 0] [.ref a]
    refine w_gf X1 B hZ hown (tw hw 26 rfl) Via.refl hh1 Fv d9_8 ?_
    intro T8 X8 e8
    refine w_i X8 B d9_11 rfl (w_i X8 B d9_12 rfl ?_)
    show Sh T8 13 #[vr a, vi 47, vi 0] [.int 0, .int 47, .ref bb]
    refine w_cs X8 B hZ hown hml (rmLl1 l Z a0 hw [] bb kb y0 h0 n0 Z0 Vb hp hr0) (tw hw 58 rfl) (tw hw 59 rfl) (tw hw 60 rfl) (tw hw 61 rfl) e8 d9_13 3 0 (lenOf pd16 rfl) rfl rfl rfl (by decide) ?_
    rintro _ T13 Lc13 X13 ⟨Nq13, hh13, hq13⟩
    have N13 := Fr.app N1 Nq13
    rcases hq13 with ⟨rfl, gl13⟩ | ⟨rfl, gl13⟩
    · refine w_g X13 B 16 28 rfl d9_16 (by decide) ?_
      show Sh T13 28 #[vr a, vi 47, vi 0] [.int 0]
      exact Dg.retI X13 hlk B hret rfl (Or.inl rfl) d9_28 (by rw [hh13]; exact ⟨N13, rfl, (Or.inl ⟨rfl, gl13⟩)⟩) (by decide)
    · refine w_g X13 B 16 28 rfl d9_16 (by decide) ?_
      show Sh T13 28 #[vr a, vi 47, vi 0] [.int (-1)]
      exact Dg.retI X13 hlk B hret rfl (Or.inl rfl) d9_28 (by rw [hh13]; exact ⟨N13, rfl, (Or.inr ⟨rfl, gl13⟩)⟩) (by decide)
  · refine w_a X0 B d9_0 rfl rfl ?_
    show Sh s₁ 1 #[vr a, vi 47, vi 0] [.ref a]
    refine w_cv X0 B hZ hown hml (rmIl1 l Z a0 hw [] a cs sf  h0 n0 Z0 hW Fc) (tw hw 53 rfl) (tw hw 54 rfl) (tw hw 56 rfl) (tw hw 55 rfl) (tw hw 9 rfl) (tw hw 57 rfl) e0 Ea d9_1 0 0 rfl (lenOf pd7 rfl) rfl rfl rfl (by decide) ?_
    rintro _ T1 Lc1 X1 ⟨rfl, Nq1, hh1⟩
    have N1 := Fr.app N0 Nq1
    refine w_t X1 B 4 19 rfl d9_4 (teq (by decide)).1 (by decide) (w_a X1 B d9_19 rfl rfl ?_)
    show Sh T1 20 #[vr a, vi 47, vi 0] [.ref a]
    refine w_gf X1 B hZ hown (tw hw 26 rfl) Via.refl hh1 Fv d9_20 ?_
    intro T20 X20 e20
    refine w_i X20 B d9_23 rfl (w_i X20 B d9_24 rfl ?_)
    show Sh T20 25 #[vr a, vi 47, vi 0] [.int 0, .int 47, .ref bb]
    refine w_cs X20 B hZ hown hml (rmLu1 l Z a0 hw [] bb cs sf kb y0 h0 n0 Z0 hW Vb hr0) (tw hw 124 rfl) (tw hw 125 rfl) (tw hw 93 rfl) (tw hw 126 rfl) e20 d9_25 3 0 (lenOf pd16 rfl) rfl rfl rfl (by decide) ?_
    rintro _ T25 Lc25 X25 ⟨Nq25, hh25, hq25⟩
    have N25 := Fr.app N1 Nq25
    rcases hq25 with ⟨rfl, gl25⟩ | ⟨rfl, gl25⟩
    · exact Dg.retI X25 hlk B hret rfl (Or.inl rfl) d9_28 (by rw [hh25]; exact ⟨N25, rfl, (Or.inl ⟨rfl, gl25⟩)⟩) (by decide)
    · exact Dg.retI X25 hlk B hret rfl (Or.inl rfl) d9_28 (by rw [hh25]; exact ⟨N25, rfl, (Or.inr ⟨rfl, gl25⟩)⟩) (by decide)

def QL1_1 (Z : State) (a : Addr) (cs : Int32) (sf : Value) (y0 : Int32) (h0 : Heap) (n0 : Nat) (v : Option Value) (h : Heap) (L : List Loc) : Prop := Fr n0 L ∧ h = h0 ∧ ((v = some (.int 0) ∧ (y0 = 47 ∧ True)) ∨ (v = some (.int (-1)) ∧ (¬ y0 = 47 ∧ True)))
theorem rmL1_1 (l : Launch) (Z : State) (a0 : Array Value) (hw : ∀ d ∈ tables_1, d.before a0 Z = true) (ws : List Jvm.Cond) (a : Addr) (cs : Int32) (sf : Value) (y0 : Int32) (h0 : Heap) (n0 : Nat) (Z0 : n0 ≤ h0.size) (hW : own_W Z h0 n0 cs sf) (hS : own_Str Z h0 a 1 2 [.int (own_b y0)] [.int (own_lo y0), .int (own_hi y0)] (y0.toInt ≤ 255 ∧ True)) (hr0 : 0 ≤ y0.toInt ∧ y0.toInt ≤ 65535) :
    own_Met l on7 (Jvm.Cond.code on7 jdk_42_method_82_code 2 (some .int) :: ws) orm35 #[.ref a, .int 47] Z h0 (QL1_1 Z a cs sf y0 h0 n0) := by
  refine own_met (plainFor_of_name pn0) (fun m => ef_RI2 m a (47 : Int32)) ?_
  intro p e s m below meth c s₁ B hlk hret hml hZ hown hnm X0 e0
  have hx := B.1
  have hby := B.2
  have N0 := Fr.nil n0
  refine w_a X0 B d6_0 rfl rfl (w_i X0 B d6_1 rfl (w_a X0 B d6_2 rfl rfl ?_))
  show Sh s₁ 3 #[vr a, vi 47] [.ref a, .int 47, .ref a]
  refine w_cv X0 B hZ hown hml (rmLn l Z a0 hw [] a cs sf _ _ _ _ _ h0 n0 Z0 hW hS (by decide) (by decide)) (tw hw 37 rfl) (tw hw 38 rfl) (tw hw 40 rfl) (tw hw 39 rfl) (tw hw 9 rfl) (tw hw 41 rfl) e0 hS.1 d6_3 0 2 rfl (lenOf pd17 rfl) rfl rfl rfl (by decide) ?_
  rintro _ T3 Lc3 X3 ⟨rfl, Nq3, hh3⟩
  have N3 := Fr.app N0 Nq3
  refine w_c X3 B d6_6 (Dg.st (fun _ kk => XS.isub X3.here hx rfl (hb hby d6_7) rfl kk) ?_)
  show Sh T3 8 #[vr a, vi 47] [.int 0, .int 47, .ref a]
  refine w_cv X3 B hZ hown hml (rmL2_1 l Z a0 hw [] a cs sf y0 h0 n0 Z0 hW hS hr0) (tw hw 48 rfl) (tw hw 49 rfl) (tw hw 51 rfl) (tw hw 50 rfl) (tw hw 9 rfl) (tw hw 52 rfl) hh3 hS.1 d6_8 2 0 rfl (lenOf pd15 rfl) rfl rfl rfl (by decide) ?_
  rintro _ T8 Lc8 X8 ⟨Nq8, hh8, hq8⟩
  have N8 := Fr.app N3 Nq8
  rcases hq8 with ⟨rfl, gl8⟩ | ⟨rfl, gl8⟩
  · exact Dg.retI X8 hlk B hret rfl (Or.inl rfl) d6_11 (by rw [hh8]; exact ⟨N8, rfl, (Or.inl ⟨rfl, gl8⟩)⟩) (by decide)
  · exact Dg.retI X8 hlk B hret rfl (Or.inl rfl) d6_11 (by rw [hh8]; exact ⟨N8, rfl, (Or.inr ⟨rfl, gl8⟩)⟩) (by decide)

def QLl2 (Z : State) (b : Addr) (kb : ClassId) (y0 : Int32) (y1 : Int32) (h0 : Heap) (n0 : Nat) (v : Option Value) (h : Heap) (L : List Loc) : Prop := Fr n0 L ∧ h = h0 ∧ ((v = some (.int 0) ∧ (y0 = 47 ∧ ¬ y1 = 47 ∧ True)) ∨ (v = some (.int 1) ∧ (y1 = 47 ∧ True)) ∨ (v = some (.int (-1)) ∧ (¬ y0 = 47 ∧ ¬ y1 = 47 ∧ True)))
theorem rmLl2 (l : Launch) (Z : State) (a0 : Array Value) (hw : ∀ d ∈ tables_1, d.before a0 Z = true) (ws : List Jvm.Cond) (b : Addr) (kb : ClassId) (y0 : Int32) (y1 : Int32) (h0 : Heap) (n0 : Nat) (Z0 : n0 ≤ h0.size) (Vb : Arv Z h0 b kb .byte 2 [.int (own_b y0), .int (own_b y1)] (.int 0)) (hp : (y0.toInt ≤ 255 ∧ y1.toInt ≤ 255 ∧ True)) (hr0 : 0 ≤ y0.toInt ∧ y0.toInt ≤ 65535) (hr1 : 0 ≤ y1.toInt ∧ y1.toInt ≤ 65535) :
    own_Met l on9 (Jvm.Cond.code on9 jdk_43_method_27_code 4 (some .int) :: ws) orm30 #[.ref b, .int 47, .int 1] Z h0 (QLl2 Z b kb y0 y1 h0 n0) := by
  refine own_met (plainFor_of_name pn3) (fun m => ef_RII4 m b (47 : Int32) (1 : Int32)) ?_
  intro p e s m below meth c s₁ B hlk hret hml hZ hown hnm X0 e0
  have hx := B.1
  have hby := B.2
  have N0 := Fr.nil n0
  refine w_i X0 B d11_0 rfl ?_
  show Sh s₁ 1 #[vr b, vi 47, vi 1, .unset] [.int 47]
  refine w_cs X0 B hZ hown hml (rmCe l Z a0 hw []  h0 n0 Z0 ) (tw hw 62 rfl) (tw hw 63 rfl) (tw hw 60 rfl) (tw hw 64 rfl) e0 d11_1 1 0 (lenOf pd14 rfl) rfl rfl rfl (by decide) ?_
  rintro _ T1 Lc1 X1 ⟨rfl, Nq1, hh1⟩
  have N1 := Fr.app N0 Nq1
  refine w_t X1 B 4 9 rfl d11_4 (feq (by decide)).2 (by decide) (w_i X1 B d11_9 rfl (w_a X1 B d11_10 rfl rfl (w_al X1 B hZ hh1 Vb d11_11 (w_c X1 B d11_12 (Dg.st (fun _ kk => XS.isub X1.here hx rfl (hb hby d11_13) rfl kk) ?_)))))
  show Sh T1 14 #[vr b, vi 47, vi 1, .unset] [.int 1, .int 1]
  refine w_cs X1 B hZ hown hml (rmMn l Z a0 hw [] (1 : Int32) (1 : Int32)  h0 n0 Z0 (by decide)) (tw hw 65 rfl) (tw hw 66 rfl) (tw hw 67 rfl) (tw hw 68 rfl) hh1 d11_14 2 0 (lenOf pd15 rfl) rfl rfl rfl (by decide) ?_
  rintro _ T14 Lc14 X14 ⟨rfl, Nq14, hh14⟩
  have N14 := Fr.app N1 Nq14
  refine w_S X14 B d11_17 #[vr b, vi 47, vi 1, vi 1] rfl (w_i X14 B d11_18 rfl (w_f X14 B d11_19 (flt (by decide)).1 (w_a X14 B d11_22 rfl rfl (w_i X14 B d11_23 rfl (w_ba X14 B hZ hh14 Vb (by decide) (v := (.int (own_b y1))) rfl d11_24 (w_i X14 B d11_25 rfl (Dg.st (fun _ kk => XS.i2b X14.here hx rfl (hb hby d11_26) rfl kk) ?_)))))))
  show Sh T14 27 #[vr b, vi 47, vi 1, vi 1] [.int 47, .int (own_b y1)]
  by_cases hc27 : (own_b y1) = (47 : Int32)
  · refine w_n X14 B d11_27 (teq hc27).2 (w_i X14 B d11_30 rfl ?_)
    show Sh T14 31 #[vr b, vi 47, vi 1, vi 1] [.int 1]
    exact Dg.retI X14 hlk B hret rfl (Or.inl rfl) d11_31 (by rw [hh14]; exact ⟨N14, rfl, (Or.inr (Or.inl ⟨rfl, ⟨(own_b47 hr1.1 hp.2.1).mp hc27, trivial⟩⟩))⟩) (by decide)
  · refine w_y X14 B 27 32 rfl d11_27 (feq hc27).2 (by decide) (w_p X14 B d11_32 rfl #[vr b, vi 47, vi 1, vi 0] rfl (w_g X14 B 35 18 rfl d11_35 (by decide) (w_i X14 B d11_18 rfl (w_f X14 B d11_19 (flt (by decide)).1 (w_a X14 B d11_22 rfl rfl (w_i X14 B d11_23 rfl (w_ba X14 B hZ hh14 Vb (by decide) (v := (.int (own_b y0))) rfl d11_24 ?_)))))))
    show Sh T14 25 #[vr b, vi 47, vi 1, vi 0] [.int (own_b y0)]
    refine w_i X14 B d11_25 rfl (Dg.st (fun _ kk => XS.i2b X14.here hx rfl (hb hby d11_26) rfl kk) ?_)
    show Sh T14 27 #[vr b, vi 47, vi 1, vi 0] [.int 47, .int (own_b y0)]
    by_cases hc27_2 : (own_b y0) = (47 : Int32)
    · refine w_n X14 B d11_27 (teq hc27_2).2 (w_i X14 B d11_30 rfl ?_)
      show Sh T14 31 #[vr b, vi 47, vi 1, vi 0] [.int 0]
      exact Dg.retI X14 hlk B hret rfl (Or.inl rfl) d11_31 (by rw [hh14]; exact ⟨N14, rfl, (Or.inl ⟨rfl, ⟨(own_b47 hr0.1 hp.1).mp hc27_2, mt (own_b47 hr1.1 hp.2.1).mpr hc27, trivial⟩⟩)⟩) (by decide)
    · refine w_y X14 B 27 32 rfl d11_27 (feq hc27_2).2 (by decide) (w_p X14 B d11_32 rfl #[vr b, vi 47, vi 1, vi (-1)] rfl (w_g X14 B 35 18 rfl d11_35 (by decide) (w_i X14 B d11_18 rfl (w_t X14 B 19 38 rfl d11_19 (tlt (by decide)).1 (by decide) (w_c X14 B d11_38 ?_)))))
      show Sh T14 39 #[vr b, vi 47, vi 1, vi (-1)] [.int (-1)]
      exact Dg.retI X14 hlk B hret rfl (Or.inl rfl) d11_39 (by rw [hh14]; exact ⟨N14, rfl, (Or.inr (Or.inr ⟨rfl, ⟨mt (own_b47 hr0.1 hp.1).mpr hc27_2, mt (own_b47 hr1.1 hp.2.1).mpr hc27, trivial⟩⟩))⟩) (by decide)

def QLu2 (Z : State) (b : Addr) (cs : Int32) (sf : Value) (kb : ClassId) (y0 : Int32) (y1 : Int32) (h0 : Heap) (n0 : Nat) (v : Option Value) (h : Heap) (L : List Loc) : Prop := Fr n0 L ∧ h = h0 ∧ ((v = some (.int 0) ∧ (y0 = 47 ∧ ¬ y1 = 47 ∧ True)) ∨ (v = some (.int 1) ∧ (y1 = 47 ∧ True)) ∨ (v = some (.int (-1)) ∧ (¬ y0 = 47 ∧ ¬ y1 = 47 ∧ True)))
theorem rmLu2 (l : Launch) (Z : State) (a0 : Array Value) (hw : ∀ d ∈ tables_1, d.before a0 Z = true) (ws : List Jvm.Cond) (b : Addr) (cs : Int32) (sf : Value) (kb : ClassId) (y0 : Int32) (y1 : Int32) (h0 : Heap) (n0 : Nat) (Z0 : n0 ≤ h0.size) (hW : own_W Z h0 n0 cs sf) (Vb : Arv Z h0 b kb .byte 4 [.int (own_lo y0), .int (own_hi y0), .int (own_lo y1), .int (own_hi y1)] (.int 0)) (hr0 : 0 ≤ y0.toInt ∧ y0.toInt ≤ 65535) (hr1 : 0 ≤ y1.toInt ∧ y1.toInt ≤ 65535) :
    own_Met l on6 (Jvm.Cond.code on6 jdk_52_method_51_code 4 (some .int) :: ws) orm30 #[.ref b, .int 47, .int 1] Z h0 (QLu2 Z b cs sf kb y0 y1 h0 n0) := by
  refine own_met (plainFor_of_name pn2) (fun m => ef_RII4 m b (47 : Int32) (1 : Int32)) ?_
  intro p e s m below meth c s₁ B hlk hret hml hZ hown hnm X0 e0
  have hx := B.1
  have hby := B.2
  have N0 := Fr.nil n0
  refine w_i X0 B d28_0 rfl (Dg.st (fun _ kk => X0.ldcInt hx hown (mvT hZ (tw hw 127 rfl)) (g := (mkF m 1 #[vr b, vi 47, vi 1, .unset] [.int 47])) rfl (hb hby d28_1) _ kk) (w_n X0 B d28_3 (tlt (by decide)).2.1 (w_i X0 B d28_6 rfl (w_a X0 B d28_7 rfl rfl (w_al X0 B hZ e0 Vb d28_8 (w_c X0 B d28_9 (Dg.st (fun _ kk => XS.ishr X0.here hx rfl (hb hby d28_10) rfl kk) ?_)))))))
  show Sh s₁ 11 #[vr b, vi 47, vi 1, .unset] [.int 2, .int 1]
  refine w_c X0 B d28_11 (Dg.st (fun _ kk => XS.isub X0.here hx rfl (hb hby d28_12) rfl kk) ?_)
  show Sh s₁ 13 #[vr b, vi 47, vi 1, .unset] [.int 1, .int 1]
  refine w_cs X0 B hZ hown hml (rmMn l Z a0 hw [] (1 : Int32) (1 : Int32)  h0 n0 Z0 (by decide)) (tw hw 128 rfl) (tw hw 66 rfl) (tw hw 67 rfl) (tw hw 68 rfl) e0 d28_13 2 0 (lenOf pd15 rfl) rfl rfl rfl (by decide) ?_
  rintro _ T13 Lc13 X13 ⟨rfl, Nq13, hh13⟩
  have N13 := Fr.app N0 Nq13
  refine w_S X13 B d28_16 #[vr b, vi 47, vi 1, vi 1] rfl (w_i X13 B d28_17 rfl (w_f X13 B d28_18 (flt (by decide)).1 (w_a X13 B d28_21 rfl rfl (w_i X13 B d28_22 rfl ?_))))
  show Sh T13 23 #[vr b, vi 47, vi 1, vi 1] [.int 1, .ref b]
  refine w_cs X13 B hZ hown hml (rmGc l Z a0 hw [] b (1 : Int32) cs sf _ _ _ y1 h0 n0 Z0 hW Vb (by decide) (by decide) rfl rfl hr1.1 hr1.2) (tw hw 121 rfl) (tw hw 122 rfl) (tw hw 93 rfl) (tw hw 123 rfl) hh13 d28_23 2 0 (lenOf pd6 rfl) rfl rfl rfl (by decide) ?_
  rintro _ T23 Lc23 X23 ⟨rfl, Nq23, hh23⟩
  have N23 := Fr.app N13 Nq23
  refine w_i X23 B d28_26 rfl ?_
  show Sh T23 27 #[vr b, vi 47, vi 1, vi 1] [.int 47, .int y1]
  by_cases hc27 : y1 = (47 : Int32)
  · refine w_n X23 B d28_27 (teq hc27).2 (w_i X23 B d28_30 rfl ?_)
    show Sh T23 31 #[vr b, vi 47, vi 1, vi 1] [.int 1]
    exact Dg.retI X23 hlk B hret rfl (Or.inl rfl) d28_31 (by rw [hh23]; exact ⟨N23, rfl, (Or.inr (Or.inl ⟨rfl, ⟨hc27, trivial⟩⟩))⟩) (by decide)
  · refine w_y X23 B 27 32 rfl d28_27 (feq hc27).2 (by decide) (w_p X23 B d28_32 rfl #[vr b, vi 47, vi 1, vi 0] rfl (w_g X23 B 35 17 rfl d28_35 (by decide) (w_i X23 B d28_17 rfl (w_f X23 B d28_18 (flt (by decide)).1 (w_a X23 B d28_21 rfl rfl (w_i X23 B d28_22 rfl ?_))))))
    show Sh T23 23 #[vr b, vi 47, vi 1, vi 0] [.int 0, .ref b]
    refine w_cs X23 B hZ hown hml (rmGc l Z a0 hw [] b (0 : Int32) cs sf _ _ _ y0 h0 n0 Z0 hW Vb (by decide) (by decide) rfl rfl hr0.1 hr0.2) (tw hw 121 rfl) (tw hw 122 rfl) (tw hw 93 rfl) (tw hw 123 rfl) hh23 d28_23 2 0 (lenOf pd6 rfl) rfl rfl rfl (by decide) ?_
    rintro _ T23_2 Lc23_2 X23_2 ⟨rfl, Nq23_2, hh23_2⟩
    have N23_2 := Fr.app N23 Nq23_2
    refine w_i X23_2 B d28_26 rfl ?_
    show Sh T23_2 27 #[vr b, vi 47, vi 1, vi 0] [.int 47, .int y0]
    by_cases hc27_2 : y0 = (47 : Int32)
    · refine w_n X23_2 B d28_27 (teq hc27_2).2 (w_i X23_2 B d28_30 rfl ?_)
      show Sh T23_2 31 #[vr b, vi 47, vi 1, vi 0] [.int 0]
      exact Dg.retI X23_2 hlk B hret rfl (Or.inl rfl) d28_31 (by rw [hh23_2]; exact ⟨N23_2, rfl, (Or.inl ⟨rfl, ⟨hc27_2, hc27, trivial⟩⟩)⟩) (by decide)
    · refine w_y X23_2 B 27 32 rfl d28_27 (feq hc27_2).2 (by decide) (w_p X23_2 B d28_32 rfl #[vr b, vi 47, vi 1, vi (-1)] rfl (w_g X23_2 B 35 17 rfl d28_35 (by decide) (w_i X23_2 B d28_17 rfl (w_t X23_2 B 18 38 rfl d28_18 (tlt (by decide)).1 (by decide) (w_c X23_2 B d28_38 ?_)))))
      show Sh T23_2 39 #[vr b, vi 47, vi 1, vi (-1)] [.int (-1)]
      exact Dg.retI X23_2 hlk B hret rfl (Or.inl rfl) d28_39 (by rw [hh23_2]; exact ⟨N23_2, rfl, (Or.inr (Or.inr ⟨rfl, ⟨hc27_2, hc27, trivial⟩⟩))⟩) (by decide)

def QL2_2 (Z : State) (a : Addr) (cs : Int32) (sf : Value) (y0 : Int32) (y1 : Int32) (h0 : Heap) (n0 : Nat) (v : Option Value) (h : Heap) (L : List Loc) : Prop := Fr n0 L ∧ h = h0 ∧ ((v = some (.int 0) ∧ (y0 = 47 ∧ ¬ y1 = 47 ∧ True)) ∨ (v = some (.int 1) ∧ (y1 = 47 ∧ True)) ∨ (v = some (.int (-1)) ∧ (¬ y0 = 47 ∧ ¬ y1 = 47 ∧ True)))
theorem rmL2_2 (l : Launch) (Z : State) (a0 : Array Value) (hw : ∀ d ∈ tables_1, d.before a0 Z = true) (ws : List Jvm.Cond) (a : Addr) (cs : Int32) (sf : Value) (y0 : Int32) (y1 : Int32) (h0 : Heap) (n0 : Nat) (Z0 : n0 ≤ h0.size) (hW : own_W Z h0 n0 cs sf) (hS : own_Str Z h0 a 2 4 [.int (own_b y0), .int (own_b y1)] [.int (own_lo y0), .int (own_hi y0), .int (own_lo y1), .int (own_hi y1)] (y0.toInt ≤ 255 ∧ y1.toInt ≤ 255 ∧ True)) (hr0 : 0 ≤ y0.toInt ∧ y0.toInt ≤ 65535) (hr1 : 0 ≤ y1.toInt ∧ y1.toInt ≤ 65535) :
    own_Met l on8 (Jvm.Cond.code on8 jdk_42_method_83_code 3 (some .int) :: ws) orm34 #[.ref a, .int 47, .int 1] Z h0 (QL2_2 Z a cs sf y0 y1 h0 n0) := by
  refine own_met (plainFor_of_name pn0) (fun m => ef_RII3 m a (47 : Int32) (1 : Int32)) ?_
  intro p e s m below meth c s₁ B hlk hret hml hZ hown hnm X0 e0
  have N0 := Fr.nil n0
  have hS' := hS
  rcases hS' with ⟨Ea, ⟨bb, kb, Fc, Fv, Vb, hp⟩ | ⟨bb, kb, Fc, Fv, Vb⟩⟩
  · refine w_a X0 B d9_0 rfl rfl ?_
    show Sh s₁ 1 #[vr a, vi 47, vi 1] [.ref a]
    refine w_cv X0 B hZ hown hml (rmIl0 l Z a0 hw [] a cs sf  h0 n0 Z0 hW Fc) (tw hw 53 rfl) (tw hw 54 rfl) (tw hw 56 rfl) (tw hw 55 rfl) (tw hw 9 rfl) (tw hw 57 rfl) e0 Ea d9_1 0 0 rfl (lenOf pd7 rfl) rfl rfl rfl (by decide) ?_
    rintro _ T1 Lc1 X1 ⟨rfl, Nq1, hh1⟩
    have N1 := Fr.app N0 Nq1
    refine w_f X1 B d9_4 (feq (by decide)).1 (w_a X1 B d9_7 rfl rfl ?_)
    show Sh T1 8 #[vr a, vi 47, vi 1] [.ref a]
    refine w_gf X1 B hZ hown (tw hw 26 rfl) Via.refl hh1 Fv d9_8 ?_
    intro T8 X8 e8
    refine w_i X8 B d9_11 rfl (w_i X8 B d9_12 rfl ?_)
    show Sh T8 13 #[vr a, vi 47, vi 1] [.int 1, .int 47, .ref bb]
    refine w_cs X8 B hZ hown hml (rmLl2 l Z a0 hw [] bb kb y0 y1 h0 n0 Z0 Vb hp hr0 hr1) (tw hw 58 rfl) (tw hw 59 rfl) (tw hw 60 rfl) (tw hw 61 rfl) e8 d9_13 3 0 (lenOf pd16 rfl) rfl rfl rfl (by decide) ?_
    rintro _ T13 Lc13 X13 ⟨Nq13, hh13, hq13⟩
    have N13 := Fr.app N1 Nq13
    rcases hq13 with ⟨rfl, gl13⟩ | ⟨rfl, gl13⟩ | ⟨rfl, gl13⟩
    · refine w_g X13 B 16 28 rfl d9_16 (by decide) ?_
      show Sh T13 28 #[vr a, vi 47, vi 1] [.int 0]
      exact Dg.retI X13 hlk B hret rfl (Or.inl rfl) d9_28 (by rw [hh13]; exact ⟨N13, rfl, (Or.inl ⟨rfl, gl13⟩)⟩) (by decide)
    · refine w_g X13 B 16 28 rfl d9_16 (by decide) ?_
      show Sh T13 28 #[vr a, vi 47, vi 1] [.int 1]
      exact Dg.retI X13 hlk B hret rfl (Or.inl rfl) d9_28 (by rw [hh13]; exact ⟨N13, rfl, (Or.inr (Or.inl ⟨rfl, gl13⟩))⟩) (by decide)
    · refine w_g X13 B 16 28 rfl d9_16 (by decide) ?_
      show Sh T13 28 #[vr a, vi 47, vi 1] [.int (-1)]
      exact Dg.retI X13 hlk B hret rfl (Or.inl rfl) d9_28 (by rw [hh13]; exact ⟨N13, rfl, (Or.inr (Or.inr ⟨rfl, gl13⟩))⟩) (by decide)
  · refine w_a X0 B d9_0 rfl rfl ?_
    show Sh s₁ 1 #[vr a, vi 47, vi 1] [.ref a]
    refine w_cv X0 B hZ hown hml (rmIl1 l Z a0 hw [] a cs sf  h0 n0 Z0 hW Fc) (tw hw 53 rfl) (tw hw 54 rfl) (tw hw 56 rfl) (tw hw 55 rfl) (tw hw 9 rfl) (tw hw 57 rfl) e0 Ea d9_1 0 0 rfl (lenOf pd7 rfl) rfl rfl rfl (by decide) ?_
    rintro _ T1 Lc1 X1 ⟨rfl, Nq1, hh1⟩
    have N1 := Fr.app N0 Nq1
    refine w_t X1 B 4 19 rfl d9_4 (teq (by decide)).1 (by decide) (w_a X1 B d9_19 rfl rfl ?_)
    show Sh T1 20 #[vr a, vi 47, vi 1] [.ref a]
    refine w_gf X1 B hZ hown (tw hw 26 rfl) Via.refl hh1 Fv d9_20 ?_
    intro T20 X20 e20
    refine w_i X20 B d9_23 rfl (w_i X20 B d9_24 rfl ?_)
    show Sh T20 25 #[vr a, vi 47, vi 1] [.int 1, .int 47, .ref bb]
    refine w_cs X20 B hZ hown hml (rmLu2 l Z a0 hw [] bb cs sf kb y0 y1 h0 n0 Z0 hW Vb hr0 hr1) (tw hw 124 rfl) (tw hw 125 rfl) (tw hw 93 rfl) (tw hw 126 rfl) e20 d9_25 3 0 (lenOf pd16 rfl) rfl rfl rfl (by decide) ?_
    rintro _ T25 Lc25 X25 ⟨Nq25, hh25, hq25⟩
    have N25 := Fr.app N1 Nq25
    rcases hq25 with ⟨rfl, gl25⟩ | ⟨rfl, gl25⟩ | ⟨rfl, gl25⟩
    · exact Dg.retI X25 hlk B hret rfl (Or.inl rfl) d9_28 (by rw [hh25]; exact ⟨N25, rfl, (Or.inl ⟨rfl, gl25⟩)⟩) (by decide)
    · exact Dg.retI X25 hlk B hret rfl (Or.inl rfl) d9_28 (by rw [hh25]; exact ⟨N25, rfl, (Or.inr (Or.inl ⟨rfl, gl25⟩))⟩) (by decide)
    · exact Dg.retI X25 hlk B hret rfl (Or.inl rfl) d9_28 (by rw [hh25]; exact ⟨N25, rfl, (Or.inr (Or.inr ⟨rfl, gl25⟩))⟩) (by decide)

def QL1_2 (Z : State) (a : Addr) (cs : Int32) (sf : Value) (y0 : Int32) (y1 : Int32) (h0 : Heap) (n0 : Nat) (v : Option Value) (h : Heap) (L : List Loc) : Prop := Fr n0 L ∧ h = h0 ∧ ((v = some (.int 0) ∧ (y0 = 47 ∧ ¬ y1 = 47 ∧ True)) ∨ (v = some (.int 1) ∧ (y1 = 47 ∧ True)) ∨ (v = some (.int (-1)) ∧ (¬ y0 = 47 ∧ ¬ y1 = 47 ∧ True)))
theorem rmL1_2 (l : Launch) (Z : State) (a0 : Array Value) (hw : ∀ d ∈ tables_1, d.before a0 Z = true) (ws : List Jvm.Cond) (a : Addr) (cs : Int32) (sf : Value) (y0 : Int32) (y1 : Int32) (h0 : Heap) (n0 : Nat) (Z0 : n0 ≤ h0.size) (hW : own_W Z h0 n0 cs sf) (hS : own_Str Z h0 a 2 4 [.int (own_b y0), .int (own_b y1)] [.int (own_lo y0), .int (own_hi y0), .int (own_lo y1), .int (own_hi y1)] (y0.toInt ≤ 255 ∧ y1.toInt ≤ 255 ∧ True)) (hr0 : 0 ≤ y0.toInt ∧ y0.toInt ≤ 65535) (hr1 : 0 ≤ y1.toInt ∧ y1.toInt ≤ 65535) :
    own_Met l on7 (Jvm.Cond.code on7 jdk_42_method_82_code 2 (some .int) :: ws) orm35 #[.ref a, .int 47] Z h0 (QL1_2 Z a cs sf y0 y1 h0 n0) := by
  refine own_met (plainFor_of_name pn0) (fun m => ef_RI2 m a (47 : Int32)) ?_
  intro p e s m below meth c s₁ B hlk hret hml hZ hown hnm X0 e0
  have hx := B.1
  have hby := B.2
  have N0 := Fr.nil n0
  refine w_a X0 B d6_0 rfl rfl (w_i X0 B d6_1 rfl (w_a X0 B d6_2 rfl rfl ?_))
  show Sh s₁ 3 #[vr a, vi 47] [.ref a, .int 47, .ref a]
  refine w_cv X0 B hZ hown hml (rmLn l Z a0 hw [] a cs sf _ _ _ _ _ h0 n0 Z0 hW hS (by decide) (by decide)) (tw hw 37 rfl) (tw hw 38 rfl) (tw hw 40 rfl) (tw hw 39 rfl) (tw hw 9 rfl) (tw hw 41 rfl) e0 hS.1 d6_3 0 2 rfl (lenOf pd17 rfl) rfl rfl rfl (by decide) ?_
  rintro _ T3 Lc3 X3 ⟨rfl, Nq3, hh3⟩
  have N3 := Fr.app N0 Nq3
  refine w_c X3 B d6_6 (Dg.st (fun _ kk => XS.isub X3.here hx rfl (hb hby d6_7) rfl kk) ?_)
  show Sh T3 8 #[vr a, vi 47] [.int 1, .int 47, .ref a]
  refine w_cv X3 B hZ hown hml (rmL2_2 l Z a0 hw [] a cs sf y0 y1 h0 n0 Z0 hW hS hr0 hr1) (tw hw 48 rfl) (tw hw 49 rfl) (tw hw 51 rfl) (tw hw 50 rfl) (tw hw 9 rfl) (tw hw 52 rfl) hh3 hS.1 d6_8 2 0 rfl (lenOf pd15 rfl) rfl rfl rfl (by decide) ?_
  rintro _ T8 Lc8 X8 ⟨Nq8, hh8, hq8⟩
  have N8 := Fr.app N3 Nq8
  rcases hq8 with ⟨rfl, gl8⟩ | ⟨rfl, gl8⟩ | ⟨rfl, gl8⟩
  · exact Dg.retI X8 hlk B hret rfl (Or.inl rfl) d6_11 (by rw [hh8]; exact ⟨N8, rfl, (Or.inl ⟨rfl, gl8⟩)⟩) (by decide)
  · exact Dg.retI X8 hlk B hret rfl (Or.inl rfl) d6_11 (by rw [hh8]; exact ⟨N8, rfl, (Or.inr (Or.inl ⟨rfl, gl8⟩))⟩) (by decide)
  · exact Dg.retI X8 hlk B hret rfl (Or.inl rfl) d6_11 (by rw [hh8]; exact ⟨N8, rfl, (Or.inr (Or.inr ⟨rfl, gl8⟩))⟩) (by decide)

def QLl3 (Z : State) (b : Addr) (kb : ClassId) (y0 : Int32) (y1 : Int32) (y2 : Int32) (h0 : Heap) (n0 : Nat) (v : Option Value) (h : Heap) (L : List Loc) : Prop := Fr n0 L ∧ h = h0 ∧ ((v = some (.int 0) ∧ (y0 = 47 ∧ ¬ y1 = 47 ∧ ¬ y2 = 47 ∧ True)) ∨ (v = some (.int 1) ∧ (y1 = 47 ∧ ¬ y2 = 47 ∧ True)) ∨ (v = some (.int 2) ∧ (y2 = 47 ∧ True)) ∨ (v = some (.int (-1)) ∧ (¬ y0 = 47 ∧ ¬ y1 = 47 ∧ ¬ y2 = 47 ∧ True)))
theorem rmLl3 (l : Launch) (Z : State) (a0 : Array Value) (hw : ∀ d ∈ tables_1, d.before a0 Z = true) (ws : List Jvm.Cond) (b : Addr) (kb : ClassId) (y0 : Int32) (y1 : Int32) (y2 : Int32) (h0 : Heap) (n0 : Nat) (Z0 : n0 ≤ h0.size) (Vb : Arv Z h0 b kb .byte 3 [.int (own_b y0), .int (own_b y1), .int (own_b y2)] (.int 0)) (hp : (y0.toInt ≤ 255 ∧ y1.toInt ≤ 255 ∧ y2.toInt ≤ 255 ∧ True)) (hr0 : 0 ≤ y0.toInt ∧ y0.toInt ≤ 65535) (hr1 : 0 ≤ y1.toInt ∧ y1.toInt ≤ 65535) (hr2 : 0 ≤ y2.toInt ∧ y2.toInt ≤ 65535) :
    own_Met l on9 (Jvm.Cond.code on9 jdk_43_method_27_code 4 (some .int) :: ws) orm30 #[.ref b, .int 47, .int 2] Z h0 (QLl3 Z b kb y0 y1 y2 h0 n0) := by
  refine own_met (plainFor_of_name pn3) (fun m => ef_RII4 m b (47 : Int32) (2 : Int32)) ?_
  intro p e s m below meth c s₁ B hlk hret hml hZ hown hnm X0 e0
  have hx := B.1
  have hby := B.2
  have N0 := Fr.nil n0
  refine w_i X0 B d11_0 rfl ?_
  show Sh s₁ 1 #[vr b, vi 47, vi 2, .unset] [.int 47]
  refine w_cs X0 B hZ hown hml (rmCe l Z a0 hw []  h0 n0 Z0 ) (tw hw 62 rfl) (tw hw 63 rfl) (tw hw 60 rfl) (tw hw 64 rfl) e0 d11_1 1 0 (lenOf pd14 rfl) rfl rfl rfl (by decide) ?_
  rintro _ T1 Lc1 X1 ⟨rfl, Nq1, hh1⟩
  have N1 := Fr.app N0 Nq1
  refine w_t X1 B 4 9 rfl d11_4 (feq (by decide)).2 (by decide) (w_i X1 B d11_9 rfl (w_a X1 B d11_10 rfl rfl (w_al X1 B hZ hh1 Vb d11_11 (w_c X1 B d11_12 (Dg.st (fun _ kk => XS.isub X1.here hx rfl (hb hby d11_13) rfl kk) ?_)))))
  show Sh T1 14 #[vr b, vi 47, vi 2, .unset] [.int 2, .int 2]
  refine w_cs X1 B hZ hown hml (rmMn l Z a0 hw [] (2 : Int32) (2 : Int32)  h0 n0 Z0 (by decide)) (tw hw 65 rfl) (tw hw 66 rfl) (tw hw 67 rfl) (tw hw 68 rfl) hh1 d11_14 2 0 (lenOf pd15 rfl) rfl rfl rfl (by decide) ?_
  rintro _ T14 Lc14 X14 ⟨rfl, Nq14, hh14⟩
  have N14 := Fr.app N1 Nq14
  refine w_S X14 B d11_17 #[vr b, vi 47, vi 2, vi 2] rfl (w_i X14 B d11_18 rfl (w_f X14 B d11_19 (flt (by decide)).1 (w_a X14 B d11_22 rfl rfl (w_i X14 B d11_23 rfl (w_ba X14 B hZ hh14 Vb (by decide) (v := (.int (own_b y2))) rfl d11_24 (w_i X14 B d11_25 rfl (Dg.st (fun _ kk => XS.i2b X14.here hx rfl (hb hby d11_26) rfl kk) ?_)))))))
  show Sh T14 27 #[vr b, vi 47, vi 2, vi 2] [.int 47, .int (own_b y2)]
  by_cases hc27 : (own_b y2) = (47 : Int32)
  · refine w_n X14 B d11_27 (teq hc27).2 (w_i X14 B d11_30 rfl ?_)
    show Sh T14 31 #[vr b, vi 47, vi 2, vi 2] [.int 2]
    exact Dg.retI X14 hlk B hret rfl (Or.inl rfl) d11_31 (by rw [hh14]; exact ⟨N14, rfl, (Or.inr (Or.inr (Or.inl ⟨rfl, ⟨(own_b47 hr2.1 hp.2.2.1).mp hc27, trivial⟩⟩)))⟩) (by decide)
  · refine w_y X14 B 27 32 rfl d11_27 (feq hc27).2 (by decide) (w_p X14 B d11_32 rfl #[vr b, vi 47, vi 2, vi 1] rfl (w_g X14 B 35 18 rfl d11_35 (by decide) (w_i X14 B d11_18 rfl (w_f X14 B d11_19 (flt (by decide)).1 (w_a X14 B d11_22 rfl rfl (w_i X14 B d11_23 rfl (w_ba X14 B hZ hh14 Vb (by decide) (v := (.int (own_b y1))) rfl d11_24 ?_)))))))
    show Sh T14 25 #[vr b, vi 47, vi 2, vi 1] [.int (own_b y1)]
    refine w_i X14 B d11_25 rfl (Dg.st (fun _ kk => XS.i2b X14.here hx rfl (hb hby d11_26) rfl kk) ?_)
    show Sh T14 27 #[vr b, vi 47, vi 2, vi 1] [.int 47, .int (own_b y1)]
    by_cases hc27_2 : (own_b y1) = (47 : Int32)
    · refine w_n X14 B d11_27 (teq hc27_2).2 (w_i X14 B d11_30 rfl ?_)
      show Sh T14 31 #[vr b, vi 47, vi 2, vi 1] [.int 1]
      exact Dg.retI X14 hlk B hret rfl (Or.inl rfl) d11_31 (by rw [hh14]; exact ⟨N14, rfl, (Or.inr (Or.inl ⟨rfl, ⟨(own_b47 hr1.1 hp.2.1).mp hc27_2, mt (own_b47 hr2.1 hp.2.2.1).mpr hc27, trivial⟩⟩))⟩) (by decide)
    · refine w_y X14 B 27 32 rfl d11_27 (feq hc27_2).2 (by decide) (w_p X14 B d11_32 rfl #[vr b, vi 47, vi 2, vi 0] rfl (w_g X14 B 35 18 rfl d11_35 (by decide) (w_i X14 B d11_18 rfl (w_f X14 B d11_19 (flt (by decide)).1 (w_a X14 B d11_22 rfl rfl (w_i X14 B d11_23 rfl (w_ba X14 B hZ hh14 Vb (by decide) (v := (.int (own_b y0))) rfl d11_24 ?_)))))))
      show Sh T14 25 #[vr b, vi 47, vi 2, vi 0] [.int (own_b y0)]
      refine w_i X14 B d11_25 rfl (Dg.st (fun _ kk => XS.i2b X14.here hx rfl (hb hby d11_26) rfl kk) ?_)
      show Sh T14 27 #[vr b, vi 47, vi 2, vi 0] [.int 47, .int (own_b y0)]
      by_cases hc27_3 : (own_b y0) = (47 : Int32)
      · refine w_n X14 B d11_27 (teq hc27_3).2 (w_i X14 B d11_30 rfl ?_)
        show Sh T14 31 #[vr b, vi 47, vi 2, vi 0] [.int 0]
        exact Dg.retI X14 hlk B hret rfl (Or.inl rfl) d11_31 (by rw [hh14]; exact ⟨N14, rfl, (Or.inl ⟨rfl, ⟨(own_b47 hr0.1 hp.1).mp hc27_3, mt (own_b47 hr1.1 hp.2.1).mpr hc27_2, mt (own_b47 hr2.1 hp.2.2.1).mpr hc27, trivial⟩⟩)⟩) (by decide)
      · refine w_y X14 B 27 32 rfl d11_27 (feq hc27_3).2 (by decide) (w_p X14 B d11_32 rfl #[vr b, vi 47, vi 2, vi (-1)] rfl (w_g X14 B 35 18 rfl d11_35 (by decide) (w_i X14 B d11_18 rfl (w_t X14 B 19 38 rfl d11_19 (tlt (by decide)).1 (by decide) (w_c X14 B d11_38 ?_)))))
        show Sh T14 39 #[vr b, vi 47, vi 2, vi (-1)] [.int (-1)]
        exact Dg.retI X14 hlk B hret rfl (Or.inl rfl) d11_39 (by rw [hh14]; exact ⟨N14, rfl, (Or.inr (Or.inr (Or.inr ⟨rfl, ⟨mt (own_b47 hr0.1 hp.1).mpr hc27_3, mt (own_b47 hr1.1 hp.2.1).mpr hc27_2, mt (own_b47 hr2.1 hp.2.2.1).mpr hc27, trivial⟩⟩)))⟩) (by decide)

def QLu3 (Z : State) (b : Addr) (cs : Int32) (sf : Value) (kb : ClassId) (y0 : Int32) (y1 : Int32) (y2 : Int32) (h0 : Heap) (n0 : Nat) (v : Option Value) (h : Heap) (L : List Loc) : Prop := Fr n0 L ∧ h = h0 ∧ ((v = some (.int 0) ∧ (y0 = 47 ∧ ¬ y1 = 47 ∧ ¬ y2 = 47 ∧ True)) ∨ (v = some (.int 1) ∧ (y1 = 47 ∧ ¬ y2 = 47 ∧ True)) ∨ (v = some (.int 2) ∧ (y2 = 47 ∧ True)) ∨ (v = some (.int (-1)) ∧ (¬ y0 = 47 ∧ ¬ y1 = 47 ∧ ¬ y2 = 47 ∧ True)))
theorem rmLu3 (l : Launch) (Z : State) (a0 : Array Value) (hw : ∀ d ∈ tables_1, d.before a0 Z = true) (ws : List Jvm.Cond) (b : Addr) (cs : Int32) (sf : Value) (kb : ClassId) (y0 : Int32) (y1 : Int32) (y2 : Int32) (h0 : Heap) (n0 : Nat) (Z0 : n0 ≤ h0.size) (hW : own_W Z h0 n0 cs sf) (Vb : Arv Z h0 b kb .byte 6 [.int (own_lo y0), .int (own_hi y0), .int (own_lo y1), .int (own_hi y1), .int (own_lo y2), .int (own_hi y2)] (.int 0)) (hr0 : 0 ≤ y0.toInt ∧ y0.toInt ≤ 65535) (hr1 : 0 ≤ y1.toInt ∧ y1.toInt ≤ 65535) (hr2 : 0 ≤ y2.toInt ∧ y2.toInt ≤ 65535) :
    own_Met l on6 (Jvm.Cond.code on6 jdk_52_method_51_code 4 (some .int) :: ws) orm30 #[.ref b, .int 47, .int 2] Z h0 (QLu3 Z b cs sf kb y0 y1 y2 h0 n0) := by
  refine own_met (plainFor_of_name pn2) (fun m => ef_RII4 m b (47 : Int32) (2 : Int32)) ?_
  intro p e s m below meth c s₁ B hlk hret hml hZ hown hnm X0 e0
  have hx := B.1
  have hby := B.2
  have N0 := Fr.nil n0
  refine w_i X0 B d28_0 rfl (Dg.st (fun _ kk => X0.ldcInt hx hown (mvT hZ (tw hw 127 rfl)) (g := (mkF m 1 #[vr b, vi 47, vi 2, .unset] [.int 47])) rfl (hb hby d28_1) _ kk) (w_n X0 B d28_3 (tlt (by decide)).2.1 (w_i X0 B d28_6 rfl (w_a X0 B d28_7 rfl rfl (w_al X0 B hZ e0 Vb d28_8 (w_c X0 B d28_9 (Dg.st (fun _ kk => XS.ishr X0.here hx rfl (hb hby d28_10) rfl kk) ?_)))))))
  show Sh s₁ 11 #[vr b, vi 47, vi 2, .unset] [.int 3, .int 2]
  refine w_c X0 B d28_11 (Dg.st (fun _ kk => XS.isub X0.here hx rfl (hb hby d28_12) rfl kk) ?_)
  show Sh s₁ 13 #[vr b, vi 47, vi 2, .unset] [.int 2, .int 2]
  refine w_cs X0 B hZ hown hml (rmMn l Z a0 hw [] (2 : Int32) (2 : Int32)  h0 n0 Z0 (by decide)) (tw hw 128 rfl) (tw hw 66 rfl) (tw hw 67 rfl) (tw hw 68 rfl) e0 d28_13 2 0 (lenOf pd15 rfl) rfl rfl rfl (by decide) ?_
  rintro _ T13 Lc13 X13 ⟨rfl, Nq13, hh13⟩
  have N13 := Fr.app N0 Nq13
  refine w_S X13 B d28_16 #[vr b, vi 47, vi 2, vi 2] rfl (w_i X13 B d28_17 rfl (w_f X13 B d28_18 (flt (by decide)).1 (w_a X13 B d28_21 rfl rfl (w_i X13 B d28_22 rfl ?_))))
  show Sh T13 23 #[vr b, vi 47, vi 2, vi 2] [.int 2, .ref b]
  refine w_cs X13 B hZ hown hml (rmGc l Z a0 hw [] b (2 : Int32) cs sf _ _ _ y2 h0 n0 Z0 hW Vb (by decide) (by decide) rfl rfl hr2.1 hr2.2) (tw hw 121 rfl) (tw hw 122 rfl) (tw hw 93 rfl) (tw hw 123 rfl) hh13 d28_23 2 0 (lenOf pd6 rfl) rfl rfl rfl (by decide) ?_
  rintro _ T23 Lc23 X23 ⟨rfl, Nq23, hh23⟩
  have N23 := Fr.app N13 Nq23
  refine w_i X23 B d28_26 rfl ?_
  show Sh T23 27 #[vr b, vi 47, vi 2, vi 2] [.int 47, .int y2]
  by_cases hc27 : y2 = (47 : Int32)
  · refine w_n X23 B d28_27 (teq hc27).2 (w_i X23 B d28_30 rfl ?_)
    show Sh T23 31 #[vr b, vi 47, vi 2, vi 2] [.int 2]
    exact Dg.retI X23 hlk B hret rfl (Or.inl rfl) d28_31 (by rw [hh23]; exact ⟨N23, rfl, (Or.inr (Or.inr (Or.inl ⟨rfl, ⟨hc27, trivial⟩⟩)))⟩) (by decide)
  · refine w_y X23 B 27 32 rfl d28_27 (feq hc27).2 (by decide) (w_p X23 B d28_32 rfl #[vr b, vi 47, vi 2, vi 1] rfl (w_g X23 B 35 17 rfl d28_35 (by decide) (w_i X23 B d28_17 rfl (w_f X23 B d28_18 (flt (by decide)).1 (w_a X23 B d28_21 rfl rfl (w_i X23 B d28_22 rfl ?_))))))
    show Sh T23 23 #[vr b, vi 47, vi 2, vi 1] [.int 1, .ref b]
    refine w_cs X23 B hZ hown hml (rmGc l Z a0 hw [] b (1 : Int32) cs sf _ _ _ y1 h0 n0 Z0 hW Vb (by decide) (by decide) rfl rfl hr1.1 hr1.2) (tw hw 121 rfl) (tw hw 122 rfl) (tw hw 93 rfl) (tw hw 123 rfl) hh23 d28_23 2 0 (lenOf pd6 rfl) rfl rfl rfl (by decide) ?_
    rintro _ T23_2 Lc23_2 X23_2 ⟨rfl, Nq23_2, hh23_2⟩
    have N23_2 := Fr.app N23 Nq23_2
    refine w_i X23_2 B d28_26 rfl ?_
    show Sh T23_2 27 #[vr b, vi 47, vi 2, vi 1] [.int 47, .int y1]
    by_cases hc27_2 : y1 = (47 : Int32)
    · refine w_n X23_2 B d28_27 (teq hc27_2).2 (w_i X23_2 B d28_30 rfl ?_)
      show Sh T23_2 31 #[vr b, vi 47, vi 2, vi 1] [.int 1]
      exact Dg.retI X23_2 hlk B hret rfl (Or.inl rfl) d28_31 (by rw [hh23_2]; exact ⟨N23_2, rfl, (Or.inr (Or.inl ⟨rfl, ⟨hc27_2, hc27, trivial⟩⟩))⟩) (by decide)
    · refine w_y X23_2 B 27 32 rfl d28_27 (feq hc27_2).2 (by decide) (w_p X23_2 B d28_32 rfl #[vr b, vi 47, vi 2, vi 0] rfl (w_g X23_2 B 35 17 rfl d28_35 (by decide) (w_i X23_2 B d28_17 rfl (w_f X23_2 B d28_18 (flt (by decide)).1 (w_a X23_2 B d28_21 rfl rfl (w_i X23_2 B d28_22 rfl ?_))))))
      show Sh T23_2 23 #[vr b, vi 47, vi 2, vi 0] [.int 0, .ref b]
      refine w_cs X23_2 B hZ hown hml (rmGc l Z a0 hw [] b (0 : Int32) cs sf _ _ _ y0 h0 n0 Z0 hW Vb (by decide) (by decide) rfl rfl hr0.1 hr0.2) (tw hw 121 rfl) (tw hw 122 rfl) (tw hw 93 rfl) (tw hw 123 rfl) hh23_2 d28_23 2 0 (lenOf pd6 rfl) rfl rfl rfl (by decide) ?_
      rintro _ T23_3 Lc23_3 X23_3 ⟨rfl, Nq23_3, hh23_3⟩
      have N23_3 := Fr.app N23_2 Nq23_3
      refine w_i X23_3 B d28_26 rfl ?_
      show Sh T23_3 27 #[vr b, vi 47, vi 2, vi 0] [.int 47, .int y0]
      by_cases hc27_3 : y0 = (47 : Int32)
      · refine w_n X23_3 B d28_27 (teq hc27_3).2 (w_i X23_3 B d28_30 rfl ?_)
        show Sh T23_3 31 #[vr b, vi 47, vi 2, vi 0] [.int 0]
        exact Dg.retI X23_3 hlk B hret rfl (Or.inl rfl) d28_31 (by rw [hh23_3]; exact ⟨N23_3, rfl, (Or.inl ⟨rfl, ⟨hc27_3, hc27_2, hc27, trivial⟩⟩)⟩) (by decide)
      · refine w_y X23_3 B 27 32 rfl d28_27 (feq hc27_3).2 (by decide) (w_p X23_3 B d28_32 rfl #[vr b, vi 47, vi 2, vi (-1)] rfl (w_g X23_3 B 35 17 rfl d28_35 (by decide) (w_i X23_3 B d28_17 rfl (w_t X23_3 B 18 38 rfl d28_18 (tlt (by decide)).1 (by decide) (w_c X23_3 B d28_38 ?_)))))
        show Sh T23_3 39 #[vr b, vi 47, vi 2, vi (-1)] [.int (-1)]
        exact Dg.retI X23_3 hlk B hret rfl (Or.inl rfl) d28_39 (by rw [hh23_3]; exact ⟨N23_3, rfl, (Or.inr (Or.inr (Or.inr ⟨rfl, ⟨hc27_3, hc27_2, hc27, trivial⟩⟩)))⟩) (by decide)

def QL2_3 (Z : State) (a : Addr) (cs : Int32) (sf : Value) (y0 : Int32) (y1 : Int32) (y2 : Int32) (h0 : Heap) (n0 : Nat) (v : Option Value) (h : Heap) (L : List Loc) : Prop := Fr n0 L ∧ h = h0 ∧ ((v = some (.int 0) ∧ (y0 = 47 ∧ ¬ y1 = 47 ∧ ¬ y2 = 47 ∧ True)) ∨ (v = some (.int 1) ∧ (y1 = 47 ∧ ¬ y2 = 47 ∧ True)) ∨ (v = some (.int 2) ∧ (y2 = 47 ∧ True)) ∨ (v = some (.int (-1)) ∧ (¬ y0 = 47 ∧ ¬ y1 = 47 ∧ ¬ y2 = 47 ∧ True)))
theorem rmL2_3 (l : Launch) (Z : State) (a0 : Array Value) (hw : ∀ d ∈ tables_1, d.before a0 Z = true) (ws : List Jvm.Cond) (a : Addr) (cs : Int32) (sf : Value) (y0 : Int32) (y1 : Int32) (y2 : Int32) (h0 : Heap) (n0 : Nat) (Z0 : n0 ≤ h0.size) (hW : own_W Z h0 n0 cs sf) (hS : own_Str Z h0 a 3 6 [.int (own_b y0), .int (own_b y1), .int (own_b y2)] [.int (own_lo y0), .int (own_hi y0), .int (own_lo y1), .int (own_hi y1), .int (own_lo y2), .int (own_hi y2)] (y0.toInt ≤ 255 ∧ y1.toInt ≤ 255 ∧ y2.toInt ≤ 255 ∧ True)) (hr0 : 0 ≤ y0.toInt ∧ y0.toInt ≤ 65535) (hr1 : 0 ≤ y1.toInt ∧ y1.toInt ≤ 65535) (hr2 : 0 ≤ y2.toInt ∧ y2.toInt ≤ 65535) :
    own_Met l on8 (Jvm.Cond.code on8 jdk_42_method_83_code 3 (some .int) :: ws) orm34 #[.ref a, .int 47, .int 2] Z h0 (QL2_3 Z a cs sf y0 y1 y2 h0 n0) := by
  refine own_met (plainFor_of_name pn0) (fun m => ef_RII3 m a (47 : Int32) (2 : Int32)) ?_
  intro p e s m below meth c s₁ B hlk hret hml hZ hown hnm X0 e0
  have N0 := Fr.nil n0
  have hS' := hS
  rcases hS' with ⟨Ea, ⟨bb, kb, Fc, Fv, Vb, hp⟩ | ⟨bb, kb, Fc, Fv, Vb⟩⟩
  · refine w_a X0 B d9_0 rfl rfl ?_
    show Sh s₁ 1 #[vr a, vi 47, vi 2] [.ref a]
    refine w_cv X0 B hZ hown hml (rmIl0 l Z a0 hw [] a cs sf  h0 n0 Z0 hW Fc) (tw hw 53 rfl) (tw hw 54 rfl) (tw hw 56 rfl) (tw hw 55 rfl) (tw hw 9 rfl) (tw hw 57 rfl) e0 Ea d9_1 0 0 rfl (lenOf pd7 rfl) rfl rfl rfl (by decide) ?_
    rintro _ T1 Lc1 X1 ⟨rfl, Nq1, hh1⟩
    have N1 := Fr.app N0 Nq1
    refine w_f X1 B d9_4 (feq (by decide)).1 (w_a X1 B d9_7 rfl rfl ?_)
    show Sh T1 8 #[vr a, vi 47, vi 2] [.ref a]
    refine w_gf X1 B hZ hown (tw hw 26 rfl) Via.refl hh1 Fv d9_8 ?_
    intro T8 X8 e8
    refine w_i X8 B d9_11 rfl (w_i X8 B d9_12 rfl ?_)
    show Sh T8 13 #[vr a, vi 47, vi 2] [.int 2, .int 47, .ref bb]
    refine w_cs X8 B hZ hown hml (rmLl3 l Z a0 hw [] bb kb y0 y1 y2 h0 n0 Z0 Vb hp hr0 hr1 hr2) (tw hw 58 rfl) (tw hw 59 rfl) (tw hw 60 rfl) (tw hw 61 rfl) e8 d9_13 3 0 (lenOf pd16 rfl) rfl rfl rfl (by decide) ?_
    rintro _ T13 Lc13 X13 ⟨Nq13, hh13, hq13⟩
    have N13 := Fr.app N1 Nq13
    rcases hq13 with ⟨rfl, gl13⟩ | ⟨rfl, gl13⟩ | ⟨rfl, gl13⟩ | ⟨rfl, gl13⟩
    · refine w_g X13 B 16 28 rfl d9_16 (by decide) ?_
      show Sh T13 28 #[vr a, vi 47, vi 2] [.int 0]
      exact Dg.retI X13 hlk B hret rfl (Or.inl rfl) d9_28 (by rw [hh13]; exact ⟨N13, rfl, (Or.inl ⟨rfl, gl13⟩)⟩) (by decide)
    · refine w_g X13 B 16 28 rfl d9_16 (by decide) ?_
      show Sh T13 28 #[vr a, vi 47, vi 2] [.int 1]
      exact Dg.retI X13 hlk B hret rfl (Or.inl rfl) d9_28 (by rw [hh13]; exact ⟨N13, rfl, (Or.inr (Or.inl ⟨rfl, gl13⟩))⟩) (by decide)
    · refine w_g X13 B 16 28 rfl d9_16 (by decide) ?_
      show Sh T13 28 #[vr a, vi 47, vi 2] [.int 2]
      exact Dg.retI X13 hlk B hret rfl (Or.inl rfl) d9_28 (by rw [hh13]; exact ⟨N13, rfl, (Or.inr (Or.inr (Or.inl ⟨rfl, gl13⟩)))⟩) (by decide)
    · refine w_g X13 B 16 28 rfl d9_16 (by decide) ?_
      show Sh T13 28 #[vr a, vi 47, vi 2] [.int (-1)]
      exact Dg.retI X13 hlk B hret rfl (Or.inl rfl) d9_28 (by rw [hh13]; exact ⟨N13, rfl, (Or.inr (Or.inr (Or.inr ⟨rfl, gl13⟩)))⟩) (by decide)
  · refine w_a X0 B d9_0 rfl rfl ?_
    show Sh s₁ 1 #[vr a, vi 47, vi 2] [.ref a]
    refine w_cv X0 B hZ hown hml (rmIl1 l Z a0 hw [] a cs sf  h0 n0 Z0 hW Fc) (tw hw 53 rfl) (tw hw 54 rfl) (tw hw 56 rfl) (tw hw 55 rfl) (tw hw 9 rfl) (tw hw 57 rfl) e0 Ea d9_1 0 0 rfl (lenOf pd7 rfl) rfl rfl rfl (by decide) ?_
    rintro _ T1 Lc1 X1 ⟨rfl, Nq1, hh1⟩
    have N1 := Fr.app N0 Nq1
    refine w_t X1 B 4 19 rfl d9_4 (teq (by decide)).1 (by decide) (w_a X1 B d9_19 rfl rfl ?_)
    show Sh T1 20 #[vr a, vi 47, vi 2] [.ref a]
    refine w_gf X1 B hZ hown (tw hw 26 rfl) Via.refl hh1 Fv d9_20 ?_
    intro T20 X20 e20
    refine w_i X20 B d9_23 rfl (w_i X20 B d9_24 rfl ?_)
    show Sh T20 25 #[vr a, vi 47, vi 2] [.int 2, .int 47, .ref bb]
    refine w_cs X20 B hZ hown hml (rmLu3 l Z a0 hw [] bb cs sf kb y0 y1 y2 h0 n0 Z0 hW Vb hr0 hr1 hr2) (tw hw 124 rfl) (tw hw 125 rfl) (tw hw 93 rfl) (tw hw 126 rfl) e20 d9_25 3 0 (lenOf pd16 rfl) rfl rfl rfl (by decide) ?_
    rintro _ T25 Lc25 X25 ⟨Nq25, hh25, hq25⟩
    have N25 := Fr.app N1 Nq25
    rcases hq25 with ⟨rfl, gl25⟩ | ⟨rfl, gl25⟩ | ⟨rfl, gl25⟩ | ⟨rfl, gl25⟩
    · exact Dg.retI X25 hlk B hret rfl (Or.inl rfl) d9_28 (by rw [hh25]; exact ⟨N25, rfl, (Or.inl ⟨rfl, gl25⟩)⟩) (by decide)
    · exact Dg.retI X25 hlk B hret rfl (Or.inl rfl) d9_28 (by rw [hh25]; exact ⟨N25, rfl, (Or.inr (Or.inl ⟨rfl, gl25⟩))⟩) (by decide)
    · exact Dg.retI X25 hlk B hret rfl (Or.inl rfl) d9_28 (by rw [hh25]; exact ⟨N25, rfl, (Or.inr (Or.inr (Or.inl ⟨rfl, gl25⟩)))⟩) (by decide)
    · exact Dg.retI X25 hlk B hret rfl (Or.inl rfl) d9_28 (by rw [hh25]; exact ⟨N25, rfl, (Or.inr (Or.inr (Or.inr ⟨rfl, gl25⟩)))⟩) (by decide)

def QL1_3 (Z : State) (a : Addr) (cs : Int32) (sf : Value) (y0 : Int32) (y1 : Int32) (y2 : Int32) (h0 : Heap) (n0 : Nat) (v : Option Value) (h : Heap) (L : List Loc) : Prop := Fr n0 L ∧ h = h0 ∧ ((v = some (.int 0) ∧ (y0 = 47 ∧ ¬ y1 = 47 ∧ ¬ y2 = 47 ∧ True)) ∨ (v = some (.int 1) ∧ (y1 = 47 ∧ ¬ y2 = 47 ∧ True)) ∨ (v = some (.int 2) ∧ (y2 = 47 ∧ True)) ∨ (v = some (.int (-1)) ∧ (¬ y0 = 47 ∧ ¬ y1 = 47 ∧ ¬ y2 = 47 ∧ True)))
theorem rmL1_3 (l : Launch) (Z : State) (a0 : Array Value) (hw : ∀ d ∈ tables_1, d.before a0 Z = true) (ws : List Jvm.Cond) (a : Addr) (cs : Int32) (sf : Value) (y0 : Int32) (y1 : Int32) (y2 : Int32) (h0 : Heap) (n0 : Nat) (Z0 : n0 ≤ h0.size) (hW : own_W Z h0 n0 cs sf) (hS : own_Str Z h0 a 3 6 [.int (own_b y0), .int (own_b y1), .int (own_b y2)] [.int (own_lo y0), .int (own_hi y0), .int (own_lo y1), .int (own_hi y1), .int (own_lo y2), .int (own_hi y2)] (y0.toInt ≤ 255 ∧ y1.toInt ≤ 255 ∧ y2.toInt ≤ 255 ∧ True)) (hr0 : 0 ≤ y0.toInt ∧ y0.toInt ≤ 65535) (hr1 : 0 ≤ y1.toInt ∧ y1.toInt ≤ 65535) (hr2 : 0 ≤ y2.toInt ∧ y2.toInt ≤ 65535) :
    own_Met l on7 (Jvm.Cond.code on7 jdk_42_method_82_code 2 (some .int) :: ws) orm35 #[.ref a, .int 47] Z h0 (QL1_3 Z a cs sf y0 y1 y2 h0 n0) := by
  refine own_met (plainFor_of_name pn0) (fun m => ef_RI2 m a (47 : Int32)) ?_
  intro p e s m below meth c s₁ B hlk hret hml hZ hown hnm X0 e0
  have hx := B.1
  have hby := B.2
  have N0 := Fr.nil n0
  refine w_a X0 B d6_0 rfl rfl (w_i X0 B d6_1 rfl (w_a X0 B d6_2 rfl rfl ?_))
  show Sh s₁ 3 #[vr a, vi 47] [.ref a, .int 47, .ref a]
  refine w_cv X0 B hZ hown hml (rmLn l Z a0 hw [] a cs sf _ _ _ _ _ h0 n0 Z0 hW hS (by decide) (by decide)) (tw hw 37 rfl) (tw hw 38 rfl) (tw hw 40 rfl) (tw hw 39 rfl) (tw hw 9 rfl) (tw hw 41 rfl) e0 hS.1 d6_3 0 2 rfl (lenOf pd17 rfl) rfl rfl rfl (by decide) ?_
  rintro _ T3 Lc3 X3 ⟨rfl, Nq3, hh3⟩
  have N3 := Fr.app N0 Nq3
  refine w_c X3 B d6_6 (Dg.st (fun _ kk => XS.isub X3.here hx rfl (hb hby d6_7) rfl kk) ?_)
  show Sh T3 8 #[vr a, vi 47] [.int 2, .int 47, .ref a]
  refine w_cv X3 B hZ hown hml (rmL2_3 l Z a0 hw [] a cs sf y0 y1 y2 h0 n0 Z0 hW hS hr0 hr1 hr2) (tw hw 48 rfl) (tw hw 49 rfl) (tw hw 51 rfl) (tw hw 50 rfl) (tw hw 9 rfl) (tw hw 52 rfl) hh3 hS.1 d6_8 2 0 rfl (lenOf pd15 rfl) rfl rfl rfl (by decide) ?_
  rintro _ T8 Lc8 X8 ⟨Nq8, hh8, hq8⟩
  have N8 := Fr.app N3 Nq8
  rcases hq8 with ⟨rfl, gl8⟩ | ⟨rfl, gl8⟩ | ⟨rfl, gl8⟩ | ⟨rfl, gl8⟩
  · exact Dg.retI X8 hlk B hret rfl (Or.inl rfl) d6_11 (by rw [hh8]; exact ⟨N8, rfl, (Or.inl ⟨rfl, gl8⟩)⟩) (by decide)
  · exact Dg.retI X8 hlk B hret rfl (Or.inl rfl) d6_11 (by rw [hh8]; exact ⟨N8, rfl, (Or.inr (Or.inl ⟨rfl, gl8⟩))⟩) (by decide)
  · exact Dg.retI X8 hlk B hret rfl (Or.inl rfl) d6_11 (by rw [hh8]; exact ⟨N8, rfl, (Or.inr (Or.inr (Or.inl ⟨rfl, gl8⟩)))⟩) (by decide)
  · exact Dg.retI X8 hlk B hret rfl (Or.inl rfl) d6_11 (by rw [hh8]; exact ⟨N8, rfl, (Or.inr (Or.inr (Or.inr ⟨rfl, gl8⟩)))⟩) (by decide)

def QLl4 (Z : State) (b : Addr) (kb : ClassId) (y0 : Int32) (y1 : Int32) (y2 : Int32) (y3 : Int32) (h0 : Heap) (n0 : Nat) (v : Option Value) (h : Heap) (L : List Loc) : Prop := Fr n0 L ∧ h = h0 ∧ ((v = some (.int 0) ∧ (y0 = 47 ∧ ¬ y1 = 47 ∧ ¬ y2 = 47 ∧ ¬ y3 = 47 ∧ True)) ∨ (v = some (.int 1) ∧ (y1 = 47 ∧ ¬ y2 = 47 ∧ ¬ y3 = 47 ∧ True)) ∨ (v = some (.int 2) ∧ (y2 = 47 ∧ ¬ y3 = 47 ∧ True)) ∨ (v = some (.int 3) ∧ (y3 = 47 ∧ True)) ∨ (v = some (.int (-1)) ∧ (¬ y0 = 47 ∧ ¬ y1 = 47 ∧ ¬ y2 = 47 ∧ ¬ y3 = 47 ∧ True)))
theorem rmLl4 (l : Launch) (Z : State) (a0 : Array Value) (hw : ∀ d ∈ tables_1, d.before a0 Z = true) (ws : List Jvm.Cond) (b : Addr) (kb : ClassId) (y0 : Int32) (y1 : Int32) (y2 : Int32) (y3 : Int32) (h0 : Heap) (n0 : Nat) (Z0 : n0 ≤ h0.size) (Vb : Arv Z h0 b kb .byte 4 [.int (own_b y0), .int (own_b y1), .int (own_b y2), .int (own_b y3)] (.int 0)) (hp : (y0.toInt ≤ 255 ∧ y1.toInt ≤ 255 ∧ y2.toInt ≤ 255 ∧ y3.toInt ≤ 255 ∧ True)) (hr0 : 0 ≤ y0.toInt ∧ y0.toInt ≤ 65535) (hr1 : 0 ≤ y1.toInt ∧ y1.toInt ≤ 65535) (hr2 : 0 ≤ y2.toInt ∧ y2.toInt ≤ 65535) (hr3 : 0 ≤ y3.toInt ∧ y3.toInt ≤ 65535) :
    own_Met l on9 (Jvm.Cond.code on9 jdk_43_method_27_code 4 (some .int) :: ws) orm30 #[.ref b, .int 47, .int 3] Z h0 (QLl4 Z b kb y0 y1 y2 y3 h0 n0) := by
  refine own_met (plainFor_of_name pn3) (fun m => ef_RII4 m b (47 : Int32) (3 : Int32)) ?_
  intro p e s m below meth c s₁ B hlk hret hml hZ hown hnm X0 e0
  have hx := B.1
  have hby := B.2
  have N0 := Fr.nil n0
  refine w_i X0 B d11_0 rfl ?_
  show Sh s₁ 1 #[vr b, vi 47, vi 3, .unset] [.int 47]
  refine w_cs X0 B hZ hown hml (rmCe l Z a0 hw []  h0 n0 Z0 ) (tw hw 62 rfl) (tw hw 63 rfl) (tw hw 60 rfl) (tw hw 64 rfl) e0 d11_1 1 0 (lenOf pd14 rfl) rfl rfl rfl (by decide) ?_
  rintro _ T1 Lc1 X1 ⟨rfl, Nq1, hh1⟩
  have N1 := Fr.app N0 Nq1
  refine w_t X1 B 4 9 rfl d11_4 (feq (by decide)).2 (by decide) (w_i X1 B d11_9 rfl (w_a X1 B d11_10 rfl rfl (w_al X1 B hZ hh1 Vb d11_11 (w_c X1 B d11_12 (Dg.st (fun _ kk => XS.isub X1.here hx rfl (hb hby d11_13) rfl kk) ?_)))))
  show Sh T1 14 #[vr b, vi 47, vi 3, .unset] [.int 3, .int 3]
  refine w_cs X1 B hZ hown hml (rmMn l Z a0 hw [] (3 : Int32) (3 : Int32)  h0 n0 Z0 (by decide)) (tw hw 65 rfl) (tw hw 66 rfl) (tw hw 67 rfl) (tw hw 68 rfl) hh1 d11_14 2 0 (lenOf pd15 rfl) rfl rfl rfl (by decide) ?_
  rintro _ T14 Lc14 X14 ⟨rfl, Nq14, hh14⟩
  have N14 := Fr.app N1 Nq14
  refine w_S X14 B d11_17 #[vr b, vi 47, vi 3, vi 3] rfl (w_i X14 B d11_18 rfl (w_f X14 B d11_19 (flt (by decide)).1 (w_a X14 B d11_22 rfl rfl (w_i X14 B d11_23 rfl (w_ba X14 B hZ hh14 Vb (by decide) (v := (.int (own_b y3))) rfl d11_24 (w_i X14 B d11_25 rfl (Dg.st (fun _ kk => XS.i2b X14.here hx rfl (hb hby d11_26) rfl kk) ?_)))))))
  show Sh T14 27 #[vr b, vi 47, vi 3, vi 3] [.int 47, .int (own_b y3)]
  by_cases hc27 : (own_b y3) = (47 : Int32)
  · refine w_n X14 B d11_27 (teq hc27).2 (w_i X14 B d11_30 rfl ?_)
    show Sh T14 31 #[vr b, vi 47, vi 3, vi 3] [.int 3]
    exact Dg.retI X14 hlk B hret rfl (Or.inl rfl) d11_31 (by rw [hh14]; exact ⟨N14, rfl, (Or.inr (Or.inr (Or.inr (Or.inl ⟨rfl, ⟨(own_b47 hr3.1 hp.2.2.2.1).mp hc27, trivial⟩⟩))))⟩) (by decide)
  · refine w_y X14 B 27 32 rfl d11_27 (feq hc27).2 (by decide) (w_p X14 B d11_32 rfl #[vr b, vi 47, vi 3, vi 2] rfl (w_g X14 B 35 18 rfl d11_35 (by decide) (w_i X14 B d11_18 rfl (w_f X14 B d11_19 (flt (by decide)).1 (w_a X14 B d11_22 rfl rfl (w_i X14 B d11_23 rfl (w_ba X14 B hZ hh14 Vb (by decide) (v := (.int (own_b y2))) rfl d11_24 ?_)))))))
    show Sh T14 25 #[vr b, vi 47, vi 3, vi 2] [.int (own_b y2)]
    refine w_i X14 B d11_25 rfl (Dg.st (fun _ kk => XS.i2b X14.here hx rfl (hb hby d11_26) rfl kk) ?_)
    show Sh T14 27 #[vr b, vi 47, vi 3, vi 2] [.int 47, .int (own_b y2)]
    by_cases hc27_2 : (own_b y2) = (47 : Int32)
    · refine w_n X14 B d11_27 (teq hc27_2).2 (w_i X14 B d11_30 rfl ?_)
      show Sh T14 31 #[vr b, vi 47, vi 3, vi 2] [.int 2]
      exact Dg.retI X14 hlk B hret rfl (Or.inl rfl) d11_31 (by rw [hh14]; exact ⟨N14, rfl, (Or.inr (Or.inr (Or.inl ⟨rfl, ⟨(own_b47 hr2.1 hp.2.2.1).mp hc27_2, mt (own_b47 hr3.1 hp.2.2.2.1).mpr hc27, trivial⟩⟩)))⟩) (by decide)
    · refine w_y X14 B 27 32 rfl d11_27 (feq hc27_2).2 (by decide) (w_p X14 B d11_32 rfl #[vr b, vi 47, vi 3, vi 1] rfl (w_g X14 B 35 18 rfl d11_35 (by decide) (w_i X14 B d11_18 rfl (w_f X14 B d11_19 (flt (by decide)).1 (w_a X14 B d11_22 rfl rfl (w_i X14 B d11_23 rfl (w_ba X14 B hZ hh14 Vb (by decide) (v := (.int (own_b y1))) rfl d11_24 ?_)))))))
      show Sh T14 25 #[vr b, vi 47, vi 3, vi 1] [.int (own_b y1)]
      refine w_i X14 B d11_25 rfl (Dg.st (fun _ kk => XS.i2b X14.here hx rfl (hb hby d11_26) rfl kk) ?_)
      show Sh T14 27 #[vr b, vi 47, vi 3, vi 1] [.int 47, .int (own_b y1)]
      by_cases hc27_3 : (own_b y1) = (47 : Int32)
      · refine w_n X14 B d11_27 (teq hc27_3).2 (w_i X14 B d11_30 rfl ?_)
        show Sh T14 31 #[vr b, vi 47, vi 3, vi 1] [.int 1]
        exact Dg.retI X14 hlk B hret rfl (Or.inl rfl) d11_31 (by rw [hh14]; exact ⟨N14, rfl, (Or.inr (Or.inl ⟨rfl, ⟨(own_b47 hr1.1 hp.2.1).mp hc27_3, mt (own_b47 hr2.1 hp.2.2.1).mpr hc27_2, mt (own_b47 hr3.1 hp.2.2.2.1).mpr hc27, trivial⟩⟩))⟩) (by decide)
      · refine w_y X14 B 27 32 rfl d11_27 (feq hc27_3).2 (by decide) (w_p X14 B d11_32 rfl #[vr b, vi 47, vi 3, vi 0] rfl (w_g X14 B 35 18 rfl d11_35 (by decide) (w_i X14 B d11_18 rfl (w_f X14 B d11_19 (flt (by decide)).1 (w_a X14 B d11_22 rfl rfl (w_i X14 B d11_23 rfl (w_ba X14 B hZ hh14 Vb (by decide) (v := (.int (own_b y0))) rfl d11_24 ?_)))))))
        show Sh T14 25 #[vr b, vi 47, vi 3, vi 0] [.int (own_b y0)]
        refine w_i X14 B d11_25 rfl (Dg.st (fun _ kk => XS.i2b X14.here hx rfl (hb hby d11_26) rfl kk) ?_)
        show Sh T14 27 #[vr b, vi 47, vi 3, vi 0] [.int 47, .int (own_b y0)]
        by_cases hc27_4 : (own_b y0) = (47 : Int32)
        · refine w_n X14 B d11_27 (teq hc27_4).2 (w_i X14 B d11_30 rfl ?_)
          show Sh T14 31 #[vr b, vi 47, vi 3, vi 0] [.int 0]
          exact Dg.retI X14 hlk B hret rfl (Or.inl rfl) d11_31 (by rw [hh14]; exact ⟨N14, rfl, (Or.inl ⟨rfl, ⟨(own_b47 hr0.1 hp.1).mp hc27_4, mt (own_b47 hr1.1 hp.2.1).mpr hc27_3, mt (own_b47 hr2.1 hp.2.2.1).mpr hc27_2, mt (own_b47 hr3.1 hp.2.2.2.1).mpr hc27, trivial⟩⟩)⟩) (by decide)
        · refine w_y X14 B 27 32 rfl d11_27 (feq hc27_4).2 (by decide) (w_p X14 B d11_32 rfl #[vr b, vi 47, vi 3, vi (-1)] rfl (w_g X14 B 35 18 rfl d11_35 (by decide) (w_i X14 B d11_18 rfl (w_t X14 B 19 38 rfl d11_19 (tlt (by decide)).1 (by decide) (w_c X14 B d11_38 ?_)))))
          show Sh T14 39 #[vr b, vi 47, vi 3, vi (-1)] [.int (-1)]
          exact Dg.retI X14 hlk B hret rfl (Or.inl rfl) d11_39 (by rw [hh14]; exact ⟨N14, rfl, (Or.inr (Or.inr (Or.inr (Or.inr ⟨rfl, ⟨mt (own_b47 hr0.1 hp.1).mpr hc27_4, mt (own_b47 hr1.1 hp.2.1).mpr hc27_3, mt (own_b47 hr2.1 hp.2.2.1).mpr hc27_2, mt (own_b47 hr3.1 hp.2.2.2.1).mpr hc27, trivial⟩⟩))))⟩) (by decide)

def QLu4 (Z : State) (b : Addr) (cs : Int32) (sf : Value) (kb : ClassId) (y0 : Int32) (y1 : Int32) (y2 : Int32) (y3 : Int32) (h0 : Heap) (n0 : Nat) (v : Option Value) (h : Heap) (L : List Loc) : Prop := Fr n0 L ∧ h = h0 ∧ ((v = some (.int 0) ∧ (y0 = 47 ∧ ¬ y1 = 47 ∧ ¬ y2 = 47 ∧ ¬ y3 = 47 ∧ True)) ∨ (v = some (.int 1) ∧ (y1 = 47 ∧ ¬ y2 = 47 ∧ ¬ y3 = 47 ∧ True)) ∨ (v = some (.int 2) ∧ (y2 = 47 ∧ ¬ y3 = 47 ∧ True)) ∨ (v = some (.int 3) ∧ (y3 = 47 ∧ True)) ∨ (v = some (.int (-1)) ∧ (¬ y0 = 47 ∧ ¬ y1 = 47 ∧ ¬ y2 = 47 ∧ ¬ y3 = 47 ∧ True)))
theorem rmLu4 (l : Launch) (Z : State) (a0 : Array Value) (hw : ∀ d ∈ tables_1, d.before a0 Z = true) (ws : List Jvm.Cond) (b : Addr) (cs : Int32) (sf : Value) (kb : ClassId) (y0 : Int32) (y1 : Int32) (y2 : Int32) (y3 : Int32) (h0 : Heap) (n0 : Nat) (Z0 : n0 ≤ h0.size) (hW : own_W Z h0 n0 cs sf) (Vb : Arv Z h0 b kb .byte 8 [.int (own_lo y0), .int (own_hi y0), .int (own_lo y1), .int (own_hi y1), .int (own_lo y2), .int (own_hi y2), .int (own_lo y3), .int (own_hi y3)] (.int 0)) (hr0 : 0 ≤ y0.toInt ∧ y0.toInt ≤ 65535) (hr1 : 0 ≤ y1.toInt ∧ y1.toInt ≤ 65535) (hr2 : 0 ≤ y2.toInt ∧ y2.toInt ≤ 65535) (hr3 : 0 ≤ y3.toInt ∧ y3.toInt ≤ 65535) :
    own_Met l on6 (Jvm.Cond.code on6 jdk_52_method_51_code 4 (some .int) :: ws) orm30 #[.ref b, .int 47, .int 3] Z h0 (QLu4 Z b cs sf kb y0 y1 y2 y3 h0 n0) := by
  refine own_met (plainFor_of_name pn2) (fun m => ef_RII4 m b (47 : Int32) (3 : Int32)) ?_
  intro p e s m below meth c s₁ B hlk hret hml hZ hown hnm X0 e0
  have hx := B.1
  have hby := B.2
  have N0 := Fr.nil n0
  refine w_i X0 B d28_0 rfl (Dg.st (fun _ kk => X0.ldcInt hx hown (mvT hZ (tw hw 127 rfl)) (g := (mkF m 1 #[vr b, vi 47, vi 3, .unset] [.int 47])) rfl (hb hby d28_1) _ kk) (w_n X0 B d28_3 (tlt (by decide)).2.1 (w_i X0 B d28_6 rfl (w_a X0 B d28_7 rfl rfl (w_al X0 B hZ e0 Vb d28_8 (w_c X0 B d28_9 (Dg.st (fun _ kk => XS.ishr X0.here hx rfl (hb hby d28_10) rfl kk) ?_)))))))
  show Sh s₁ 11 #[vr b, vi 47, vi 3, .unset] [.int 4, .int 3]
  refine w_c X0 B d28_11 (Dg.st (fun _ kk => XS.isub X0.here hx rfl (hb hby d28_12) rfl kk) ?_)
  show Sh s₁ 13 #[vr b, vi 47, vi 3, .unset] [.int 3, .int 3]
  refine w_cs X0 B hZ hown hml (rmMn l Z a0 hw [] (3 : Int32) (3 : Int32)  h0 n0 Z0 (by decide)) (tw hw 128 rfl) (tw hw 66 rfl) (tw hw 67 rfl) (tw hw 68 rfl) e0 d28_13 2 0 (lenOf pd15 rfl) rfl rfl rfl (by decide) ?_
  rintro _ T13 Lc13 X13 ⟨rfl, Nq13, hh13⟩
  have N13 := Fr.app N0 Nq13
  refine w_S X13 B d28_16 #[vr b, vi 47, vi 3, vi 3] rfl (w_i X13 B d28_17 rfl (w_f X13 B d28_18 (flt (by decide)).1 (w_a X13 B d28_21 rfl rfl (w_i X13 B d28_22 rfl ?_))))
  show Sh T13 23 #[vr b, vi 47, vi 3, vi 3] [.int 3, .ref b]
  refine w_cs X13 B hZ hown hml (rmGc l Z a0 hw [] b (3 : Int32) cs sf _ _ _ y3 h0 n0 Z0 hW Vb (by decide) (by decide) rfl rfl hr3.1 hr3.2) (tw hw 121 rfl) (tw hw 122 rfl) (tw hw 93 rfl) (tw hw 123 rfl) hh13 d28_23 2 0 (lenOf pd6 rfl) rfl rfl rfl (by decide) ?_
  rintro _ T23 Lc23 X23 ⟨rfl, Nq23, hh23⟩
  have N23 := Fr.app N13 Nq23
  refine w_i X23 B d28_26 rfl ?_
  show Sh T23 27 #[vr b, vi 47, vi 3, vi 3] [.int 47, .int y3]
  by_cases hc27 : y3 = (47 : Int32)
  · refine w_n X23 B d28_27 (teq hc27).2 (w_i X23 B d28_30 rfl ?_)
    show Sh T23 31 #[vr b, vi 47, vi 3, vi 3] [.int 3]
    exact Dg.retI X23 hlk B hret rfl (Or.inl rfl) d28_31 (by rw [hh23]; exact ⟨N23, rfl, (Or.inr (Or.inr (Or.inr (Or.inl ⟨rfl, ⟨hc27, trivial⟩⟩))))⟩) (by decide)
  · refine w_y X23 B 27 32 rfl d28_27 (feq hc27).2 (by decide) (w_p X23 B d28_32 rfl #[vr b, vi 47, vi 3, vi 2] rfl (w_g X23 B 35 17 rfl d28_35 (by decide) (w_i X23 B d28_17 rfl (w_f X23 B d28_18 (flt (by decide)).1 (w_a X23 B d28_21 rfl rfl (w_i X23 B d28_22 rfl ?_))))))
    show Sh T23 23 #[vr b, vi 47, vi 3, vi 2] [.int 2, .ref b]
    refine w_cs X23 B hZ hown hml (rmGc l Z a0 hw [] b (2 : Int32) cs sf _ _ _ y2 h0 n0 Z0 hW Vb (by decide) (by decide) rfl rfl hr2.1 hr2.2) (tw hw 121 rfl) (tw hw 122 rfl) (tw hw 93 rfl) (tw hw 123 rfl) hh23 d28_23 2 0 (lenOf pd6 rfl) rfl rfl rfl (by decide) ?_
    rintro _ T23_2 Lc23_2 X23_2 ⟨rfl, Nq23_2, hh23_2⟩
    have N23_2 := Fr.app N23 Nq23_2
    refine w_i X23_2 B d28_26 rfl ?_
    show Sh T23_2 27 #[vr b, vi 47, vi 3, vi 2] [.int 47, .int y2]
    by_cases hc27_2 : y2 = (47 : Int32)
    · refine w_n X23_2 B d28_27 (teq hc27_2).2 (w_i X23_2 B d28_30 rfl ?_)
      show Sh T23_2 31 #[vr b, vi 47, vi 3, vi 2] [.int 2]
      exact Dg.retI X23_2 hlk B hret rfl (Or.inl rfl) d28_31 (by rw [hh23_2]; exact ⟨N23_2, rfl, (Or.inr (Or.inr (Or.inl ⟨rfl, ⟨hc27_2, hc27, trivial⟩⟩)))⟩) (by decide)
    · refine w_y X23_2 B 27 32 rfl d28_27 (feq hc27_2).2 (by decide) (w_p X23_2 B d28_32 rfl #[vr b, vi 47, vi 3, vi 1] rfl (w_g X23_2 B 35 17 rfl d28_35 (by decide) (w_i X23_2 B d28_17 rfl (w_f X23_2 B d28_18 (flt (by decide)).1 (w_a X23_2 B d28_21 rfl rfl (w_i X23_2 B d28_22 rfl ?_))))))
      show Sh T23_2 23 #[vr b, vi 47, vi 3, vi 1] [.int 1, .ref b]
      refine w_cs X23_2 B hZ hown hml (rmGc l Z a0 hw [] b (1 : Int32) cs sf _ _ _ y1 h0 n0 Z0 hW Vb (by decide) (by decide) rfl rfl hr1.1 hr1.2) (tw hw 121 rfl) (tw hw 122 rfl) (tw hw 93 rfl) (tw hw 123 rfl) hh23_2 d28_23 2 0 (lenOf pd6 rfl) rfl rfl rfl (by decide) ?_
      rintro _ T23_3 Lc23_3 X23_3 ⟨rfl, Nq23_3, hh23_3⟩
      have N23_3 := Fr.app N23_2 Nq23_3
      refine w_i X23_3 B d28_26 rfl ?_
      show Sh T23_3 27 #[vr b, vi 47, vi 3, vi 1] [.int 47, .int y1]
      by_cases hc27_3 : y1 = (47 : Int32)
      · refine w_n X23_3 B d28_27 (teq hc27_3).2 (w_i X23_3 B d28_30 rfl ?_)
        show Sh T23_3 31 #[vr b, vi 47, vi 3, vi 1] [.int 1]
        exact Dg.retI X23_3 hlk B hret rfl (Or.inl rfl) d28_31 (by rw [hh23_3]; exact ⟨N23_3, rfl, (Or.inr (Or.inl ⟨rfl, ⟨hc27_3, hc27_2, hc27, trivial⟩⟩))⟩) (by decide)
      · refine w_y X23_3 B 27 32 rfl d28_27 (feq hc27_3).2 (by decide) (w_p X23_3 B d28_32 rfl #[vr b, vi 47, vi 3, vi 0] rfl (w_g X23_3 B 35 17 rfl d28_35 (by decide) (w_i X23_3 B d28_17 rfl (w_f X23_3 B d28_18 (flt (by decide)).1 (w_a X23_3 B d28_21 rfl rfl (w_i X23_3 B d28_22 rfl ?_))))))
        show Sh T23_3 23 #[vr b, vi 47, vi 3, vi 0] [.int 0, .ref b]
        refine w_cs X23_3 B hZ hown hml (rmGc l Z a0 hw [] b (0 : Int32) cs sf _ _ _ y0 h0 n0 Z0 hW Vb (by decide) (by decide) rfl rfl hr0.1 hr0.2) (tw hw 121 rfl) (tw hw 122 rfl) (tw hw 93 rfl) (tw hw 123 rfl) hh23_3 d28_23 2 0 (lenOf pd6 rfl) rfl rfl rfl (by decide) ?_
        rintro _ T23_4 Lc23_4 X23_4 ⟨rfl, Nq23_4, hh23_4⟩
        have N23_4 := Fr.app N23_3 Nq23_4
        refine w_i X23_4 B d28_26 rfl ?_
        show Sh T23_4 27 #[vr b, vi 47, vi 3, vi 0] [.int 47, .int y0]
        by_cases hc27_4 : y0 = (47 : Int32)
        · refine w_n X23_4 B d28_27 (teq hc27_4).2 (w_i X23_4 B d28_30 rfl ?_)
          show Sh T23_4 31 #[vr b, vi 47, vi 3, vi 0] [.int 0]
          exact Dg.retI X23_4 hlk B hret rfl (Or.inl rfl) d28_31 (by rw [hh23_4]; exact ⟨N23_4, rfl, (Or.inl ⟨rfl, ⟨hc27_4, hc27_3, hc27_2, hc27, trivial⟩⟩)⟩) (by decide)
        · refine w_y X23_4 B 27 32 rfl d28_27 (feq hc27_4).2 (by decide) (w_p X23_4 B d28_32 rfl #[vr b, vi 47, vi 3, vi (-1)] rfl (w_g X23_4 B 35 17 rfl d28_35 (by decide) (w_i X23_4 B d28_17 rfl (w_t X23_4 B 18 38 rfl d28_18 (tlt (by decide)).1 (by decide) (w_c X23_4 B d28_38 ?_)))))
          show Sh T23_4 39 #[vr b, vi 47, vi 3, vi (-1)] [.int (-1)]
          exact Dg.retI X23_4 hlk B hret rfl (Or.inl rfl) d28_39 (by rw [hh23_4]; exact ⟨N23_4, rfl, (Or.inr (Or.inr (Or.inr (Or.inr ⟨rfl, ⟨hc27_4, hc27_3, hc27_2, hc27, trivial⟩⟩))))⟩) (by decide)

def QL2_4 (Z : State) (a : Addr) (cs : Int32) (sf : Value) (y0 : Int32) (y1 : Int32) (y2 : Int32) (y3 : Int32) (h0 : Heap) (n0 : Nat) (v : Option Value) (h : Heap) (L : List Loc) : Prop := Fr n0 L ∧ h = h0 ∧ ((v = some (.int 0) ∧ (y0 = 47 ∧ ¬ y1 = 47 ∧ ¬ y2 = 47 ∧ ¬ y3 = 47 ∧ True)) ∨ (v = some (.int 1) ∧ (y1 = 47 ∧ ¬ y2 = 47 ∧ ¬ y3 = 47 ∧ True)) ∨ (v = some (.int 2) ∧ (y2 = 47 ∧ ¬ y3 = 47 ∧ True)) ∨ (v = some (.int 3) ∧ (y3 = 47 ∧ True)) ∨ (v = some (.int (-1)) ∧ (¬ y0 = 47 ∧ ¬ y1 = 47 ∧ ¬ y2 = 47 ∧ ¬ y3 = 47 ∧ True)))
theorem rmL2_4 (l : Launch) (Z : State) (a0 : Array Value) (hw : ∀ d ∈ tables_1, d.before a0 Z = true) (ws : List Jvm.Cond) (a : Addr) (cs : Int32) (sf : Value) (y0 : Int32) (y1 : Int32) (y2 : Int32) (y3 : Int32) (h0 : Heap) (n0 : Nat) (Z0 : n0 ≤ h0.size) (hW : own_W Z h0 n0 cs sf) (hS : own_Str Z h0 a 4 8 [.int (own_b y0), .int (own_b y1), .int (own_b y2), .int (own_b y3)] [.int (own_lo y0), .int (own_hi y0), .int (own_lo y1), .int (own_hi y1), .int (own_lo y2), .int (own_hi y2), .int (own_lo y3), .int (own_hi y3)] (y0.toInt ≤ 255 ∧ y1.toInt ≤ 255 ∧ y2.toInt ≤ 255 ∧ y3.toInt ≤ 255 ∧ True)) (hr0 : 0 ≤ y0.toInt ∧ y0.toInt ≤ 65535) (hr1 : 0 ≤ y1.toInt ∧ y1.toInt ≤ 65535) (hr2 : 0 ≤ y2.toInt ∧ y2.toInt ≤ 65535) (hr3 : 0 ≤ y3.toInt ∧ y3.toInt ≤ 65535) :
    own_Met l on8 (Jvm.Cond.code on8 jdk_42_method_83_code 3 (some .int) :: ws) orm34 #[.ref a, .int 47, .int 3] Z h0 (QL2_4 Z a cs sf y0 y1 y2 y3 h0 n0) := by
  refine own_met (plainFor_of_name pn0) (fun m => ef_RII3 m a (47 : Int32) (3 : Int32)) ?_
  intro p e s m below meth c s₁ B hlk hret hml hZ hown hnm X0 e0
  have N0 := Fr.nil n0
  have hS' := hS
  rcases hS' with ⟨Ea, ⟨bb, kb, Fc, Fv, Vb, hp⟩ | ⟨bb, kb, Fc, Fv, Vb⟩⟩
  · refine w_a X0 B d9_0 rfl rfl ?_
    show Sh s₁ 1 #[vr a, vi 47, vi 3] [.ref a]
    refine w_cv X0 B hZ hown hml (rmIl0 l Z a0 hw [] a cs sf  h0 n0 Z0 hW Fc) (tw hw 53 rfl) (tw hw 54 rfl) (tw hw 56 rfl) (tw hw 55 rfl) (tw hw 9 rfl) (tw hw 57 rfl) e0 Ea d9_1 0 0 rfl (lenOf pd7 rfl) rfl rfl rfl (by decide) ?_
    rintro _ T1 Lc1 X1 ⟨rfl, Nq1, hh1⟩
    have N1 := Fr.app N0 Nq1
    refine w_f X1 B d9_4 (feq (by decide)).1 (w_a X1 B d9_7 rfl rfl ?_)
    show Sh T1 8 #[vr a, vi 47, vi 3] [.ref a]
    refine w_gf X1 B hZ hown (tw hw 26 rfl) Via.refl hh1 Fv d9_8 ?_
    intro T8 X8 e8
    refine w_i X8 B d9_11 rfl (w_i X8 B d9_12 rfl ?_)
    show Sh T8 13 #[vr a, vi 47, vi 3] [.int 3, .int 47, .ref bb]
    refine w_cs X8 B hZ hown hml (rmLl4 l Z a0 hw [] bb kb y0 y1 y2 y3 h0 n0 Z0 Vb hp hr0 hr1 hr2 hr3) (tw hw 58 rfl) (tw hw 59 rfl) (tw hw 60 rfl) (tw hw 61 rfl) e8 d9_13 3 0 (lenOf pd16 rfl) rfl rfl rfl (by decide) ?_
    rintro _ T13 Lc13 X13 ⟨Nq13, hh13, hq13⟩
    have N13 := Fr.app N1 Nq13
    rcases hq13 with ⟨rfl, gl13⟩ | ⟨rfl, gl13⟩ | ⟨rfl, gl13⟩ | ⟨rfl, gl13⟩ | ⟨rfl, gl13⟩
    · refine w_g X13 B 16 28 rfl d9_16 (by decide) ?_
      show Sh T13 28 #[vr a, vi 47, vi 3] [.int 0]
      exact Dg.retI X13 hlk B hret rfl (Or.inl rfl) d9_28 (by rw [hh13]; exact ⟨N13, rfl, (Or.inl ⟨rfl, gl13⟩)⟩) (by decide)
    · refine w_g X13 B 16 28 rfl d9_16 (by decide) ?_
      show Sh T13 28 #[vr a, vi 47, vi 3] [.int 1]
      exact Dg.retI X13 hlk B hret rfl (Or.inl rfl) d9_28 (by rw [hh13]; exact ⟨N13, rfl, (Or.inr (Or.inl ⟨rfl, gl13⟩))⟩) (by decide)
    · refine w_g X13 B 16 28 rfl d9_16 (by decide) ?_
      show Sh T13 28 #[vr a, vi 47, vi 3] [.int 2]
      exact Dg.retI X13 hlk B hret rfl (Or.inl rfl) d9_28 (by rw [hh13]; exact ⟨N13, rfl, (Or.inr (Or.inr (Or.inl ⟨rfl, gl13⟩)))⟩) (by decide)
    · refine w_g X13 B 16 28 rfl d9_16 (by decide) ?_
      show Sh T13 28 #[vr a, vi 47, vi 3] [.int 3]
      exact Dg.retI X13 hlk B hret rfl (Or.inl rfl) d9_28 (by rw [hh13]; exact ⟨N13, rfl, (Or.inr (Or.inr (Or.inr (Or.inl ⟨rfl, gl13⟩))))⟩) (by decide)
    · refine w_g X13 B 16 28 rfl d9_16 (by decide) ?_
      show Sh T13 28 #[vr a, vi 47, vi 3] [.int (-1)]
      exact Dg.retI X13 hlk B hret rfl (Or.inl rfl) d9_28 (by rw [hh13]; exact ⟨N13, rfl, (Or.inr (Or.inr (Or.inr (Or.inr ⟨rfl, gl13⟩))))⟩) (by decide)
  · refine w_a X0 B d9_0 rfl rfl ?_
    show Sh s₁ 1 #[vr a, vi 47, vi 3] [.ref a]
    refine w_cv X0 B hZ hown hml (rmIl1 l Z a0 hw [] a cs sf  h0 n0 Z0 hW Fc) (tw hw 53 rfl) (tw hw 54 rfl) (tw hw 56 rfl) (tw hw 55 rfl) (tw hw 9 rfl) (tw hw 57 rfl) e0 Ea d9_1 0 0 rfl (lenOf pd7 rfl) rfl rfl rfl (by decide) ?_
    rintro _ T1 Lc1 X1 ⟨rfl, Nq1, hh1⟩
    have N1 := Fr.app N0 Nq1
    refine w_t X1 B 4 19 rfl d9_4 (teq (by decide)).1 (by decide) (w_a X1 B d9_19 rfl rfl ?_)
    show Sh T1 20 #[vr a, vi 47, vi 3] [.ref a]
    refine w_gf X1 B hZ hown (tw hw 26 rfl) Via.refl hh1 Fv d9_20 ?_
    intro T20 X20 e20
    refine w_i X20 B d9_23 rfl (w_i X20 B d9_24 rfl ?_)
    show Sh T20 25 #[vr a, vi 47, vi 3] [.int 3, .int 47, .ref bb]
    refine w_cs X20 B hZ hown hml (rmLu4 l Z a0 hw [] bb cs sf kb y0 y1 y2 y3 h0 n0 Z0 hW Vb hr0 hr1 hr2 hr3) (tw hw 124 rfl) (tw hw 125 rfl) (tw hw 93 rfl) (tw hw 126 rfl) e20 d9_25 3 0 (lenOf pd16 rfl) rfl rfl rfl (by decide) ?_
    rintro _ T25 Lc25 X25 ⟨Nq25, hh25, hq25⟩
    have N25 := Fr.app N1 Nq25
    rcases hq25 with ⟨rfl, gl25⟩ | ⟨rfl, gl25⟩ | ⟨rfl, gl25⟩ | ⟨rfl, gl25⟩ | ⟨rfl, gl25⟩
    · exact Dg.retI X25 hlk B hret rfl (Or.inl rfl) d9_28 (by rw [hh25]; exact ⟨N25, rfl, (Or.inl ⟨rfl, gl25⟩)⟩) (by decide)
    · exact Dg.retI X25 hlk B hret rfl (Or.inl rfl) d9_28 (by rw [hh25]; exact ⟨N25, rfl, (Or.inr (Or.inl ⟨rfl, gl25⟩))⟩) (by decide)
    · exact Dg.retI X25 hlk B hret rfl (Or.inl rfl) d9_28 (by rw [hh25]; exact ⟨N25, rfl, (Or.inr (Or.inr (Or.inl ⟨rfl, gl25⟩)))⟩) (by decide)
    · exact Dg.retI X25 hlk B hret rfl (Or.inl rfl) d9_28 (by rw [hh25]; exact ⟨N25, rfl, (Or.inr (Or.inr (Or.inr (Or.inl ⟨rfl, gl25⟩))))⟩) (by decide)
    · exact Dg.retI X25 hlk B hret rfl (Or.inl rfl) d9_28 (by rw [hh25]; exact ⟨N25, rfl, (Or.inr (Or.inr (Or.inr (Or.inr ⟨rfl, gl25⟩))))⟩) (by decide)

def QL1_4 (Z : State) (a : Addr) (cs : Int32) (sf : Value) (y0 : Int32) (y1 : Int32) (y2 : Int32) (y3 : Int32) (h0 : Heap) (n0 : Nat) (v : Option Value) (h : Heap) (L : List Loc) : Prop := Fr n0 L ∧ h = h0 ∧ ((v = some (.int 0) ∧ (y0 = 47 ∧ ¬ y1 = 47 ∧ ¬ y2 = 47 ∧ ¬ y3 = 47 ∧ True)) ∨ (v = some (.int 1) ∧ (y1 = 47 ∧ ¬ y2 = 47 ∧ ¬ y3 = 47 ∧ True)) ∨ (v = some (.int 2) ∧ (y2 = 47 ∧ ¬ y3 = 47 ∧ True)) ∨ (v = some (.int 3) ∧ (y3 = 47 ∧ True)) ∨ (v = some (.int (-1)) ∧ (¬ y0 = 47 ∧ ¬ y1 = 47 ∧ ¬ y2 = 47 ∧ ¬ y3 = 47 ∧ True)))
theorem rmL1_4 (l : Launch) (Z : State) (a0 : Array Value) (hw : ∀ d ∈ tables_1, d.before a0 Z = true) (ws : List Jvm.Cond) (a : Addr) (cs : Int32) (sf : Value) (y0 : Int32) (y1 : Int32) (y2 : Int32) (y3 : Int32) (h0 : Heap) (n0 : Nat) (Z0 : n0 ≤ h0.size) (hW : own_W Z h0 n0 cs sf) (hS : own_Str Z h0 a 4 8 [.int (own_b y0), .int (own_b y1), .int (own_b y2), .int (own_b y3)] [.int (own_lo y0), .int (own_hi y0), .int (own_lo y1), .int (own_hi y1), .int (own_lo y2), .int (own_hi y2), .int (own_lo y3), .int (own_hi y3)] (y0.toInt ≤ 255 ∧ y1.toInt ≤ 255 ∧ y2.toInt ≤ 255 ∧ y3.toInt ≤ 255 ∧ True)) (hr0 : 0 ≤ y0.toInt ∧ y0.toInt ≤ 65535) (hr1 : 0 ≤ y1.toInt ∧ y1.toInt ≤ 65535) (hr2 : 0 ≤ y2.toInt ∧ y2.toInt ≤ 65535) (hr3 : 0 ≤ y3.toInt ∧ y3.toInt ≤ 65535) :
    own_Met l on7 (Jvm.Cond.code on7 jdk_42_method_82_code 2 (some .int) :: ws) orm35 #[.ref a, .int 47] Z h0 (QL1_4 Z a cs sf y0 y1 y2 y3 h0 n0) := by
  refine own_met (plainFor_of_name pn0) (fun m => ef_RI2 m a (47 : Int32)) ?_
  intro p e s m below meth c s₁ B hlk hret hml hZ hown hnm X0 e0
  have hx := B.1
  have hby := B.2
  have N0 := Fr.nil n0
  refine w_a X0 B d6_0 rfl rfl (w_i X0 B d6_1 rfl (w_a X0 B d6_2 rfl rfl ?_))
  show Sh s₁ 3 #[vr a, vi 47] [.ref a, .int 47, .ref a]
  refine w_cv X0 B hZ hown hml (rmLn l Z a0 hw [] a cs sf _ _ _ _ _ h0 n0 Z0 hW hS (by decide) (by decide)) (tw hw 37 rfl) (tw hw 38 rfl) (tw hw 40 rfl) (tw hw 39 rfl) (tw hw 9 rfl) (tw hw 41 rfl) e0 hS.1 d6_3 0 2 rfl (lenOf pd17 rfl) rfl rfl rfl (by decide) ?_
  rintro _ T3 Lc3 X3 ⟨rfl, Nq3, hh3⟩
  have N3 := Fr.app N0 Nq3
  refine w_c X3 B d6_6 (Dg.st (fun _ kk => XS.isub X3.here hx rfl (hb hby d6_7) rfl kk) ?_)
  show Sh T3 8 #[vr a, vi 47] [.int 3, .int 47, .ref a]
  refine w_cv X3 B hZ hown hml (rmL2_4 l Z a0 hw [] a cs sf y0 y1 y2 y3 h0 n0 Z0 hW hS hr0 hr1 hr2 hr3) (tw hw 48 rfl) (tw hw 49 rfl) (tw hw 51 rfl) (tw hw 50 rfl) (tw hw 9 rfl) (tw hw 52 rfl) hh3 hS.1 d6_8 2 0 rfl (lenOf pd15 rfl) rfl rfl rfl (by decide) ?_
  rintro _ T8 Lc8 X8 ⟨Nq8, hh8, hq8⟩
  have N8 := Fr.app N3 Nq8
  rcases hq8 with ⟨rfl, gl8⟩ | ⟨rfl, gl8⟩ | ⟨rfl, gl8⟩ | ⟨rfl, gl8⟩ | ⟨rfl, gl8⟩
  · exact Dg.retI X8 hlk B hret rfl (Or.inl rfl) d6_11 (by rw [hh8]; exact ⟨N8, rfl, (Or.inl ⟨rfl, gl8⟩)⟩) (by decide)
  · exact Dg.retI X8 hlk B hret rfl (Or.inl rfl) d6_11 (by rw [hh8]; exact ⟨N8, rfl, (Or.inr (Or.inl ⟨rfl, gl8⟩))⟩) (by decide)
  · exact Dg.retI X8 hlk B hret rfl (Or.inl rfl) d6_11 (by rw [hh8]; exact ⟨N8, rfl, (Or.inr (Or.inr (Or.inl ⟨rfl, gl8⟩)))⟩) (by decide)
  · exact Dg.retI X8 hlk B hret rfl (Or.inl rfl) d6_11 (by rw [hh8]; exact ⟨N8, rfl, (Or.inr (Or.inr (Or.inr (Or.inl ⟨rfl, gl8⟩))))⟩) (by decide)
  · exact Dg.retI X8 hlk B hret rfl (Or.inl rfl) d6_11 (by rw [hh8]; exact ⟨N8, rfl, (Or.inr (Or.inr (Or.inr (Or.inr ⟨rfl, gl8⟩))))⟩) (by decide)

abbrev k17 := jdk_41_method_12_code
theorem d17_0 : Dc k17 0 (.iload_n 0) 1 := by decide +kernel
theorem d17_1 : Dc k17 1 (.ifCond .lt 13) 3 := by decide +kernel
theorem d17_4 : Dc k17 4 (.iload_n 0) 1 := by decide +kernel
theorem d17_5 : Dc k17 5 (.iload_n 1) 1 := by decide +kernel
theorem d17_6 : Dc k17 6 (.if_icmp .gt 8) 3 := by decide +kernel
theorem d17_9 : Dc k17 9 (.iload_n 1) 1 := by decide +kernel
theorem d17_10 : Dc k17 10 (.iload_n 2) 1 := by decide +kernel
theorem d17_11 : Dc k17 11 (.if_icmp .le 11) 3 := by decide +kernel
theorem d17_22 : Dc k17 22 (.iload_n 0) 1 := by decide +kernel
theorem d17_23 : Dc k17 23 (.ireturn) 1 := by decide +kernel
theorem ef_IIIR4 (m : MethodId) (x0 : Int32) (x1 : Int32) (x2 : Int32) (x3 : Addr) : entryFrame m #[.int x0, .int x1, .int x2, .ref x3] 4 = mkF m 0 #[vi x0, vi x1, vi x2, vr x3] [] := by first | (simp [entryFrame, mkF, argsToLocals, Value.category]; done) | rfl
def QFt (Z : State) (ix : Int32) (nx : Int32) (lx : Int32) (fo : Addr) (h0 : Heap) (n0 : Nat) (v : Option Value) (h : Heap) (L : List Loc) : Prop := v = some (.int ix) ∧ Fr n0 L ∧ h = h0
theorem rmFt (l : Launch) (Z : State) (a0 : Array Value) (hw : ∀ d ∈ tables_1, d.before a0 Z = true) (ws : List Jvm.Cond) (ix : Int32) (nx : Int32) (lx : Int32) (fo : Addr) (h0 : Heap) (n0 : Nat) (Z0 : n0 ≤ h0.size) (hx1 : ¬ ix < 0) (hx2 : ¬ nx < ix) (hx3 : ¬ lx < nx) :
    own_Met l on22 (Jvm.Cond.code on22 jdk_41_method_12_code 4 (some .int) :: ws) orm26 #[.int ix, .int nx, .int lx, .ref fo] Z h0 (QFt Z ix nx lx fo h0 n0) := by
  refine own_met (plainFor_of_name pn1) (fun m => ef_IIIR4 m ix nx lx fo) ?_
  intro p e s m below meth c s₁ B hlk hret hml hZ hown hnm X0 e0
  have N0 := Fr.nil n0
  have r_ix := rng32 ix
  have r_nx := rng32 nx
  have r_lx := rng32 lx
  refine w_i X0 B d17_0 rfl ?_
  show Sh s₁ 1 #[vi ix, vi nx, vi lx, vr fo] [.int ix]
  have hc1 : ¬ (ix < (0 : Int32)) := hx1
  refine w_f X0 B d17_1 (flt hc1).1 (w_i X0 B d17_4 rfl (w_i X0 B d17_5 rfl ?_))
  show Sh s₁ 6 #[vi ix, vi nx, vi lx, vr fo] [.int nx, .int ix]
  have hc6 : ¬ (nx < ix) := hx2
  refine w_n X0 B d17_6 (flt hc6).2.2.1 (w_i X0 B d17_9 rfl (w_i X0 B d17_10 rfl ?_))
  show Sh s₁ 11 #[vi ix, vi nx, vi lx, vr fo] [.int lx, .int nx]
  have hc11 : ¬ (lx < nx) := hx3
  refine w_y X0 B 11 22 rfl d17_11 (flt hc11).2.2.2 (by decide) (w_i X0 B d17_22 rfl ?_)
  show Sh s₁ 23 #[vi ix, vi nx, vi lx, vr fo] [.int ix]
  exact Dg.retI X0 hlk B hret rfl (Or.inl rfl) d17_23 (by rw [e0]; exact ⟨rfl, N0, rfl⟩) (by decide)

abbrev k41 := jdk_41_method_13_code
theorem d41_0 : Dc k41 0 (.iload_n 2) 1 := by decide +kernel
theorem d41_1 : Dc k41 1 (.iload_n 0) 1 := by decide +kernel
theorem d41_2 : Dc k41 2 (.ior) 1 := by decide +kernel
theorem d41_3 : Dc k41 3 (.iload_n 1) 1 := by decide +kernel
theorem d41_4 : Dc k41 4 (.ior) 1 := by decide +kernel
theorem d41_5 : Dc k41 5 (.ifCond .lt 10) 3 := by decide +kernel
theorem d41_8 : Dc k41 8 (.iload_n 1) 1 := by decide +kernel
theorem d41_9 : Dc k41 9 (.iload_n 2) 1 := by decide +kernel
theorem d41_10 : Dc k41 10 (.iload_n 0) 1 := by decide +kernel
theorem d41_11 : Dc k41 11 (.isub) 1 := by decide +kernel
theorem d41_12 : Dc k41 12 (.if_icmp .le 11) 3 := by decide +kernel
theorem d41_23 : Dc k41 23 (.iload_n 0) 1 := by decide +kernel
theorem d41_24 : Dc k41 24 (.ireturn) 1 := by decide +kernel
def QFs (Z : State) (ix : Int32) (nx : Int32) (lx : Int32) (fo : Addr) (h0 : Heap) (n0 : Nat) (v : Option Value) (h : Heap) (L : List Loc) : Prop := v = some (.int ix) ∧ Fr n0 L ∧ h = h0
theorem rmFs (l : Launch) (Z : State) (a0 : Array Value) (hw : ∀ d ∈ tables_1, d.before a0 Z = true) (ws : List Jvm.Cond) (ix : Int32) (nx : Int32) (lx : Int32) (fo : Addr) (h0 : Heap) (n0 : Nat) (Z0 : n0 ≤ h0.size) (hx1 : ¬ ((lx ||| ix) ||| nx) < 0) (hx2 : ¬ (lx - ix) < nx) :
    own_Met l on21 (Jvm.Cond.code on21 jdk_41_method_13_code 4 (some .int) :: ws) orm26 #[.int ix, .int nx, .int lx, .ref fo] Z h0 (QFs Z ix nx lx fo h0 n0) := by
  refine own_met (plainFor_of_name pn1) (fun m => ef_IIIR4 m ix nx lx fo) ?_
  intro p e s m below meth c s₁ B hlk hret hml hZ hown hnm X0 e0
  have hx := B.1
  have hby := B.2
  have N0 := Fr.nil n0
  refine w_i X0 B d41_0 rfl (w_i X0 B d41_1 rfl (Dg.st (fun _ kk => XS.ior X0.here hx rfl (hb hby d41_2) rfl kk) (w_i X0 B d41_3 rfl (Dg.st (fun _ kk => XS.ior X0.here hx rfl (hb hby d41_4) rfl kk) ?_))))
  show Sh s₁ 5 #[vi ix, vi nx, vi lx, vr fo] [(.int ((lx ||| ix) ||| nx))]
  have hc5 : ¬ (((lx ||| ix) ||| nx) < (0 : Int32)) := hx1
  refine w_f X0 B d41_5 (flt hc5).1 (w_i X0 B d41_8 rfl (w_i X0 B d41_9 rfl (w_i X0 B d41_10 rfl (Dg.st (fun _ kk => XS.isub X0.here hx rfl (hb hby d41_11) rfl kk) ?_))))
  show Sh s₁ 12 #[vi ix, vi nx, vi lx, vr fo] [.int (lx - ix), .int nx]
  have hc12 : ¬ ((lx - ix) < nx) := hx2
  refine w_y X0 B 12 23 rfl d41_12 (flt hc12).2.2.2 (by decide) (w_i X0 B d41_23 rfl ?_)
  show Sh s₁ 24 #[vi ix, vi nx, vi lx, vr fo] [.int ix]
  exact Dg.retI X0 hlk B hret rfl (Or.inl rfl) d41_24 (by rw [e0]; exact ⟨rfl, N0, rfl⟩) (by decide)

theorem ef_IIIN4 (m : MethodId) (x0 : Int32) (x1 : Int32) (x2 : Int32) : entryFrame m #[.int x0, .int x1, .int x2, .null] 4 = mkF m 0 #[vi x0, vi x1, vi x2, .val .null] [] := by first | (simp [entryFrame, mkF, argsToLocals, Value.category]; done) | rfl
def QFtN (Z : State) (ix : Int32) (nx : Int32) (lx : Int32) (h0 : Heap) (n0 : Nat) (v : Option Value) (h : Heap) (L : List Loc) : Prop := v = some (.int ix) ∧ Fr n0 L ∧ h = h0
theorem rmFtN (l : Launch) (Z : State) (a0 : Array Value) (hw : ∀ d ∈ tables_1, d.before a0 Z = true) (ws : List Jvm.Cond) (ix : Int32) (nx : Int32) (lx : Int32) (h0 : Heap) (n0 : Nat) (Z0 : n0 ≤ h0.size) (hx1 : ¬ ix < 0) (hx2 : ¬ nx < ix) (hx3 : ¬ lx < nx) :
    own_Met l on22 (Jvm.Cond.code on22 jdk_41_method_12_code 4 (some .int) :: ws) orm26 #[.int ix, .int nx, .int lx, .null] Z h0 (QFtN Z ix nx lx h0 n0) := by
  refine own_met (plainFor_of_name pn1) (fun m => ef_IIIN4 m ix nx lx) ?_
  intro p e s m below meth c s₁ B hlk hret hml hZ hown hnm X0 e0
  have N0 := Fr.nil n0
  have r_ix := rng32 ix
  have r_nx := rng32 nx
  have r_lx := rng32 lx
  refine w_i X0 B d17_0 rfl ?_
  show Sh s₁ 1 #[vi ix, vi nx, vi lx, .val .null] [.int ix]
  have hc1 : ¬ (ix < (0 : Int32)) := hx1
  refine w_f X0 B d17_1 (flt hc1).1 (w_i X0 B d17_4 rfl (w_i X0 B d17_5 rfl ?_))
  show Sh s₁ 6 #[vi ix, vi nx, vi lx, .val .null] [.int nx, .int ix]
  have hc6 : ¬ (nx < ix) := hx2
  refine w_n X0 B d17_6 (flt hc6).2.2.1 (w_i X0 B d17_9 rfl (w_i X0 B d17_10 rfl ?_))
  show Sh s₁ 11 #[vi ix, vi nx, vi lx, .val .null] [.int lx, .int nx]
  have hc11 : ¬ (lx < nx) := hx3
  refine w_y X0 B 11 22 rfl d17_11 (flt hc11).2.2.2 (by decide) (w_i X0 B d17_22 rfl ?_)
  show Sh s₁ 23 #[vi ix, vi nx, vi lx, .val .null] [.int ix]
  exact Dg.retI X0 hlk B hret rfl (Or.inl rfl) d17_23 (by rw [e0]; exact ⟨rfl, N0, rfl⟩) (by decide)

def QFsN (Z : State) (ix : Int32) (nx : Int32) (lx : Int32) (h0 : Heap) (n0 : Nat) (v : Option Value) (h : Heap) (L : List Loc) : Prop := v = some (.int ix) ∧ Fr n0 L ∧ h = h0
theorem rmFsN (l : Launch) (Z : State) (a0 : Array Value) (hw : ∀ d ∈ tables_1, d.before a0 Z = true) (ws : List Jvm.Cond) (ix : Int32) (nx : Int32) (lx : Int32) (h0 : Heap) (n0 : Nat) (Z0 : n0 ≤ h0.size) (hx1 : ¬ ((lx ||| ix) ||| nx) < 0) (hx2 : ¬ (lx - ix) < nx) :
    own_Met l on21 (Jvm.Cond.code on21 jdk_41_method_13_code 4 (some .int) :: ws) orm26 #[.int ix, .int nx, .int lx, .null] Z h0 (QFsN Z ix nx lx h0 n0) := by
  refine own_met (plainFor_of_name pn1) (fun m => ef_IIIN4 m ix nx lx) ?_
  intro p e s m below meth c s₁ B hlk hret hml hZ hown hnm X0 e0
  have hx := B.1
  have hby := B.2
  have N0 := Fr.nil n0
  refine w_i X0 B d41_0 rfl (w_i X0 B d41_1 rfl (Dg.st (fun _ kk => XS.ior X0.here hx rfl (hb hby d41_2) rfl kk) (w_i X0 B d41_3 rfl (Dg.st (fun _ kk => XS.ior X0.here hx rfl (hb hby d41_4) rfl kk) ?_))))
  show Sh s₁ 5 #[vi ix, vi nx, vi lx, .val .null] [(.int ((lx ||| ix) ||| nx))]
  have hc5 : ¬ (((lx ||| ix) ||| nx) < (0 : Int32)) := hx1
  refine w_f X0 B d41_5 (flt hc5).1 (w_i X0 B d41_8 rfl (w_i X0 B d41_9 rfl (w_i X0 B d41_10 rfl (Dg.st (fun _ kk => XS.isub X0.here hx rfl (hb hby d41_11) rfl kk) ?_))))
  show Sh s₁ 12 #[vi ix, vi nx, vi lx, .val .null] [.int (lx - ix), .int nx]
  have hc12 : ¬ ((lx - ix) < nx) := hx2
  refine w_y X0 B 12 23 rfl d41_12 (flt hc12).2.2.2 (by decide) (w_i X0 B d41_23 rfl ?_)
  show Sh s₁ 24 #[vi ix, vi nx, vi lx, .val .null] [.int ix]
  exact Dg.retI X0 hlk B hret rfl (Or.inl rfl) d41_24 (by rw [e0]; exact ⟨rfl, N0, rfl⟩) (by decide)

abbrev k16 := jdk_42_method_158_code
theorem d16_0 : Dc k16 0 (.iload_n 0) 1 := by decide +kernel
theorem d16_1 : Dc k16 1 (.iload_n 1) 1 := by decide +kernel
theorem d16_2 : Dc k16 2 (.iload_n 2) 1 := by decide +kernel
theorem d16_3 : Dc k16 3 (.getstatic 1053) 3 := by decide +kernel
theorem d16_6 : Dc k16 6 (.invokestatic 1062) 3 := by decide +kernel
theorem d16_9 : Dc k16 9 (.pop) 1 := by decide +kernel
theorem d16_10 : Dc k16 10 (.return_) 1 := by decide +kernel
theorem pd18 : parseMethodDescriptor "(IIILjava/util/function/BiFunction;)I" = some ⟨[.int, .int, .int, (.object "java/util/function/BiFunction")], some .int⟩ := by decide +kernel
theorem ef_III3 (m : MethodId) (x0 : Int32) (x1 : Int32) (x2 : Int32) : entryFrame m #[.int x0, .int x1, .int x2] 3 = mkF m 0 #[vi x0, vi x1, vi x2] [] := by first | (simp [entryFrame, mkF, argsToLocals, Value.category]; done) | rfl
def QBe (Z : State) (ix : Int32) (nx : Int32) (lx : Int32) (cs : Int32) (sf : Value) (h0 : Heap) (n0 : Nat) (v : Option Value) (h : Heap) (L : List Loc) : Prop := v = none ∧ Fr n0 L ∧ h = h0
theorem rmBe (l : Launch) (Z : State) (a0 : Array Value) (hw : ∀ d ∈ tables_1, d.before a0 Z = true) (ws : List Jvm.Cond) (ix : Int32) (nx : Int32) (lx : Int32) (cs : Int32) (sf : Value) (h0 : Heap) (n0 : Nat) (Z0 : n0 ≤ h0.size) (hW : own_W Z h0 n0 cs sf) (hx1 : ¬ ix < 0) (hx2 : ¬ nx < ix) (hx3 : ¬ lx < nx) :
    own_Met l (⟨"java/lang/String", "checkBoundsBeginEnd", "(III)V"⟩ : MethodName) (Jvm.Cond.code (⟨"java/lang/String", "checkBoundsBeginEnd", "(III)V"⟩ : MethodName) jdk_42_method_158_code 3 none :: ws) ({ frames := 1, cells := 0, slots := 0, locals := 18 } : Room) #[.int ix, .int nx, .int lx] Z h0 (QBe Z ix nx lx cs sf h0 n0) := by
  refine own_met (plainFor_of_name pn0) (fun m => ef_III3 m ix nx lx) ?_
  intro p e s m below meth c s₁ B hlk hret hml hZ hown hnm X0 e0
  have hx := B.1
  have hby := B.2
  have N0 := Fr.nil n0
  have r_ix := rng32 ix
  have r_nx := rng32 nx
  have r_lx := rng32 lx
  rcases ref_cases hW.isr with rfl | ⟨fo, rfl⟩
  · refine w_i X0 B d16_0 rfl (w_i X0 B d16_1 rfl (w_i X0 B d16_2 rfl ?_))
    show Sh s₁ 3 #[vi ix, vi nx, vi lx] [.int lx, .int nx, .int ix]
    refine w_gs X0 B hZ hown (tw hw 82 rfl) Via.refl e0 hW.sft d16_3 ?_
    intro T3 X3 e3
    refine w_cs X3 B hZ hown hml (rmFtN l Z a0 hw [] ix nx lx  h0 n0 Z0 hx1 hx2 hx3) (tw hw 84 rfl) (tw hw 85 rfl) (tw hw 83 rfl) (tw hw 86 rfl) e3 d16_6 4 0 (lenOf pd18 rfl) rfl rfl rfl (by decide) ?_
    rintro _ T6 Lc6 X6 ⟨rfl, Nq6, hh6⟩
    have N6 := Fr.app N0 Nq6
    refine Dg.st (fun _ kk => XS.pop X6.here hx rfl (hb hby d16_9) rfl rfl kk) ?_
    show Sh T6 10 #[vi ix, vi nx, vi lx] []
    exact Dg.ret0 X6 hlk hx hret (hb hby d16_10) (by rw [hh6]; exact ⟨rfl, N6, rfl⟩) (by decide) (by decide)
  · refine w_i X0 B d16_0 rfl (w_i X0 B d16_1 rfl (w_i X0 B d16_2 rfl ?_))
    show Sh s₁ 3 #[vi ix, vi nx, vi lx] [.int lx, .int nx, .int ix]
    refine w_gs X0 B hZ hown (tw hw 82 rfl) Via.refl e0 hW.sft d16_3 ?_
    intro T3 X3 e3
    refine w_cs X3 B hZ hown hml (rmFt l Z a0 hw [] ix nx lx fo  h0 n0 Z0 hx1 hx2 hx3) (tw hw 84 rfl) (tw hw 85 rfl) (tw hw 83 rfl) (tw hw 86 rfl) e3 d16_6 4 0 (lenOf pd18 rfl) rfl rfl rfl (by decide) ?_
    rintro _ T6 Lc6 X6 ⟨rfl, Nq6, hh6⟩
    have N6 := Fr.app N0 Nq6
    refine Dg.st (fun _ kk => XS.pop X6.here hx rfl (hb hby d16_9) rfl rfl kk) ?_
    show Sh T6 10 #[vi ix, vi nx, vi lx] []
    exact Dg.ret0 X6 hlk hx hret (hb hby d16_10) (by rw [hh6]; exact ⟨rfl, N6, rfl⟩) (by decide) (by decide)

abbrev k40 := jdk_42_method_157_code
theorem d40_0 : Dc k40 0 (.iload_n 0) 1 := by decide +kernel
theorem d40_1 : Dc k40 1 (.iload_n 1) 1 := by decide +kernel
theorem d40_2 : Dc k40 2 (.iload_n 2) 1 := by decide +kernel
theorem d40_3 : Dc k40 3 (.getstatic 1053) 3 := by decide +kernel
theorem d40_6 : Dc k40 6 (.invokestatic 1065) 3 := by decide +kernel
theorem d40_9 : Dc k40 9 (.ireturn) 1 := by decide +kernel
def QBo (Z : State) (ix : Int32) (nx : Int32) (lx : Int32) (cs : Int32) (sf : Value) (h0 : Heap) (n0 : Nat) (v : Option Value) (h : Heap) (L : List Loc) : Prop := v = some (.int ix) ∧ Fr n0 L ∧ h = h0
theorem rmBo (l : Launch) (Z : State) (a0 : Array Value) (hw : ∀ d ∈ tables_1, d.before a0 Z = true) (ws : List Jvm.Cond) (ix : Int32) (nx : Int32) (lx : Int32) (cs : Int32) (sf : Value) (h0 : Heap) (n0 : Nat) (Z0 : n0 ≤ h0.size) (hW : own_W Z h0 n0 cs sf) (hx1 : ¬ ((lx ||| ix) ||| nx) < 0) (hx2 : ¬ (lx - ix) < nx) :
    own_Met l (⟨"java/lang/String", "checkBoundsOffCount", "(III)I"⟩ : MethodName) (Jvm.Cond.code (⟨"java/lang/String", "checkBoundsOffCount", "(III)I"⟩ : MethodName) jdk_42_method_157_code 3 (some .int) :: ws) ({ frames := 1, cells := 0, slots := 0, locals := 18 } : Room) #[.int ix, .int nx, .int lx] Z h0 (QBo Z ix nx lx cs sf h0 n0) := by
  refine own_met (plainFor_of_name pn0) (fun m => ef_III3 m ix nx lx) ?_
  intro p e s m below meth c s₁ B hlk hret hml hZ hown hnm X0 e0
  have N0 := Fr.nil n0
  have r_ix := rng32 ix
  have r_nx := rng32 nx
  have r_lx := rng32 lx
  rcases ref_cases hW.isr with rfl | ⟨fo, rfl⟩
  · refine w_i X0 B d40_0 rfl (w_i X0 B d40_1 rfl (w_i X0 B d40_2 rfl ?_))
    show Sh s₁ 3 #[vi ix, vi nx, vi lx] [.int lx, .int nx, .int ix]
    refine w_gs X0 B hZ hown (tw hw 82 rfl) Via.refl e0 hW.sft d40_3 ?_
    intro T3 X3 e3
    refine w_cs X3 B hZ hown hml (rmFsN l Z a0 hw [] ix nx lx  h0 n0 Z0 hx1 hx2) (tw hw 170 rfl) (tw hw 171 rfl) (tw hw 83 rfl) (tw hw 172 rfl) e3 d40_6 4 0 (lenOf pd18 rfl) rfl rfl rfl (by decide) ?_
    rintro _ T6 Lc6 X6 ⟨rfl, Nq6, hh6⟩
    have N6 := Fr.app N0 Nq6
    exact Dg.retI X6 hlk B hret rfl (Or.inl rfl) d40_9 (by rw [hh6]; exact ⟨rfl, N6, rfl⟩) (by decide)
  · refine w_i X0 B d40_0 rfl (w_i X0 B d40_1 rfl (w_i X0 B d40_2 rfl ?_))
    show Sh s₁ 3 #[vi ix, vi nx, vi lx] [.int lx, .int nx, .int ix]
    refine w_gs X0 B hZ hown (tw hw 82 rfl) Via.refl e0 hW.sft d40_3 ?_
    intro T3 X3 e3
    refine w_cs X3 B hZ hown hml (rmFs l Z a0 hw [] ix nx lx fo  h0 n0 Z0 hx1 hx2) (tw hw 170 rfl) (tw hw 171 rfl) (tw hw 83 rfl) (tw hw 172 rfl) e3 d40_6 4 0 (lenOf pd18 rfl) rfl rfl rfl (by decide) ?_
    rintro _ T6 Lc6 X6 ⟨rfl, Nq6, hh6⟩
    have N6 := Fr.app N0 Nq6
    exact Dg.retI X6 hlk B hret rfl (Or.inl rfl) d40_9 (by rw [hh6]; exact ⟨rfl, N6, rfl⟩) (by decide)

abbrev k39 := jdk_52_method_94_code
theorem d39_0 : Dc k39 0 (.iload_n 0) 1 := by decide +kernel
theorem d39_1 : Dc k39 1 (.iload_n 1) 1 := by decide +kernel
theorem d39_2 : Dc k39 2 (.aload_n 2) 1 := by decide +kernel
theorem d39_3 : Dc k39 3 (.invokestatic 48) 3 := by decide +kernel
theorem d39_6 : Dc k39 6 (.invokestatic 419) 3 := by decide +kernel
theorem d39_9 : Dc k39 9 (.pop) 1 := by decide +kernel
theorem d39_10 : Dc k39 10 (.return_) 1 := by decide +kernel
theorem pd19 : parseMethodDescriptor "(III)I" = some ⟨[.int, .int, .int], some .int⟩ := by decide +kernel
def QUo (Z : State) (ix : Int32) (nx : Int32) (b : Addr) (cs : Int32) (sf : Value) (kb : ClassId) (mm : Int32) (ls : List Value) (h0 : Heap) (n0 : Nat) (v : Option Value) (h : Heap) (L : List Loc) : Prop := v = none ∧ Fr n0 L ∧ h = h0
theorem rmUo (l : Launch) (Z : State) (a0 : Array Value) (hw : ∀ d ∈ tables_1, d.before a0 Z = true) (ws : List Jvm.Cond) (ix : Int32) (nx : Int32) (b : Addr) (cs : Int32) (sf : Value) (kb : ClassId) (mm : Int32) (ls : List Value) (h0 : Heap) (n0 : Nat) (Z0 : n0 ≤ h0.size) (hW : own_W Z h0 n0 cs sf) (Vb : Arv Z h0 b kb .byte mm ls (.int 0)) (hx1 : ¬ (((mm >>> ((1 : Int32) &&& 31)) ||| ix) ||| nx) < 0) (hx2 : ¬ ((mm >>> ((1 : Int32) &&& 31)) - ix) < nx) :
    own_Met l (⟨"java/lang/StringUTF16", "checkBoundsOffCount", "(II[B)V"⟩ : MethodName) (Jvm.Cond.code (⟨"java/lang/StringUTF16", "checkBoundsOffCount", "(II[B)V"⟩ : MethodName) jdk_52_method_94_code 3 none :: ws) ({ frames := 2, cells := 0, slots := 0, locals := 35 } : Room) #[.int ix, .int nx, .ref b] Z h0 (QUo Z ix nx b cs sf kb mm ls h0 n0) := by
  refine own_met (plainFor_of_name pn2) (fun m => ef_IIR3 m ix nx b) ?_
  intro p e s m below meth c s₁ B hlk hret hml hZ hown hnm X0 e0
  have hx := B.1
  have hby := B.2
  have N0 := Fr.nil n0
  refine w_i X0 B d39_0 rfl (w_i X0 B d39_1 rfl (w_a X0 B d39_2 rfl rfl ?_))
  show Sh s₁ 3 #[vi ix, vi nx, vr b] [.ref b, .int nx, .int ix]
  refine w_cs X0 B hZ hown hml (rmUl l Z a0 hw [] b kb mm ls h0 n0 Z0 Vb) (tw hw 144 rfl) (tw hw 145 rfl) (tw hw 93 rfl) (tw hw 146 rfl) e0 d39_3 1 2 (lenOf pd3 rfl) rfl rfl rfl (by decide) ?_
  rintro _ T3 Lc3 X3 ⟨rfl, Nq3, hh3⟩
  have N3 := Fr.app N0 Nq3
  refine w_cs X3 B hZ hown hml (rmBo l Z a0 hw [] ix nx (mm >>> ((1 : Int32) &&& 31)) cs sf  h0 n0 Z0 hW hx1 hx2) (tw hw 167 rfl) (tw hw 168 rfl) (tw hw 9 rfl) (tw hw 169 rfl) hh3 d39_6 3 0 (lenOf pd19 rfl) rfl rfl rfl (by decide) ?_
  rintro _ T6 Lc6 X6 ⟨rfl, Nq6, hh6⟩
  have N6 := Fr.app N3 Nq6
  refine Dg.st (fun _ kk => XS.pop X6.here hx rfl (hb hby d39_9) rfl rfl kk) ?_
  show Sh T6 10 #[vi ix, vi nx, vr b] []
  exact Dg.ret0 X6 hlk hx hret (hb hby d39_10) (by rw [hh6]; exact ⟨rfl, N6, rfl⟩) (by decide) (by decide)

abbrev k15 := jdk_42_method_92_code
theorem d15_0 : Dc k15 0 (.aload_n 0) 1 := by decide +kernel
theorem d15_1 : Dc k15 1 (.invokevirtual 505) 3 := by decide +kernel
theorem d15_4 : Dc k15 4 (.istore_n 3) 1 := by decide +kernel
theorem d15_5 : Dc k15 5 (.iload_n 1) 1 := by decide +kernel
theorem d15_6 : Dc k15 6 (.iload_n 2) 1 := by decide +kernel
theorem d15_7 : Dc k15 7 (.iload_n 3) 1 := by decide +kernel
theorem d15_8 : Dc k15 8 (.invokestatic 521) 3 := by decide +kernel
theorem d15_11 : Dc k15 11 (.iload_n 1) 1 := by decide +kernel
theorem d15_12 : Dc k15 12 (.ifCond .ne 10) 3 := by decide +kernel
theorem d15_15 : Dc k15 15 (.iload_n 2) 1 := by decide +kernel
theorem d15_16 : Dc k15 16 (.iload_n 3) 1 := by decide +kernel
theorem d15_17 : Dc k15 17 (.if_icmp .ne 5) 3 := by decide +kernel
theorem d15_20 : Dc k15 20 (.aload_n 0) 1 := by decide +kernel
theorem d15_21 : Dc k15 21 (.areturn) 1 := by decide +kernel
theorem pd20 : parseMethodDescriptor "(III)V" = some ⟨[.int, .int, .int], none⟩ := by decide +kernel
def QS20 (Z : State) (a : Addr) (nn : Int32) (cs : Int32) (sf : Value) (mm : Int32) (ls lu : List Value) (PQ : Prop) (h0 : Heap) (n0 : Nat) (v : Option Value) (h : Heap) (L : List Loc) : Prop := v = some (.ref a) ∧ Fr n0 L ∧ h = h0
theorem rmS20 (l : Launch) (Z : State) (a0 : Array Value) (hw : ∀ d ∈ tables_1, d.before a0 Z = true) (ws : List Jvm.Cond) (a : Addr) (nn : Int32) (cs : Int32) (sf : Value) (mm : Int32) (ls lu : List Value) (PQ : Prop) (h0 : Heap) (n0 : Nat) (Z0 : n0 ≤ h0.size) (hW : own_W Z h0 n0 cs sf) (hS : own_Str Z h0 a nn mm ls lu PQ) (hs0 : nn >>> ((0 : Int32) &&& 31) = nn) (hs1 : mm >>> ((1 : Int32) &&& 31) = nn) (hn0 : ¬ nn < 0) :
    own_Met l on2 (Jvm.Cond.code on2 jdk_42_method_92_code 5 (some (.object "java/lang/String")) :: ws) ({ frames := 2, cells := 0, slots := 0, locals := 35 } : Room) #[.ref a, .int 0, .int nn] Z h0 (QS20 Z a nn cs sf mm ls lu PQ h0 n0) := by
  refine own_met (plainFor_of_name pn0) (fun m => ef_RII5 m a (0 : Int32) nn) ?_
  intro p e s m below meth c s₁ B hlk hret hml hZ hown hnm X0 e0
  have N0 := Fr.nil n0
  refine w_a X0 B d15_0 rfl rfl ?_
  show Sh s₁ 1 #[vr a, vi 0, vi nn, .unset, .unset] [.ref a]
  refine w_cv X0 B hZ hown hml (rmLn l Z a0 hw [] a cs sf _ _ _ _ _ h0 n0 Z0 hW hS hs0 hs1) (tw hw 37 rfl) (tw hw 38 rfl) (tw hw 40 rfl) (tw hw 39 rfl) (tw hw 9 rfl) (tw hw 41 rfl) e0 hS.1 d15_1 0 0 rfl (lenOf pd17 rfl) rfl rfl rfl (by decide) ?_
  rintro _ T1 Lc1 X1 ⟨rfl, Nq1, hh1⟩
  have N1 := Fr.app N0 Nq1
  refine w_S X1 B d15_4 #[vr a, vi 0, vi nn, vi nn, .unset] rfl (w_i X1 B d15_5 rfl (w_i X1 B d15_6 rfl (w_i X1 B d15_7 rfl ?_)))
  show Sh T1 8 #[vr a, vi 0, vi nn, vi nn, .unset] [.int nn, .int nn, .int 0]
  refine w_cs X1 B hZ hown hml (rmBe l Z a0 hw [] (0 : Int32) nn nn cs sf  h0 n0 Z0 hW (by decide) hn0 (fun q => absurd q (by simp))) (tw hw 79 rfl) (tw hw 80 rfl) (tw hw 9 rfl) (tw hw 81 rfl) hh1 d15_8 3 0 (lenOf pd20 rfl) rfl rfl rfl (by decide) ?_
  rintro _ T8 Lc8 X8 ⟨rfl, Nq8, hh8⟩
  have N8 := Fr.app N1 Nq8
  refine w_i X8 B d15_11 rfl (w_f X8 B d15_12 (teq (by decide)).2 (w_i X8 B d15_15 rfl (w_i X8 B d15_16 rfl ?_)))
  show Sh T8 17 #[vr a, vi 0, vi nn, vi nn, .unset] [.int nn, .int nn]
  have hc17 : nn = nn := rfl
  refine w_n X8 B d15_17 (teq hc17).2 (w_a X8 B d15_20 rfl rfl ?_)
  show Sh T8 21 #[vr a, vi 0, vi nn, vi nn, .unset] [.ref a]
  exact Dg.retA X8 hlk B hret rfl ⟨rfl, rfl⟩ d15_21 (by rw [hh8]; exact ⟨rfl, N8, rfl⟩) (by decide)

abbrev k14 := jdk_42_method_91_code
theorem d14_0 : Dc k14 0 (.aload_n 0) 1 := by decide +kernel
theorem d14_1 : Dc k14 1 (.iload_n 1) 1 := by decide +kernel
theorem d14_2 : Dc k14 2 (.aload_n 0) 1 := by decide +kernel
theorem d14_3 : Dc k14 3 (.invokevirtual 505) 3 := by decide +kernel
theorem d14_6 : Dc k14 6 (.invokevirtual 681) 3 := by decide +kernel
theorem d14_9 : Dc k14 9 (.areturn) 1 := by decide +kernel
theorem pd21 : parseMethodDescriptor "(II)Ljava/lang/String;" = some ⟨[.int, .int], some (.object "java/lang/String")⟩ := by decide +kernel
def QS10 (Z : State) (a : Addr) (cs : Int32) (sf : Value) (nn mm : Int32) (ls lu : List Value) (PQ : Prop) (h0 : Heap) (n0 : Nat) (v : Option Value) (h : Heap) (L : List Loc) : Prop := v = some (.ref a) ∧ Fr n0 L ∧ h = h0
theorem rmS10 (l : Launch) (Z : State) (a0 : Array Value) (hw : ∀ d ∈ tables_1, d.before a0 Z = true) (ws : List Jvm.Cond) (a : Addr) (cs : Int32) (sf : Value) (nn mm : Int32) (ls lu : List Value) (PQ : Prop) (h0 : Heap) (n0 : Nat) (Z0 : n0 ≤ h0.size) (hW : own_W Z h0 n0 cs sf) (hS : own_Str Z h0 a nn mm ls lu PQ) (hs0 : nn >>> ((0 : Int32) &&& 31) = nn) (hs1 : mm >>> ((1 : Int32) &&& 31) = nn) (hn0 : ¬ nn < 0) :
    own_Met l on1 (Jvm.Cond.code on1 jdk_42_method_91_code 2 (some (.object "java/lang/String")) :: ws) ({ frames := 3, cells := 0, slots := 0, locals := 54 } : Room) #[.ref a, .int 0] Z h0 (QS10 Z a cs sf nn mm ls lu PQ h0 n0) := by
  refine own_met (plainFor_of_name pn0) (fun m => ef_RI2 m a (0 : Int32)) ?_
  intro p e s m below meth c s₁ B hlk hret hml hZ hown hnm X0 e0
  have N0 := Fr.nil n0
  refine w_a X0 B d14_0 rfl rfl (w_i X0 B d14_1 rfl (w_a X0 B d14_2 rfl rfl ?_))
  show Sh s₁ 3 #[vr a, vi 0] [.ref a, .int 0, .ref a]
  refine w_cv X0 B hZ hown hml (rmLn l Z a0 hw [] a cs sf _ _ _ _ _ h0 n0 Z0 hW hS hs0 hs1) (tw hw 37 rfl) (tw hw 38 rfl) (tw hw 40 rfl) (tw hw 39 rfl) (tw hw 9 rfl) (tw hw 41 rfl) e0 hS.1 d14_3 0 2 rfl (lenOf pd17 rfl) rfl rfl rfl (by decide) ?_
  rintro _ T3 Lc3 X3 ⟨rfl, Nq3, hh3⟩
  have N3 := Fr.app N0 Nq3
  refine w_cv X3 B hZ hown hml (rmS20 l Z a0 hw [] a nn cs sf _ _ _ _ h0 n0 Z0 hW hS hs0 hs1 hn0) (tw hw 74 rfl) (tw hw 75 rfl) (tw hw 77 rfl) (tw hw 76 rfl) (tw hw 9 rfl) (tw hw 78 rfl) hh3 hS.1 d14_6 2 0 rfl (lenOf pd21 rfl) rfl rfl rfl (by decide) ?_
  rintro _ T6 Lc6 X6 ⟨rfl, Nq6, hh6⟩
  have N6 := Fr.app N3 Nq6
  exact Dg.retA X6 hlk B hret rfl ⟨rfl, rfl⟩ d14_9 (by rw [hh6]; exact ⟨rfl, N6, rfl⟩) (by decide)

abbrev k44 := jdk_65_method_131_code
theorem d44_0 : Dc k44 0 (.iload_n 1) 1 := by decide +kernel
theorem d44_1 : Dc k44 1 (.iload_n 0) 1 := by decide +kernel
theorem d44_2 : Dc k44 2 (.if_icmp .ge 35) 3 := by decide +kernel
theorem d44_37 : Dc k44 37 (.return_) 1 := by decide +kernel
theorem pn4 : plainName "java/util/Arrays" = true := by first | (simp [plainName, overriddenIn]; done) | decide +kernel
def QCk (Z : State) (ix : Int32) (nx : Int32) (h0 : Heap) (n0 : Nat) (v : Option Value) (h : Heap) (L : List Loc) : Prop := v = none ∧ Fr n0 L ∧ h = h0
theorem rmCk (l : Launch) (Z : State) (a0 : Array Value) (hw : ∀ d ∈ tables_1, d.before a0 Z = true) (ws : List Jvm.Cond) (ix : Int32) (nx : Int32) (h0 : Heap) (n0 : Nat) (Z0 : n0 ≤ h0.size) (hck : ¬ nx < ix) :
    own_Met l (⟨"java/util/Arrays", "checkLength", "(II)V"⟩ : MethodName) (Jvm.Cond.code (⟨"java/util/Arrays", "checkLength", "(II)V"⟩ : MethodName) jdk_65_method_131_code 2 none :: ws) orm26 #[.int ix, .int nx] Z h0 (QCk Z ix nx h0 n0) := by
  refine own_met (plainFor_of_name pn4) (fun m => ef_II2 m ix nx) ?_
  intro p e s m below meth c s₁ B hlk hret hml hZ hown hnm X0 e0
  have hx := B.1
  have hby := B.2
  have N0 := Fr.nil n0
  have r_ix := rng32 ix
  have r_nx := rng32 nx
  refine w_i X0 B d44_0 rfl (w_i X0 B d44_1 rfl ?_)
  show Sh s₁ 2 #[vi ix, vi nx] [.int ix, .int nx]
  have hc2 : ¬ (nx < ix) := hck
  refine w_y X0 B 2 37 rfl d44_2 (flt hc2).2.1 (by decide) ?_
  show Sh s₁ 37 #[vi ix, vi nx] []
  exact Dg.ret0 X0 hlk hx hret (hb hby d44_37) (by rw [e0]; exact ⟨rfl, N0, rfl⟩) (by decide) (by decide)

abbrev k43 := jdk_65_method_133_code
theorem d43_0 : Dc k43 0 (.iload_n 1) 1 := by decide +kernel
theorem d43_1 : Dc k43 1 (.iload_n 2) 1 := by decide +kernel
theorem d43_2 : Dc k43 2 (.invokestatic 343) 3 := by decide +kernel
theorem d43_5 : Dc k43 5 (.iload_n 2) 1 := by decide +kernel
theorem d43_6 : Dc k43 6 (.iload_n 1) 1 := by decide +kernel
theorem d43_7 : Dc k43 7 (.isub) 1 := by decide +kernel
theorem d43_8 : Dc k43 8 (.istore_n 3) 1 := by decide +kernel
theorem d43_9 : Dc k43 9 (.iload_n 3) 1 := by decide +kernel
theorem d43_10 : Dc k43 10 (.newarray .byte) 2 := by decide +kernel
theorem d43_12 : Dc k43 12 (.astore 4) 2 := by decide +kernel
theorem d43_14 : Dc k43 14 (.aload_n 0) 1 := by decide +kernel
theorem d43_15 : Dc k43 15 (.iload_n 1) 1 := by decide +kernel
theorem d43_16 : Dc k43 16 (.aload 4) 2 := by decide +kernel
theorem d43_18 : Dc k43 18 (.iconst 0) 1 := by decide +kernel
theorem d43_19 : Dc k43 19 (.aload_n 0) 1 := by decide +kernel
theorem d43_20 : Dc k43 20 (.arraylength) 1 := by decide +kernel
theorem d43_21 : Dc k43 21 (.iload_n 1) 1 := by decide +kernel
theorem d43_22 : Dc k43 22 (.isub) 1 := by decide +kernel
theorem d43_23 : Dc k43 23 (.iload_n 3) 1 := by decide +kernel
theorem d43_24 : Dc k43 24 (.invokestatic 304) 3 := by decide +kernel
theorem d43_27 : Dc k43 27 (.invokestatic 150) 3 := by decide +kernel
theorem d43_30 : Dc k43 30 (.aload 4) 2 := by decide +kernel
theorem d43_32 : Dc k43 32 (.areturn) 1 := by decide +kernel
def QCb (Z : State) (b : Addr) (fr : Int32) (mm : Int32) (kb : ClassId) (ls : List Value) (nn : Int32) (h0 : Heap) (n0 : Nat) (v : Option Value) (h : Heap) (L : List Loc) : Prop := ∃ (b' : Addr) (kb' : ClassId), v = some (.ref b') ∧ h0.size ≤ b' ∧ Fr n0 L ∧ Keep h0 h [] ∧ Arv Z h b' kb' .byte nn (own_sl ls fr nn) (.int 0)
theorem rmCb (l : Launch) (Z : State) (a0 : Array Value) (hw : ∀ d ∈ tables_1, d.before a0 Z = true) (ws : List Jvm.Cond) (b : Addr) (fr : Int32) (mm : Int32) (kb : ClassId) (ls : List Value) (nn : Int32) (h0 : Heap) (n0 : Nat) (Z0 : n0 ≤ h0.size) (Vb : Arv Z h0 b kb .byte mm ls (.int 0)) (hck : ¬ mm < fr) (hf0 : ¬ fr < 0) (he : mm - fr = nn) (hn0 : ¬ nn < 0) (hcap : nn.toNatClampNeg ≤ 8) (hsum : fr.toNatClampNeg + nn.toNatClampNeg ≤ mm.toNatClampNeg) :
    own_Met l (⟨"java/util/Arrays", "copyOfRangeByte", "([BII)[B"⟩ : MethodName) (Jvm.Cond.code (⟨"java/util/Arrays", "copyOfRangeByte", "([BII)[B"⟩ : MethodName) jdk_65_method_133_code 5 (some (.array .byte)) :: ws) ({ frames := 2, cells := 1, slots := 8, locals := 60 } : Room) #[.ref b, .int fr, .int mm] Z h0 (QCb Z b fr mm kb ls nn h0 n0) := by
  refine own_met (plainFor_of_name pn4) (fun m => ef_RII5 m b fr mm) ?_
  intro p e s m below meth c s₁ B hlk hret hml hZ hown hnm X0 e0
  have hx := B.1
  have hby := B.2
  have N0 := Fr.nil n0
  refine w_i X0 B d43_0 rfl (w_i X0 B d43_1 rfl ?_)
  show Sh s₁ 2 #[vr b, vi fr, vi mm, .unset, .unset] [.int mm, .int fr]
  refine w_cs X0 B hZ hown hml (rmCk l Z a0 hw [] fr mm  h0 n0 Z0 hck) (tw hw 180 rfl) (tw hw 181 rfl) (tw hw 175 rfl) (tw hw 182 rfl) e0 d43_2 2 0 (lenOf pd4 rfl) rfl rfl rfl (by decide) ?_
  rintro _ T2 Lc2 X2 ⟨rfl, Nq2, hh2⟩
  have N2 := Fr.app N0 Nq2
  refine w_i X2 B d43_5 rfl (w_i X2 B d43_6 rfl (Dg.st (fun _ kk => XS.isub X2.here hx rfl (hb hby d43_7) rfl kk) ?_))
  show Sh T2 8 #[vr b, vi fr, vi mm, .unset, .unset] [.int (mm - fr)]
  rw [he]
  refine w_S X2 B d43_8 #[vr b, vi fr, vi mm, vi nn, .unset] rfl (w_i X2 B d43_9 rfl ?_)
  show Sh T2 10 #[vr b, vi fr, vi mm, vi nn, .unset] [.int nn]
  obtain ⟨T10, h10, k10, X10, e10, E10, A10, st10⟩ := newP X2 hx hZ (tw hw 21 rfl) hh2 (g := (mkF m 10 #[vr b, vi fr, vi mm, vi nn, .unset] [.int nn])) rfl (hb hby d43_10) rfl hn0 (cap := 8) hcap (by decide) (by decide) (by decide)
  obtain ⟨b10, g10⟩ : ∃ z, z = h0.size := ⟨_, rfl⟩
  rw [← g10] at A10 st10
  have ne_b_b10 : b ≠ b10 := Nat.ne_of_lt (Nat.lt_of_lt_of_le Vb.lt (Nat.le_of_eq g10.symm))
  have gz_b10 : h0.size ≤ b10 := Nat.le_trans (Keep.refl h0 []).1 (Nat.le_of_eq g10.symm)
  have V_b_10 := Vb.ext E10
  have K10 := (Keep.refl h0 []).ext E10
  have gn_b10 : n0 ≤ b10 := Nat.le_trans Z0 (Nat.le_of_eq g10.symm)
  have Z10 : n0 ≤ h10.size := Nat.le_trans Z0 E10.1
  have V_b10 : Arv Z h10 b10 k10 .byte nn [] (.int 0) := Arv.new A10 hn0
  refine Dg.st st10 ?_
  refine w_u X10 B d43_12 rfl #[vr b, vi fr, vi mm, vi nn, vr b10] rfl (w_a X10 B d43_14 rfl rfl (w_i X10 B d43_15 rfl (w_k X10 B d43_16 rfl rfl (w_c X10 B d43_18 (w_a X10 B d43_19 rfl rfl (w_al X10 B hZ e10 V_b_10 d43_20 (w_i X10 B d43_21 rfl ?_)))))))
  show Sh T10 22 #[vr b, vi fr, vi mm, vi nn, vr b10] [.int fr, .int mm, .int 0, .ref b10, .int fr, .ref b]
  refine Dg.st (fun _ kk => XS.isub X10.here hx rfl (hb hby d43_22) rfl kk) ?_
  show Sh T10 23 #[vr b, vi fr, vi mm, vi nn, vr b10] [.int (mm - fr), .int 0, .ref b10, .int fr, .ref b]
  rw [he]
  refine w_i X10 B d43_23 rfl ?_
  show Sh T10 24 #[vr b, vi fr, vi mm, vi nn, vr b10] [.int nn, .int nn, .int 0, .ref b10, .int fr, .ref b]
  refine w_cs X10 B hZ hown hml (rmMn l Z a0 hw [] nn nn  h10 n0 Z10 (fun q => absurd q (by simp))) (tw hw 183 rfl) (tw hw 66 rfl) (tw hw 67 rfl) (tw hw 68 rfl) e10 d43_24 2 4 (lenOf pd15 rfl) rfl rfl rfl (by decide) ?_
  rintro _ T24 Lc24 X24 ⟨rfl, Nq24, hh24⟩
  have N24 := Fr.app N2 Nq24
  have Vp27 : Arv Z h10 b10 k10 .byte nn ([] ++ List.replicate nn.toNatClampNeg (.int 0)) (.int 0) := (V_b10).pad (pad_rep [] (.int 0) nn.toNatClampNeg)
  obtain ⟨T27, h27, L27, X27, e27, N27, K27, V27, st27⟩ := cpA X24 hx hZ hown (tw hw 184 rfl) (tw hw 187 rfl) (tw hw 185 rfl) (tw hw 186 rfl) hh24 V_b_10 Vp27 (Or.inl ⟨rfl, rfl⟩) hf0 (by decide) hn0 hsum (by simp) rfl (by simp) N24 gn_b10 (g := (mkF m 27 #[vr b, vi fr, vi mm, vi nn, vr b10] [.int nn, .int 0, .ref b10, .int fr, .ref b])) rfl (by rw [hml]; rfl) rfl (hb hby d43_27) (by decide) (W := 0) (by show 2 * 0 + _ ≤ _; exact Nat.le_of_eq rfl) (by decide)
  rw [own_cp] at V27
  have Kt27 := Keep.trans K10 K27 (fun x hx => Or.inr ((List.mem_singleton.mp hx) ▸ gz_b10))
  refine Dg.st st27 ?_
  refine w_k X27 B d43_30 rfl rfl ?_
  show Sh T27 32 #[vr b, vi fr, vi mm, vi nn, vr b10] [.ref b10]
  exact Dg.retA X27 hlk B hret rfl ⟨rfl, rfl⟩ d43_32 (by rw [e27]; exact ⟨b10, k10, rfl, gz_b10, N27, Kt27, V27⟩) (by decide)

abbrev k42 := jdk_65_method_132_code
theorem d42_0 : Dc k42 0 (.iload_n 1) 1 := by decide +kernel
theorem d42_1 : Dc k42 1 (.ifCond .ne 9) 3 := by decide +kernel
theorem d42_10 : Dc k42 10 (.aload_n 0) 1 := by decide +kernel
theorem d42_11 : Dc k42 11 (.iload_n 1) 1 := by decide +kernel
theorem d42_12 : Dc k42 12 (.iload_n 2) 1 := by decide +kernel
theorem d42_13 : Dc k42 13 (.invokestatic 339) 3 := by decide +kernel
theorem d42_16 : Dc k42 16 (.areturn) 1 := by decide +kernel
theorem pd22 : parseMethodDescriptor "([BII)[B" = some ⟨[(.array .byte), .int, .int], some (.array .byte)⟩ := by decide +kernel
def QCr (Z : State) (b : Addr) (fr : Int32) (mm : Int32) (kb : ClassId) (ls : List Value) (nn : Int32) (h0 : Heap) (n0 : Nat) (v : Option Value) (h : Heap) (L : List Loc) : Prop := ∃ (b' : Addr) (kb' : ClassId), v = some (.ref b') ∧ h0.size ≤ b' ∧ Fr n0 L ∧ Keep h0 h [] ∧ Arv Z h b' kb' .byte nn (own_sl ls fr nn) (.int 0)
theorem rmCr (l : Launch) (Z : State) (a0 : Array Value) (hw : ∀ d ∈ tables_1, d.before a0 Z = true) (ws : List Jvm.Cond) (b : Addr) (fr : Int32) (mm : Int32) (kb : ClassId) (ls : List Value) (nn : Int32) (h0 : Heap) (n0 : Nat) (Z0 : n0 ≤ h0.size) (Vb : Arv Z h0 b kb .byte mm ls (.int 0)) (hck : ¬ mm < fr) (hf0 : ¬ fr < 0) (he : mm - fr = nn) (hn0 : ¬ nn < 0) (hcap : nn.toNatClampNeg ≤ 8) (hsum : fr.toNatClampNeg + nn.toNatClampNeg ≤ mm.toNatClampNeg) (hfr : ¬ fr = 0) :
    own_Met l (⟨"java/util/Arrays", "copyOfRange", "([BII)[B"⟩ : MethodName) (Jvm.Cond.code (⟨"java/util/Arrays", "copyOfRange", "([BII)[B"⟩ : MethodName) jdk_65_method_132_code 3 (some (.array .byte)) :: ws) ({ frames := 3, cells := 1, slots := 8, locals := 79 } : Room) #[.ref b, .int fr, .int mm] Z h0 (QCr Z b fr mm kb ls nn h0 n0) := by
  refine own_met (plainFor_of_name pn4) (fun m => ef_RII3 m b fr mm) ?_
  intro p e s m below meth c s₁ B hlk hret hml hZ hown hnm X0 e0
  have N0 := Fr.nil n0
  refine w_i X0 B d42_0 rfl ?_
  show Sh s₁ 1 #[vr b, vi fr, vi mm] [.int fr]
  have hc1 : ¬ (fr = (0 : Int32)) := hfr
  refine w_t X0 B 1 10 rfl d42_1 (feq hc1).2 (by decide) (w_a X0 B d42_10 rfl rfl (w_i X0 B d42_11 rfl (w_i X0 B d42_12 rfl ?_)))
  show Sh s₁ 13 #[vr b, vi fr, vi mm] [.int mm, .int fr, .ref b]
  refine w_cs X0 B hZ hown hml (rmCb l Z a0 hw [] b fr mm kb ls nn h0 n0 Z0 Vb hck hf0 he hn0 hcap hsum) (tw hw 177 rfl) (tw hw 178 rfl) (tw hw 175 rfl) (tw hw 179 rfl) e0 d42_13 3 0 (lenOf pd22 rfl) rfl rfl rfl (by decide) ?_
  rintro _ T13 Lc13 X13 ⟨bb13, kb13, rfl, gz13, Nq13, K13, V13⟩
  have N13 := Fr.app N0 Nq13
  exact Dg.retA X13 hlk B hret rfl ⟨rfl, rfl⟩ d42_16 ⟨bb13, kb13, rfl, gz13, N13, K13, V13⟩ (by decide)

abbrev k45 := jdk_42_method_151_code
theorem d45_0 : Dc k45 0 (.aload_n 0) 1 := by decide +kernel
theorem d45_1 : Dc k45 1 (.invokespecial 1) 3 := by decide +kernel
theorem d45_4 : Dc k45 4 (.aload_n 0) 1 := by decide +kernel
theorem d45_5 : Dc k45 5 (.aload_n 1) 1 := by decide +kernel
theorem d45_6 : Dc k45 6 (.putfield 9) 3 := by decide +kernel
theorem d45_9 : Dc k45 9 (.aload_n 0) 1 := by decide +kernel
theorem d45_10 : Dc k45 10 (.iload_n 2) 1 := by decide +kernel
theorem d45_11 : Dc k45 11 (.putfield 15) 3 := by decide +kernel
theorem d45_14 : Dc k45 14 (.return_) 1 := by decide +kernel
theorem ef_RRI3 (m : MethodId) (x0 : Addr) (x1 : Addr) (x2 : Int32) : entryFrame m #[.ref x0, .ref x1, .int x2] 3 = mkF m 0 #[vr x0, vr x1, vi x2] [] := by first | (simp [entryFrame, mkF, argsToLocals, Value.category]; done) | rfl
def QSb0 (Z : State) (a : Addr) (vb : Addr) (h0 : Heap) (n0 : Nat) (v : Option Value) (h : Heap) (L : List Loc) : Prop := v = none ∧ Fr n0 L ∧ Keep h0 h [a] ∧ Exa Z h a "java/lang/String" ∧ Fld Z h a "java/lang/String" "coder" "B" (.int 0) ∧ Fld Z h a "java/lang/String" "value" "[B" (.ref vb)
theorem rmSb0 (l : Launch) (Z : State) (a0 : Array Value) (hw : ∀ d ∈ tables_1, d.before a0 Z = true) (ws : List Jvm.Cond) (a : Addr) (vb : Addr) (h0 : Heap) (n0 : Nat) (Z0 : n0 ≤ h0.size) (ga : n0 ≤ a) (Ea : Exa Z h0 a "java/lang/String") (Fc : Fld Z h0 a "java/lang/String" "coder" "B" (.int 0)) (Fv : Fld Z h0 a "java/lang/String" "value" "[B" .null) :
    own_Met l on23 (Jvm.Cond.code on23 jdk_42_method_151_code 3 none :: ws) orm38 #[.ref a, .ref vb, .int 0] Z h0 (QSb0 Z a vb h0 n0) := by
  refine own_met (plainFor_of_name pn0) (fun m => ef_RRI3 m a vb (0 : Int32)) ?_
  intro p e s m below meth c s₁ B hlk hret hml hZ hown hnm X0 e0
  have hx := B.1
  have hby := B.2
  have N0 := Fr.nil n0
  refine w_a X0 B d45_0 rfl rfl ?_
  show Sh s₁ 1 #[vr a, vr vb, vi 0] [.ref a]
  obtain ⟨T1, X1, e1, st1⟩ := initO X0 hx hZ hown (tw hw 17 rfl) (tw hw 18 rfl) (tw hw 19 rfl) e0 (g := (mkF m 1 #[vr a, vr vb, vi 0] [.ref a])) rfl (by rw [hml]; rfl) rfl (hb hby d45_1) (by decide) (W := 0) (by show 2 * 0 + _ ≤ _; exact Nat.le_of_eq rfl) (by decide)
  refine Dg.st st1 ?_
  refine w_a X1 B d45_4 rfl rfl (w_a X1 B d45_5 rfl rfl ?_)
  show Sh T1 6 #[vr a, vr vb, vi 0] [.ref vb, .ref a]
  obtain ⟨T6, h6, X6, e6, W6, st6⟩ := putF X1 hx hZ hown (host := "") (Or.inl (tw hw 26 rfl)) Via.refl e1 Fv Ea (Or.inr ⟨(tw hw 22 rfl), rfl, hnm⟩) (tw hw 8 rfl) (ty := (.array .byte)) (by decide) rfl rfl (g := (mkF m 6 #[vr a, vr vb, vi 0] [.ref vb, .ref a])) rfl rfl (hb hby d45_6)
  have E_a_6 := Ea.wr W6
  have F_a_coder_6 := Fc.other W6 (Or.inr (slot_ne (Or.inr (tw hw 23 rfl)) (Or.inr (tw hw 22 rfl)) (by decide) (t := .byte) (t' := (.array .byte)) (by decide) (by decide)))
  have F_a_value_6 := Fv.same W6
  have K6 := (Keep.refl h0 [a]).wr W6 (Or.inl (List.mem_of_getElem? (i := 0) rfl))
  have N6 := Fr.snoc X6 N0 ga
  have Z6 : n0 ≤ h6.size := Nat.le_trans Z0 (Keep.of_wr W6).1
  refine Dg.st st6 ?_
  refine w_a X6 B d45_9 rfl rfl (w_i X6 B d45_10 rfl ?_)
  show Sh T6 11 #[vr a, vr vb, vi 0] [.int 0, .ref a]
  obtain ⟨T11, h11, X11, e11, W11, st11⟩ := putF X6 hx hZ hown (host := "") (Or.inl (tw hw 27 rfl)) Via.refl e6 F_a_coder_6 E_a_6 (Or.inr ⟨(tw hw 23 rfl), rfl, hnm⟩) (tw hw 8 rfl) (ty := .byte) (by decide) rfl rfl (g := (mkF m 11 #[vr a, vr vb, vi 0] [.int 0, .ref a])) rfl rfl (hb hby d45_11)
  have E_a_11 := E_a_6.wr W11
  have F_a_value_11 := F_a_value_6.other W11 (Or.inr (slot_ne (Or.inr (tw hw 22 rfl)) (Or.inr (tw hw 23 rfl)) (by decide) (t := (.array .byte)) (t' := .byte) (by decide) (by decide)))
  have F_a_coder_11 := F_a_coder_6.same W11
  have K11 := K6.wr W11 (Or.inl (List.mem_of_getElem? (i := 0) rfl))
  have N11 := Fr.snoc X11 N6 ga
  have Z11 : n0 ≤ h11.size := Nat.le_trans Z6 (Keep.of_wr W11).1
  refine Dg.st st11 ?_
  exact Dg.ret0 X11 hlk hx hret (hb hby d45_14) (by rw [e11]; exact ⟨rfl, N11, K11, E_a_11, F_a_coder_11, F_a_value_11⟩) (by decide) (by decide)

def QSb1 (Z : State) (a : Addr) (vb : Addr) (h0 : Heap) (n0 : Nat) (v : Option Value) (h : Heap) (L : List Loc) : Prop := v = none ∧ Fr n0 L ∧ Keep h0 h [a] ∧ Exa Z h a "java/lang/String" ∧ Fld Z h a "java/lang/String" "coder" "B" (.int 1) ∧ Fld Z h a "java/lang/String" "value" "[B" (.ref vb)
theorem rmSb1 (l : Launch) (Z : State) (a0 : Array Value) (hw : ∀ d ∈ tables_1, d.before a0 Z = true) (ws : List Jvm.Cond) (a : Addr) (vb : Addr) (h0 : Heap) (n0 : Nat) (Z0 : n0 ≤ h0.size) (ga : n0 ≤ a) (Ea : Exa Z h0 a "java/lang/String") (Fc : Fld Z h0 a "java/lang/String" "coder" "B" (.int 0)) (Fv : Fld Z h0 a "java/lang/String" "value" "[B" .null) :
    own_Met l on23 (Jvm.Cond.code on23 jdk_42_method_151_code 3 none :: ws) orm38 #[.ref a, .ref vb, .int 1] Z h0 (QSb1 Z a vb h0 n0) := by
  refine own_met (plainFor_of_name pn0) (fun m => ef_RRI3 m a vb (1 : Int32)) ?_
  intro p e s m below meth c s₁ B hlk hret hml hZ hown hnm X0 e0
  have hx := B.1
  have hby := B.2
  have N0 := Fr.nil n0
  refine w_a X0 B d45_0 rfl rfl ?_
  show Sh s₁ 1 #[vr a, vr vb, vi 1] [.ref a]
  obtain ⟨T1, X1, e1, st1⟩ := initO X0 hx hZ hown (tw hw 17 rfl) (tw hw 18 rfl) (tw hw 19 rfl) e0 (g := (mkF m 1 #[vr a, vr vb, vi 1] [.ref a])) rfl (by rw [hml]; rfl) rfl (hb hby d45_1) (by decide) (W := 0) (by show 2 * 0 + _ ≤ _; exact Nat.le_of_eq rfl) (by decide)
  refine Dg.st st1 ?_
  refine w_a X1 B d45_4 rfl rfl (w_a X1 B d45_5 rfl rfl ?_)
  show Sh T1 6 #[vr a, vr vb, vi 1] [.ref vb, .ref a]
  obtain ⟨T6, h6, X6, e6, W6, st6⟩ := putF X1 hx hZ hown (host := "") (Or.inl (tw hw 26 rfl)) Via.refl e1 Fv Ea (Or.inr ⟨(tw hw 22 rfl), rfl, hnm⟩) (tw hw 8 rfl) (ty := (.array .byte)) (by decide) rfl rfl (g := (mkF m 6 #[vr a, vr vb, vi 1] [.ref vb, .ref a])) rfl rfl (hb hby d45_6)
  have E_a_6 := Ea.wr W6
  have F_a_coder_6 := Fc.other W6 (Or.inr (slot_ne (Or.inr (tw hw 23 rfl)) (Or.inr (tw hw 22 rfl)) (by decide) (t := .byte) (t' := (.array .byte)) (by decide) (by decide)))
  have F_a_value_6 := Fv.same W6
  have K6 := (Keep.refl h0 [a]).wr W6 (Or.inl (List.mem_of_getElem? (i := 0) rfl))
  have N6 := Fr.snoc X6 N0 ga
  have Z6 : n0 ≤ h6.size := Nat.le_trans Z0 (Keep.of_wr W6).1
  refine Dg.st st6 ?_
  refine w_a X6 B d45_9 rfl rfl (w_i X6 B d45_10 rfl ?_)
  show Sh T6 11 #[vr a, vr vb, vi 1] [.int 1, .ref a]
  obtain ⟨T11, h11, X11, e11, W11, st11⟩ := putF X6 hx hZ hown (host := "") (Or.inl (tw hw 27 rfl)) Via.refl e6 F_a_coder_6 E_a_6 (Or.inr ⟨(tw hw 23 rfl), rfl, hnm⟩) (tw hw 8 rfl) (ty := .byte) (by decide) rfl rfl (g := (mkF m 11 #[vr a, vr vb, vi 1] [.int 1, .ref a])) rfl rfl (hb hby d45_11)
  have E_a_11 := E_a_6.wr W11
  have F_a_value_11 := F_a_value_6.other W11 (Or.inr (slot_ne (Or.inr (tw hw 22 rfl)) (Or.inr (tw hw 23 rfl)) (by decide) (t := (.array .byte)) (t' := .byte) (by decide) (by decide)))
  have F_a_coder_11 := F_a_coder_6.same W11
  have K11 := K6.wr W11 (Or.inl (List.mem_of_getElem? (i := 0) rfl))
  have N11 := Fr.snoc X11 N6 ga
  have Z11 : n0 ≤ h11.size := Nat.le_trans Z6 (Keep.of_wr W11).1
  refine Dg.st st11 ?_
  exact Dg.ret0 X11 hlk hx hret (hb hby d45_14) (by rw [e11]; exact ⟨rfl, N11, K11, E_a_11, F_a_coder_11, F_a_value_11⟩) (by decide) (by decide)

def QNg (Z : State) (ix : Int32) (h0 : Heap) (n0 : Nat) (v : Option Value) (h : Heap) (L : List Loc) : Prop := v = some (.int (ix <<< ((1 : Int32) &&& 31))) ∧ Fr n0 L ∧ h = h0
theorem rmNg (l : Launch) (Z : State) (a0 : Array Value) (hw : ∀ d ∈ tables_1, d.before a0 Z = true) (ws : List Jvm.Cond) (ix : Int32) (h0 : Heap) (n0 : Nat) (Z0 : n0 ≤ h0.size) (hx1 : ¬ ix < 0) (hx2 : ix < 1073741823) :
    own_Met l on5 (Jvm.Cond.code on5 jdk_52_method_3_code 1 (some .int) :: ws) orm26 #[.int ix] Z h0 (QNg Z ix h0 n0) := by
  refine own_met (plainFor_of_name pn2) (fun m => ef_I1 m ix) ?_
  intro p e s m below meth c s₁ B hlk hret hml hZ hown hnm X0 e0
  have hx := B.1
  have hby := B.2
  have N0 := Fr.nil n0
  refine w_i X0 B d25_0 rfl ?_
  show Sh s₁ 1 #[vi ix] [.int ix]
  have hc1 : ¬ (ix < (0 : Int32)) := hx1
  refine w_t X0 B 1 12 rfl d25_1 (flt hc1).2.1 (by decide) (w_i X0 B d25_12 rfl (Dg.st (fun _ kk => X0.ldcInt hx hown (mvT hZ (tw hw 114 rfl)) (g := (mkF m 13 #[vi ix] [.int ix])) rfl (hb hby d25_13) _ kk) ?_))
  show Sh s₁ 15 #[vi ix] [.int 1073741823, .int ix]
  have hc15 : ix < (1073741823 : Int32) := hx2
  refine w_y X0 B 15 55 rfl d25_15 (tlt hc15).1 (by decide) (w_i X0 B d25_55 rfl (w_c X0 B d25_56 (Dg.st (fun _ kk => XS.ishl X0.here hx rfl (hb hby d25_57) rfl kk) ?_)))
  show Sh s₁ 58 #[vi ix] [(.int (ix <<< ((1 : Int32) &&& 31)))]
  exact Dg.retI X0 hlk B hret rfl (Or.inl rfl) d25_58 (by rw [e0]; exact ⟨rfl, N0, rfl⟩) (by decide)

abbrev k22 := jdk_43_method_47_code
theorem d22_0 : Dc k22 0 (.iload_n 2) 1 := by decide +kernel
theorem d22_1 : Dc k22 1 (.ifCond .ne 6) 3 := by decide +kernel
theorem d22_7 : Dc k22 7 (.new 1) 3 := by decide +kernel
theorem d22_10 : Dc k22 10 (.dup) 1 := by decide +kernel
theorem d22_11 : Dc k22 11 (.aload_n 0) 1 := by decide +kernel
theorem d22_12 : Dc k22 12 (.iload_n 1) 1 := by decide +kernel
theorem d22_13 : Dc k22 13 (.iload_n 1) 1 := by decide +kernel
theorem d22_14 : Dc k22 14 (.iload_n 2) 1 := by decide +kernel
theorem d22_15 : Dc k22 15 (.iadd) 1 := by decide +kernel
theorem d22_16 : Dc k22 16 (.invokestatic 232) 3 := by decide +kernel
theorem d22_19 : Dc k22 19 (.iconst 0) 1 := by decide +kernel
theorem d22_20 : Dc k22 20 (.invokespecial 112) 3 := by decide +kernel
theorem d22_23 : Dc k22 23 (.areturn) 1 := by decide +kernel
theorem pd23 : parseMethodDescriptor "([BB)V" = some ⟨[(.array .byte), .byte], none⟩ := by decide +kernel
def QNsl1 (Z : State) (b : Addr) (sv : Int32) (kb : ClassId) (mm : Int32) (ls lu : List Value) (PQ : Prop) (h0 : Heap) (n0 : Nat) (v : Option Value) (h : Heap) (L : List Loc) : Prop := ∃ r : Addr, v = some (.ref r) ∧ h0.size ≤ r ∧ Fr n0 L ∧ Keep h0 h [] ∧ own_Str Z h r 1 2 (own_sl ls sv 1) lu PQ
theorem rmNsl1 (l : Launch) (Z : State) (a0 : Array Value) (hw : ∀ d ∈ tables_1, d.before a0 Z = true) (ws : List Jvm.Cond) (b : Addr) (sv : Int32) (kb : ClassId) (mm : Int32) (ls lu : List Value) (PQ : Prop) (h0 : Heap) (n0 : Nat) (Z0 : n0 ≤ h0.size) (Vb : Arv Z h0 b kb .byte mm ls (.int 0)) (hP : PQ) (hto : sv + 1 = mm) (hck : ¬ mm < sv) (hf0 : ¬ sv < 0) (he : mm - sv = 1) (hsum : sv.toNatClampNeg + (1 : Int32).toNatClampNeg ≤ mm.toNatClampNeg) (hfr : ¬ sv = 0) :
    own_Met l on10 (Jvm.Cond.code on10 jdk_43_method_47_code 3 (some (.object "java/lang/String")) :: ws) orm39 #[.ref b, .int sv, .int 1] Z h0 (QNsl1 Z b sv kb mm ls lu PQ h0 n0) := by
  refine own_met (plainFor_of_name pn3) (fun m => ef_RII3 m b sv (1 : Int32)) ?_
  intro p e s m below meth c s₁ B hlk hret hml hZ hown hnm X0 e0
  have hx := B.1
  have hby := B.2
  have N0 := Fr.nil n0
  refine w_i X0 B d22_0 rfl (w_t X0 B 1 7 rfl d22_1 (feq (by decide)).2 (by decide) ?_)
  show Sh s₁ 7 #[vr b, vi sv, vi 1] []
  obtain ⟨T7, h7, X7, e7, E7, A7, D7, -, st7⟩ := newO X0 hx hZ hown (tw hw 193 rfl) (tw hw 8 rfl) (tw hw 9 rfl) e0 (g := (mkF m 7 #[vr b, vi sv, vi 1] [])) rfl (hb hby d22_7) (by decide) (by decide)
  obtain ⟨b7, g7⟩ : ∃ z, z = h0.size := ⟨_, rfl⟩
  rw [← g7] at A7 D7 st7
  have ne_b_b7 : b ≠ b7 := Nat.ne_of_lt (Nat.lt_of_lt_of_le Vb.lt (Nat.le_of_eq g7.symm))
  have gz_b7 : h0.size ≤ b7 := Nat.le_trans (Keep.refl h0 []).1 (Nat.le_of_eq g7.symm)
  have V_b_7 := Vb.ext E7
  have K7 := (Keep.refl h0 []).ext E7
  have gn_b7 : n0 ≤ b7 := Nat.le_trans Z0 (Nat.le_of_eq g7.symm)
  have Z7 : n0 ≤ h7.size := Nat.le_trans Z0 E7.1
  have F_b7_value : Fld Z h7 b7 "java/lang/String" "value" "[B" .null := D7 (Or.inr (tw hw 22 rfl)) (ty := (.array .byte)) (by decide)
  have F_b7_coder : Fld Z h7 b7 "java/lang/String" "coder" "B" (.int 0) := D7 (Or.inr (tw hw 23 rfl)) (ty := .byte) (by decide)
  refine Dg.st st7 ?_
  refine Dg.st (fun _ kk => XS.dup X7.here hx rfl (hb hby d22_10) rfl rfl kk) (w_a X7 B d22_11 rfl rfl (w_i X7 B d22_12 rfl (w_i X7 B d22_13 rfl (w_i X7 B d22_14 rfl (Dg.st (fun _ kk => XS.iadd X7.here hx rfl (hb hby d22_15) rfl kk) ?_)))))
  show Sh T7 16 #[vr b, vi sv, vi 1] [(.int (sv + (1 : Int32))), .int sv, .ref b, .ref b7, .ref b7]
  rw [hto]
  refine w_cs X7 B hZ hown hml (rmCr l Z a0 hw [] b sv mm kb ls 1 h7 n0 Z7 V_b_7 hck hf0 he (by decide) (by decide) hsum hfr) (tw hw 194 rfl) (tw hw 174 rfl) (tw hw 175 rfl) (tw hw 176 rfl) e7 d22_16 3 2 (lenOf pd22 rfl) rfl rfl rfl (by decide) ?_
  rintro _ T16 Lc16 X16 ⟨bb16, kb16, rfl, gz16, Nq16, K16, V_bb16⟩
  have N16 := Fr.app N0 Nq16
  have ne_b_bb16 : b ≠ bb16 := Nat.ne_of_lt (Nat.lt_of_lt_of_le V_b_7.lt gz16)
  have ne_b7_bb16 : b7 ≠ bb16 := Nat.ne_of_lt (Nat.lt_of_lt_of_le A7.lt gz16)
  have gn_bb16 : n0 ≤ bb16 := Nat.le_trans Z7 gz16
  have gz_bb16 : h0.size ≤ bb16 := Nat.le_trans K7.1 gz16
  have V_b_16 := V_b_7.keep K16 nin0
  have E_b7_16 := A7.keep K16
  have F_b7_value_16 := F_b7_value.keep K16 nin0
  have F_b7_coder_16 := F_b7_coder.keep K16 nin0
  have Kt16 := Keep.trans K7 K16 (by simp)
  have Z16 : n0 ≤ T16.heap.size := Nat.le_trans Z7 K16.1
  refine w_c X16 B d22_19 ?_
  show Sh T16 20 #[vr b, vi sv, vi 1] [.int 0, .ref bb16, .ref b7, .ref b7]
  refine w_ci X16 B hZ hown hml (rmSb0 l Z a0 hw [] b7 bb16 T16.heap n0 Z16 gn_b7 E_b7_16 F_b7_coder_16 F_b7_value_16) (tw hw 195 rfl) (tw hw 191 rfl) (tw hw 9 rfl) (tw hw 192 rfl) rfl d22_20 2 1 rfl (lenOf pd23 rfl) rfl rfl rfl rfl (by decide) ?_
  rintro _ T20 Lc20 X20 ⟨rfl, Nq20, K20, Es20, Fcs20, Fvs20⟩
  have N20 := Fr.app N16 Nq20
  have Vk20 := V_bb16.keep K20 (ninS (Ne.symm ne_b7_bb16) nin0)
  have Kt20 := Keep.trans Kt16 K20 (fun x hx => Or.inr ((List.mem_singleton.mp hx) ▸ gz_b7))
  have Z20 : n0 ≤ T20.heap.size := Nat.le_trans Z16 K20.1
  exact Dg.retA X20 hlk B hret rfl ⟨rfl, rfl⟩ d22_23 ⟨b7, rfl, gz_b7, N20, Kt20, Es20, Or.inl ⟨bb16, kb16, Fcs20, Fvs20, Vk20, hP⟩⟩ (by decide)

abbrev k38 := jdk_52_method_22_code
theorem d38_0 : Dc k38 0 (.iload_n 1) 1 := by decide +kernel
theorem d38_1 : Dc k38 1 (.iload 4) 2 := by decide +kernel
theorem d38_3 : Dc k38 3 (.aload_n 0) 1 := by decide +kernel
theorem d38_4 : Dc k38 4 (.invokestatic 173) 3 := by decide +kernel
theorem d38_7 : Dc k38 7 (.iconst 0) 1 := by decide +kernel
theorem d38_8 : Dc k38 8 (.istore 5) 2 := by decide +kernel
theorem d38_10 : Dc k38 10 (.iload 5) 2 := by decide +kernel
theorem d38_12 : Dc k38 12 (.iload 4) 2 := by decide +kernel
theorem d38_14 : Dc k38 14 (.if_icmp .ge 39) 3 := by decide +kernel
theorem d38_17 : Dc k38 17 (.aload_n 0) 1 := by decide +kernel
theorem d38_18 : Dc k38 18 (.iload_n 1) 1 := by decide +kernel
theorem d38_19 : Dc k38 19 (.invokestatic 71) 3 := by decide +kernel
theorem d38_22 : Dc k38 22 (.istore 6) 2 := by decide +kernel
theorem d38_24 : Dc k38 24 (.iload 6) 2 := by decide +kernel
theorem d38_26 : Dc k38 26 (.sipush 255) 3 := by decide +kernel
theorem d38_29 : Dc k38 29 (.if_icmp .le 6) 3 := by decide +kernel
theorem d38_32 : Dc k38 32 (.iload 5) 2 := by decide +kernel
theorem d38_34 : Dc k38 34 (.ireturn) 1 := by decide +kernel
theorem d38_35 : Dc k38 35 (.aload_n 2) 1 := by decide +kernel
theorem d38_36 : Dc k38 36 (.iload_n 3) 1 := by decide +kernel
theorem d38_37 : Dc k38 37 (.iload 6) 2 := by decide +kernel
theorem d38_39 : Dc k38 39 (.i2b) 1 := by decide +kernel
theorem d38_40 : Dc k38 40 (.bastore) 1 := by decide +kernel
theorem d38_41 : Dc k38 41 (.iinc 1 1) 3 := by decide +kernel
theorem d38_44 : Dc k38 44 (.iinc 3 1) 3 := by decide +kernel
theorem d38_47 : Dc k38 47 (.iinc 5 1) 3 := by decide +kernel
theorem d38_50 : Dc k38 50 (.goto (-40)) 3 := by decide +kernel
theorem d38_53 : Dc k38 53 (.iload 4) 2 := by decide +kernel
theorem d38_55 : Dc k38 55 (.ireturn) 1 := by decide +kernel
theorem pd24 : parseMethodDescriptor "(II[B)V" = some ⟨[.int, .int, (.array .byte)], none⟩ := by decide +kernel
def QD5_1 (Z : State) (b : Addr) (sv : Int32) (d : Addr) (cs : Int32) (sf : Value) (kb kd : ClassId) (mm : Int32) (ls : List Value) (z0 : Int32) (h0 : Heap) (n0 : Nat) (v : Option Value) (h : Heap) (L : List Loc) : Prop := Fr n0 L ∧ Keep h0 h [d] ∧ ((v = some (.int 0) ∧ 255 < z0.toInt) ∨ (v = some (.int 1) ∧ (z0.toInt ≤ 255 ∧ True) ∧ Arv Z h d kd .byte 1 [.int (own_b z0)] (.int 0)))
theorem rmD5_1 (l : Launch) (Z : State) (a0 : Array Value) (hw : ∀ d ∈ tables_1, d.before a0 Z = true) (ws : List Jvm.Cond) (b : Addr) (sv : Int32) (d : Addr) (cs : Int32) (sf : Value) (kb kd : ClassId) (mm : Int32) (ls : List Value) (z0 : Int32) (h0 : Heap) (n0 : Nat) (Z0 : n0 ≤ h0.size) (hW : own_W Z h0 n0 cs sf) (Vb : Arv Z h0 b kb .byte mm ls (.int 0)) (Vd : Arv Z h0 d kd .byte 1 [.int 0] (.int 0)) (gd : n0 ≤ d) (hne : b ≠ d) (hx1 : ¬ (((mm >>> ((1 : Int32) &&& 31)) ||| sv) ||| 1) < 0) (hx2 : ¬ ((mm >>> ((1 : Int32) &&& 31)) - sv) < 1) (hA0 : own_At mm ls sv z0) :
    own_Met l on17 (Jvm.Cond.code on17 jdk_52_method_22_code 7 (some .int) :: ws) orm37 #[.ref b, .int sv, .ref d, .int 0, .int 1] Z h0 (QD5_1 Z b sv d cs sf kb kd mm ls z0 h0 n0) := by
  refine own_met (plainFor_of_name pn2) (fun m => ef_RIRII7 m b sv d (0 : Int32) (1 : Int32)) ?_
  intro p e s m below meth c s₁ B hlk hret hml hZ hown hnm X0 e0
  have hx := B.1
  have hby := B.2
  have N0 := Fr.nil n0
  have r_sv := rng32 sv
  refine w_i X0 B d38_0 rfl (w_j X0 B d38_1 rfl (w_a X0 B d38_3 rfl rfl ?_))
  show Sh s₁ 4 #[vr b, vi sv, vr d, vi 0, vi 1, .unset, .unset] [.ref b, .int 1, .int sv]
  refine w_cs X0 B hZ hown hml (rmUo l Z a0 hw [] sv (1 : Int32) b cs sf kb mm ls h0 n0 Z0 hW Vb hx1 hx2) (tw hw 164 rfl) (tw hw 165 rfl) (tw hw 93 rfl) (tw hw 166 rfl) e0 d38_4 3 0 (lenOf pd24 rfl) rfl rfl rfl (by decide) ?_
  rintro _ T4 Lc4 X4 ⟨rfl, Nq4, hh4⟩
  have N4 := Fr.app N0 Nq4
  refine w_c X4 B d38_7 (w_s X4 B d38_8 #[vr b, vi sv, vr d, vi 0, vi 1, vi 0, .unset] rfl (w_j X4 B d38_10 rfl (w_j X4 B d38_12 rfl (w_n X4 B d38_14 (tlt (by decide)).2.1 (w_a X4 B d38_17 rfl rfl (w_i X4 B d38_18 rfl ?_))))))
  show Sh T4 19 #[vr b, vi sv, vr d, vi 0, vi 1, vi 0, .unset] [.int sv, .ref b]
  refine w_cs X4 B hZ hown hml (rmGc l Z a0 hw [] b sv cs sf kb mm ls z0 h0 n0 Z0 hW Vb hA0.1 hA0.2.1 hA0.2.2.1 hA0.2.2.2.1 hA0.2.2.2.2.1 hA0.2.2.2.2.2) (tw hw 121 rfl) (tw hw 122 rfl) (tw hw 93 rfl) (tw hw 123 rfl) hh4 d38_19 2 0 (lenOf pd6 rfl) rfl rfl rfl (by decide) ?_
  rintro _ T19 Lc19 X19 ⟨rfl, Nq19, hh19⟩
  have N19 := Fr.app N4 Nq19
  refine w_s X19 B d38_22 #[vr b, vi sv, vr d, vi 0, vi 1, vi 0, vi z0] rfl (w_j X19 B d38_24 rfl (w_d X19 B d38_26 ?_))
  show Sh T19 29 #[vr b, vi sv, vr d, vi 0, vi 1, vi 0, vi z0] [.int 255, .int z0]
  by_cases hc29 : (255 : Int32) < z0
  · have hi29 : 255 < z0.toInt := Int32.lt_iff_toInt_lt.mp hc29
    refine w_n X19 B d38_29 (tlt hc29).2.2.2 (w_j X19 B d38_32 rfl ?_)
    show Sh T19 34 #[vr b, vi sv, vr d, vi 0, vi 1, vi 0, vi z0] [.int 0]
    exact Dg.retI X19 hlk B hret rfl (Or.inl rfl) d38_34 (by rw [hh19]; exact ⟨N19, (Keep.refl h0 [d]), (Or.inl ⟨rfl, hi29⟩)⟩) (by decide)
  · have hi29 : ¬ 255 < z0.toInt := fun qq => hc29 (Int32.lt_iff_toInt_lt.mpr qq)
    refine w_y X19 B 29 35 rfl d38_29 (flt hc29).2.2.2 (by decide) (w_a X19 B d38_35 rfl rfl (w_i X19 B d38_36 rfl (w_j X19 B d38_37 rfl (Dg.st (fun _ kk => XS.i2b X19.here hx rfl (hb hby d38_39) rfl kk) ?_))))
    show Sh T19 40 #[vr b, vi sv, vr d, vi 0, vi 1, vi 0, vi z0] [.int (z0.toInt8.toInt32), .int 0, .ref d]
    have Vc_d_40 := Vd
    obtain ⟨cl_d_40, Ar_d_40, q_d_40, S_d_40, N_d_40, H_d_40, G_d_40⟩ := Vc_d_40
    have hin40 : ¬ ((0 : Int32) < 0 ∨ cl_d_40.slots.size ≤ ((0 : Int32)).toNatClampNeg) := inb_of S_d_40 ⟨by decide, by decide⟩
    obtain ⟨T40, h40, X40, e40, W40, st40⟩ := stB X19 hx hZ hh19 Ar_d_40 (j := (0 : Int32)) hin40 (g := (mkF m 40 #[vr b, vi sv, vr d, vi 0, vi 1, vi 0, vi z0] [.int (z0.toInt8.toInt32), .int 0, .ref d])) rfl rfl (hb hby d38_40)
    have Wo40 := hW.wr W40 gd
    have V_b_40 := Vb.other W40 hne
    have V_d_40 := Arv.set Ar_d_40 q_d_40 S_d_40 N_d_40 H_d_40 G_d_40 (fits_nar_byte _) W40 0 rfl (Nat.le_of_ble_eq_true rfl)
    have K40 := (Keep.refl h0 [d]).wr W40 (Or.inl (List.mem_of_getElem? (i := 0) rfl))
    have N40 := Fr.snoc X40 N19 gd
    have Z40 : n0 ≤ h40.size := Nat.le_trans Z0 (Keep.of_wr W40).1
    refine Dg.st st40 ?_
    refine w_p X40 B d38_41 rfl #[vr b, vi (sv + (1 : Int32)), vr d, vi 0, vi 1, vi 0, vi z0] rfl (w_p X40 B d38_44 rfl #[vr b, vi (sv + (1 : Int32)), vr d, vi 1, vi 1, vi 0, vi z0] rfl (w_p X40 B d38_47 rfl #[vr b, vi (sv + (1 : Int32)), vr d, vi 1, vi 1, vi 1, vi z0] rfl (w_g X40 B 50 10 rfl d38_50 (by decide) (w_j X40 B d38_10 rfl (w_j X40 B d38_12 rfl (w_y X40 B 14 53 rfl d38_14 (flt (by decide)).2.1 (by decide) (w_j X40 B d38_53 rfl ?_)))))))
    show Sh T40 55 #[vr b, vi (sv + (1 : Int32)), vr d, vi 1, vi 1, vi 1, vi z0] [.int 1]
    exact Dg.retI X40 hlk B hret rfl (Or.inl rfl) d38_55 (by rw [e40]; exact ⟨N40, K40, (Or.inr ⟨rfl, ⟨Int.not_lt.mp hi29, trivial⟩, V_d_40⟩)⟩) (by decide)

abbrev k37 := jdk_52_method_17_code
theorem d37_0 : Dc k37 0 (.iload_n 2) 1 := by decide +kernel
theorem d37_1 : Dc k37 1 (.newarray .byte) 2 := by decide +kernel
theorem d37_3 : Dc k37 3 (.astore_n 3) 1 := by decide +kernel
theorem d37_4 : Dc k37 4 (.aload_n 0) 1 := by decide +kernel
theorem d37_5 : Dc k37 5 (.iload_n 1) 1 := by decide +kernel
theorem d37_6 : Dc k37 6 (.aload_n 3) 1 := by decide +kernel
theorem d37_7 : Dc k37 7 (.iconst 0) 1 := by decide +kernel
theorem d37_8 : Dc k37 8 (.iload_n 2) 1 := by decide +kernel
theorem d37_9 : Dc k37 9 (.invokestatic 123) 3 := by decide +kernel
theorem d37_12 : Dc k37 12 (.istore 4) 2 := by decide +kernel
theorem d37_14 : Dc k37 14 (.iload 4) 2 := by decide +kernel
theorem d37_16 : Dc k37 16 (.iload_n 2) 1 := by decide +kernel
theorem d37_17 : Dc k37 17 (.if_icmp .eq 47) 3 := by decide +kernel
theorem d37_20 : Dc k37 20 (.aload_n 0) 1 := by decide +kernel
theorem d37_21 : Dc k37 21 (.iload_n 1) 1 := by decide +kernel
theorem d37_22 : Dc k37 22 (.iconst 1) 1 := by decide +kernel
theorem d37_23 : Dc k37 23 (.ishl) 1 := by decide +kernel
theorem d37_24 : Dc k37 24 (.iload_n 1) 1 := by decide +kernel
theorem d37_25 : Dc k37 25 (.iload_n 2) 1 := by decide +kernel
theorem d37_26 : Dc k37 26 (.iadd) 1 := by decide +kernel
theorem d37_27 : Dc k37 27 (.invokestatic 11) 3 := by decide +kernel
theorem d37_30 : Dc k37 30 (.invokestatic 126) 3 := by decide +kernel
theorem d37_33 : Dc k37 33 (.astore 5) 2 := by decide +kernel
theorem d37_35 : Dc k37 35 (.aload 5) 2 := by decide +kernel
theorem d37_37 : Dc k37 37 (.iload 4) 2 := by decide +kernel
theorem d37_39 : Dc k37 39 (.invokestatic 71) 3 := by decide +kernel
theorem d37_42 : Dc k37 42 (.sipush 255) 3 := by decide +kernel
theorem d37_45 : Dc k37 45 (.if_icmp .gt 16) 3 := by decide +kernel
theorem d37_61 : Dc k37 61 (.aload 5) 2 := by decide +kernel
theorem d37_63 : Dc k37 63 (.areturn) 1 := by decide +kernel
theorem d37_64 : Dc k37 64 (.aload_n 3) 1 := by decide +kernel
theorem d37_65 : Dc k37 65 (.areturn) 1 := by decide +kernel
theorem pd25 : parseMethodDescriptor "([BI[BII)I" = some ⟨[(.array .byte), .int, (.array .byte), .int, .int], some .int⟩ := by decide +kernel
def QD3_1 (Z : State) (b : Addr) (sv : Int32) (cs : Int32) (sf : Value) (kb : ClassId) (mm : Int32) (ls : List Value) (z0 : Int32) (h0 : Heap) (n0 : Nat) (v : Option Value) (h : Heap) (L : List Loc) : Prop := ∃ (d : Addr) (kd : ClassId), v = some (.ref d) ∧ h0.size ≤ d ∧ Fr n0 L ∧ Keep h0 h [] ∧ ((Arv Z h d kd .byte 1 [.int (own_b z0)] (.int 0) ∧ (z0.toInt ≤ 255 ∧ True)) ∨ Arv Z h d kd .byte 2 (own_sl ls (sv <<< ((1 : Int32) &&& 31)) 2) (.int 0))
theorem rmD3_1 (l : Launch) (Z : State) (a0 : Array Value) (hw : ∀ d ∈ tables_1, d.before a0 Z = true) (ws : List Jvm.Cond) (b : Addr) (sv : Int32) (cs : Int32) (sf : Value) (kb : ClassId) (mm : Int32) (ls : List Value) (z0 : Int32) (h0 : Heap) (n0 : Nat) (Z0 : n0 ≤ h0.size) (hW : own_W Z h0 n0 cs sf) (Vb : Arv Z h0 b kb .byte mm ls (.int 0)) (hx1 : ¬ (((mm >>> ((1 : Int32) &&& 31)) ||| sv) ||| 1) < 0) (hx2 : ¬ ((mm >>> ((1 : Int32) &&& 31)) - sv) < 1) (hA0 : own_At mm ls sv z0) (hto : (sv + 1) <<< ((1 : Int32) &&& 31) = mm) (hto1 : ¬ (sv + 1) < 0) (hto2 : (sv + 1) < 1073741823) (hck : ¬ mm < (sv <<< ((1 : Int32) &&& 31))) (hf0 : ¬ (sv <<< ((1 : Int32) &&& 31)) < 0) (he : mm - (sv <<< ((1 : Int32) &&& 31)) = 2) (hsum : (sv <<< ((1 : Int32) &&& 31)).toNatClampNeg + (2 : Int32).toNatClampNeg ≤ mm.toNatClampNeg) (hfr : ¬ (sv <<< ((1 : Int32) &&& 31)) = 0) (hB0 : own_At 2 (own_sl ls (sv <<< ((1 : Int32) &&& 31)) 2) 0 z0) :
    own_Met l on16 (Jvm.Cond.code on16 jdk_52_method_17_code 6 (some (.array .byte)) :: ws) ({ frames := 4, cells := 2, slots := 9, locals := 96 } : Room) #[.ref b, .int sv, .int 1] Z h0 (QD3_1 Z b sv cs sf kb mm ls z0 h0 n0) := by
  refine own_met (plainFor_of_name pn2) (fun m => ef_RII6 m b sv (1 : Int32)) ?_
  intro p e s m below meth c s₁ B hlk hret hml hZ hown hnm X0 e0
  have hx := B.1
  have hby := B.2
  have N0 := Fr.nil n0
  refine w_i X0 B d37_0 rfl ?_
  show Sh s₁ 1 #[vr b, vi sv, vi 1, .unset, .unset, .unset] [.int 1]
  obtain ⟨T1, h1, k1, X1, e1, E1, A1, st1⟩ := newP X0 hx hZ (tw hw 21 rfl) e0 (g := (mkF m 1 #[vr b, vi sv, vi 1, .unset, .unset, .unset] [.int 1])) rfl (hb hby d37_1) rfl (by decide) (cap := 1) (by decide) (by decide) (by decide) (by decide)
  obtain ⟨b1, g1⟩ : ∃ z, z = h0.size := ⟨_, rfl⟩
  rw [← g1] at A1 st1
  have ne_b_b1 : b ≠ b1 := Nat.ne_of_lt (Nat.lt_of_lt_of_le Vb.lt (Nat.le_of_eq g1.symm))
  have gz_b1 : h0.size ≤ b1 := Nat.le_trans (Keep.refl h0 []).1 (Nat.le_of_eq g1.symm)
  have V_b_1 := Vb.ext E1
  have K1 := (Keep.refl h0 []).ext E1
  have Wo1 := hW.ext E1
  have gn_b1 : n0 ≤ b1 := Nat.le_trans Z0 (Nat.le_of_eq g1.symm)
  have Z1 : n0 ≤ h1.size := Nat.le_trans Z0 E1.1
  have V_b1 : Arv Z h1 b1 k1 .byte (1 : Int32) [.int 0] (.int 0) := (Arv.new A1 (by decide)).pad (pad_rep [] (.int 0) 1)
  refine Dg.st st1 ?_
  refine w_U X1 B d37_3 rfl #[vr b, vi sv, vi 1, vr b1, .unset, .unset] rfl (w_a X1 B d37_4 rfl rfl (w_i X1 B d37_5 rfl (w_a X1 B d37_6 rfl rfl (w_c X1 B d37_7 (w_i X1 B d37_8 rfl ?_)))))
  show Sh T1 9 #[vr b, vi sv, vi 1, vr b1, .unset, .unset] [.int 1, .int 0, .ref b1, .int sv, .ref b]
  refine w_cs X1 B hZ hown hml (rmD5_1 l Z a0 hw [] b sv b1 cs sf kb _ mm ls z0 h1 n0 Z1 Wo1 V_b_1 V_b1 gn_b1 ne_b_b1 hx1 hx2 hA0) (tw hw 161 rfl) (tw hw 162 rfl) (tw hw 93 rfl) (tw hw 163 rfl) e1 d37_9 5 0 (lenOf pd25 rfl) rfl rfl rfl (by decide) ?_
  rintro _ T9 Lc9 X9 ⟨Nq9, K9, hq9⟩
  have N9 := Fr.app N0 Nq9
  have Wo9 := Wo1.keep K9 (own_k1 gn_b1)
  have V_b_9 := V_b_1.keep K9 (ninS ne_b_b1 nin0)
  have Kt9 := Keep.trans K1 K9 (fun x hx => Or.inr ((List.mem_singleton.mp hx) ▸ gz_b1))
  have Z9 : n0 ≤ T9.heap.size := Nat.le_trans Z1 K9.1
  rcases hq9 with ⟨rfl, gt9⟩ | ⟨rfl, hp9, VL9⟩
  · refine w_s X9 B d37_12 #[vr b, vi sv, vi 1, vr b1, vi 0, .unset] rfl (w_j X9 B d37_14 rfl (w_i X9 B d37_16 rfl (w_n X9 B d37_17 (feq (by decide)).1 (w_a X9 B d37_20 rfl rfl (w_i X9 B d37_21 rfl (w_c X9 B d37_22 (Dg.st (fun _ kk => XS.ishl X9.here hx rfl (hb hby d37_23) rfl kk) ?_)))))))
    show Sh T9 24 #[vr b, vi sv, vi 1, vr b1, vi 0, .unset] [(.int (sv <<< ((1 : Int32) &&& 31))), .ref b]
    refine w_i X9 B d37_24 rfl (w_i X9 B d37_25 rfl (Dg.st (fun _ kk => XS.iadd X9.here hx rfl (hb hby d37_26) rfl kk) ?_))
    show Sh T9 27 #[vr b, vi sv, vi 1, vr b1, vi 0, .unset] [(.int (sv + (1 : Int32))), (.int (sv <<< ((1 : Int32) &&& 31))), .ref b]
    refine w_cs X9 B hZ hown hml (rmNg l Z a0 hw [] (sv + (1 : Int32))  T9.heap n0 Z9 hto1 hto2) (tw hw 111 rfl) (tw hw 112 rfl) (tw hw 93 rfl) (tw hw 113 rfl) rfl d37_27 1 2 (lenOf pd8 rfl) rfl rfl rfl (by decide) ?_
    rintro _ T27 Lc27 X27 ⟨rfl, Nq27, hh27⟩
    have N27 := Fr.app N9 Nq27
    rw [hto]
    refine w_cs X27 B hZ hown hml (rmCr l Z a0 hw [] b (sv <<< ((1 : Int32) &&& 31)) mm kb ls 2 T9.heap n0 Z9 V_b_9 hck hf0 he (by decide) (by decide) hsum hfr) (tw hw 173 rfl) (tw hw 174 rfl) (tw hw 175 rfl) (tw hw 176 rfl) hh27 d37_30 3 0 (lenOf pd22 rfl) rfl rfl rfl (by decide) ?_
    rintro _ T30 Lc30 X30 ⟨bb30, kb30, rfl, gz30, Nq30, K30, V_bb30⟩
    have N30 := Fr.app N27 Nq30
    have ne_b_bb30 : b ≠ bb30 := Nat.ne_of_lt (Nat.lt_of_lt_of_le V_b_9.lt gz30)
    have gn_bb30 : n0 ≤ bb30 := Nat.le_trans Z9 gz30
    have gz_bb30 : h0.size ≤ bb30 := Nat.le_trans Kt9.1 gz30
    have Wo30 := Wo9.keep K30 own_k0
    have V_b_30 := V_b_9.keep K30 nin0
    have Kt30 := Keep.trans Kt9 K30 (by simp)
    have Z30 : n0 ≤ T30.heap.size := Nat.le_trans Z9 K30.1
    refine w_u X30 B d37_33 rfl #[vr b, vi sv, vi 1, vr b1, vi 0, vr bb30] rfl (w_k X30 B d37_35 rfl rfl (w_j X30 B d37_37 rfl ?_))
    show Sh T30 39 #[vr b, vi sv, vi 1, vr b1, vi 0, vr bb30] [.int 0, .ref bb30]
    refine w_cs X30 B hZ hown hml (rmGc l Z a0 hw [] bb30 (0 : Int32) cs sf _ _ _ z0 T30.heap n0 Z30 Wo30 V_bb30 hB0.1 hB0.2.1 hB0.2.2.1 hB0.2.2.2.1 hB0.2.2.2.2.1 hB0.2.2.2.2.2) (tw hw 121 rfl) (tw hw 122 rfl) (tw hw 93 rfl) (tw hw 123 rfl) rfl d37_39 2 0 (lenOf pd6 rfl) rfl rfl rfl (by decide) ?_
    rintro _ T39 Lc39 X39 ⟨rfl, Nq39, hh39⟩
    have N39 := Fr.app N30 Nq39
    refine w_d X39 B d37_42 ?_
    show Sh T39 45 #[vr b, vi sv, vi 1, vr b1, vi 0, vr bb30] [.int 255, .int z0]
    have hc45 : (255 : Int32) < z0 := (Int32.lt_iff_toInt_lt.mpr gt9)
    refine w_y X39 B 45 61 rfl d37_45 (tlt hc45).2.2.1 (by decide) (w_k X39 B d37_61 rfl rfl ?_)
    show Sh T39 63 #[vr b, vi sv, vi 1, vr b1, vi 0, vr bb30] [.ref bb30]
    exact Dg.retA X39 hlk B hret rfl ⟨rfl, rfl⟩ d37_63 (by rw [hh39]; exact ⟨bb30, kb30, rfl, gz_bb30, N39, Kt30, Or.inr V_bb30⟩) (by decide)
  · refine w_s X9 B d37_12 #[vr b, vi sv, vi 1, vr b1, vi 1, .unset] rfl (w_j X9 B d37_14 rfl (w_i X9 B d37_16 rfl (w_y X9 B 17 64 rfl d37_17 (teq (by decide)).1 (by decide) (w_a X9 B d37_64 rfl rfl ?_))))
    show Sh T9 65 #[vr b, vi sv, vi 1, vr b1, vi 1, .unset] [.ref b1]
    exact Dg.retA X9 hlk B hret rfl ⟨rfl, rfl⟩ d37_65 ⟨b1, k1, rfl, gz_b1, N9, Kt9, Or.inl ⟨VL9, hp9⟩⟩ (by decide)

def QNsl2 (Z : State) (b : Addr) (sv : Int32) (kb : ClassId) (mm : Int32) (ls lu : List Value) (PQ : Prop) (h0 : Heap) (n0 : Nat) (v : Option Value) (h : Heap) (L : List Loc) : Prop := ∃ r : Addr, v = some (.ref r) ∧ h0.size ≤ r ∧ Fr n0 L ∧ Keep h0 h [] ∧ own_Str Z h r 2 4 (own_sl ls sv 2) lu PQ
theorem rmNsl2 (l : Launch) (Z : State) (a0 : Array Value) (hw : ∀ d ∈ tables_1, d.before a0 Z = true) (ws : List Jvm.Cond) (b : Addr) (sv : Int32) (kb : ClassId) (mm : Int32) (ls lu : List Value) (PQ : Prop) (h0 : Heap) (n0 : Nat) (Z0 : n0 ≤ h0.size) (Vb : Arv Z h0 b kb .byte mm ls (.int 0)) (hP : PQ) (hto : sv + 2 = mm) (hck : ¬ mm < sv) (hf0 : ¬ sv < 0) (he : mm - sv = 2) (hsum : sv.toNatClampNeg + (2 : Int32).toNatClampNeg ≤ mm.toNatClampNeg) (hfr : ¬ sv = 0) :
    own_Met l on10 (Jvm.Cond.code on10 jdk_43_method_47_code 3 (some (.object "java/lang/String")) :: ws) orm39 #[.ref b, .int sv, .int 2] Z h0 (QNsl2 Z b sv kb mm ls lu PQ h0 n0) := by
  refine own_met (plainFor_of_name pn3) (fun m => ef_RII3 m b sv (2 : Int32)) ?_
  intro p e s m below meth c s₁ B hlk hret hml hZ hown hnm X0 e0
  have hx := B.1
  have hby := B.2
  have N0 := Fr.nil n0
  refine w_i X0 B d22_0 rfl (w_t X0 B 1 7 rfl d22_1 (feq (by decide)).2 (by decide) ?_)
  show Sh s₁ 7 #[vr b, vi sv, vi 2] []
  obtain ⟨T7, h7, X7, e7, E7, A7, D7, -, st7⟩ := newO X0 hx hZ hown (tw hw 193 rfl) (tw hw 8 rfl) (tw hw 9 rfl) e0 (g := (mkF m 7 #[vr b, vi sv, vi 2] [])) rfl (hb hby d22_7) (by decide) (by decide)
  obtain ⟨b7, g7⟩ : ∃ z, z = h0.size := ⟨_, rfl⟩
  rw [← g7] at A7 D7 st7
  have ne_b_b7 : b ≠ b7 := Nat.ne_of_lt (Nat.lt_of_lt_of_le Vb.lt (Nat.le_of_eq g7.symm))
  have gz_b7 : h0.size ≤ b7 := Nat.le_trans (Keep.refl h0 []).1 (Nat.le_of_eq g7.symm)
  have V_b_7 := Vb.ext E7
  have K7 := (Keep.refl h0 []).ext E7
  have gn_b7 : n0 ≤ b7 := Nat.le_trans Z0 (Nat.le_of_eq g7.symm)
  have Z7 : n0 ≤ h7.size := Nat.le_trans Z0 E7.1
  have F_b7_value : Fld Z h7 b7 "java/lang/String" "value" "[B" .null := D7 (Or.inr (tw hw 22 rfl)) (ty := (.array .byte)) (by decide)
  have F_b7_coder : Fld Z h7 b7 "java/lang/String" "coder" "B" (.int 0) := D7 (Or.inr (tw hw 23 rfl)) (ty := .byte) (by decide)
  refine Dg.st st7 ?_
  refine Dg.st (fun _ kk => XS.dup X7.here hx rfl (hb hby d22_10) rfl rfl kk) (w_a X7 B d22_11 rfl rfl (w_i X7 B d22_12 rfl (w_i X7 B d22_13 rfl (w_i X7 B d22_14 rfl (Dg.st (fun _ kk => XS.iadd X7.here hx rfl (hb hby d22_15) rfl kk) ?_)))))
  show Sh T7 16 #[vr b, vi sv, vi 2] [(.int (sv + (2 : Int32))), .int sv, .ref b, .ref b7, .ref b7]
  rw [hto]
  refine w_cs X7 B hZ hown hml (rmCr l Z a0 hw [] b sv mm kb ls 2 h7 n0 Z7 V_b_7 hck hf0 he (by decide) (by decide) hsum hfr) (tw hw 194 rfl) (tw hw 174 rfl) (tw hw 175 rfl) (tw hw 176 rfl) e7 d22_16 3 2 (lenOf pd22 rfl) rfl rfl rfl (by decide) ?_
  rintro _ T16 Lc16 X16 ⟨bb16, kb16, rfl, gz16, Nq16, K16, V_bb16⟩
  have N16 := Fr.app N0 Nq16
  have ne_b_bb16 : b ≠ bb16 := Nat.ne_of_lt (Nat.lt_of_lt_of_le V_b_7.lt gz16)
  have ne_b7_bb16 : b7 ≠ bb16 := Nat.ne_of_lt (Nat.lt_of_lt_of_le A7.lt gz16)
  have gn_bb16 : n0 ≤ bb16 := Nat.le_trans Z7 gz16
  have gz_bb16 : h0.size ≤ bb16 := Nat.le_trans K7.1 gz16
  have V_b_16 := V_b_7.keep K16 nin0
  have E_b7_16 := A7.keep K16
  have F_b7_value_16 := F_b7_value.keep K16 nin0
  have F_b7_coder_16 := F_b7_coder.keep K16 nin0
  have Kt16 := Keep.trans K7 K16 (by simp)
  have Z16 : n0 ≤ T16.heap.size := Nat.le_trans Z7 K16.1
  refine w_c X16 B d22_19 ?_
  show Sh T16 20 #[vr b, vi sv, vi 2] [.int 0, .ref bb16, .ref b7, .ref b7]
  refine w_ci X16 B hZ hown hml (rmSb0 l Z a0 hw [] b7 bb16 T16.heap n0 Z16 gn_b7 E_b7_16 F_b7_coder_16 F_b7_value_16) (tw hw 195 rfl) (tw hw 191 rfl) (tw hw 9 rfl) (tw hw 192 rfl) rfl d22_20 2 1 rfl (lenOf pd23 rfl) rfl rfl rfl rfl (by decide) ?_
  rintro _ T20 Lc20 X20 ⟨rfl, Nq20, K20, Es20, Fcs20, Fvs20⟩
  have N20 := Fr.app N16 Nq20
  have Vk20 := V_bb16.keep K20 (ninS (Ne.symm ne_b7_bb16) nin0)
  have Kt20 := Keep.trans Kt16 K20 (fun x hx => Or.inr ((List.mem_singleton.mp hx) ▸ gz_b7))
  have Z20 : n0 ≤ T20.heap.size := Nat.le_trans Z16 K20.1
  exact Dg.retA X20 hlk B hret rfl ⟨rfl, rfl⟩ d22_23 ⟨b7, rfl, gz_b7, N20, Kt20, Es20, Or.inl ⟨bb16, kb16, Fcs20, Fvs20, Vk20, hP⟩⟩ (by decide)

def QD5_2 (Z : State) (b : Addr) (sv : Int32) (d : Addr) (cs : Int32) (sf : Value) (kb kd : ClassId) (mm : Int32) (ls : List Value) (z0 : Int32) (z1 : Int32) (h0 : Heap) (n0 : Nat) (v : Option Value) (h : Heap) (L : List Loc) : Prop := Fr n0 L ∧ Keep h0 h [d] ∧ ((v = some (.int 0) ∧ 255 < z0.toInt) ∨ (v = some (.int 1) ∧ 255 < z1.toInt) ∨ (v = some (.int 2) ∧ (z0.toInt ≤ 255 ∧ z1.toInt ≤ 255 ∧ True) ∧ Arv Z h d kd .byte 2 [.int (own_b z0), .int (own_b z1)] (.int 0)))
theorem rmD5_2 (l : Launch) (Z : State) (a0 : Array Value) (hw : ∀ d ∈ tables_1, d.before a0 Z = true) (ws : List Jvm.Cond) (b : Addr) (sv : Int32) (d : Addr) (cs : Int32) (sf : Value) (kb kd : ClassId) (mm : Int32) (ls : List Value) (z0 : Int32) (z1 : Int32) (h0 : Heap) (n0 : Nat) (Z0 : n0 ≤ h0.size) (hW : own_W Z h0 n0 cs sf) (Vb : Arv Z h0 b kb .byte mm ls (.int 0)) (Vd : Arv Z h0 d kd .byte 2 [.int 0, .int 0] (.int 0)) (gd : n0 ≤ d) (hne : b ≠ d) (hx1 : ¬ (((mm >>> ((1 : Int32) &&& 31)) ||| sv) ||| 2) < 0) (hx2 : ¬ ((mm >>> ((1 : Int32) &&& 31)) - sv) < 2) (hA0 : own_At mm ls sv z0) (hA1 : own_At mm ls (sv + (1 : Int32)) z1) :
    own_Met l on17 (Jvm.Cond.code on17 jdk_52_method_22_code 7 (some .int) :: ws) orm37 #[.ref b, .int sv, .ref d, .int 0, .int 2] Z h0 (QD5_2 Z b sv d cs sf kb kd mm ls z0 z1 h0 n0) := by
  refine own_met (plainFor_of_name pn2) (fun m => ef_RIRII7 m b sv d (0 : Int32) (2 : Int32)) ?_
  intro p e s m below meth c s₁ B hlk hret hml hZ hown hnm X0 e0
  have hx := B.1
  have hby := B.2
  have N0 := Fr.nil n0
  have r_sv := rng32 sv
  refine w_i X0 B d38_0 rfl (w_j X0 B d38_1 rfl (w_a X0 B d38_3 rfl rfl ?_))
  show Sh s₁ 4 #[vr b, vi sv, vr d, vi 0, vi 2, .unset, .unset] [.ref b, .int 2, .int sv]
  refine w_cs X0 B hZ hown hml (rmUo l Z a0 hw [] sv (2 : Int32) b cs sf kb mm ls h0 n0 Z0 hW Vb hx1 hx2) (tw hw 164 rfl) (tw hw 165 rfl) (tw hw 93 rfl) (tw hw 166 rfl) e0 d38_4 3 0 (lenOf pd24 rfl) rfl rfl rfl (by decide) ?_
  rintro _ T4 Lc4 X4 ⟨rfl, Nq4, hh4⟩
  have N4 := Fr.app N0 Nq4
  refine w_c X4 B d38_7 (w_s X4 B d38_8 #[vr b, vi sv, vr d, vi 0, vi 2, vi 0, .unset] rfl (w_j X4 B d38_10 rfl (w_j X4 B d38_12 rfl (w_n X4 B d38_14 (tlt (by decide)).2.1 (w_a X4 B d38_17 rfl rfl (w_i X4 B d38_18 rfl ?_))))))
  show Sh T4 19 #[vr b, vi sv, vr d, vi 0, vi 2, vi 0, .unset] [.int sv, .ref b]
  refine w_cs X4 B hZ hown hml (rmGc l Z a0 hw [] b sv cs sf kb mm ls z0 h0 n0 Z0 hW Vb hA0.1 hA0.2.1 hA0.2.2.1 hA0.2.2.2.1 hA0.2.2.2.2.1 hA0.2.2.2.2.2) (tw hw 121 rfl) (tw hw 122 rfl) (tw hw 93 rfl) (tw hw 123 rfl) hh4 d38_19 2 0 (lenOf pd6 rfl) rfl rfl rfl (by decide) ?_
  rintro _ T19 Lc19 X19 ⟨rfl, Nq19, hh19⟩
  have N19 := Fr.app N4 Nq19
  refine w_s X19 B d38_22 #[vr b, vi sv, vr d, vi 0, vi 2, vi 0, vi z0] rfl (w_j X19 B d38_24 rfl (w_d X19 B d38_26 ?_))
  show Sh T19 29 #[vr b, vi sv, vr d, vi 0, vi 2, vi 0, vi z0] [.int 255, .int z0]
  by_cases hc29 : (255 : Int32) < z0
  · have hi29 : 255 < z0.toInt := Int32.lt_iff_toInt_lt.mp hc29
    refine w_n X19 B d38_29 (tlt hc29).2.2.2 (w_j X19 B d38_32 rfl ?_)
    show Sh T19 34 #[vr b, vi sv, vr d, vi 0, vi 2, vi 0, vi z0] [.int 0]
    exact Dg.retI X19 hlk B hret rfl (Or.inl rfl) d38_34 (by rw [hh19]; exact ⟨N19, (Keep.refl h0 [d]), (Or.inl ⟨rfl, hi29⟩)⟩) (by decide)
  · have hi29 : ¬ 255 < z0.toInt := fun qq => hc29 (Int32.lt_iff_toInt_lt.mpr qq)
    refine w_y X19 B 29 35 rfl d38_29 (flt hc29).2.2.2 (by decide) (w_a X19 B d38_35 rfl rfl (w_i X19 B d38_36 rfl (w_j X19 B d38_37 rfl (Dg.st (fun _ kk => XS.i2b X19.here hx rfl (hb hby d38_39) rfl kk) ?_))))
    show Sh T19 40 #[vr b, vi sv, vr d, vi 0, vi 2, vi 0, vi z0] [.int (z0.toInt8.toInt32), .int 0, .ref d]
    have Vc_d_40 := Vd
    obtain ⟨cl_d_40, Ar_d_40, q_d_40, S_d_40, N_d_40, H_d_40, G_d_40⟩ := Vc_d_40
    have hin40 : ¬ ((0 : Int32) < 0 ∨ cl_d_40.slots.size ≤ ((0 : Int32)).toNatClampNeg) := inb_of S_d_40 ⟨by decide, by decide⟩
    obtain ⟨T40, h40, X40, e40, W40, st40⟩ := stB X19 hx hZ hh19 Ar_d_40 (j := (0 : Int32)) hin40 (g := (mkF m 40 #[vr b, vi sv, vr d, vi 0, vi 2, vi 0, vi z0] [.int (z0.toInt8.toInt32), .int 0, .ref d])) rfl rfl (hb hby d38_40)
    have Wo40 := hW.wr W40 gd
    have V_b_40 := Vb.other W40 hne
    have V_d_40 := Arv.set Ar_d_40 q_d_40 S_d_40 N_d_40 H_d_40 G_d_40 (fits_nar_byte _) W40 0 rfl (Nat.le_of_ble_eq_true rfl)
    have K40 := (Keep.refl h0 [d]).wr W40 (Or.inl (List.mem_of_getElem? (i := 0) rfl))
    have N40 := Fr.snoc X40 N19 gd
    have Z40 : n0 ≤ h40.size := Nat.le_trans Z0 (Keep.of_wr W40).1
    refine Dg.st st40 ?_
    refine w_p X40 B d38_41 rfl #[vr b, vi (sv + (1 : Int32)), vr d, vi 0, vi 2, vi 0, vi z0] rfl (w_p X40 B d38_44 rfl #[vr b, vi (sv + (1 : Int32)), vr d, vi 1, vi 2, vi 0, vi z0] rfl (w_p X40 B d38_47 rfl #[vr b, vi (sv + (1 : Int32)), vr d, vi 1, vi 2, vi 1, vi z0] rfl (w_g X40 B 50 10 rfl d38_50 (by decide) (w_j X40 B d38_10 rfl (w_j X40 B d38_12 rfl (w_n X40 B d38_14 (tlt (by decide)).2.1 (w_a X40 B d38_17 rfl rfl ?_)))))))
    show Sh T40 18 #[vr b, vi (sv + (1 : Int32)), vr d, vi 1, vi 2, vi 1, vi z0] [.ref b]
    refine w_i X40 B d38_18 rfl ?_
    show Sh T40 19 #[vr b, vi (sv + (1 : Int32)), vr d, vi 1, vi 2, vi 1, vi z0] [(.int (sv + (1 : Int32))), .ref b]
    refine w_cs X40 B hZ hown hml (rmGc l Z a0 hw [] b (sv + (1 : Int32)) cs sf kb mm ls z1 h40 n0 Z40 Wo40 V_b_40 hA1.1 hA1.2.1 hA1.2.2.1 hA1.2.2.2.1 hA1.2.2.2.2.1 hA1.2.2.2.2.2) (tw hw 121 rfl) (tw hw 122 rfl) (tw hw 93 rfl) (tw hw 123 rfl) e40 d38_19 2 0 (lenOf pd6 rfl) rfl rfl rfl (by decide) ?_
    rintro _ T19_2 Lc19_2 X19_2 ⟨rfl, Nq19_2, hh19_2⟩
    have N19_2 := Fr.app N40 Nq19_2
    refine w_s X19_2 B d38_22 #[vr b, vi (sv + (1 : Int32)), vr d, vi 1, vi 2, vi 1, vi z1] rfl (w_j X19_2 B d38_24 rfl (w_d X19_2 B d38_26 ?_))
    show Sh T19_2 29 #[vr b, vi (sv + (1 : Int32)), vr d, vi 1, vi 2, vi 1, vi z1] [.int 255, .int z1]
    by_cases hc29_2 : (255 : Int32) < z1
    · have hi29_2 : 255 < z1.toInt := Int32.lt_iff_toInt_lt.mp hc29_2
      refine w_n X19_2 B d38_29 (tlt hc29_2).2.2.2 (w_j X19_2 B d38_32 rfl ?_)
      show Sh T19_2 34 #[vr b, vi (sv + (1 : Int32)), vr d, vi 1, vi 2, vi 1, vi z1] [.int 1]
      exact Dg.retI X19_2 hlk B hret rfl (Or.inl rfl) d38_34 (by rw [hh19_2]; exact ⟨N19_2, K40, (Or.inr (Or.inl ⟨rfl, hi29_2⟩))⟩) (by decide)
    · have hi29_2 : ¬ 255 < z1.toInt := fun qq => hc29_2 (Int32.lt_iff_toInt_lt.mpr qq)
      refine w_y X19_2 B 29 35 rfl d38_29 (flt hc29_2).2.2.2 (by decide) (w_a X19_2 B d38_35 rfl rfl (w_i X19_2 B d38_36 rfl (w_j X19_2 B d38_37 rfl (Dg.st (fun _ kk => XS.i2b X19_2.here hx rfl (hb hby d38_39) rfl kk) ?_))))
      show Sh T19_2 40 #[vr b, vi (sv + (1 : Int32)), vr d, vi 1, vi 2, vi 1, vi z1] [.int (z1.toInt8.toInt32), .int 1, .ref d]
      have Vc_d_40_2 := V_d_40
      obtain ⟨cl_d_40_2, Ar_d_40_2, q_d_40_2, S_d_40_2, N_d_40_2, H_d_40_2, G_d_40_2⟩ := Vc_d_40_2
      have hin40_2 : ¬ ((1 : Int32) < 0 ∨ cl_d_40_2.slots.size ≤ ((1 : Int32)).toNatClampNeg) := inb_of S_d_40_2 ⟨by decide, by decide⟩
      obtain ⟨T40_2, h40_2, X40_2, e40_2, W40_2, st40_2⟩ := stB X19_2 hx hZ hh19_2 Ar_d_40_2 (j := (1 : Int32)) hin40_2 (g := (mkF m 40 #[vr b, vi (sv + (1 : Int32)), vr d, vi 1, vi 2, vi 1, vi z1] [.int (z1.toInt8.toInt32), .int 1, .ref d])) rfl rfl (hb hby d38_40)
      have Wo40_2 := Wo40.wr W40_2 gd
      have V_b_40_2 := V_b_40.other W40_2 hne
      have V_d_40_2 := Arv.set Ar_d_40_2 q_d_40_2 S_d_40_2 N_d_40_2 H_d_40_2 G_d_40_2 (fits_nar_byte _) W40_2 1 rfl (Nat.le_of_ble_eq_true rfl)
      have K40_2 := K40.wr W40_2 (Or.inl (List.mem_of_getElem? (i := 0) rfl))
      have N40_2 := Fr.snoc X40_2 N19_2 gd
      have Z40_2 : n0 ≤ h40_2.size := Nat.le_trans Z40 (Keep.of_wr W40_2).1
      refine Dg.st st40_2 ?_
      refine w_p X40_2 B d38_41 rfl #[vr b, vi ((sv + (1 : Int32)) + (1 : Int32)), vr d, vi 1, vi 2, vi 1, vi z1] rfl (w_p X40_2 B d38_44 rfl #[vr b, vi ((sv + (1 : Int32)) + (1 : Int32)), vr d, vi 2, vi 2, vi 1, vi z1] rfl (w_p X40_2 B d38_47 rfl #[vr b, vi ((sv + (1 : Int32)) + (1 : Int32)), vr d, vi 2, vi 2, vi 2, vi z1] rfl (w_g X40_2 B 50 10 rfl d38_50 (by decide) (w_j X40_2 B d38_10 rfl (w_j X40_2 B d38_12 rfl (w_y X40_2 B 14 53 rfl d38_14 (flt (by decide)).2.1 (by decide) (w_j X40_2 B d38_53 rfl ?_)))))))
      show Sh T40_2 55 #[vr b, vi ((sv + (1 : Int32)) + (1 : Int32)), vr d, vi 2, vi 2, vi 2, vi z1] [.int 2]
      exact Dg.retI X40_2 hlk B hret rfl (Or.inl rfl) d38_55 (by rw [e40_2]; exact ⟨N40_2, K40_2, (Or.inr (Or.inr ⟨rfl, ⟨Int.not_lt.mp hi29, Int.not_lt.mp hi29_2, trivial⟩, V_d_40_2⟩))⟩) (by decide)

def QD3_2 (Z : State) (b : Addr) (sv : Int32) (cs : Int32) (sf : Value) (kb : ClassId) (mm : Int32) (ls : List Value) (z0 : Int32) (z1 : Int32) (h0 : Heap) (n0 : Nat) (v : Option Value) (h : Heap) (L : List Loc) : Prop := ∃ (d : Addr) (kd : ClassId), v = some (.ref d) ∧ h0.size ≤ d ∧ Fr n0 L ∧ Keep h0 h [] ∧ ((Arv Z h d kd .byte 2 [.int (own_b z0), .int (own_b z1)] (.int 0) ∧ (z0.toInt ≤ 255 ∧ z1.toInt ≤ 255 ∧ True)) ∨ Arv Z h d kd .byte 4 (own_sl ls (sv <<< ((1 : Int32) &&& 31)) 4) (.int 0))
theorem rmD3_2 (l : Launch) (Z : State) (a0 : Array Value) (hw : ∀ d ∈ tables_1, d.before a0 Z = true) (ws : List Jvm.Cond) (b : Addr) (sv : Int32) (cs : Int32) (sf : Value) (kb : ClassId) (mm : Int32) (ls : List Value) (z0 : Int32) (z1 : Int32) (h0 : Heap) (n0 : Nat) (Z0 : n0 ≤ h0.size) (hW : own_W Z h0 n0 cs sf) (Vb : Arv Z h0 b kb .byte mm ls (.int 0)) (hx1 : ¬ (((mm >>> ((1 : Int32) &&& 31)) ||| sv) ||| 2) < 0) (hx2 : ¬ ((mm >>> ((1 : Int32) &&& 31)) - sv) < 2) (hA0 : own_At mm ls sv z0) (hA1 : own_At mm ls (sv + (1 : Int32)) z1) (hto : (sv + 2) <<< ((1 : Int32) &&& 31) = mm) (hto1 : ¬ (sv + 2) < 0) (hto2 : (sv + 2) < 1073741823) (hck : ¬ mm < (sv <<< ((1 : Int32) &&& 31))) (hf0 : ¬ (sv <<< ((1 : Int32) &&& 31)) < 0) (he : mm - (sv <<< ((1 : Int32) &&& 31)) = 4) (hsum : (sv <<< ((1 : Int32) &&& 31)).toNatClampNeg + (4 : Int32).toNatClampNeg ≤ mm.toNatClampNeg) (hfr : ¬ (sv <<< ((1 : Int32) &&& 31)) = 0) (hB0 : own_At 4 (own_sl ls (sv <<< ((1 : Int32) &&& 31)) 4) 0 z0) (hB1 : own_At 4 (own_sl ls (sv <<< ((1 : Int32) &&& 31)) 4) 1 z1) :
    own_Met l on16 (Jvm.Cond.code on16 jdk_52_method_17_code 6 (some (.array .byte)) :: ws) ({ frames := 4, cells := 2, slots := 10, locals := 96 } : Room) #[.ref b, .int sv, .int 2] Z h0 (QD3_2 Z b sv cs sf kb mm ls z0 z1 h0 n0) := by
  refine own_met (plainFor_of_name pn2) (fun m => ef_RII6 m b sv (2 : Int32)) ?_
  intro p e s m below meth c s₁ B hlk hret hml hZ hown hnm X0 e0
  have hx := B.1
  have hby := B.2
  have N0 := Fr.nil n0
  refine w_i X0 B d37_0 rfl ?_
  show Sh s₁ 1 #[vr b, vi sv, vi 2, .unset, .unset, .unset] [.int 2]
  obtain ⟨T1, h1, k1, X1, e1, E1, A1, st1⟩ := newP X0 hx hZ (tw hw 21 rfl) e0 (g := (mkF m 1 #[vr b, vi sv, vi 2, .unset, .unset, .unset] [.int 2])) rfl (hb hby d37_1) rfl (by decide) (cap := 2) (by decide) (by decide) (by decide) (by decide)
  obtain ⟨b1, g1⟩ : ∃ z, z = h0.size := ⟨_, rfl⟩
  rw [← g1] at A1 st1
  have ne_b_b1 : b ≠ b1 := Nat.ne_of_lt (Nat.lt_of_lt_of_le Vb.lt (Nat.le_of_eq g1.symm))
  have gz_b1 : h0.size ≤ b1 := Nat.le_trans (Keep.refl h0 []).1 (Nat.le_of_eq g1.symm)
  have V_b_1 := Vb.ext E1
  have K1 := (Keep.refl h0 []).ext E1
  have Wo1 := hW.ext E1
  have gn_b1 : n0 ≤ b1 := Nat.le_trans Z0 (Nat.le_of_eq g1.symm)
  have Z1 : n0 ≤ h1.size := Nat.le_trans Z0 E1.1
  have V_b1 : Arv Z h1 b1 k1 .byte (2 : Int32) [.int 0, .int 0] (.int 0) := (Arv.new A1 (by decide)).pad (pad_rep [] (.int 0) 2)
  refine Dg.st st1 ?_
  refine w_U X1 B d37_3 rfl #[vr b, vi sv, vi 2, vr b1, .unset, .unset] rfl (w_a X1 B d37_4 rfl rfl (w_i X1 B d37_5 rfl (w_a X1 B d37_6 rfl rfl (w_c X1 B d37_7 (w_i X1 B d37_8 rfl ?_)))))
  show Sh T1 9 #[vr b, vi sv, vi 2, vr b1, .unset, .unset] [.int 2, .int 0, .ref b1, .int sv, .ref b]
  refine w_cs X1 B hZ hown hml (rmD5_2 l Z a0 hw [] b sv b1 cs sf kb _ mm ls z0 z1 h1 n0 Z1 Wo1 V_b_1 V_b1 gn_b1 ne_b_b1 hx1 hx2 hA0 hA1) (tw hw 161 rfl) (tw hw 162 rfl) (tw hw 93 rfl) (tw hw 163 rfl) e1 d37_9 5 0 (lenOf pd25 rfl) rfl rfl rfl (by decide) ?_
  rintro _ T9 Lc9 X9 ⟨Nq9, K9, hq9⟩
  have N9 := Fr.app N0 Nq9
  have Wo9 := Wo1.keep K9 (own_k1 gn_b1)
  have V_b_9 := V_b_1.keep K9 (ninS ne_b_b1 nin0)
  have Kt9 := Keep.trans K1 K9 (fun x hx => Or.inr ((List.mem_singleton.mp hx) ▸ gz_b1))
  have Z9 : n0 ≤ T9.heap.size := Nat.le_trans Z1 K9.1
  rcases hq9 with ⟨rfl, gt9⟩ | ⟨rfl, gt9⟩ | ⟨rfl, hp9, VL9⟩
  · refine w_s X9 B d37_12 #[vr b, vi sv, vi 2, vr b1, vi 0, .unset] rfl (w_j X9 B d37_14 rfl (w_i X9 B d37_16 rfl (w_n X9 B d37_17 (feq (by decide)).1 (w_a X9 B d37_20 rfl rfl (w_i X9 B d37_21 rfl (w_c X9 B d37_22 (Dg.st (fun _ kk => XS.ishl X9.here hx rfl (hb hby d37_23) rfl kk) ?_)))))))
    show Sh T9 24 #[vr b, vi sv, vi 2, vr b1, vi 0, .unset] [(.int (sv <<< ((1 : Int32) &&& 31))), .ref b]
    refine w_i X9 B d37_24 rfl (w_i X9 B d37_25 rfl (Dg.st (fun _ kk => XS.iadd X9.here hx rfl (hb hby d37_26) rfl kk) ?_))
    show Sh T9 27 #[vr b, vi sv, vi 2, vr b1, vi 0, .unset] [(.int (sv + (2 : Int32))), (.int (sv <<< ((1 : Int32) &&& 31))), .ref b]
    refine w_cs X9 B hZ hown hml (rmNg l Z a0 hw [] (sv + (2 : Int32))  T9.heap n0 Z9 hto1 hto2) (tw hw 111 rfl) (tw hw 112 rfl) (tw hw 93 rfl) (tw hw 113 rfl) rfl d37_27 1 2 (lenOf pd8 rfl) rfl rfl rfl (by decide) ?_
    rintro _ T27 Lc27 X27 ⟨rfl, Nq27, hh27⟩
    have N27 := Fr.app N9 Nq27
    rw [hto]
    refine w_cs X27 B hZ hown hml (rmCr l Z a0 hw [] b (sv <<< ((1 : Int32) &&& 31)) mm kb ls 4 T9.heap n0 Z9 V_b_9 hck hf0 he (by decide) (by decide) hsum hfr) (tw hw 173 rfl) (tw hw 174 rfl) (tw hw 175 rfl) (tw hw 176 rfl) hh27 d37_30 3 0 (lenOf pd22 rfl) rfl rfl rfl (by decide) ?_
    rintro _ T30 Lc30 X30 ⟨bb30, kb30, rfl, gz30, Nq30, K30, V_bb30⟩
    have N30 := Fr.app N27 Nq30
    have ne_b_bb30 : b ≠ bb30 := Nat.ne_of_lt (Nat.lt_of_lt_of_le V_b_9.lt gz30)
    have gn_bb30 : n0 ≤ bb30 := Nat.le_trans Z9 gz30
    have gz_bb30 : h0.size ≤ bb30 := Nat.le_trans Kt9.1 gz30
    have Wo30 := Wo9.keep K30 own_k0
    have V_b_30 := V_b_9.keep K30 nin0
    have Kt30 := Keep.trans Kt9 K30 (by simp)
    have Z30 : n0 ≤ T30.heap.size := Nat.le_trans Z9 K30.1
    refine w_u X30 B d37_33 rfl #[vr b, vi sv, vi 2, vr b1, vi 0, vr bb30] rfl (w_k X30 B d37_35 rfl rfl (w_j X30 B d37_37 rfl ?_))
    show Sh T30 39 #[vr b, vi sv, vi 2, vr b1, vi 0, vr bb30] [.int 0, .ref bb30]
    refine w_cs X30 B hZ hown hml (rmGc l Z a0 hw [] bb30 (0 : Int32) cs sf _ _ _ z0 T30.heap n0 Z30 Wo30 V_bb30 hB0.1 hB0.2.1 hB0.2.2.1 hB0.2.2.2.1 hB0.2.2.2.2.1 hB0.2.2.2.2.2) (tw hw 121 rfl) (tw hw 122 rfl) (tw hw 93 rfl) (tw hw 123 rfl) rfl d37_39 2 0 (lenOf pd6 rfl) rfl rfl rfl (by decide) ?_
    rintro _ T39 Lc39 X39 ⟨rfl, Nq39, hh39⟩
    have N39 := Fr.app N30 Nq39
    refine w_d X39 B d37_42 ?_
    show Sh T39 45 #[vr b, vi sv, vi 2, vr b1, vi 0, vr bb30] [.int 255, .int z0]
    have hc45 : (255 : Int32) < z0 := (Int32.lt_iff_toInt_lt.mpr gt9)
    refine w_y X39 B 45 61 rfl d37_45 (tlt hc45).2.2.1 (by decide) (w_k X39 B d37_61 rfl rfl ?_)
    show Sh T39 63 #[vr b, vi sv, vi 2, vr b1, vi 0, vr bb30] [.ref bb30]
    exact Dg.retA X39 hlk B hret rfl ⟨rfl, rfl⟩ d37_63 (by rw [hh39]; exact ⟨bb30, kb30, rfl, gz_bb30, N39, Kt30, Or.inr V_bb30⟩) (by decide)
  · refine w_s X9 B d37_12 #[vr b, vi sv, vi 2, vr b1, vi 1, .unset] rfl (w_j X9 B d37_14 rfl (w_i X9 B d37_16 rfl (w_n X9 B d37_17 (feq (by decide)).1 (w_a X9 B d37_20 rfl rfl (w_i X9 B d37_21 rfl (w_c X9 B d37_22 (Dg.st (fun _ kk => XS.ishl X9.here hx rfl (hb hby d37_23) rfl kk) ?_)))))))
    show Sh T9 24 #[vr b, vi sv, vi 2, vr b1, vi 1, .unset] [(.int (sv <<< ((1 : Int32) &&& 31))), .ref b]
    refine w_i X9 B d37_24 rfl (w_i X9 B d37_25 rfl (Dg.st (fun _ kk => XS.iadd X9.here hx rfl (hb hby d37_26) rfl kk) ?_))
    show Sh T9 27 #[vr b, vi sv, vi 2, vr b1, vi 1, .unset] [(.int (sv + (2 : Int32))), (.int (sv <<< ((1 : Int32) &&& 31))), .ref b]
    refine w_cs X9 B hZ hown hml (rmNg l Z a0 hw [] (sv + (2 : Int32))  T9.heap n0 Z9 hto1 hto2) (tw hw 111 rfl) (tw hw 112 rfl) (tw hw 93 rfl) (tw hw 113 rfl) rfl d37_27 1 2 (lenOf pd8 rfl) rfl rfl rfl (by decide) ?_
    rintro _ T27 Lc27 X27 ⟨rfl, Nq27, hh27⟩
    have N27 := Fr.app N9 Nq27
    rw [hto]
    refine w_cs X27 B hZ hown hml (rmCr l Z a0 hw [] b (sv <<< ((1 : Int32) &&& 31)) mm kb ls 4 T9.heap n0 Z9 V_b_9 hck hf0 he (by decide) (by decide) hsum hfr) (tw hw 173 rfl) (tw hw 174 rfl) (tw hw 175 rfl) (tw hw 176 rfl) hh27 d37_30 3 0 (lenOf pd22 rfl) rfl rfl rfl (by decide) ?_
    rintro _ T30 Lc30 X30 ⟨bb30, kb30, rfl, gz30, Nq30, K30, V_bb30⟩
    have N30 := Fr.app N27 Nq30
    have ne_b_bb30 : b ≠ bb30 := Nat.ne_of_lt (Nat.lt_of_lt_of_le V_b_9.lt gz30)
    have gn_bb30 : n0 ≤ bb30 := Nat.le_trans Z9 gz30
    have gz_bb30 : h0.size ≤ bb30 := Nat.le_trans Kt9.1 gz30
    have Wo30 := Wo9.keep K30 own_k0
    have V_b_30 := V_b_9.keep K30 nin0
    have Kt30 := Keep.trans Kt9 K30 (by simp)
    have Z30 : n0 ≤ T30.heap.size := Nat.le_trans Z9 K30.1
    refine w_u X30 B d37_33 rfl #[vr b, vi sv, vi 2, vr b1, vi 1, vr bb30] rfl (w_k X30 B d37_35 rfl rfl (w_j X30 B d37_37 rfl ?_))
    show Sh T30 39 #[vr b, vi sv, vi 2, vr b1, vi 1, vr bb30] [.int 1, .ref bb30]
    refine w_cs X30 B hZ hown hml (rmGc l Z a0 hw [] bb30 (1 : Int32) cs sf _ _ _ z1 T30.heap n0 Z30 Wo30 V_bb30 hB1.1 hB1.2.1 hB1.2.2.1 hB1.2.2.2.1 hB1.2.2.2.2.1 hB1.2.2.2.2.2) (tw hw 121 rfl) (tw hw 122 rfl) (tw hw 93 rfl) (tw hw 123 rfl) rfl d37_39 2 0 (lenOf pd6 rfl) rfl rfl rfl (by decide) ?_
    rintro _ T39 Lc39 X39 ⟨rfl, Nq39, hh39⟩
    have N39 := Fr.app N30 Nq39
    refine w_d X39 B d37_42 ?_
    show Sh T39 45 #[vr b, vi sv, vi 2, vr b1, vi 1, vr bb30] [.int 255, .int z1]
    have hc45 : (255 : Int32) < z1 := (Int32.lt_iff_toInt_lt.mpr gt9)
    refine w_y X39 B 45 61 rfl d37_45 (tlt hc45).2.2.1 (by decide) (w_k X39 B d37_61 rfl rfl ?_)
    show Sh T39 63 #[vr b, vi sv, vi 2, vr b1, vi 1, vr bb30] [.ref bb30]
    exact Dg.retA X39 hlk B hret rfl ⟨rfl, rfl⟩ d37_63 (by rw [hh39]; exact ⟨bb30, kb30, rfl, gz_bb30, N39, Kt30, Or.inr V_bb30⟩) (by decide)
  · refine w_s X9 B d37_12 #[vr b, vi sv, vi 2, vr b1, vi 2, .unset] rfl (w_j X9 B d37_14 rfl (w_i X9 B d37_16 rfl (w_y X9 B 17 64 rfl d37_17 (teq (by decide)).1 (by decide) (w_a X9 B d37_64 rfl rfl ?_))))
    show Sh T9 65 #[vr b, vi sv, vi 2, vr b1, vi 2, .unset] [.ref b1]
    exact Dg.retA X9 hlk B hret rfl ⟨rfl, rfl⟩ d37_65 ⟨b1, k1, rfl, gz_b1, N9, Kt9, Or.inl ⟨VL9, hp9⟩⟩ (by decide)

def QNsl3 (Z : State) (b : Addr) (sv : Int32) (kb : ClassId) (mm : Int32) (ls lu : List Value) (PQ : Prop) (h0 : Heap) (n0 : Nat) (v : Option Value) (h : Heap) (L : List Loc) : Prop := ∃ r : Addr, v = some (.ref r) ∧ h0.size ≤ r ∧ Fr n0 L ∧ Keep h0 h [] ∧ own_Str Z h r 3 6 (own_sl ls sv 3) lu PQ
theorem rmNsl3 (l : Launch) (Z : State) (a0 : Array Value) (hw : ∀ d ∈ tables_1, d.before a0 Z = true) (ws : List Jvm.Cond) (b : Addr) (sv : Int32) (kb : ClassId) (mm : Int32) (ls lu : List Value) (PQ : Prop) (h0 : Heap) (n0 : Nat) (Z0 : n0 ≤ h0.size) (Vb : Arv Z h0 b kb .byte mm ls (.int 0)) (hP : PQ) (hto : sv + 3 = mm) (hck : ¬ mm < sv) (hf0 : ¬ sv < 0) (he : mm - sv = 3) (hsum : sv.toNatClampNeg + (3 : Int32).toNatClampNeg ≤ mm.toNatClampNeg) (hfr : ¬ sv = 0) :
    own_Met l on10 (Jvm.Cond.code on10 jdk_43_method_47_code 3 (some (.object "java/lang/String")) :: ws) orm39 #[.ref b, .int sv, .int 3] Z h0 (QNsl3 Z b sv kb mm ls lu PQ h0 n0) := by
  refine own_met (plainFor_of_name pn3) (fun m => ef_RII3 m b sv (3 : Int32)) ?_
  intro p e s m below meth c s₁ B hlk hret hml hZ hown hnm X0 e0
  have hx := B.1
  have hby := B.2
  have N0 := Fr.nil n0
  refine w_i X0 B d22_0 rfl (w_t X0 B 1 7 rfl d22_1 (feq (by decide)).2 (by decide) ?_)
  show Sh s₁ 7 #[vr b, vi sv, vi 3] []
  obtain ⟨T7, h7, X7, e7, E7, A7, D7, -, st7⟩ := newO X0 hx hZ hown (tw hw 193 rfl) (tw hw 8 rfl) (tw hw 9 rfl) e0 (g := (mkF m 7 #[vr b, vi sv, vi 3] [])) rfl (hb hby d22_7) (by decide) (by decide)
  obtain ⟨b7, g7⟩ : ∃ z, z = h0.size := ⟨_, rfl⟩
  rw [← g7] at A7 D7 st7
  have ne_b_b7 : b ≠ b7 := Nat.ne_of_lt (Nat.lt_of_lt_of_le Vb.lt (Nat.le_of_eq g7.symm))
  have gz_b7 : h0.size ≤ b7 := Nat.le_trans (Keep.refl h0 []).1 (Nat.le_of_eq g7.symm)
  have V_b_7 := Vb.ext E7
  have K7 := (Keep.refl h0 []).ext E7
  have gn_b7 : n0 ≤ b7 := Nat.le_trans Z0 (Nat.le_of_eq g7.symm)
  have Z7 : n0 ≤ h7.size := Nat.le_trans Z0 E7.1
  have F_b7_value : Fld Z h7 b7 "java/lang/String" "value" "[B" .null := D7 (Or.inr (tw hw 22 rfl)) (ty := (.array .byte)) (by decide)
  have F_b7_coder : Fld Z h7 b7 "java/lang/String" "coder" "B" (.int 0) := D7 (Or.inr (tw hw 23 rfl)) (ty := .byte) (by decide)
  refine Dg.st st7 ?_
  refine Dg.st (fun _ kk => XS.dup X7.here hx rfl (hb hby d22_10) rfl rfl kk) (w_a X7 B d22_11 rfl rfl (w_i X7 B d22_12 rfl (w_i X7 B d22_13 rfl (w_i X7 B d22_14 rfl (Dg.st (fun _ kk => XS.iadd X7.here hx rfl (hb hby d22_15) rfl kk) ?_)))))
  show Sh T7 16 #[vr b, vi sv, vi 3] [(.int (sv + (3 : Int32))), .int sv, .ref b, .ref b7, .ref b7]
  rw [hto]
  refine w_cs X7 B hZ hown hml (rmCr l Z a0 hw [] b sv mm kb ls 3 h7 n0 Z7 V_b_7 hck hf0 he (by decide) (by decide) hsum hfr) (tw hw 194 rfl) (tw hw 174 rfl) (tw hw 175 rfl) (tw hw 176 rfl) e7 d22_16 3 2 (lenOf pd22 rfl) rfl rfl rfl (by decide) ?_
  rintro _ T16 Lc16 X16 ⟨bb16, kb16, rfl, gz16, Nq16, K16, V_bb16⟩
  have N16 := Fr.app N0 Nq16
  have ne_b_bb16 : b ≠ bb16 := Nat.ne_of_lt (Nat.lt_of_lt_of_le V_b_7.lt gz16)
  have ne_b7_bb16 : b7 ≠ bb16 := Nat.ne_of_lt (Nat.lt_of_lt_of_le A7.lt gz16)
  have gn_bb16 : n0 ≤ bb16 := Nat.le_trans Z7 gz16
  have gz_bb16 : h0.size ≤ bb16 := Nat.le_trans K7.1 gz16
  have V_b_16 := V_b_7.keep K16 nin0
  have E_b7_16 := A7.keep K16
  have F_b7_value_16 := F_b7_value.keep K16 nin0
  have F_b7_coder_16 := F_b7_coder.keep K16 nin0
  have Kt16 := Keep.trans K7 K16 (by simp)
  have Z16 : n0 ≤ T16.heap.size := Nat.le_trans Z7 K16.1
  refine w_c X16 B d22_19 ?_
  show Sh T16 20 #[vr b, vi sv, vi 3] [.int 0, .ref bb16, .ref b7, .ref b7]
  refine w_ci X16 B hZ hown hml (rmSb0 l Z a0 hw [] b7 bb16 T16.heap n0 Z16 gn_b7 E_b7_16 F_b7_coder_16 F_b7_value_16) (tw hw 195 rfl) (tw hw 191 rfl) (tw hw 9 rfl) (tw hw 192 rfl) rfl d22_20 2 1 rfl (lenOf pd23 rfl) rfl rfl rfl rfl (by decide) ?_
  rintro _ T20 Lc20 X20 ⟨rfl, Nq20, K20, Es20, Fcs20, Fvs20⟩
  have N20 := Fr.app N16 Nq20
  have Vk20 := V_bb16.keep K20 (ninS (Ne.symm ne_b7_bb16) nin0)
  have Kt20 := Keep.trans Kt16 K20 (fun x hx => Or.inr ((List.mem_singleton.mp hx) ▸ gz_b7))
  have Z20 : n0 ≤ T20.heap.size := Nat.le_trans Z16 K20.1
  exact Dg.retA X20 hlk B hret rfl ⟨rfl, rfl⟩ d22_23 ⟨b7, rfl, gz_b7, N20, Kt20, Es20, Or.inl ⟨bb16, kb16, Fcs20, Fvs20, Vk20, hP⟩⟩ (by decide)

def QD5_3 (Z : State) (b : Addr) (sv : Int32) (d : Addr) (cs : Int32) (sf : Value) (kb kd : ClassId) (mm : Int32) (ls : List Value) (z0 : Int32) (z1 : Int32) (z2 : Int32) (h0 : Heap) (n0 : Nat) (v : Option Value) (h : Heap) (L : List Loc) : Prop := Fr n0 L ∧ Keep h0 h [d] ∧ ((v = some (.int 0) ∧ 255 < z0.toInt) ∨ (v = some (.int 1) ∧ 255 < z1.toInt) ∨ (v = some (.int 2) ∧ 255 < z2.toInt) ∨ (v = some (.int 3) ∧ (z0.toInt ≤ 255 ∧ z1.toInt ≤ 255 ∧ z2.toInt ≤ 255 ∧ True) ∧ Arv Z h d kd .byte 3 [.int (own_b z0), .int (own_b z1), .int (own_b z2)] (.int 0)))
theorem rmD5_3 (l : Launch) (Z : State) (a0 : Array Value) (hw : ∀ d ∈ tables_1, d.before a0 Z = true) (ws : List Jvm.Cond) (b : Addr) (sv : Int32) (d : Addr) (cs : Int32) (sf : Value) (kb kd : ClassId) (mm : Int32) (ls : List Value) (z0 : Int32) (z1 : Int32) (z2 : Int32) (h0 : Heap) (n0 : Nat) (Z0 : n0 ≤ h0.size) (hW : own_W Z h0 n0 cs sf) (Vb : Arv Z h0 b kb .byte mm ls (.int 0)) (Vd : Arv Z h0 d kd .byte 3 [.int 0, .int 0, .int 0] (.int 0)) (gd : n0 ≤ d) (hne : b ≠ d) (hx1 : ¬ (((mm >>> ((1 : Int32) &&& 31)) ||| sv) ||| 3) < 0) (hx2 : ¬ ((mm >>> ((1 : Int32) &&& 31)) - sv) < 3) (hA0 : own_At mm ls sv z0) (hA1 : own_At mm ls (sv + (1 : Int32)) z1) (hA2 : own_At mm ls ((sv + (1 : Int32)) + (1 : Int32)) z2) :
    own_Met l on17 (Jvm.Cond.code on17 jdk_52_method_22_code 7 (some .int) :: ws) orm37 #[.ref b, .int sv, .ref d, .int 0, .int 3] Z h0 (QD5_3 Z b sv d cs sf kb kd mm ls z0 z1 z2 h0 n0) := by
  refine own_met (plainFor_of_name pn2) (fun m => ef_RIRII7 m b sv d (0 : Int32) (3 : Int32)) ?_
  intro p e s m below meth c s₁ B hlk hret hml hZ hown hnm X0 e0
  have hx := B.1
  have hby := B.2
  have N0 := Fr.nil n0
  have r_sv := rng32 sv
  refine w_i X0 B d38_0 rfl (w_j X0 B d38_1 rfl (w_a X0 B d38_3 rfl rfl ?_))
  show Sh s₁ 4 #[vr b, vi sv, vr d, vi 0, vi 3, .unset, .unset] [.ref b, .int 3, .int sv]
  refine w_cs X0 B hZ hown hml (rmUo l Z a0 hw [] sv (3 : Int32) b cs sf kb mm ls h0 n0 Z0 hW Vb hx1 hx2) (tw hw 164 rfl) (tw hw 165 rfl) (tw hw 93 rfl) (tw hw 166 rfl) e0 d38_4 3 0 (lenOf pd24 rfl) rfl rfl rfl (by decide) ?_
  rintro _ T4 Lc4 X4 ⟨rfl, Nq4, hh4⟩
  have N4 := Fr.app N0 Nq4
  refine w_c X4 B d38_7 (w_s X4 B d38_8 #[vr b, vi sv, vr d, vi 0, vi 3, vi 0, .unset] rfl (w_j X4 B d38_10 rfl (w_j X4 B d38_12 rfl (w_n X4 B d38_14 (tlt (by decide)).2.1 (w_a X4 B d38_17 rfl rfl (w_i X4 B d38_18 rfl ?_))))))
  show Sh T4 19 #[vr b, vi sv, vr d, vi 0, vi 3, vi 0, .unset] [.int sv, .ref b]
  refine w_cs X4 B hZ hown hml (rmGc l Z a0 hw [] b sv cs sf kb mm ls z0 h0 n0 Z0 hW Vb hA0.1 hA0.2.1 hA0.2.2.1 hA0.2.2.2.1 hA0.2.2.2.2.1 hA0.2.2.2.2.2) (tw hw 121 rfl) (tw hw 122 rfl) (tw hw 93 rfl) (tw hw 123 rfl) hh4 d38_19 2 0 (lenOf pd6 rfl) rfl rfl rfl (by decide) ?_
  rintro _ T19 Lc19 X19 ⟨rfl, Nq19, hh19⟩
  have N19 := Fr.app N4 Nq19
  refine w_s X19 B d38_22 #[vr b, vi sv, vr d, vi 0, vi 3, vi 0, vi z0] rfl (w_j X19 B d38_24 rfl (w_d X19 B d38_26 ?_))
  show Sh T19 29 #[vr b, vi sv, vr d, vi 0, vi 3, vi 0, vi z0] [.int 255, .int z0]
  by_cases hc29 : (255 : Int32) < z0
  · have hi29 : 255 < z0.toInt := Int32.lt_iff_toInt_lt.mp hc29
    refine w_n X19 B d38_29 (tlt hc29).2.2.2 (w_j X19 B d38_32 rfl ?_)
    show Sh T19 34 #[vr b, vi sv, vr d, vi 0, vi 3, vi 0, vi z0] [.int 0]
    exact Dg.retI X19 hlk B hret rfl (Or.inl rfl) d38_34 (by rw [hh19]; exact ⟨N19, (Keep.refl h0 [d]), (Or.inl ⟨rfl, hi29⟩)⟩) (by decide)
  · have hi29 : ¬ 255 < z0.toInt := fun qq => hc29 (Int32.lt_iff_toInt_lt.mpr qq)
    refine w_y X19 B 29 35 rfl d38_29 (flt hc29).2.2.2 (by decide) (w_a X19 B d38_35 rfl rfl (w_i X19 B d38_36 rfl (w_j X19 B d38_37 rfl (Dg.st (fun _ kk => XS.i2b X19.here hx rfl (hb hby d38_39) rfl kk) ?_))))
    show Sh T19 40 #[vr b, vi sv, vr d, vi 0, vi 3, vi 0, vi z0] [.int (z0.toInt8.toInt32), .int 0, .ref d]
    have Vc_d_40 := Vd
    obtain ⟨cl_d_40, Ar_d_40, q_d_40, S_d_40, N_d_40, H_d_40, G_d_40⟩ := Vc_d_40
    have hin40 : ¬ ((0 : Int32) < 0 ∨ cl_d_40.slots.size ≤ ((0 : Int32)).toNatClampNeg) := inb_of S_d_40 ⟨by decide, by decide⟩
    obtain ⟨T40, h40, X40, e40, W40, st40⟩ := stB X19 hx hZ hh19 Ar_d_40 (j := (0 : Int32)) hin40 (g := (mkF m 40 #[vr b, vi sv, vr d, vi 0, vi 3, vi 0, vi z0] [.int (z0.toInt8.toInt32), .int 0, .ref d])) rfl rfl (hb hby d38_40)
    have Wo40 := hW.wr W40 gd
    have V_b_40 := Vb.other W40 hne
    have V_d_40 := Arv.set Ar_d_40 q_d_40 S_d_40 N_d_40 H_d_40 G_d_40 (fits_nar_byte _) W40 0 rfl (Nat.le_of_ble_eq_true rfl)
    have K40 := (Keep.refl h0 [d]).wr W40 (Or.inl (List.mem_of_getElem? (i := 0) rfl))
    have N40 := Fr.snoc X40 N19 gd
    have Z40 : n0 ≤ h40.size := Nat.le_trans Z0 (Keep.of_wr W40).1
    refine Dg.st st40 ?_
    refine w_p X40 B d38_41 rfl #[vr b, vi (sv + (1 : Int32)), vr d, vi 0, vi 3, vi 0, vi z0] rfl (w_p X40 B d38_44 rfl #[vr b, vi (sv + (1 : Int32)), vr d, vi 1, vi 3, vi 0, vi z0] rfl (w_p X40 B d38_47 rfl #[vr b, vi (sv + (1 : Int32)), vr d, vi 1, vi 3, vi 1, vi z0] rfl (w_g X40 B 50 10 rfl d38_50 (by decide) (w_j X40 B d38_10 rfl (w_j X40 B d38_12 rfl (w_n X40 B d38_14 (tlt (by decide)).2.1 (w_a X40 B d38_17 rfl rfl ?_)))))))
    show Sh T40 18 #[vr b, vi (sv + (1 : Int32)), vr d, vi 1, vi 3, vi 1, vi z0] [.ref b]
    refine w_i X40 B d38_18 rfl ?_
    show Sh T40 19 #[vr b, vi (sv + (1 : Int32)), vr d, vi 1, vi 3, vi 1, vi z0] [(.int (sv + (1 : Int32))), .ref b]
    refine w_cs X40 B hZ hown hml (rmGc l Z a0 hw [] b (sv + (1 : Int32)) cs sf kb mm ls z1 h40 n0 Z40 Wo40 V_b_40 hA1.1 hA1.2.1 hA1.2.2.1 hA1.2.2.2.1 hA1.2.2.2.2.1 hA1.2.2.2.2.2) (tw hw 121 rfl) (tw hw 122 rfl) (tw hw 93 rfl) (tw hw 123 rfl) e40 d38_19 2 0 (lenOf pd6 rfl) rfl rfl rfl (by decide) ?_
    rintro _ T19_2 Lc19_2 X19_2 ⟨rfl, Nq19_2, hh19_2⟩
    have N19_2 := Fr.app N40 Nq19_2
    refine w_s X19_2 B d38_22 #[vr b, vi (sv + (1 : Int32)), vr d, vi 1, vi 3, vi 1, vi z1] rfl (w_j X19_2 B d38_24 rfl (w_d X19_2 B d38_26 ?_))
    show Sh T19_2 29 #[vr b, vi (sv + (1 : Int32)), vr d, vi 1, vi 3, vi 1, vi z1] [.int 255, .int z1]
    by_cases hc29_2 : (255 : Int32) < z1
    · have hi29_2 : 255 < z1.toInt := Int32.lt_iff_toInt_lt.mp hc29_2
      refine w_n X19_2 B d38_29 (tlt hc29_2).2.2.2 (w_j X19_2 B d38_32 rfl ?_)
      show Sh T19_2 34 #[vr b, vi (sv + (1 : Int32)), vr d, vi 1, vi 3, vi 1, vi z1] [.int 1]
      exact Dg.retI X19_2 hlk B hret rfl (Or.inl rfl) d38_34 (by rw [hh19_2]; exact ⟨N19_2, K40, (Or.inr (Or.inl ⟨rfl, hi29_2⟩))⟩) (by decide)
    · have hi29_2 : ¬ 255 < z1.toInt := fun qq => hc29_2 (Int32.lt_iff_toInt_lt.mpr qq)
      refine w_y X19_2 B 29 35 rfl d38_29 (flt hc29_2).2.2.2 (by decide) (w_a X19_2 B d38_35 rfl rfl (w_i X19_2 B d38_36 rfl (w_j X19_2 B d38_37 rfl (Dg.st (fun _ kk => XS.i2b X19_2.here hx rfl (hb hby d38_39) rfl kk) ?_))))
      show Sh T19_2 40 #[vr b, vi (sv + (1 : Int32)), vr d, vi 1, vi 3, vi 1, vi z1] [.int (z1.toInt8.toInt32), .int 1, .ref d]
      have Vc_d_40_2 := V_d_40
      obtain ⟨cl_d_40_2, Ar_d_40_2, q_d_40_2, S_d_40_2, N_d_40_2, H_d_40_2, G_d_40_2⟩ := Vc_d_40_2
      have hin40_2 : ¬ ((1 : Int32) < 0 ∨ cl_d_40_2.slots.size ≤ ((1 : Int32)).toNatClampNeg) := inb_of S_d_40_2 ⟨by decide, by decide⟩
      obtain ⟨T40_2, h40_2, X40_2, e40_2, W40_2, st40_2⟩ := stB X19_2 hx hZ hh19_2 Ar_d_40_2 (j := (1 : Int32)) hin40_2 (g := (mkF m 40 #[vr b, vi (sv + (1 : Int32)), vr d, vi 1, vi 3, vi 1, vi z1] [.int (z1.toInt8.toInt32), .int 1, .ref d])) rfl rfl (hb hby d38_40)
      have Wo40_2 := Wo40.wr W40_2 gd
      have V_b_40_2 := V_b_40.other W40_2 hne
      have V_d_40_2 := Arv.set Ar_d_40_2 q_d_40_2 S_d_40_2 N_d_40_2 H_d_40_2 G_d_40_2 (fits_nar_byte _) W40_2 1 rfl (Nat.le_of_ble_eq_true rfl)
      have K40_2 := K40.wr W40_2 (Or.inl (List.mem_of_getElem? (i := 0) rfl))
      have N40_2 := Fr.snoc X40_2 N19_2 gd
      have Z40_2 : n0 ≤ h40_2.size := Nat.le_trans Z40 (Keep.of_wr W40_2).1
      refine Dg.st st40_2 ?_
      refine w_p X40_2 B d38_41 rfl #[vr b, vi ((sv + (1 : Int32)) + (1 : Int32)), vr d, vi 1, vi 3, vi 1, vi z1] rfl (w_p X40_2 B d38_44 rfl #[vr b, vi ((sv + (1 : Int32)) + (1 : Int32)), vr d, vi 2, vi 3, vi 1, vi z1] rfl (w_p X40_2 B d38_47 rfl #[vr b, vi ((sv + (1 : Int32)) + (1 : Int32)), vr d, vi 2, vi 3, vi 2, vi z1] rfl (w_g X40_2 B 50 10 rfl d38_50 (by decide) (w_j X40_2 B d38_10 rfl (w_j X40_2 B d38_12 rfl (w_n X40_2 B d38_14 (tlt (by decide)).2.1 (w_a X40_2 B d38_17 rfl rfl ?_)))))))
      show Sh T40_2 18 #[vr b, vi ((sv + (1 : Int32)) + (1 : Int32)), vr d, vi 2, vi 3, vi 2, vi z1] [.ref b]
      refine w_i X40_2 B d38_18 rfl ?_
      show Sh T40_2 19 #[vr b, vi ((sv + (1 : Int32)) + (1 : Int32)), vr d, vi 2, vi 3, vi 2, vi z1] [(.int ((sv + (1 : Int32)) + (1 : Int32))), .ref b]
      refine w_cs X40_2 B hZ hown hml (rmGc l Z a0 hw [] b ((sv + (1 : Int32)) + (1 : Int32)) cs sf kb mm ls z2 h40_2 n0 Z40_2 Wo40_2 V_b_40_2 hA2.1 hA2.2.1 hA2.2.2.1 hA2.2.2.2.1 hA2.2.2.2.2.1 hA2.2.2.2.2.2) (tw hw 121 rfl) (tw hw 122 rfl) (tw hw 93 rfl) (tw hw 123 rfl) e40_2 d38_19 2 0 (lenOf pd6 rfl) rfl rfl rfl (by decide) ?_
      rintro _ T19_3 Lc19_3 X19_3 ⟨rfl, Nq19_3, hh19_3⟩
      have N19_3 := Fr.app N40_2 Nq19_3
      refine w_s X19_3 B d38_22 #[vr b, vi ((sv + (1 : Int32)) + (1 : Int32)), vr d, vi 2, vi 3, vi 2, vi z2] rfl (w_j X19_3 B d38_24 rfl (w_d X19_3 B d38_26 ?_))
      show Sh T19_3 29 #[vr b, vi ((sv + (1 : Int32)) + (1 : Int32)), vr d, vi 2, vi 3, vi 2, vi z2] [.int 255, .int z2]
      by_cases hc29_3 : (255 : Int32) < z2
      · have hi29_3 : 255 < z2.toInt := Int32.lt_iff_toInt_lt.mp hc29_3
        refine w_n X19_3 B d38_29 (tlt hc29_3).2.2.2 (w_j X19_3 B d38_32 rfl ?_)
        show Sh T19_3 34 #[vr b, vi ((sv + (1 : Int32)) + (1 : Int32)), vr d, vi 2, vi 3, vi 2, vi z2] [.int 2]
        exact Dg.retI X19_3 hlk B hret rfl (Or.inl rfl) d38_34 (by rw [hh19_3]; exact ⟨N19_3, K40_2, (Or.inr (Or.inr (Or.inl ⟨rfl, hi29_3⟩)))⟩) (by decide)
      · have hi29_3 : ¬ 255 < z2.toInt := fun qq => hc29_3 (Int32.lt_iff_toInt_lt.mpr qq)
        refine w_y X19_3 B 29 35 rfl d38_29 (flt hc29_3).2.2.2 (by decide) (w_a X19_3 B d38_35 rfl rfl (w_i X19_3 B d38_36 rfl (w_j X19_3 B d38_37 rfl (Dg.st (fun _ kk => XS.i2b X19_3.here hx rfl (hb hby d38_39) rfl kk) ?_))))
        show Sh T19_3 40 #[vr b, vi ((sv + (1 : Int32)) + (1 : Int32)), vr d, vi 2, vi 3, vi 2, vi z2] [.int (z2.toInt8.toInt32), .int 2, .ref d]
        have Vc_d_40_3 := V_d_40_2
        obtain ⟨cl_d_40_3, Ar_d_40_3, q_d_40_3, S_d_40_3, N_d_40_3, H_d_40_3, G_d_40_3⟩ := Vc_d_40_3
        have hin40_3 : ¬ ((2 : Int32) < 0 ∨ cl_d_40_3.slots.size ≤ ((2 : Int32)).toNatClampNeg) := inb_of S_d_40_3 ⟨by decide, by decide⟩
        obtain ⟨T40_3, h40_3, X40_3, e40_3, W40_3, st40_3⟩ := stB X19_3 hx hZ hh19_3 Ar_d_40_3 (j := (2 : Int32)) hin40_3 (g := (mkF m 40 #[vr b, vi ((sv + (1 : Int32)) + (1 : Int32)), vr d, vi 2, vi 3, vi 2, vi z2] [.int (z2.toInt8.toInt32), .int 2, .ref d])) rfl rfl (hb hby d38_40)
        have Wo40_3 := Wo40_2.wr W40_3 gd
        have V_b_40_3 := V_b_40_2.other W40_3 hne
        have V_d_40_3 := Arv.set Ar_d_40_3 q_d_40_3 S_d_40_3 N_d_40_3 H_d_40_3 G_d_40_3 (fits_nar_byte _) W40_3 2 rfl (Nat.le_of_ble_eq_true rfl)
        have K40_3 := K40_2.wr W40_3 (Or.inl (List.mem_of_getElem? (i := 0) rfl))
        have N40_3 := Fr.snoc X40_3 N19_3 gd
        have Z40_3 : n0 ≤ h40_3.size := Nat.le_trans Z40_2 (Keep.of_wr W40_3).1
        refine Dg.st st40_3 ?_
        refine w_p X40_3 B d38_41 rfl #[vr b, vi (((sv + (1 : Int32)) + (1 : Int32)) + (1 : Int32)), vr d, vi 2, vi 3, vi 2, vi z2] rfl (w_p X40_3 B d38_44 rfl #[vr b, vi (((sv + (1 : Int32)) + (1 : Int32)) + (1 : Int32)), vr d, vi 3, vi 3, vi 2, vi z2] rfl (w_p X40_3 B d38_47 rfl #[vr b, vi (((sv + (1 : Int32)) + (1 : Int32)) + (1 : Int32)), vr d, vi 3, vi 3, vi 3, vi z2] rfl (w_g X40_3 B 50 10 rfl d38_50 (by decide) (w_j X40_3 B d38_10 rfl (w_j X40_3 B d38_12 rfl (w_y X40_3 B 14 53 rfl d38_14 (flt (by decide)).2.1 (by decide) (w_j X40_3 B d38_53 rfl ?_)))))))
        show Sh T40_3 55 #[vr b, vi (((sv + (1 : Int32)) + (1 : Int32)) + (1 : Int32)), vr d, vi 3, vi 3, vi 3, vi z2] [.int 3]
        exact Dg.retI X40_3 hlk B hret rfl (Or.inl rfl) d38_55 (by rw [e40_3]; exact ⟨N40_3, K40_3, (Or.inr (Or.inr (Or.inr ⟨rfl, ⟨Int.not_lt.mp hi29, Int.not_lt.mp hi29_2, Int.not_lt.mp hi29_3, trivial⟩, V_d_40_3⟩)))⟩) (by decide)

def QD3_3 (Z : State) (b : Addr) (sv : Int32) (cs : Int32) (sf : Value) (kb : ClassId) (mm : Int32) (ls : List Value) (z0 : Int32) (z1 : Int32) (z2 : Int32) (h0 : Heap) (n0 : Nat) (v : Option Value) (h : Heap) (L : List Loc) : Prop := ∃ (d : Addr) (kd : ClassId), v = some (.ref d) ∧ h0.size ≤ d ∧ Fr n0 L ∧ Keep h0 h [] ∧ ((Arv Z h d kd .byte 3 [.int (own_b z0), .int (own_b z1), .int (own_b z2)] (.int 0) ∧ (z0.toInt ≤ 255 ∧ z1.toInt ≤ 255 ∧ z2.toInt ≤ 255 ∧ True)) ∨ Arv Z h d kd .byte 6 (own_sl ls (sv <<< ((1 : Int32) &&& 31)) 6) (.int 0))
theorem rmD3_3 (l : Launch) (Z : State) (a0 : Array Value) (hw : ∀ d ∈ tables_1, d.before a0 Z = true) (ws : List Jvm.Cond) (b : Addr) (sv : Int32) (cs : Int32) (sf : Value) (kb : ClassId) (mm : Int32) (ls : List Value) (z0 : Int32) (z1 : Int32) (z2 : Int32) (h0 : Heap) (n0 : Nat) (Z0 : n0 ≤ h0.size) (hW : own_W Z h0 n0 cs sf) (Vb : Arv Z h0 b kb .byte mm ls (.int 0)) (hx1 : ¬ (((mm >>> ((1 : Int32) &&& 31)) ||| sv) ||| 3) < 0) (hx2 : ¬ ((mm >>> ((1 : Int32) &&& 31)) - sv) < 3) (hA0 : own_At mm ls sv z0) (hA1 : own_At mm ls (sv + (1 : Int32)) z1) (hA2 : own_At mm ls ((sv + (1 : Int32)) + (1 : Int32)) z2) (hto : (sv + 3) <<< ((1 : Int32) &&& 31) = mm) (hto1 : ¬ (sv + 3) < 0) (hto2 : (sv + 3) < 1073741823) (hck : ¬ mm < (sv <<< ((1 : Int32) &&& 31))) (hf0 : ¬ (sv <<< ((1 : Int32) &&& 31)) < 0) (he : mm - (sv <<< ((1 : Int32) &&& 31)) = 6) (hsum : (sv <<< ((1 : Int32) &&& 31)).toNatClampNeg + (6 : Int32).toNatClampNeg ≤ mm.toNatClampNeg) (hfr : ¬ (sv <<< ((1 : Int32) &&& 31)) = 0) (hB0 : own_At 6 (own_sl ls (sv <<< ((1 : Int32) &&& 31)) 6) 0 z0) (hB1 : own_At 6 (own_sl ls (sv <<< ((1 : Int32) &&& 31)) 6) 1 z1) (hB2 : own_At 6 (own_sl ls (sv <<< ((1 : Int32) &&& 31)) 6) 2 z2) :
    own_Met l on16 (Jvm.Cond.code on16 jdk_52_method_17_code 6 (some (.array .byte)) :: ws) ({ frames := 4, cells := 2, slots := 11, locals := 96 } : Room) #[.ref b, .int sv, .int 3] Z h0 (QD3_3 Z b sv cs sf kb mm ls z0 z1 z2 h0 n0) := by
  refine own_met (plainFor_of_name pn2) (fun m => ef_RII6 m b sv (3 : Int32)) ?_
  intro p e s m below meth c s₁ B hlk hret hml hZ hown hnm X0 e0
  have hx := B.1
  have hby := B.2
  have N0 := Fr.nil n0
  refine w_i X0 B d37_0 rfl ?_
  show Sh s₁ 1 #[vr b, vi sv, vi 3, .unset, .unset, .unset] [.int 3]
  obtain ⟨T1, h1, k1, X1, e1, E1, A1, st1⟩ := newP X0 hx hZ (tw hw 21 rfl) e0 (g := (mkF m 1 #[vr b, vi sv, vi 3, .unset, .unset, .unset] [.int 3])) rfl (hb hby d37_1) rfl (by decide) (cap := 3) (by decide) (by decide) (by decide) (by decide)
  obtain ⟨b1, g1⟩ : ∃ z, z = h0.size := ⟨_, rfl⟩
  rw [← g1] at A1 st1
  have ne_b_b1 : b ≠ b1 := Nat.ne_of_lt (Nat.lt_of_lt_of_le Vb.lt (Nat.le_of_eq g1.symm))
  have gz_b1 : h0.size ≤ b1 := Nat.le_trans (Keep.refl h0 []).1 (Nat.le_of_eq g1.symm)
  have V_b_1 := Vb.ext E1
  have K1 := (Keep.refl h0 []).ext E1
  have Wo1 := hW.ext E1
  have gn_b1 : n0 ≤ b1 := Nat.le_trans Z0 (Nat.le_of_eq g1.symm)
  have Z1 : n0 ≤ h1.size := Nat.le_trans Z0 E1.1
  have V_b1 : Arv Z h1 b1 k1 .byte (3 : Int32) [.int 0, .int 0, .int 0] (.int 0) := (Arv.new A1 (by decide)).pad (pad_rep [] (.int 0) 3)
  refine Dg.st st1 ?_
  refine w_U X1 B d37_3 rfl #[vr b, vi sv, vi 3, vr b1, .unset, .unset] rfl (w_a X1 B d37_4 rfl rfl (w_i X1 B d37_5 rfl (w_a X1 B d37_6 rfl rfl (w_c X1 B d37_7 (w_i X1 B d37_8 rfl ?_)))))
  show Sh T1 9 #[vr b, vi sv, vi 3, vr b1, .unset, .unset] [.int 3, .int 0, .ref b1, .int sv, .ref b]
  refine w_cs X1 B hZ hown hml (rmD5_3 l Z a0 hw [] b sv b1 cs sf kb _ mm ls z0 z1 z2 h1 n0 Z1 Wo1 V_b_1 V_b1 gn_b1 ne_b_b1 hx1 hx2 hA0 hA1 hA2) (tw hw 161 rfl) (tw hw 162 rfl) (tw hw 93 rfl) (tw hw 163 rfl) e1 d37_9 5 0 (lenOf pd25 rfl) rfl rfl rfl (by decide) ?_
  rintro _ T9 Lc9 X9 ⟨Nq9, K9, hq9⟩
  have N9 := Fr.app N0 Nq9
  have Wo9 := Wo1.keep K9 (own_k1 gn_b1)
  have V_b_9 := V_b_1.keep K9 (ninS ne_b_b1 nin0)
  have Kt9 := Keep.trans K1 K9 (fun x hx => Or.inr ((List.mem_singleton.mp hx) ▸ gz_b1))
  have Z9 : n0 ≤ T9.heap.size := Nat.le_trans Z1 K9.1
  rcases hq9 with ⟨rfl, gt9⟩ | ⟨rfl, gt9⟩ | ⟨rfl, gt9⟩ | ⟨rfl, hp9, VL9⟩
  · refine w_s X9 B d37_12 #[vr b, vi sv, vi 3, vr b1, vi 0, .unset] rfl (w_j X9 B d37_14 rfl (w_i X9 B d37_16 rfl (w_n X9 B d37_17 (feq (by decide)).1 (w_a X9 B d37_20 rfl rfl (w_i X9 B d37_21 rfl (w_c X9 B d37_22 (Dg.st (fun _ kk => XS.ishl X9.here hx rfl (hb hby d37_23) rfl kk) ?_)))))))
    show Sh T9 24 #[vr b, vi sv, vi 3, vr b1, vi 0, .unset] [(.int (sv <<< ((1 : Int32) &&& 31))), .ref b]
    refine w_i X9 B d37_24 rfl (w_i X9 B d37_25 rfl (Dg.st (fun _ kk => XS.iadd X9.here hx rfl (hb hby d37_26) rfl kk) ?_))
    show Sh T9 27 #[vr b, vi sv, vi 3, vr b1, vi 0, .unset] [(.int (sv + (3 : Int32))), (.int (sv <<< ((1 : Int32) &&& 31))), .ref b]
    refine w_cs X9 B hZ hown hml (rmNg l Z a0 hw [] (sv + (3 : Int32))  T9.heap n0 Z9 hto1 hto2) (tw hw 111 rfl) (tw hw 112 rfl) (tw hw 93 rfl) (tw hw 113 rfl) rfl d37_27 1 2 (lenOf pd8 rfl) rfl rfl rfl (by decide) ?_
    rintro _ T27 Lc27 X27 ⟨rfl, Nq27, hh27⟩
    have N27 := Fr.app N9 Nq27
    rw [hto]
    refine w_cs X27 B hZ hown hml (rmCr l Z a0 hw [] b (sv <<< ((1 : Int32) &&& 31)) mm kb ls 6 T9.heap n0 Z9 V_b_9 hck hf0 he (by decide) (by decide) hsum hfr) (tw hw 173 rfl) (tw hw 174 rfl) (tw hw 175 rfl) (tw hw 176 rfl) hh27 d37_30 3 0 (lenOf pd22 rfl) rfl rfl rfl (by decide) ?_
    rintro _ T30 Lc30 X30 ⟨bb30, kb30, rfl, gz30, Nq30, K30, V_bb30⟩
    have N30 := Fr.app N27 Nq30
    have ne_b_bb30 : b ≠ bb30 := Nat.ne_of_lt (Nat.lt_of_lt_of_le V_b_9.lt gz30)
    have gn_bb30 : n0 ≤ bb30 := Nat.le_trans Z9 gz30
    have gz_bb30 : h0.size ≤ bb30 := Nat.le_trans Kt9.1 gz30
    have Wo30 := Wo9.keep K30 own_k0
    have V_b_30 := V_b_9.keep K30 nin0
    have Kt30 := Keep.trans Kt9 K30 (by simp)
    have Z30 : n0 ≤ T30.heap.size := Nat.le_trans Z9 K30.1
    refine w_u X30 B d37_33 rfl #[vr b, vi sv, vi 3, vr b1, vi 0, vr bb30] rfl (w_k X30 B d37_35 rfl rfl (w_j X30 B d37_37 rfl ?_))
    show Sh T30 39 #[vr b, vi sv, vi 3, vr b1, vi 0, vr bb30] [.int 0, .ref bb30]
    refine w_cs X30 B hZ hown hml (rmGc l Z a0 hw [] bb30 (0 : Int32) cs sf _ _ _ z0 T30.heap n0 Z30 Wo30 V_bb30 hB0.1 hB0.2.1 hB0.2.2.1 hB0.2.2.2.1 hB0.2.2.2.2.1 hB0.2.2.2.2.2) (tw hw 121 rfl) (tw hw 122 rfl) (tw hw 93 rfl) (tw hw 123 rfl) rfl d37_39 2 0 (lenOf pd6 rfl) rfl rfl rfl (by decide) ?_
    rintro _ T39 Lc39 X39 ⟨rfl, Nq39, hh39⟩
    have N39 := Fr.app N30 Nq39
    refine w_d X39 B d37_42 ?_
    show Sh T39 45 #[vr b, vi sv, vi 3, vr b1, vi 0, vr bb30] [.int 255, .int z0]
    have hc45 : (255 : Int32) < z0 := (Int32.lt_iff_toInt_lt.mpr gt9)
    refine w_y X39 B 45 61 rfl d37_45 (tlt hc45).2.2.1 (by decide) (w_k X39 B d37_61 rfl rfl ?_)
    show Sh T39 63 #[vr b, vi sv, vi 3, vr b1, vi 0, vr bb30] [.ref bb30]
    exact Dg.retA X39 hlk B hret rfl ⟨rfl, rfl⟩ d37_63 (by rw [hh39]; exact ⟨bb30, kb30, rfl, gz_bb30, N39, Kt30, Or.inr V_bb30⟩) (by decide)
  · refine w_s X9 B d37_12 #[vr b, vi sv, vi 3, vr b1, vi 1, .unset] rfl (w_j X9 B d37_14 rfl (w_i X9 B d37_16 rfl (w_n X9 B d37_17 (feq (by decide)).1 (w_a X9 B d37_20 rfl rfl (w_i X9 B d37_21 rfl (w_c X9 B d37_22 (Dg.st (fun _ kk => XS.ishl X9.here hx rfl (hb hby d37_23) rfl kk) ?_)))))))
    show Sh T9 24 #[vr b, vi sv, vi 3, vr b1, vi 1, .unset] [(.int (sv <<< ((1 : Int32) &&& 31))), .ref b]
    refine w_i X9 B d37_24 rfl (w_i X9 B d37_25 rfl (Dg.st (fun _ kk => XS.iadd X9.here hx rfl (hb hby d37_26) rfl kk) ?_))
    show Sh T9 27 #[vr b, vi sv, vi 3, vr b1, vi 1, .unset] [(.int (sv + (3 : Int32))), (.int (sv <<< ((1 : Int32) &&& 31))), .ref b]
    refine w_cs X9 B hZ hown hml (rmNg l Z a0 hw [] (sv + (3 : Int32))  T9.heap n0 Z9 hto1 hto2) (tw hw 111 rfl) (tw hw 112 rfl) (tw hw 93 rfl) (tw hw 113 rfl) rfl d37_27 1 2 (lenOf pd8 rfl) rfl rfl rfl (by decide) ?_
    rintro _ T27 Lc27 X27 ⟨rfl, Nq27, hh27⟩
    have N27 := Fr.app N9 Nq27
    rw [hto]
    refine w_cs X27 B hZ hown hml (rmCr l Z a0 hw [] b (sv <<< ((1 : Int32) &&& 31)) mm kb ls 6 T9.heap n0 Z9 V_b_9 hck hf0 he (by decide) (by decide) hsum hfr) (tw hw 173 rfl) (tw hw 174 rfl) (tw hw 175 rfl) (tw hw 176 rfl) hh27 d37_30 3 0 (lenOf pd22 rfl) rfl rfl rfl (by decide) ?_
    rintro _ T30 Lc30 X30 ⟨bb30, kb30, rfl, gz30, Nq30, K30, V_bb30⟩
    have N30 := Fr.app N27 Nq30
    have ne_b_bb30 : b ≠ bb30 := Nat.ne_of_lt (Nat.lt_of_lt_of_le V_b_9.lt gz30)
    have gn_bb30 : n0 ≤ bb30 := Nat.le_trans Z9 gz30
    have gz_bb30 : h0.size ≤ bb30 := Nat.le_trans Kt9.1 gz30
    have Wo30 := Wo9.keep K30 own_k0
    have V_b_30 := V_b_9.keep K30 nin0
    have Kt30 := Keep.trans Kt9 K30 (by simp)
    have Z30 : n0 ≤ T30.heap.size := Nat.le_trans Z9 K30.1
    refine w_u X30 B d37_33 rfl #[vr b, vi sv, vi 3, vr b1, vi 1, vr bb30] rfl (w_k X30 B d37_35 rfl rfl (w_j X30 B d37_37 rfl ?_))
    show Sh T30 39 #[vr b, vi sv, vi 3, vr b1, vi 1, vr bb30] [.int 1, .ref bb30]
    refine w_cs X30 B hZ hown hml (rmGc l Z a0 hw [] bb30 (1 : Int32) cs sf _ _ _ z1 T30.heap n0 Z30 Wo30 V_bb30 hB1.1 hB1.2.1 hB1.2.2.1 hB1.2.2.2.1 hB1.2.2.2.2.1 hB1.2.2.2.2.2) (tw hw 121 rfl) (tw hw 122 rfl) (tw hw 93 rfl) (tw hw 123 rfl) rfl d37_39 2 0 (lenOf pd6 rfl) rfl rfl rfl (by decide) ?_
    rintro _ T39 Lc39 X39 ⟨rfl, Nq39, hh39⟩
    have N39 := Fr.app N30 Nq39
    refine w_d X39 B d37_42 ?_
    show Sh T39 45 #[vr b, vi sv, vi 3, vr b1, vi 1, vr bb30] [.int 255, .int z1]
    have hc45 : (255 : Int32) < z1 := (Int32.lt_iff_toInt_lt.mpr gt9)
    refine w_y X39 B 45 61 rfl d37_45 (tlt hc45).2.2.1 (by decide) (w_k X39 B d37_61 rfl rfl ?_)
    show Sh T39 63 #[vr b, vi sv, vi 3, vr b1, vi 1, vr bb30] [.ref bb30]
    exact Dg.retA X39 hlk B hret rfl ⟨rfl, rfl⟩ d37_63 (by rw [hh39]; exact ⟨bb30, kb30, rfl, gz_bb30, N39, Kt30, Or.inr V_bb30⟩) (by decide)
  · refine w_s X9 B d37_12 #[vr b, vi sv, vi 3, vr b1, vi 2, .unset] rfl (w_j X9 B d37_14 rfl (w_i X9 B d37_16 rfl (w_n X9 B d37_17 (feq (by decide)).1 (w_a X9 B d37_20 rfl rfl (w_i X9 B d37_21 rfl (w_c X9 B d37_22 (Dg.st (fun _ kk => XS.ishl X9.here hx rfl (hb hby d37_23) rfl kk) ?_)))))))
    show Sh T9 24 #[vr b, vi sv, vi 3, vr b1, vi 2, .unset] [(.int (sv <<< ((1 : Int32) &&& 31))), .ref b]
    refine w_i X9 B d37_24 rfl (w_i X9 B d37_25 rfl (Dg.st (fun _ kk => XS.iadd X9.here hx rfl (hb hby d37_26) rfl kk) ?_))
    show Sh T9 27 #[vr b, vi sv, vi 3, vr b1, vi 2, .unset] [(.int (sv + (3 : Int32))), (.int (sv <<< ((1 : Int32) &&& 31))), .ref b]
    refine w_cs X9 B hZ hown hml (rmNg l Z a0 hw [] (sv + (3 : Int32))  T9.heap n0 Z9 hto1 hto2) (tw hw 111 rfl) (tw hw 112 rfl) (tw hw 93 rfl) (tw hw 113 rfl) rfl d37_27 1 2 (lenOf pd8 rfl) rfl rfl rfl (by decide) ?_
    rintro _ T27 Lc27 X27 ⟨rfl, Nq27, hh27⟩
    have N27 := Fr.app N9 Nq27
    rw [hto]
    refine w_cs X27 B hZ hown hml (rmCr l Z a0 hw [] b (sv <<< ((1 : Int32) &&& 31)) mm kb ls 6 T9.heap n0 Z9 V_b_9 hck hf0 he (by decide) (by decide) hsum hfr) (tw hw 173 rfl) (tw hw 174 rfl) (tw hw 175 rfl) (tw hw 176 rfl) hh27 d37_30 3 0 (lenOf pd22 rfl) rfl rfl rfl (by decide) ?_
    rintro _ T30 Lc30 X30 ⟨bb30, kb30, rfl, gz30, Nq30, K30, V_bb30⟩
    have N30 := Fr.app N27 Nq30
    have ne_b_bb30 : b ≠ bb30 := Nat.ne_of_lt (Nat.lt_of_lt_of_le V_b_9.lt gz30)
    have gn_bb30 : n0 ≤ bb30 := Nat.le_trans Z9 gz30
    have gz_bb30 : h0.size ≤ bb30 := Nat.le_trans Kt9.1 gz30
    have Wo30 := Wo9.keep K30 own_k0
    have V_b_30 := V_b_9.keep K30 nin0
    have Kt30 := Keep.trans Kt9 K30 (by simp)
    have Z30 : n0 ≤ T30.heap.size := Nat.le_trans Z9 K30.1
    refine w_u X30 B d37_33 rfl #[vr b, vi sv, vi 3, vr b1, vi 2, vr bb30] rfl (w_k X30 B d37_35 rfl rfl (w_j X30 B d37_37 rfl ?_))
    show Sh T30 39 #[vr b, vi sv, vi 3, vr b1, vi 2, vr bb30] [.int 2, .ref bb30]
    refine w_cs X30 B hZ hown hml (rmGc l Z a0 hw [] bb30 (2 : Int32) cs sf _ _ _ z2 T30.heap n0 Z30 Wo30 V_bb30 hB2.1 hB2.2.1 hB2.2.2.1 hB2.2.2.2.1 hB2.2.2.2.2.1 hB2.2.2.2.2.2) (tw hw 121 rfl) (tw hw 122 rfl) (tw hw 93 rfl) (tw hw 123 rfl) rfl d37_39 2 0 (lenOf pd6 rfl) rfl rfl rfl (by decide) ?_
    rintro _ T39 Lc39 X39 ⟨rfl, Nq39, hh39⟩
    have N39 := Fr.app N30 Nq39
    refine w_d X39 B d37_42 ?_
    show Sh T39 45 #[vr b, vi sv, vi 3, vr b1, vi 2, vr bb30] [.int 255, .int z2]
    have hc45 : (255 : Int32) < z2 := (Int32.lt_iff_toInt_lt.mpr gt9)
    refine w_y X39 B 45 61 rfl d37_45 (tlt hc45).2.2.1 (by decide) (w_k X39 B d37_61 rfl rfl ?_)
    show Sh T39 63 #[vr b, vi sv, vi 3, vr b1, vi 2, vr bb30] [.ref bb30]
    exact Dg.retA X39 hlk B hret rfl ⟨rfl, rfl⟩ d37_63 (by rw [hh39]; exact ⟨bb30, kb30, rfl, gz_bb30, N39, Kt30, Or.inr V_bb30⟩) (by decide)
  · refine w_s X9 B d37_12 #[vr b, vi sv, vi 3, vr b1, vi 3, .unset] rfl (w_j X9 B d37_14 rfl (w_i X9 B d37_16 rfl (w_y X9 B 17 64 rfl d37_17 (teq (by decide)).1 (by decide) (w_a X9 B d37_64 rfl rfl ?_))))
    show Sh T9 65 #[vr b, vi sv, vi 3, vr b1, vi 3, .unset] [.ref b1]
    exact Dg.retA X9 hlk B hret rfl ⟨rfl, rfl⟩ d37_65 ⟨b1, k1, rfl, gz_b1, N9, Kt9, Or.inl ⟨VL9, hp9⟩⟩ (by decide)

abbrev k29 := jdk_52_method_69_code
theorem d29_0 : Dc k29 0 (.iload_n 2) 1 := by decide +kernel
theorem d29_1 : Dc k29 1 (.ifCond .ne 7) 3 := by decide +kernel
theorem d29_8 : Dc k29 8 (.getstatic 251) 3 := by decide +kernel
theorem d29_11 : Dc k29 11 (.ifCond .eq 28) 3 := by decide +kernel
theorem d29_14 : Dc k29 14 (.aload_n 0) 1 := by decide +kernel
theorem d29_15 : Dc k29 15 (.iload_n 1) 1 := by decide +kernel
theorem d29_16 : Dc k29 16 (.iload_n 2) 1 := by decide +kernel
theorem d29_17 : Dc k29 17 (.invokestatic 257) 3 := by decide +kernel
theorem d29_20 : Dc k29 20 (.astore_n 3) 1 := by decide +kernel
theorem d29_21 : Dc k29 21 (.aload_n 3) 1 := by decide +kernel
theorem d29_22 : Dc k29 22 (.iload_n 2) 1 := by decide +kernel
theorem d29_23 : Dc k29 23 (.invokestatic 259) 3 := by decide +kernel
theorem d29_26 : Dc k29 26 (.istore 4) 2 := by decide +kernel
theorem d29_28 : Dc k29 28 (.new 3) 3 := by decide +kernel
theorem d29_31 : Dc k29 31 (.dup) 1 := by decide +kernel
theorem d29_32 : Dc k29 32 (.aload_n 3) 1 := by decide +kernel
theorem d29_33 : Dc k29 33 (.iload 4) 2 := by decide +kernel
theorem d29_35 : Dc k29 35 (.invokespecial 263) 3 := by decide +kernel
theorem d29_38 : Dc k29 38 (.areturn) 1 := by decide +kernel
def QNsu1 (Z : State) (b : Addr) (sv : Int32) (cs : Int32) (sf : Value) (kb : ClassId) (mm : Int32) (ls : List Value) (z0 : Int32) (h0 : Heap) (n0 : Nat) (v : Option Value) (h : Heap) (L : List Loc) : Prop := ∃ r : Addr, v = some (.ref r) ∧ h0.size ≤ r ∧ Fr n0 L ∧ Keep h0 h [] ∧ own_Str Z h r 1 2 [.int (own_b z0)] (own_sl ls (sv <<< ((1 : Int32) &&& 31)) 2) (z0.toInt ≤ 255 ∧ True)
theorem rmNsu1 (l : Launch) (Z : State) (a0 : Array Value) (hw : ∀ d ∈ tables_1, d.before a0 Z = true) (ws : List Jvm.Cond) (b : Addr) (sv : Int32) (cs : Int32) (sf : Value) (kb : ClassId) (mm : Int32) (ls : List Value) (z0 : Int32) (h0 : Heap) (n0 : Nat) (Z0 : n0 ≤ h0.size) (hW : own_W Z h0 n0 cs sf) (Vb : Arv Z h0 b kb .byte mm ls (.int 0)) (hx1 : ¬ (((mm >>> ((1 : Int32) &&& 31)) ||| sv) ||| 1) < 0) (hx2 : ¬ ((mm >>> ((1 : Int32) &&& 31)) - sv) < 1) (hA0 : own_At mm ls sv z0) (hto : (sv + 1) <<< ((1 : Int32) &&& 31) = mm) (hto1 : ¬ (sv + 1) < 0) (hto2 : (sv + 1) < 1073741823) (hck : ¬ mm < (sv <<< ((1 : Int32) &&& 31))) (hf0 : ¬ (sv <<< ((1 : Int32) &&& 31)) < 0) (he : mm - (sv <<< ((1 : Int32) &&& 31)) = 2) (hsum : (sv <<< ((1 : Int32) &&& 31)).toNatClampNeg + (2 : Int32).toNatClampNeg ≤ mm.toNatClampNeg) (hfr : ¬ (sv <<< ((1 : Int32) &&& 31)) = 0) (hB0 : own_At 2 (own_sl ls (sv <<< ((1 : Int32) &&& 31)) 2) 0 z0) :
    own_Met l on11 (Jvm.Cond.code on11 jdk_52_method_69_code 5 (some (.object "java/lang/String")) :: ws) ({ frames := 5, cells := 3, slots := 13, locals := 116 } : Room) #[.ref b, .int sv, .int 1] Z h0 (QNsu1 Z b sv cs sf kb mm ls z0 h0 n0) := by
  refine own_met (plainFor_of_name pn2) (fun m => ef_RII5 m b sv (1 : Int32)) ?_
  intro p e s m below meth c s₁ B hlk hret hml hZ hown hnm X0 e0
  have hx := B.1
  have hby := B.2
  have N0 := Fr.nil n0
  refine w_i X0 B d29_0 rfl (w_t X0 B 1 8 rfl d29_1 (feq (by decide)).2 (by decide) ?_)
  show Sh s₁ 8 #[vr b, vi sv, vi 1, .unset, .unset] []
  refine w_gs X0 B hZ hown (tw hw 157 rfl) Via.refl e0 hW.cst d29_8 ?_
  intro T8 X8 e8
  have hc11 : ¬ (cs = (0 : Int32)) := hW.cne
  refine w_f X8 B d29_11 (feq hc11).1 (w_a X8 B d29_14 rfl rfl (w_i X8 B d29_15 rfl (w_i X8 B d29_16 rfl ?_)))
  show Sh T8 17 #[vr b, vi sv, vi 1, .unset, .unset] [.int 1, .int sv, .ref b]
  refine w_cs X8 B hZ hown hml (rmD3_1 l Z a0 hw [] b sv cs sf kb mm ls z0 h0 n0 Z0 hW Vb hx1 hx2 hA0 hto hto1 hto2 hck hf0 he hsum hfr hB0) (tw hw 158 rfl) (tw hw 159 rfl) (tw hw 93 rfl) (tw hw 160 rfl) e8 d29_17 3 0 (lenOf pd22 rfl) rfl rfl rfl (by decide) ?_
  rintro _ T17 Lc17 X17 ⟨bb17, kb17, rfl, gz17, Nq17, K17, hq17⟩
  have N17 := Fr.app N0 Nq17
  have ne_b_bb17 : b ≠ bb17 := Nat.ne_of_lt (Nat.lt_of_lt_of_le Vb.lt gz17)
  have gn_bb17 : n0 ≤ bb17 := Nat.le_trans Z0 gz17
  have gz_bb17 : h0.size ≤ bb17 := Nat.le_trans (Keep.refl h0 []).1 gz17
  have Wo17 := hW.keep K17 own_k0
  have V_b_17 := Vb.keep K17 nin0
  have Kt17 := Keep.trans (Keep.refl h0 []) K17 (by simp)
  have Z17 : n0 ≤ T17.heap.size := Nat.le_trans Z0 K17.1
  rcases hq17 with ⟨VL17, hp17⟩ | VU17
  · refine w_U X17 B d29_20 rfl #[vr b, vi sv, vi 1, vr bb17, .unset] rfl (w_a X17 B d29_21 rfl rfl (w_i X17 B d29_22 rfl ?_))
    show Sh T17 23 #[vr b, vi sv, vi 1, vr bb17, .unset] [.int 1, .ref bb17]
    refine w_cs X17 B hZ hown hml (rmCl l Z a0 hw [] bb17 (1 : Int32) _ _ _ 0 T17.heap n0 Z17 VL17 (by decide) rfl) (tw hw 188 rfl) (tw hw 99 rfl) (tw hw 93 rfl) (tw hw 100 rfl) rfl d29_23 2 0 (lenOf pd13 rfl) rfl rfl rfl (by decide) ?_
    rintro _ T23 Lc23 X23 ⟨rfl, Nq23, hh23⟩
    have N23 := Fr.app N17 Nq23
    refine w_s X23 B d29_26 #[vr b, vi sv, vi 1, vr bb17, vi 0] rfl ?_
    show Sh T23 28 #[vr b, vi sv, vi 1, vr bb17, vi 0] []
    obtain ⟨T28, h28, X28, e28, E28, A28, D28, -, st28⟩ := newO X23 hx hZ hown (tw hw 189 rfl) (tw hw 8 rfl) (tw hw 9 rfl) hh23 (g := (mkF m 28 #[vr b, vi sv, vi 1, vr bb17, vi 0] [])) rfl (hb hby d29_28) (by decide) (by decide)
    obtain ⟨b28, g28⟩ : ∃ z, z = T17.heap.size := ⟨_, rfl⟩
    rw [← g28] at A28 D28 st28
    have ne_b_b28 : b ≠ b28 := Nat.ne_of_lt (Nat.lt_of_lt_of_le V_b_17.lt (Nat.le_of_eq g28.symm))
    have ne_bb17_b28 : bb17 ≠ b28 := Nat.ne_of_lt (Nat.lt_of_lt_of_le VL17.lt (Nat.le_of_eq g28.symm))
    have gz_b28 : h0.size ≤ b28 := Nat.le_trans Kt17.1 (Nat.le_of_eq g28.symm)
    have V_b_28 := V_b_17.ext E28
    have V_bb17_28 := VL17.ext E28
    have K28 := Kt17.ext E28
    have Wo28 := Wo17.ext E28
    have gn_b28 : n0 ≤ b28 := Nat.le_trans Z17 (Nat.le_of_eq g28.symm)
    have Z28 : n0 ≤ h28.size := Nat.le_trans Z17 E28.1
    have F_b28_value : Fld Z h28 b28 "java/lang/String" "value" "[B" .null := D28 (Or.inr (tw hw 22 rfl)) (ty := (.array .byte)) (by decide)
    have F_b28_coder : Fld Z h28 b28 "java/lang/String" "coder" "B" (.int 0) := D28 (Or.inr (tw hw 23 rfl)) (ty := .byte) (by decide)
    refine Dg.st st28 ?_
    refine Dg.st (fun _ kk => XS.dup X28.here hx rfl (hb hby d29_31) rfl rfl kk) (w_a X28 B d29_32 rfl rfl (w_j X28 B d29_33 rfl ?_))
    show Sh T28 35 #[vr b, vi sv, vi 1, vr bb17, vi 0] [.int 0, .ref bb17, .ref b28, .ref b28]
    refine w_ci X28 B hZ hown hml (rmSb0 l Z a0 hw [] b28 bb17 h28 n0 Z28 gn_b28 A28 F_b28_coder F_b28_value) (tw hw 190 rfl) (tw hw 191 rfl) (tw hw 9 rfl) (tw hw 192 rfl) e28 d29_35 2 1 rfl (lenOf pd23 rfl) rfl rfl rfl rfl (by decide) ?_
    rintro _ T35 Lc35 X35 ⟨rfl, Nq35, K35, Es35, Fcs35, Fvs35⟩
    have N35 := Fr.app N23 Nq35
    have Vk35 := V_bb17_28.keep K35 (ninS ne_bb17_b28 nin0)
    have Kt35 := Keep.trans K28 K35 (fun x hx => Or.inr ((List.mem_singleton.mp hx) ▸ gz_b28))
    have Z35 : n0 ≤ T35.heap.size := Nat.le_trans Z28 K35.1
    exact Dg.retA X35 hlk B hret rfl ⟨rfl, rfl⟩ d29_38 ⟨b28, rfl, gz_b28, N35, Kt35, Es35, Or.inl ⟨bb17, kb17, Fcs35, Fvs35, Vk35, hp17⟩⟩ (by decide)
  · refine w_U X17 B d29_20 rfl #[vr b, vi sv, vi 1, vr bb17, .unset] rfl (w_a X17 B d29_21 rfl rfl (w_i X17 B d29_22 rfl ?_))
    show Sh T17 23 #[vr b, vi sv, vi 1, vr bb17, .unset] [.int 1, .ref bb17]
    refine w_cs X17 B hZ hown hml (rmCl l Z a0 hw [] bb17 (1 : Int32) _ _ _ 1 T17.heap n0 Z17 VU17 (by decide) rfl) (tw hw 188 rfl) (tw hw 99 rfl) (tw hw 93 rfl) (tw hw 100 rfl) rfl d29_23 2 0 (lenOf pd13 rfl) rfl rfl rfl (by decide) ?_
    rintro _ T23 Lc23 X23 ⟨rfl, Nq23, hh23⟩
    have N23 := Fr.app N17 Nq23
    refine w_s X23 B d29_26 #[vr b, vi sv, vi 1, vr bb17, vi 1] rfl ?_
    show Sh T23 28 #[vr b, vi sv, vi 1, vr bb17, vi 1] []
    obtain ⟨T28, h28, X28, e28, E28, A28, D28, -, st28⟩ := newO X23 hx hZ hown (tw hw 189 rfl) (tw hw 8 rfl) (tw hw 9 rfl) hh23 (g := (mkF m 28 #[vr b, vi sv, vi 1, vr bb17, vi 1] [])) rfl (hb hby d29_28) (by decide) (by decide)
    obtain ⟨b28, g28⟩ : ∃ z, z = T17.heap.size := ⟨_, rfl⟩
    rw [← g28] at A28 D28 st28
    have ne_b_b28 : b ≠ b28 := Nat.ne_of_lt (Nat.lt_of_lt_of_le V_b_17.lt (Nat.le_of_eq g28.symm))
    have ne_bb17_b28 : bb17 ≠ b28 := Nat.ne_of_lt (Nat.lt_of_lt_of_le VU17.lt (Nat.le_of_eq g28.symm))
    have gz_b28 : h0.size ≤ b28 := Nat.le_trans Kt17.1 (Nat.le_of_eq g28.symm)
    have V_b_28 := V_b_17.ext E28
    have V_bb17_28 := VU17.ext E28
    have K28 := Kt17.ext E28
    have Wo28 := Wo17.ext E28
    have gn_b28 : n0 ≤ b28 := Nat.le_trans Z17 (Nat.le_of_eq g28.symm)
    have Z28 : n0 ≤ h28.size := Nat.le_trans Z17 E28.1
    have F_b28_value : Fld Z h28 b28 "java/lang/String" "value" "[B" .null := D28 (Or.inr (tw hw 22 rfl)) (ty := (.array .byte)) (by decide)
    have F_b28_coder : Fld Z h28 b28 "java/lang/String" "coder" "B" (.int 0) := D28 (Or.inr (tw hw 23 rfl)) (ty := .byte) (by decide)
    refine Dg.st st28 ?_
    refine Dg.st (fun _ kk => XS.dup X28.here hx rfl (hb hby d29_31) rfl rfl kk) (w_a X28 B d29_32 rfl rfl (w_j X28 B d29_33 rfl ?_))
    show Sh T28 35 #[vr b, vi sv, vi 1, vr bb17, vi 1] [.int 1, .ref bb17, .ref b28, .ref b28]
    refine w_ci X28 B hZ hown hml (rmSb1 l Z a0 hw [] b28 bb17 h28 n0 Z28 gn_b28 A28 F_b28_coder F_b28_value) (tw hw 190 rfl) (tw hw 191 rfl) (tw hw 9 rfl) (tw hw 192 rfl) e28 d29_35 2 1 rfl (lenOf pd23 rfl) rfl rfl rfl rfl (by decide) ?_
    rintro _ T35 Lc35 X35 ⟨rfl, Nq35, K35, Es35, Fcs35, Fvs35⟩
    have N35 := Fr.app N23 Nq35
    have Vk35 := V_bb17_28.keep K35 (ninS ne_bb17_b28 nin0)
    have Kt35 := Keep.trans K28 K35 (fun x hx => Or.inr ((List.mem_singleton.mp hx) ▸ gz_b28))
    have Z35 : n0 ≤ T35.heap.size := Nat.le_trans Z28 K35.1
    exact Dg.retA X35 hlk B hret rfl ⟨rfl, rfl⟩ d29_38 ⟨b28, rfl, gz_b28, N35, Kt35, Es35, Or.inr ⟨bb17, kb17, Fcs35, Fvs35, Vk35⟩⟩ (by decide)

theorem d15_22 : Dc k15 22 (.iload_n 2) 1 := by decide +kernel
theorem d15_23 : Dc k15 23 (.iload_n 1) 1 := by decide +kernel
theorem d15_24 : Dc k15 24 (.isub) 1 := by decide +kernel
theorem d15_25 : Dc k15 25 (.istore 4) 2 := by decide +kernel
theorem d15_27 : Dc k15 27 (.aload_n 0) 1 := by decide +kernel
theorem d15_28 : Dc k15 28 (.invokevirtual 492) 3 := by decide +kernel
theorem d15_31 : Dc k15 31 (.ifCond .eq 16) 3 := by decide +kernel
theorem d15_34 : Dc k15 34 (.aload_n 0) 1 := by decide +kernel
theorem d15_35 : Dc k15 35 (.getfield 9) 3 := by decide +kernel
theorem d15_38 : Dc k15 38 (.iload_n 1) 1 := by decide +kernel
theorem d15_39 : Dc k15 39 (.iload 4) 2 := by decide +kernel
theorem d15_41 : Dc k15 41 (.invokestatic 685) 3 := by decide +kernel
theorem d15_44 : Dc k15 44 (.goto 13) 3 := by decide +kernel
theorem d15_47 : Dc k15 47 (.aload_n 0) 1 := by decide +kernel
theorem d15_48 : Dc k15 48 (.getfield 9) 3 := by decide +kernel
theorem d15_51 : Dc k15 51 (.iload_n 1) 1 := by decide +kernel
theorem d15_52 : Dc k15 52 (.iload 4) 2 := by decide +kernel
theorem d15_54 : Dc k15 54 (.invokestatic 689) 3 := by decide +kernel
theorem d15_57 : Dc k15 57 (.areturn) 1 := by decide +kernel
theorem pd26 : parseMethodDescriptor "([BII)Ljava/lang/String;" = some ⟨[(.array .byte), .int, .int], some (.object "java/lang/String")⟩ := by decide +kernel
def QS2_1 (Z : State) (a : Addr) (sv : Int32) (nn : Int32) (cs : Int32) (sf : Value) (mm : Int32) (ls lu : List Value) (PQ : Prop) (z0 : Int32) (h0 : Heap) (n0 : Nat) (v : Option Value) (h : Heap) (L : List Loc) : Prop := ∃ r : Addr, v = some (.ref r) ∧ h0.size ≤ r ∧ Fr n0 L ∧ Keep h0 h [] ∧ own_Str Z h r 1 2 [.int (own_b z0)] [.int (own_lo z0), .int (own_hi z0)] (z0.toInt ≤ 255 ∧ True)
theorem rmS2_1 (l : Launch) (Z : State) (a0 : Array Value) (hw : ∀ d ∈ tables_1, d.before a0 Z = true) (ws : List Jvm.Cond) (a : Addr) (sv : Int32) (nn : Int32) (cs : Int32) (sf : Value) (mm : Int32) (ls lu : List Value) (PQ : Prop) (z0 : Int32) (h0 : Heap) (n0 : Nat) (Z0 : n0 ≤ h0.size) (hW : own_W Z h0 n0 cs sf) (hS : own_Str Z h0 a nn mm ls lu PQ) (hs0 : nn >>> ((0 : Int32) &&& 31) = nn) (hs1 : mm >>> ((1 : Int32) &&& 31) = nn) (hb1 : ¬ sv < 0) (hb2 : ¬ nn < sv) (hfr0 : ¬ sv = 0) (hm : nn - sv = 1) (lto : sv + 1 = nn) (lsum : sv.toNatClampNeg + (1 : Int32).toNatClampNeg ≤ nn.toNatClampNeg) (hPZ : PQ → (z0.toInt ≤ 255 ∧ True)) (hsl : own_sl ls sv 1 = [.int (own_b z0)]) (hx1 : ¬ (((mm >>> ((1 : Int32) &&& 31)) ||| sv) ||| 1) < 0) (hx2 : ¬ ((mm >>> ((1 : Int32) &&& 31)) - sv) < 1) (hA0 : own_At mm lu sv z0) (hto : (sv + 1) <<< ((1 : Int32) &&& 31) = mm) (hto1 : ¬ (sv + 1) < 0) (hto2 : (sv + 1) < 1073741823) (hck : ¬ mm < (sv <<< ((1 : Int32) &&& 31))) (hf0 : ¬ (sv <<< ((1 : Int32) &&& 31)) < 0) (he : mm - (sv <<< ((1 : Int32) &&& 31)) = 2) (hsum : (sv <<< ((1 : Int32) &&& 31)).toNatClampNeg + (2 : Int32).toNatClampNeg ≤ mm.toNatClampNeg) (hfr : ¬ (sv <<< ((1 : Int32) &&& 31)) = 0) (hB0 : own_At 2 (own_sl lu (sv <<< ((1 : Int32) &&& 31)) 2) 0 z0) (hsu : own_sl lu (sv <<< ((1 : Int32) &&& 31)) 2 = [.int (own_lo z0), .int (own_hi z0)]) :
    own_Met l on2 (Jvm.Cond.code on2 jdk_42_method_92_code 5 (some (.object "java/lang/String")) :: ws) orm36 #[.ref a, .int sv, .int nn] Z h0 (QS2_1 Z a sv nn cs sf mm ls lu PQ z0 h0 n0) := by
  refine own_met (plainFor_of_name pn0) (fun m => ef_RII5 m a sv nn) ?_
  intro p e s m below meth c s₁ B hlk hret hml hZ hown hnm X0 e0
  have hx := B.1
  have hby := B.2
  have N0 := Fr.nil n0
  have hS' := hS
  rcases hS' with ⟨Ea, ⟨bb, kb, Fc, Fv, Vb, hp⟩ | ⟨bb, kb, Fc, Fv, Vb⟩⟩
  · refine w_a X0 B d15_0 rfl rfl ?_
    show Sh s₁ 1 #[vr a, vi sv, vi nn, .unset, .unset] [.ref a]
    refine w_cv X0 B hZ hown hml (rmLn l Z a0 hw [] a cs sf _ _ _ _ _ h0 n0 Z0 hW hS hs0 hs1) (tw hw 37 rfl) (tw hw 38 rfl) (tw hw 40 rfl) (tw hw 39 rfl) (tw hw 9 rfl) (tw hw 41 rfl) e0 Ea d15_1 0 0 rfl (lenOf pd17 rfl) rfl rfl rfl (by decide) ?_
    rintro _ T1 Lc1 X1 ⟨rfl, Nq1, hh1⟩
    have N1 := Fr.app N0 Nq1
    refine w_S X1 B d15_4 #[vr a, vi sv, vi nn, vi nn, .unset] rfl (w_i X1 B d15_5 rfl (w_i X1 B d15_6 rfl (w_i X1 B d15_7 rfl ?_)))
    show Sh T1 8 #[vr a, vi sv, vi nn, vi nn, .unset] [.int nn, .int nn, .int sv]
    refine w_cs X1 B hZ hown hml (rmBe l Z a0 hw [] sv nn nn cs sf  h0 n0 Z0 hW hb1 hb2 (fun q => absurd q (by simp))) (tw hw 79 rfl) (tw hw 80 rfl) (tw hw 9 rfl) (tw hw 81 rfl) hh1 d15_8 3 0 (lenOf pd20 rfl) rfl rfl rfl (by decide) ?_
    rintro _ T8 Lc8 X8 ⟨rfl, Nq8, hh8⟩
    have N8 := Fr.app N1 Nq8
    refine w_i X8 B d15_11 rfl ?_
    show Sh T8 12 #[vr a, vi sv, vi nn, vi nn, .unset] [.int sv]
    have hc12 : ¬ (sv = (0 : Int32)) := hfr0
    refine w_t X8 B 12 22 rfl d15_12 (feq hc12).2 (by decide) (w_i X8 B d15_22 rfl (w_i X8 B d15_23 rfl (Dg.st (fun _ kk => XS.isub X8.here hx rfl (hb hby d15_24) rfl kk) ?_)))
    show Sh T8 25 #[vr a, vi sv, vi nn, vi nn, .unset] [.int (nn - sv)]
    rw [hm]
    refine w_s X8 B d15_25 #[vr a, vi sv, vi nn, vi nn, vi 1] rfl (w_a X8 B d15_27 rfl rfl ?_)
    show Sh T8 28 #[vr a, vi sv, vi nn, vi nn, vi 1] [.ref a]
    refine w_cv X8 B hZ hown hml (rmIl0 l Z a0 hw [] a cs sf  h0 n0 Z0 hW Fc) (tw hw 53 rfl) (tw hw 54 rfl) (tw hw 56 rfl) (tw hw 55 rfl) (tw hw 9 rfl) (tw hw 57 rfl) hh8 Ea d15_28 0 0 rfl (lenOf pd7 rfl) rfl rfl rfl (by decide) ?_
    rintro _ T28 Lc28 X28 ⟨rfl, Nq28, hh28⟩
    have N28 := Fr.app N8 Nq28
    refine w_f X28 B d15_31 (feq (by decide)).1 (w_a X28 B d15_34 rfl rfl ?_)
    show Sh T28 35 #[vr a, vi sv, vi nn, vi nn, vi 1] [.ref a]
    refine w_gf X28 B hZ hown (tw hw 26 rfl) Via.refl hh28 Fv d15_35 ?_
    intro T35 X35 e35
    refine w_i X35 B d15_38 rfl (w_j X35 B d15_39 rfl ?_)
    show Sh T35 41 #[vr a, vi sv, vi nn, vi nn, vi 1] [.int 1, .int sv, .ref bb]
    refine w_cs X35 B hZ hown hml (rmNsl1 l Z a0 hw [] bb sv kb nn ls [.int (own_lo z0), .int (own_hi z0)] (z0.toInt ≤ 255 ∧ True) h0 n0 Z0 Vb (hPZ hp) lto hb2 hb1 hm lsum hfr0) (tw hw 101 rfl) (tw hw 102 rfl) (tw hw 60 rfl) (tw hw 103 rfl) e35 d15_41 3 0 (lenOf pd26 rfl) rfl rfl rfl (by decide) ?_
    rintro _ T41 Lc41 X41 ⟨rs41, rfl, gz41, Nq41, K41, S41⟩
    rw [hsl] at S41
    have N41 := Fr.app N28 Nq41
    refine w_g X41 B 44 57 rfl d15_44 (by decide) ?_
    show Sh T41 57 #[vr a, vi sv, vi nn, vi nn, vi 1] [.ref rs41]
    exact Dg.retA X41 hlk B hret rfl ⟨rfl, rfl⟩ d15_57 ⟨rs41, rfl, gz41, N41, K41, S41⟩ (by decide)
  · refine w_a X0 B d15_0 rfl rfl ?_
    show Sh s₁ 1 #[vr a, vi sv, vi nn, .unset, .unset] [.ref a]
    refine w_cv X0 B hZ hown hml (rmLn l Z a0 hw [] a cs sf _ _ _ _ _ h0 n0 Z0 hW hS hs0 hs1) (tw hw 37 rfl) (tw hw 38 rfl) (tw hw 40 rfl) (tw hw 39 rfl) (tw hw 9 rfl) (tw hw 41 rfl) e0 Ea d15_1 0 0 rfl (lenOf pd17 rfl) rfl rfl rfl (by decide) ?_
    rintro _ T1 Lc1 X1 ⟨rfl, Nq1, hh1⟩
    have N1 := Fr.app N0 Nq1
    refine w_S X1 B d15_4 #[vr a, vi sv, vi nn, vi nn, .unset] rfl (w_i X1 B d15_5 rfl (w_i X1 B d15_6 rfl (w_i X1 B d15_7 rfl ?_)))
    show Sh T1 8 #[vr a, vi sv, vi nn, vi nn, .unset] [.int nn, .int nn, .int sv]
    refine w_cs X1 B hZ hown hml (rmBe l Z a0 hw [] sv nn nn cs sf  h0 n0 Z0 hW hb1 hb2 (fun q => absurd q (by simp))) (tw hw 79 rfl) (tw hw 80 rfl) (tw hw 9 rfl) (tw hw 81 rfl) hh1 d15_8 3 0 (lenOf pd20 rfl) rfl rfl rfl (by decide) ?_
    rintro _ T8 Lc8 X8 ⟨rfl, Nq8, hh8⟩
    have N8 := Fr.app N1 Nq8
    refine w_i X8 B d15_11 rfl ?_
    show Sh T8 12 #[vr a, vi sv, vi nn, vi nn, .unset] [.int sv]
    have hc12 : ¬ (sv = (0 : Int32)) := hfr0
    refine w_t X8 B 12 22 rfl d15_12 (feq hc12).2 (by decide) (w_i X8 B d15_22 rfl (w_i X8 B d15_23 rfl (Dg.st (fun _ kk => XS.isub X8.here hx rfl (hb hby d15_24) rfl kk) ?_)))
    show Sh T8 25 #[vr a, vi sv, vi nn, vi nn, .unset] [.int (nn - sv)]
    rw [hm]
    refine w_s X8 B d15_25 #[vr a, vi sv, vi nn, vi nn, vi 1] rfl (w_a X8 B d15_27 rfl rfl ?_)
    show Sh T8 28 #[vr a, vi sv, vi nn, vi nn, vi 1] [.ref a]
    refine w_cv X8 B hZ hown hml (rmIl1 l Z a0 hw [] a cs sf  h0 n0 Z0 hW Fc) (tw hw 53 rfl) (tw hw 54 rfl) (tw hw 56 rfl) (tw hw 55 rfl) (tw hw 9 rfl) (tw hw 57 rfl) hh8 Ea d15_28 0 0 rfl (lenOf pd7 rfl) rfl rfl rfl (by decide) ?_
    rintro _ T28 Lc28 X28 ⟨rfl, Nq28, hh28⟩
    have N28 := Fr.app N8 Nq28
    refine w_t X28 B 31 47 rfl d15_31 (teq (by decide)).1 (by decide) (w_a X28 B d15_47 rfl rfl ?_)
    show Sh T28 48 #[vr a, vi sv, vi nn, vi nn, vi 1] [.ref a]
    refine w_gf X28 B hZ hown (tw hw 26 rfl) Via.refl hh28 Fv d15_48 ?_
    intro T48 X48 e48
    refine w_i X48 B d15_51 rfl (w_j X48 B d15_52 rfl ?_)
    show Sh T48 54 #[vr a, vi sv, vi nn, vi nn, vi 1] [.int 1, .int sv, .ref bb]
    refine w_cs X48 B hZ hown hml (rmNsu1 l Z a0 hw [] bb sv cs sf kb mm lu z0 h0 n0 Z0 hW Vb hx1 hx2 hA0 hto hto1 hto2 hck hf0 he hsum hfr hB0) (tw hw 129 rfl) (tw hw 130 rfl) (tw hw 93 rfl) (tw hw 131 rfl) e48 d15_54 3 0 (lenOf pd26 rfl) rfl rfl rfl (by decide) ?_
    rintro _ T54 Lc54 X54 ⟨rs54, rfl, gz54, Nq54, K54, S54⟩
    rw [hsu] at S54
    have N54 := Fr.app N28 Nq54
    exact Dg.retA X54 hlk B hret rfl ⟨rfl, rfl⟩ d15_57 ⟨rs54, rfl, gz54, N54, K54, S54⟩ (by decide)

def QS1_1 (Z : State) (a : Addr) (sv : Int32) (cs : Int32) (sf : Value) (nn mm : Int32) (ls lu : List Value) (PQ : Prop) (z0 : Int32) (h0 : Heap) (n0 : Nat) (v : Option Value) (h : Heap) (L : List Loc) : Prop := ∃ r : Addr, v = some (.ref r) ∧ h0.size ≤ r ∧ Fr n0 L ∧ Keep h0 h [] ∧ own_Str Z h r 1 2 [.int (own_b z0)] [.int (own_lo z0), .int (own_hi z0)] (z0.toInt ≤ 255 ∧ True)
theorem rmS1_1 (l : Launch) (Z : State) (a0 : Array Value) (hw : ∀ d ∈ tables_1, d.before a0 Z = true) (ws : List Jvm.Cond) (a : Addr) (sv : Int32) (cs : Int32) (sf : Value) (nn mm : Int32) (ls lu : List Value) (PQ : Prop) (z0 : Int32) (h0 : Heap) (n0 : Nat) (Z0 : n0 ≤ h0.size) (hW : own_W Z h0 n0 cs sf) (hS : own_Str Z h0 a nn mm ls lu PQ) (hs0 : nn >>> ((0 : Int32) &&& 31) = nn) (hs1 : mm >>> ((1 : Int32) &&& 31) = nn) (hb1 : ¬ sv < 0) (hb2 : ¬ nn < sv) (hfr0 : ¬ sv = 0) (hm : nn - sv = 1) (lto : sv + 1 = nn) (lsum : sv.toNatClampNeg + (1 : Int32).toNatClampNeg ≤ nn.toNatClampNeg) (hPZ : PQ → (z0.toInt ≤ 255 ∧ True)) (hsl : own_sl ls sv 1 = [.int (own_b z0)]) (hx1 : ¬ (((mm >>> ((1 : Int32) &&& 31)) ||| sv) ||| 1) < 0) (hx2 : ¬ ((mm >>> ((1 : Int32) &&& 31)) - sv) < 1) (hA0 : own_At mm lu sv z0) (hto : (sv + 1) <<< ((1 : Int32) &&& 31) = mm) (hto1 : ¬ (sv + 1) < 0) (hto2 : (sv + 1) < 1073741823) (hck : ¬ mm < (sv <<< ((1 : Int32) &&& 31))) (hf0 : ¬ (sv <<< ((1 : Int32) &&& 31)) < 0) (he : mm - (sv <<< ((1 : Int32) &&& 31)) = 2) (hsum : (sv <<< ((1 : Int32) &&& 31)).toNatClampNeg + (2 : Int32).toNatClampNeg ≤ mm.toNatClampNeg) (hfr : ¬ (sv <<< ((1 : Int32) &&& 31)) = 0) (hB0 : own_At 2 (own_sl lu (sv <<< ((1 : Int32) &&& 31)) 2) 0 z0) (hsu : own_sl lu (sv <<< ((1 : Int32) &&& 31)) 2 = [.int (own_lo z0), .int (own_hi z0)]) :
    own_Met l on1 (Jvm.Cond.code on1 jdk_42_method_91_code 2 (some (.object "java/lang/String")) :: ws) orm40 #[.ref a, .int sv] Z h0 (QS1_1 Z a sv cs sf nn mm ls lu PQ z0 h0 n0) := by
  refine own_met (plainFor_of_name pn0) (fun m => ef_RI2 m a sv) ?_
  intro p e s m below meth c s₁ B hlk hret hml hZ hown hnm X0 e0
  have N0 := Fr.nil n0
  refine w_a X0 B d14_0 rfl rfl (w_i X0 B d14_1 rfl (w_a X0 B d14_2 rfl rfl ?_))
  show Sh s₁ 3 #[vr a, vi sv] [.ref a, .int sv, .ref a]
  refine w_cv X0 B hZ hown hml (rmLn l Z a0 hw [] a cs sf _ _ _ _ _ h0 n0 Z0 hW hS hs0 hs1) (tw hw 37 rfl) (tw hw 38 rfl) (tw hw 40 rfl) (tw hw 39 rfl) (tw hw 9 rfl) (tw hw 41 rfl) e0 hS.1 d14_3 0 2 rfl (lenOf pd17 rfl) rfl rfl rfl (by decide) ?_
  rintro _ T3 Lc3 X3 ⟨rfl, Nq3, hh3⟩
  have N3 := Fr.app N0 Nq3
  refine w_cv X3 B hZ hown hml (rmS2_1 l Z a0 hw [] a sv nn cs sf mm ls lu PQ z0 h0 n0 Z0 hW hS hs0 hs1 hb1 hb2 hfr0 hm lto lsum hPZ hsl hx1 hx2 hA0 hto hto1 hto2 hck hf0 he hsum hfr hB0 hsu) (tw hw 74 rfl) (tw hw 75 rfl) (tw hw 77 rfl) (tw hw 76 rfl) (tw hw 9 rfl) (tw hw 78 rfl) hh3 hS.1 d14_6 2 0 rfl (lenOf pd21 rfl) rfl rfl rfl (by decide) ?_
  rintro _ T6 Lc6 X6 ⟨rs6, rfl, gz6, Nq6, K6, S6⟩
  have N6 := Fr.app N3 Nq6
  exact Dg.retA X6 hlk B hret rfl ⟨rfl, rfl⟩ d14_9 ⟨rs6, rfl, gz6, N6, K6, S6⟩ (by decide)

def QNsu2 (Z : State) (b : Addr) (sv : Int32) (cs : Int32) (sf : Value) (kb : ClassId) (mm : Int32) (ls : List Value) (z0 : Int32) (z1 : Int32) (h0 : Heap) (n0 : Nat) (v : Option Value) (h : Heap) (L : List Loc) : Prop := ∃ r : Addr, v = some (.ref r) ∧ h0.size ≤ r ∧ Fr n0 L ∧ Keep h0 h [] ∧ own_Str Z h r 2 4 [.int (own_b z0), .int (own_b z1)] (own_sl ls (sv <<< ((1 : Int32) &&& 31)) 4) (z0.toInt ≤ 255 ∧ z1.toInt ≤ 255 ∧ True)
theorem rmNsu2 (l : Launch) (Z : State) (a0 : Array Value) (hw : ∀ d ∈ tables_1, d.before a0 Z = true) (ws : List Jvm.Cond) (b : Addr) (sv : Int32) (cs : Int32) (sf : Value) (kb : ClassId) (mm : Int32) (ls : List Value) (z0 : Int32) (z1 : Int32) (h0 : Heap) (n0 : Nat) (Z0 : n0 ≤ h0.size) (hW : own_W Z h0 n0 cs sf) (Vb : Arv Z h0 b kb .byte mm ls (.int 0)) (hx1 : ¬ (((mm >>> ((1 : Int32) &&& 31)) ||| sv) ||| 2) < 0) (hx2 : ¬ ((mm >>> ((1 : Int32) &&& 31)) - sv) < 2) (hA0 : own_At mm ls sv z0) (hA1 : own_At mm ls (sv + (1 : Int32)) z1) (hto : (sv + 2) <<< ((1 : Int32) &&& 31) = mm) (hto1 : ¬ (sv + 2) < 0) (hto2 : (sv + 2) < 1073741823) (hck : ¬ mm < (sv <<< ((1 : Int32) &&& 31))) (hf0 : ¬ (sv <<< ((1 : Int32) &&& 31)) < 0) (he : mm - (sv <<< ((1 : Int32) &&& 31)) = 4) (hsum : (sv <<< ((1 : Int32) &&& 31)).toNatClampNeg + (4 : Int32).toNatClampNeg ≤ mm.toNatClampNeg) (hfr : ¬ (sv <<< ((1 : Int32) &&& 31)) = 0) (hB0 : own_At 4 (own_sl ls (sv <<< ((1 : Int32) &&& 31)) 4) 0 z0) (hB1 : own_At 4 (own_sl ls (sv <<< ((1 : Int32) &&& 31)) 4) 1 z1) :
    own_Met l on11 (Jvm.Cond.code on11 jdk_52_method_69_code 5 (some (.object "java/lang/String")) :: ws) ({ frames := 5, cells := 3, slots := 14, locals := 116 } : Room) #[.ref b, .int sv, .int 2] Z h0 (QNsu2 Z b sv cs sf kb mm ls z0 z1 h0 n0) := by
  refine own_met (plainFor_of_name pn2) (fun m => ef_RII5 m b sv (2 : Int32)) ?_
  intro p e s m below meth c s₁ B hlk hret hml hZ hown hnm X0 e0
  have hx := B.1
  have hby := B.2
  have N0 := Fr.nil n0
  refine w_i X0 B d29_0 rfl (w_t X0 B 1 8 rfl d29_1 (feq (by decide)).2 (by decide) ?_)
  show Sh s₁ 8 #[vr b, vi sv, vi 2, .unset, .unset] []
  refine w_gs X0 B hZ hown (tw hw 157 rfl) Via.refl e0 hW.cst d29_8 ?_
  intro T8 X8 e8
  have hc11 : ¬ (cs = (0 : Int32)) := hW.cne
  refine w_f X8 B d29_11 (feq hc11).1 (w_a X8 B d29_14 rfl rfl (w_i X8 B d29_15 rfl (w_i X8 B d29_16 rfl ?_)))
  show Sh T8 17 #[vr b, vi sv, vi 2, .unset, .unset] [.int 2, .int sv, .ref b]
  refine w_cs X8 B hZ hown hml (rmD3_2 l Z a0 hw [] b sv cs sf kb mm ls z0 z1 h0 n0 Z0 hW Vb hx1 hx2 hA0 hA1 hto hto1 hto2 hck hf0 he hsum hfr hB0 hB1) (tw hw 158 rfl) (tw hw 159 rfl) (tw hw 93 rfl) (tw hw 160 rfl) e8 d29_17 3 0 (lenOf pd22 rfl) rfl rfl rfl (by decide) ?_
  rintro _ T17 Lc17 X17 ⟨bb17, kb17, rfl, gz17, Nq17, K17, hq17⟩
  have N17 := Fr.app N0 Nq17
  have ne_b_bb17 : b ≠ bb17 := Nat.ne_of_lt (Nat.lt_of_lt_of_le Vb.lt gz17)
  have gn_bb17 : n0 ≤ bb17 := Nat.le_trans Z0 gz17
  have gz_bb17 : h0.size ≤ bb17 := Nat.le_trans (Keep.refl h0 []).1 gz17
  have Wo17 := hW.keep K17 own_k0
  have V_b_17 := Vb.keep K17 nin0
  have Kt17 := Keep.trans (Keep.refl h0 []) K17 (by simp)
  have Z17 : n0 ≤ T17.heap.size := Nat.le_trans Z0 K17.1
  rcases hq17 with ⟨VL17, hp17⟩ | VU17
  · refine w_U X17 B d29_20 rfl #[vr b, vi sv, vi 2, vr bb17, .unset] rfl (w_a X17 B d29_21 rfl rfl (w_i X17 B d29_22 rfl ?_))
    show Sh T17 23 #[vr b, vi sv, vi 2, vr bb17, .unset] [.int 2, .ref bb17]
    refine w_cs X17 B hZ hown hml (rmCl l Z a0 hw [] bb17 (2 : Int32) _ _ _ 0 T17.heap n0 Z17 VL17 (by decide) rfl) (tw hw 188 rfl) (tw hw 99 rfl) (tw hw 93 rfl) (tw hw 100 rfl) rfl d29_23 2 0 (lenOf pd13 rfl) rfl rfl rfl (by decide) ?_
    rintro _ T23 Lc23 X23 ⟨rfl, Nq23, hh23⟩
    have N23 := Fr.app N17 Nq23
    refine w_s X23 B d29_26 #[vr b, vi sv, vi 2, vr bb17, vi 0] rfl ?_
    show Sh T23 28 #[vr b, vi sv, vi 2, vr bb17, vi 0] []
    obtain ⟨T28, h28, X28, e28, E28, A28, D28, -, st28⟩ := newO X23 hx hZ hown (tw hw 189 rfl) (tw hw 8 rfl) (tw hw 9 rfl) hh23 (g := (mkF m 28 #[vr b, vi sv, vi 2, vr bb17, vi 0] [])) rfl (hb hby d29_28) (by decide) (by decide)
    obtain ⟨b28, g28⟩ : ∃ z, z = T17.heap.size := ⟨_, rfl⟩
    rw [← g28] at A28 D28 st28
    have ne_b_b28 : b ≠ b28 := Nat.ne_of_lt (Nat.lt_of_lt_of_le V_b_17.lt (Nat.le_of_eq g28.symm))
    have ne_bb17_b28 : bb17 ≠ b28 := Nat.ne_of_lt (Nat.lt_of_lt_of_le VL17.lt (Nat.le_of_eq g28.symm))
    have gz_b28 : h0.size ≤ b28 := Nat.le_trans Kt17.1 (Nat.le_of_eq g28.symm)
    have V_b_28 := V_b_17.ext E28
    have V_bb17_28 := VL17.ext E28
    have K28 := Kt17.ext E28
    have Wo28 := Wo17.ext E28
    have gn_b28 : n0 ≤ b28 := Nat.le_trans Z17 (Nat.le_of_eq g28.symm)
    have Z28 : n0 ≤ h28.size := Nat.le_trans Z17 E28.1
    have F_b28_value : Fld Z h28 b28 "java/lang/String" "value" "[B" .null := D28 (Or.inr (tw hw 22 rfl)) (ty := (.array .byte)) (by decide)
    have F_b28_coder : Fld Z h28 b28 "java/lang/String" "coder" "B" (.int 0) := D28 (Or.inr (tw hw 23 rfl)) (ty := .byte) (by decide)
    refine Dg.st st28 ?_
    refine Dg.st (fun _ kk => XS.dup X28.here hx rfl (hb hby d29_31) rfl rfl kk) (w_a X28 B d29_32 rfl rfl (w_j X28 B d29_33 rfl ?_))
    show Sh T28 35 #[vr b, vi sv, vi 2, vr bb17, vi 0] [.int 0, .ref bb17, .ref b28, .ref b28]
    refine w_ci X28 B hZ hown hml (rmSb0 l Z a0 hw [] b28 bb17 h28 n0 Z28 gn_b28 A28 F_b28_coder F_b28_value) (tw hw 190 rfl) (tw hw 191 rfl) (tw hw 9 rfl) (tw hw 192 rfl) e28 d29_35 2 1 rfl (lenOf pd23 rfl) rfl rfl rfl rfl (by decide) ?_
    rintro _ T35 Lc35 X35 ⟨rfl, Nq35, K35, Es35, Fcs35, Fvs35⟩
    have N35 := Fr.app N23 Nq35
    have Vk35 := V_bb17_28.keep K35 (ninS ne_bb17_b28 nin0)
    have Kt35 := Keep.trans K28 K35 (fun x hx => Or.inr ((List.mem_singleton.mp hx) ▸ gz_b28))
    have Z35 : n0 ≤ T35.heap.size := Nat.le_trans Z28 K35.1
    exact Dg.retA X35 hlk B hret rfl ⟨rfl, rfl⟩ d29_38 ⟨b28, rfl, gz_b28, N35, Kt35, Es35, Or.inl ⟨bb17, kb17, Fcs35, Fvs35, Vk35, hp17⟩⟩ (by decide)
  · refine w_U X17 B d29_20 rfl #[vr b, vi sv, vi 2, vr bb17, .unset] rfl (w_a X17 B d29_21 rfl rfl (w_i X17 B d29_22 rfl ?_))
    show Sh T17 23 #[vr b, vi sv, vi 2, vr bb17, .unset] [.int 2, .ref bb17]
    refine w_cs X17 B hZ hown hml (rmCl l Z a0 hw [] bb17 (2 : Int32) _ _ _ 1 T17.heap n0 Z17 VU17 (by decide) rfl) (tw hw 188 rfl) (tw hw 99 rfl) (tw hw 93 rfl) (tw hw 100 rfl) rfl d29_23 2 0 (lenOf pd13 rfl) rfl rfl rfl (by decide) ?_
    rintro _ T23 Lc23 X23 ⟨rfl, Nq23, hh23⟩
    have N23 := Fr.app N17 Nq23
    refine w_s X23 B d29_26 #[vr b, vi sv, vi 2, vr bb17, vi 1] rfl ?_
    show Sh T23 28 #[vr b, vi sv, vi 2, vr bb17, vi 1] []
    obtain ⟨T28, h28, X28, e28, E28, A28, D28, -, st28⟩ := newO X23 hx hZ hown (tw hw 189 rfl) (tw hw 8 rfl) (tw hw 9 rfl) hh23 (g := (mkF m 28 #[vr b, vi sv, vi 2, vr bb17, vi 1] [])) rfl (hb hby d29_28) (by decide) (by decide)
    obtain ⟨b28, g28⟩ : ∃ z, z = T17.heap.size := ⟨_, rfl⟩
    rw [← g28] at A28 D28 st28
    have ne_b_b28 : b ≠ b28 := Nat.ne_of_lt (Nat.lt_of_lt_of_le V_b_17.lt (Nat.le_of_eq g28.symm))
    have ne_bb17_b28 : bb17 ≠ b28 := Nat.ne_of_lt (Nat.lt_of_lt_of_le VU17.lt (Nat.le_of_eq g28.symm))
    have gz_b28 : h0.size ≤ b28 := Nat.le_trans Kt17.1 (Nat.le_of_eq g28.symm)
    have V_b_28 := V_b_17.ext E28
    have V_bb17_28 := VU17.ext E28
    have K28 := Kt17.ext E28
    have Wo28 := Wo17.ext E28
    have gn_b28 : n0 ≤ b28 := Nat.le_trans Z17 (Nat.le_of_eq g28.symm)
    have Z28 : n0 ≤ h28.size := Nat.le_trans Z17 E28.1
    have F_b28_value : Fld Z h28 b28 "java/lang/String" "value" "[B" .null := D28 (Or.inr (tw hw 22 rfl)) (ty := (.array .byte)) (by decide)
    have F_b28_coder : Fld Z h28 b28 "java/lang/String" "coder" "B" (.int 0) := D28 (Or.inr (tw hw 23 rfl)) (ty := .byte) (by decide)
    refine Dg.st st28 ?_
    refine Dg.st (fun _ kk => XS.dup X28.here hx rfl (hb hby d29_31) rfl rfl kk) (w_a X28 B d29_32 rfl rfl (w_j X28 B d29_33 rfl ?_))
    show Sh T28 35 #[vr b, vi sv, vi 2, vr bb17, vi 1] [.int 1, .ref bb17, .ref b28, .ref b28]
    refine w_ci X28 B hZ hown hml (rmSb1 l Z a0 hw [] b28 bb17 h28 n0 Z28 gn_b28 A28 F_b28_coder F_b28_value) (tw hw 190 rfl) (tw hw 191 rfl) (tw hw 9 rfl) (tw hw 192 rfl) e28 d29_35 2 1 rfl (lenOf pd23 rfl) rfl rfl rfl rfl (by decide) ?_
    rintro _ T35 Lc35 X35 ⟨rfl, Nq35, K35, Es35, Fcs35, Fvs35⟩
    have N35 := Fr.app N23 Nq35
    have Vk35 := V_bb17_28.keep K35 (ninS ne_bb17_b28 nin0)
    have Kt35 := Keep.trans K28 K35 (fun x hx => Or.inr ((List.mem_singleton.mp hx) ▸ gz_b28))
    have Z35 : n0 ≤ T35.heap.size := Nat.le_trans Z28 K35.1
    exact Dg.retA X35 hlk B hret rfl ⟨rfl, rfl⟩ d29_38 ⟨b28, rfl, gz_b28, N35, Kt35, Es35, Or.inr ⟨bb17, kb17, Fcs35, Fvs35, Vk35⟩⟩ (by decide)

def QS2_2 (Z : State) (a : Addr) (sv : Int32) (nn : Int32) (cs : Int32) (sf : Value) (mm : Int32) (ls lu : List Value) (PQ : Prop) (z0 : Int32) (z1 : Int32) (h0 : Heap) (n0 : Nat) (v : Option Value) (h : Heap) (L : List Loc) : Prop := ∃ r : Addr, v = some (.ref r) ∧ h0.size ≤ r ∧ Fr n0 L ∧ Keep h0 h [] ∧ own_Str Z h r 2 4 [.int (own_b z0), .int (own_b z1)] [.int (own_lo z0), .int (own_hi z0), .int (own_lo z1), .int (own_hi z1)] (z0.toInt ≤ 255 ∧ z1.toInt ≤ 255 ∧ True)
theorem rmS2_2 (l : Launch) (Z : State) (a0 : Array Value) (hw : ∀ d ∈ tables_1, d.before a0 Z = true) (ws : List Jvm.Cond) (a : Addr) (sv : Int32) (nn : Int32) (cs : Int32) (sf : Value) (mm : Int32) (ls lu : List Value) (PQ : Prop) (z0 : Int32) (z1 : Int32) (h0 : Heap) (n0 : Nat) (Z0 : n0 ≤ h0.size) (hW : own_W Z h0 n0 cs sf) (hS : own_Str Z h0 a nn mm ls lu PQ) (hs0 : nn >>> ((0 : Int32) &&& 31) = nn) (hs1 : mm >>> ((1 : Int32) &&& 31) = nn) (hb1 : ¬ sv < 0) (hb2 : ¬ nn < sv) (hfr0 : ¬ sv = 0) (hm : nn - sv = 2) (lto : sv + 2 = nn) (lsum : sv.toNatClampNeg + (2 : Int32).toNatClampNeg ≤ nn.toNatClampNeg) (hPZ : PQ → (z0.toInt ≤ 255 ∧ z1.toInt ≤ 255 ∧ True)) (hsl : own_sl ls sv 2 = [.int (own_b z0), .int (own_b z1)]) (hx1 : ¬ (((mm >>> ((1 : Int32) &&& 31)) ||| sv) ||| 2) < 0) (hx2 : ¬ ((mm >>> ((1 : Int32) &&& 31)) - sv) < 2) (hA0 : own_At mm lu sv z0) (hA1 : own_At mm lu (sv + (1 : Int32)) z1) (hto : (sv + 2) <<< ((1 : Int32) &&& 31) = mm) (hto1 : ¬ (sv + 2) < 0) (hto2 : (sv + 2) < 1073741823) (hck : ¬ mm < (sv <<< ((1 : Int32) &&& 31))) (hf0 : ¬ (sv <<< ((1 : Int32) &&& 31)) < 0) (he : mm - (sv <<< ((1 : Int32) &&& 31)) = 4) (hsum : (sv <<< ((1 : Int32) &&& 31)).toNatClampNeg + (4 : Int32).toNatClampNeg ≤ mm.toNatClampNeg) (hfr : ¬ (sv <<< ((1 : Int32) &&& 31)) = 0) (hB0 : own_At 4 (own_sl lu (sv <<< ((1 : Int32) &&& 31)) 4) 0 z0) (hB1 : own_At 4 (own_sl lu (sv <<< ((1 : Int32) &&& 31)) 4) 1 z1) (hsu : own_sl lu (sv <<< ((1 : Int32) &&& 31)) 4 = [.int (own_lo z0), .int (own_hi z0), .int (own_lo z1), .int (own_hi z1)]) :
    own_Met l on2 (Jvm.Cond.code on2 jdk_42_method_92_code 5 (some (.object "java/lang/String")) :: ws) orm36 #[.ref a, .int sv, .int nn] Z h0 (QS2_2 Z a sv nn cs sf mm ls lu PQ z0 z1 h0 n0) := by
  refine own_met (plainFor_of_name pn0) (fun m => ef_RII5 m a sv nn) ?_
  intro p e s m below meth c s₁ B hlk hret hml hZ hown hnm X0 e0
  have hx := B.1
  have hby := B.2
  have N0 := Fr.nil n0
  have hS' := hS
  rcases hS' with ⟨Ea, ⟨bb, kb, Fc, Fv, Vb, hp⟩ | ⟨bb, kb, Fc, Fv, Vb⟩⟩
  · refine w_a X0 B d15_0 rfl rfl ?_
    show Sh s₁ 1 #[vr a, vi sv, vi nn, .unset, .unset] [.ref a]
    refine w_cv X0 B hZ hown hml (rmLn l Z a0 hw [] a cs sf _ _ _ _ _ h0 n0 Z0 hW hS hs0 hs1) (tw hw 37 rfl) (tw hw 38 rfl) (tw hw 40 rfl) (tw hw 39 rfl) (tw hw 9 rfl) (tw hw 41 rfl) e0 Ea d15_1 0 0 rfl (lenOf pd17 rfl) rfl rfl rfl (by decide) ?_
    rintro _ T1 Lc1 X1 ⟨rfl, Nq1, hh1⟩
    have N1 := Fr.app N0 Nq1
    refine w_S X1 B d15_4 #[vr a, vi sv, vi nn, vi nn, .unset] rfl (w_i X1 B d15_5 rfl (w_i X1 B d15_6 rfl (w_i X1 B d15_7 rfl ?_)))
    show Sh T1 8 #[vr a, vi sv, vi nn, vi nn, .unset] [.int nn, .int nn, .int sv]
    refine w_cs X1 B hZ hown hml (rmBe l Z a0 hw [] sv nn nn cs sf  h0 n0 Z0 hW hb1 hb2 (fun q => absurd q (by simp))) (tw hw 79 rfl) (tw hw 80 rfl) (tw hw 9 rfl) (tw hw 81 rfl) hh1 d15_8 3 0 (lenOf pd20 rfl) rfl rfl rfl (by decide) ?_
    rintro _ T8 Lc8 X8 ⟨rfl, Nq8, hh8⟩
    have N8 := Fr.app N1 Nq8
    refine w_i X8 B d15_11 rfl ?_
    show Sh T8 12 #[vr a, vi sv, vi nn, vi nn, .unset] [.int sv]
    have hc12 : ¬ (sv = (0 : Int32)) := hfr0
    refine w_t X8 B 12 22 rfl d15_12 (feq hc12).2 (by decide) (w_i X8 B d15_22 rfl (w_i X8 B d15_23 rfl (Dg.st (fun _ kk => XS.isub X8.here hx rfl (hb hby d15_24) rfl kk) ?_)))
    show Sh T8 25 #[vr a, vi sv, vi nn, vi nn, .unset] [.int (nn - sv)]
    rw [hm]
    refine w_s X8 B d15_25 #[vr a, vi sv, vi nn, vi nn, vi 2] rfl (w_a X8 B d15_27 rfl rfl ?_)
    show Sh T8 28 #[vr a, vi sv, vi nn, vi nn, vi 2] [.ref a]
    refine w_cv X8 B hZ hown hml (rmIl0 l Z a0 hw [] a cs sf  h0 n0 Z0 hW Fc) (tw hw 53 rfl) (tw hw 54 rfl) (tw hw 56 rfl) (tw hw 55 rfl) (tw hw 9 rfl) (tw hw 57 rfl) hh8 Ea d15_28 0 0 rfl (lenOf pd7 rfl) rfl rfl rfl (by decide) ?_
    rintro _ T28 Lc28 X28 ⟨rfl, Nq28, hh28⟩
    have N28 := Fr.app N8 Nq28
    refine w_f X28 B d15_31 (feq (by decide)).1 (w_a X28 B d15_34 rfl rfl ?_)
    show Sh T28 35 #[vr a, vi sv, vi nn, vi nn, vi 2] [.ref a]
    refine w_gf X28 B hZ hown (tw hw 26 rfl) Via.refl hh28 Fv d15_35 ?_
    intro T35 X35 e35
    refine w_i X35 B d15_38 rfl (w_j X35 B d15_39 rfl ?_)
    show Sh T35 41 #[vr a, vi sv, vi nn, vi nn, vi 2] [.int 2, .int sv, .ref bb]
    refine w_cs X35 B hZ hown hml (rmNsl2 l Z a0 hw [] bb sv kb nn ls [.int (own_lo z0), .int (own_hi z0), .int (own_lo z1), .int (own_hi z1)] (z0.toInt ≤ 255 ∧ z1.toInt ≤ 255 ∧ True) h0 n0 Z0 Vb (hPZ hp) lto hb2 hb1 hm lsum hfr0) (tw hw 101 rfl) (tw hw 102 rfl) (tw hw 60 rfl) (tw hw 103 rfl) e35 d15_41 3 0 (lenOf pd26 rfl) rfl rfl rfl (by decide) ?_
    rintro _ T41 Lc41 X41 ⟨rs41, rfl, gz41, Nq41, K41, S41⟩
    rw [hsl] at S41
    have N41 := Fr.app N28 Nq41
    refine w_g X41 B 44 57 rfl d15_44 (by decide) ?_
    show Sh T41 57 #[vr a, vi sv, vi nn, vi nn, vi 2] [.ref rs41]
    exact Dg.retA X41 hlk B hret rfl ⟨rfl, rfl⟩ d15_57 ⟨rs41, rfl, gz41, N41, K41, S41⟩ (by decide)
  · refine w_a X0 B d15_0 rfl rfl ?_
    show Sh s₁ 1 #[vr a, vi sv, vi nn, .unset, .unset] [.ref a]
    refine w_cv X0 B hZ hown hml (rmLn l Z a0 hw [] a cs sf _ _ _ _ _ h0 n0 Z0 hW hS hs0 hs1) (tw hw 37 rfl) (tw hw 38 rfl) (tw hw 40 rfl) (tw hw 39 rfl) (tw hw 9 rfl) (tw hw 41 rfl) e0 Ea d15_1 0 0 rfl (lenOf pd17 rfl) rfl rfl rfl (by decide) ?_
    rintro _ T1 Lc1 X1 ⟨rfl, Nq1, hh1⟩
    have N1 := Fr.app N0 Nq1
    refine w_S X1 B d15_4 #[vr a, vi sv, vi nn, vi nn, .unset] rfl (w_i X1 B d15_5 rfl (w_i X1 B d15_6 rfl (w_i X1 B d15_7 rfl ?_)))
    show Sh T1 8 #[vr a, vi sv, vi nn, vi nn, .unset] [.int nn, .int nn, .int sv]
    refine w_cs X1 B hZ hown hml (rmBe l Z a0 hw [] sv nn nn cs sf  h0 n0 Z0 hW hb1 hb2 (fun q => absurd q (by simp))) (tw hw 79 rfl) (tw hw 80 rfl) (tw hw 9 rfl) (tw hw 81 rfl) hh1 d15_8 3 0 (lenOf pd20 rfl) rfl rfl rfl (by decide) ?_
    rintro _ T8 Lc8 X8 ⟨rfl, Nq8, hh8⟩
    have N8 := Fr.app N1 Nq8
    refine w_i X8 B d15_11 rfl ?_
    show Sh T8 12 #[vr a, vi sv, vi nn, vi nn, .unset] [.int sv]
    have hc12 : ¬ (sv = (0 : Int32)) := hfr0
    refine w_t X8 B 12 22 rfl d15_12 (feq hc12).2 (by decide) (w_i X8 B d15_22 rfl (w_i X8 B d15_23 rfl (Dg.st (fun _ kk => XS.isub X8.here hx rfl (hb hby d15_24) rfl kk) ?_)))
    show Sh T8 25 #[vr a, vi sv, vi nn, vi nn, .unset] [.int (nn - sv)]
    rw [hm]
    refine w_s X8 B d15_25 #[vr a, vi sv, vi nn, vi nn, vi 2] rfl (w_a X8 B d15_27 rfl rfl ?_)
    show Sh T8 28 #[vr a, vi sv, vi nn, vi nn, vi 2] [.ref a]
    refine w_cv X8 B hZ hown hml (rmIl1 l Z a0 hw [] a cs sf  h0 n0 Z0 hW Fc) (tw hw 53 rfl) (tw hw 54 rfl) (tw hw 56 rfl) (tw hw 55 rfl) (tw hw 9 rfl) (tw hw 57 rfl) hh8 Ea d15_28 0 0 rfl (lenOf pd7 rfl) rfl rfl rfl (by decide) ?_
    rintro _ T28 Lc28 X28 ⟨rfl, Nq28, hh28⟩
    have N28 := Fr.app N8 Nq28
    refine w_t X28 B 31 47 rfl d15_31 (teq (by decide)).1 (by decide) (w_a X28 B d15_47 rfl rfl ?_)
    show Sh T28 48 #[vr a, vi sv, vi nn, vi nn, vi 2] [.ref a]
    refine w_gf X28 B hZ hown (tw hw 26 rfl) Via.refl hh28 Fv d15_48 ?_
    intro T48 X48 e48
    refine w_i X48 B d15_51 rfl (w_j X48 B d15_52 rfl ?_)
    show Sh T48 54 #[vr a, vi sv, vi nn, vi nn, vi 2] [.int 2, .int sv, .ref bb]
    refine w_cs X48 B hZ hown hml (rmNsu2 l Z a0 hw [] bb sv cs sf kb mm lu z0 z1 h0 n0 Z0 hW Vb hx1 hx2 hA0 hA1 hto hto1 hto2 hck hf0 he hsum hfr hB0 hB1) (tw hw 129 rfl) (tw hw 130 rfl) (tw hw 93 rfl) (tw hw 131 rfl) e48 d15_54 3 0 (lenOf pd26 rfl) rfl rfl rfl (by decide) ?_
    rintro _ T54 Lc54 X54 ⟨rs54, rfl, gz54, Nq54, K54, S54⟩
    rw [hsu] at S54
    have N54 := Fr.app N28 Nq54
    exact Dg.retA X54 hlk B hret rfl ⟨rfl, rfl⟩ d15_57 ⟨rs54, rfl, gz54, N54, K54, S54⟩ (by decide)

def QS1_2 (Z : State) (a : Addr) (sv : Int32) (cs : Int32) (sf : Value) (nn mm : Int32) (ls lu : List Value) (PQ : Prop) (z0 : Int32) (z1 : Int32) (h0 : Heap) (n0 : Nat) (v : Option Value) (h : Heap) (L : List Loc) : Prop := ∃ r : Addr, v = some (.ref r) ∧ h0.size ≤ r ∧ Fr n0 L ∧ Keep h0 h [] ∧ own_Str Z h r 2 4 [.int (own_b z0), .int (own_b z1)] [.int (own_lo z0), .int (own_hi z0), .int (own_lo z1), .int (own_hi z1)] (z0.toInt ≤ 255 ∧ z1.toInt ≤ 255 ∧ True)
theorem rmS1_2 (l : Launch) (Z : State) (a0 : Array Value) (hw : ∀ d ∈ tables_1, d.before a0 Z = true) (ws : List Jvm.Cond) (a : Addr) (sv : Int32) (cs : Int32) (sf : Value) (nn mm : Int32) (ls lu : List Value) (PQ : Prop) (z0 : Int32) (z1 : Int32) (h0 : Heap) (n0 : Nat) (Z0 : n0 ≤ h0.size) (hW : own_W Z h0 n0 cs sf) (hS : own_Str Z h0 a nn mm ls lu PQ) (hs0 : nn >>> ((0 : Int32) &&& 31) = nn) (hs1 : mm >>> ((1 : Int32) &&& 31) = nn) (hb1 : ¬ sv < 0) (hb2 : ¬ nn < sv) (hfr0 : ¬ sv = 0) (hm : nn - sv = 2) (lto : sv + 2 = nn) (lsum : sv.toNatClampNeg + (2 : Int32).toNatClampNeg ≤ nn.toNatClampNeg) (hPZ : PQ → (z0.toInt ≤ 255 ∧ z1.toInt ≤ 255 ∧ True)) (hsl : own_sl ls sv 2 = [.int (own_b z0), .int (own_b z1)]) (hx1 : ¬ (((mm >>> ((1 : Int32) &&& 31)) ||| sv) ||| 2) < 0) (hx2 : ¬ ((mm >>> ((1 : Int32) &&& 31)) - sv) < 2) (hA0 : own_At mm lu sv z0) (hA1 : own_At mm lu (sv + (1 : Int32)) z1) (hto : (sv + 2) <<< ((1 : Int32) &&& 31) = mm) (hto1 : ¬ (sv + 2) < 0) (hto2 : (sv + 2) < 1073741823) (hck : ¬ mm < (sv <<< ((1 : Int32) &&& 31))) (hf0 : ¬ (sv <<< ((1 : Int32) &&& 31)) < 0) (he : mm - (sv <<< ((1 : Int32) &&& 31)) = 4) (hsum : (sv <<< ((1 : Int32) &&& 31)).toNatClampNeg + (4 : Int32).toNatClampNeg ≤ mm.toNatClampNeg) (hfr : ¬ (sv <<< ((1 : Int32) &&& 31)) = 0) (hB0 : own_At 4 (own_sl lu (sv <<< ((1 : Int32) &&& 31)) 4) 0 z0) (hB1 : own_At 4 (own_sl lu (sv <<< ((1 : Int32) &&& 31)) 4) 1 z1) (hsu : own_sl lu (sv <<< ((1 : Int32) &&& 31)) 4 = [.int (own_lo z0), .int (own_hi z0), .int (own_lo z1), .int (own_hi z1)]) :
    own_Met l on1 (Jvm.Cond.code on1 jdk_42_method_91_code 2 (some (.object "java/lang/String")) :: ws) orm40 #[.ref a, .int sv] Z h0 (QS1_2 Z a sv cs sf nn mm ls lu PQ z0 z1 h0 n0) := by
  refine own_met (plainFor_of_name pn0) (fun m => ef_RI2 m a sv) ?_
  intro p e s m below meth c s₁ B hlk hret hml hZ hown hnm X0 e0
  have N0 := Fr.nil n0
  refine w_a X0 B d14_0 rfl rfl (w_i X0 B d14_1 rfl (w_a X0 B d14_2 rfl rfl ?_))
  show Sh s₁ 3 #[vr a, vi sv] [.ref a, .int sv, .ref a]
  refine w_cv X0 B hZ hown hml (rmLn l Z a0 hw [] a cs sf _ _ _ _ _ h0 n0 Z0 hW hS hs0 hs1) (tw hw 37 rfl) (tw hw 38 rfl) (tw hw 40 rfl) (tw hw 39 rfl) (tw hw 9 rfl) (tw hw 41 rfl) e0 hS.1 d14_3 0 2 rfl (lenOf pd17 rfl) rfl rfl rfl (by decide) ?_
  rintro _ T3 Lc3 X3 ⟨rfl, Nq3, hh3⟩
  have N3 := Fr.app N0 Nq3
  refine w_cv X3 B hZ hown hml (rmS2_2 l Z a0 hw [] a sv nn cs sf mm ls lu PQ z0 z1 h0 n0 Z0 hW hS hs0 hs1 hb1 hb2 hfr0 hm lto lsum hPZ hsl hx1 hx2 hA0 hA1 hto hto1 hto2 hck hf0 he hsum hfr hB0 hB1 hsu) (tw hw 74 rfl) (tw hw 75 rfl) (tw hw 77 rfl) (tw hw 76 rfl) (tw hw 9 rfl) (tw hw 78 rfl) hh3 hS.1 d14_6 2 0 rfl (lenOf pd21 rfl) rfl rfl rfl (by decide) ?_
  rintro _ T6 Lc6 X6 ⟨rs6, rfl, gz6, Nq6, K6, S6⟩
  have N6 := Fr.app N3 Nq6
  exact Dg.retA X6 hlk B hret rfl ⟨rfl, rfl⟩ d14_9 ⟨rs6, rfl, gz6, N6, K6, S6⟩ (by decide)

def QNsu3 (Z : State) (b : Addr) (sv : Int32) (cs : Int32) (sf : Value) (kb : ClassId) (mm : Int32) (ls : List Value) (z0 : Int32) (z1 : Int32) (z2 : Int32) (h0 : Heap) (n0 : Nat) (v : Option Value) (h : Heap) (L : List Loc) : Prop := ∃ r : Addr, v = some (.ref r) ∧ h0.size ≤ r ∧ Fr n0 L ∧ Keep h0 h [] ∧ own_Str Z h r 3 6 [.int (own_b z0), .int (own_b z1), .int (own_b z2)] (own_sl ls (sv <<< ((1 : Int32) &&& 31)) 6) (z0.toInt ≤ 255 ∧ z1.toInt ≤ 255 ∧ z2.toInt ≤ 255 ∧ True)
theorem rmNsu3 (l : Launch) (Z : State) (a0 : Array Value) (hw : ∀ d ∈ tables_1, d.before a0 Z = true) (ws : List Jvm.Cond) (b : Addr) (sv : Int32) (cs : Int32) (sf : Value) (kb : ClassId) (mm : Int32) (ls : List Value) (z0 : Int32) (z1 : Int32) (z2 : Int32) (h0 : Heap) (n0 : Nat) (Z0 : n0 ≤ h0.size) (hW : own_W Z h0 n0 cs sf) (Vb : Arv Z h0 b kb .byte mm ls (.int 0)) (hx1 : ¬ (((mm >>> ((1 : Int32) &&& 31)) ||| sv) ||| 3) < 0) (hx2 : ¬ ((mm >>> ((1 : Int32) &&& 31)) - sv) < 3) (hA0 : own_At mm ls sv z0) (hA1 : own_At mm ls (sv + (1 : Int32)) z1) (hA2 : own_At mm ls ((sv + (1 : Int32)) + (1 : Int32)) z2) (hto : (sv + 3) <<< ((1 : Int32) &&& 31) = mm) (hto1 : ¬ (sv + 3) < 0) (hto2 : (sv + 3) < 1073741823) (hck : ¬ mm < (sv <<< ((1 : Int32) &&& 31))) (hf0 : ¬ (sv <<< ((1 : Int32) &&& 31)) < 0) (he : mm - (sv <<< ((1 : Int32) &&& 31)) = 6) (hsum : (sv <<< ((1 : Int32) &&& 31)).toNatClampNeg + (6 : Int32).toNatClampNeg ≤ mm.toNatClampNeg) (hfr : ¬ (sv <<< ((1 : Int32) &&& 31)) = 0) (hB0 : own_At 6 (own_sl ls (sv <<< ((1 : Int32) &&& 31)) 6) 0 z0) (hB1 : own_At 6 (own_sl ls (sv <<< ((1 : Int32) &&& 31)) 6) 1 z1) (hB2 : own_At 6 (own_sl ls (sv <<< ((1 : Int32) &&& 31)) 6) 2 z2) :
    own_Met l on11 (Jvm.Cond.code on11 jdk_52_method_69_code 5 (some (.object "java/lang/String")) :: ws) ({ frames := 5, cells := 3, slots := 15, locals := 116 } : Room) #[.ref b, .int sv, .int 3] Z h0 (QNsu3 Z b sv cs sf kb mm ls z0 z1 z2 h0 n0) := by
  refine own_met (plainFor_of_name pn2) (fun m => ef_RII5 m b sv (3 : Int32)) ?_
  intro p e s m below meth c s₁ B hlk hret hml hZ hown hnm X0 e0
  have hx := B.1
  have hby := B.2
  have N0 := Fr.nil n0
  refine w_i X0 B d29_0 rfl (w_t X0 B 1 8 rfl d29_1 (feq (by decide)).2 (by decide) ?_)
  show Sh s₁ 8 #[vr b, vi sv, vi 3, .unset, .unset] []
  refine w_gs X0 B hZ hown (tw hw 157 rfl) Via.refl e0 hW.cst d29_8 ?_
  intro T8 X8 e8
  have hc11 : ¬ (cs = (0 : Int32)) := hW.cne
  refine w_f X8 B d29_11 (feq hc11).1 (w_a X8 B d29_14 rfl rfl (w_i X8 B d29_15 rfl (w_i X8 B d29_16 rfl ?_)))
  show Sh T8 17 #[vr b, vi sv, vi 3, .unset, .unset] [.int 3, .int sv, .ref b]
  refine w_cs X8 B hZ hown hml (rmD3_3 l Z a0 hw [] b sv cs sf kb mm ls z0 z1 z2 h0 n0 Z0 hW Vb hx1 hx2 hA0 hA1 hA2 hto hto1 hto2 hck hf0 he hsum hfr hB0 hB1 hB2) (tw hw 158 rfl) (tw hw 159 rfl) (tw hw 93 rfl) (tw hw 160 rfl) e8 d29_17 3 0 (lenOf pd22 rfl) rfl rfl rfl (by decide) ?_
  rintro _ T17 Lc17 X17 ⟨bb17, kb17, rfl, gz17, Nq17, K17, hq17⟩
  have N17 := Fr.app N0 Nq17
  have ne_b_bb17 : b ≠ bb17 := Nat.ne_of_lt (Nat.lt_of_lt_of_le Vb.lt gz17)
  have gn_bb17 : n0 ≤ bb17 := Nat.le_trans Z0 gz17
  have gz_bb17 : h0.size ≤ bb17 := Nat.le_trans (Keep.refl h0 []).1 gz17
  have Wo17 := hW.keep K17 own_k0
  have V_b_17 := Vb.keep K17 nin0
  have Kt17 := Keep.trans (Keep.refl h0 []) K17 (by simp)
  have Z17 : n0 ≤ T17.heap.size := Nat.le_trans Z0 K17.1
  rcases hq17 with ⟨VL17, hp17⟩ | VU17
  · refine w_U X17 B d29_20 rfl #[vr b, vi sv, vi 3, vr bb17, .unset] rfl (w_a X17 B d29_21 rfl rfl (w_i X17 B d29_22 rfl ?_))
    show Sh T17 23 #[vr b, vi sv, vi 3, vr bb17, .unset] [.int 3, .ref bb17]
    refine w_cs X17 B hZ hown hml (rmCl l Z a0 hw [] bb17 (3 : Int32) _ _ _ 0 T17.heap n0 Z17 VL17 (by decide) rfl) (tw hw 188 rfl) (tw hw 99 rfl) (tw hw 93 rfl) (tw hw 100 rfl) rfl d29_23 2 0 (lenOf pd13 rfl) rfl rfl rfl (by decide) ?_
    rintro _ T23 Lc23 X23 ⟨rfl, Nq23, hh23⟩
    have N23 := Fr.app N17 Nq23
    refine w_s X23 B d29_26 #[vr b, vi sv, vi 3, vr bb17, vi 0] rfl ?_
    show Sh T23 28 #[vr b, vi sv, vi 3, vr bb17, vi 0] []
    obtain ⟨T28, h28, X28, e28, E28, A28, D28, -, st28⟩ := newO X23 hx hZ hown (tw hw 189 rfl) (tw hw 8 rfl) (tw hw 9 rfl) hh23 (g := (mkF m 28 #[vr b, vi sv, vi 3, vr bb17, vi 0] [])) rfl (hb hby d29_28) (by decide) (by decide)
    obtain ⟨b28, g28⟩ : ∃ z, z = T17.heap.size := ⟨_, rfl⟩
    rw [← g28] at A28 D28 st28
    have ne_b_b28 : b ≠ b28 := Nat.ne_of_lt (Nat.lt_of_lt_of_le V_b_17.lt (Nat.le_of_eq g28.symm))
    have ne_bb17_b28 : bb17 ≠ b28 := Nat.ne_of_lt (Nat.lt_of_lt_of_le VL17.lt (Nat.le_of_eq g28.symm))
    have gz_b28 : h0.size ≤ b28 := Nat.le_trans Kt17.1 (Nat.le_of_eq g28.symm)
    have V_b_28 := V_b_17.ext E28
    have V_bb17_28 := VL17.ext E28
    have K28 := Kt17.ext E28
    have Wo28 := Wo17.ext E28
    have gn_b28 : n0 ≤ b28 := Nat.le_trans Z17 (Nat.le_of_eq g28.symm)
    have Z28 : n0 ≤ h28.size := Nat.le_trans Z17 E28.1
    have F_b28_value : Fld Z h28 b28 "java/lang/String" "value" "[B" .null := D28 (Or.inr (tw hw 22 rfl)) (ty := (.array .byte)) (by decide)
    have F_b28_coder : Fld Z h28 b28 "java/lang/String" "coder" "B" (.int 0) := D28 (Or.inr (tw hw 23 rfl)) (ty := .byte) (by decide)
    refine Dg.st st28 ?_
    refine Dg.st (fun _ kk => XS.dup X28.here hx rfl (hb hby d29_31) rfl rfl kk) (w_a X28 B d29_32 rfl rfl (w_j X28 B d29_33 rfl ?_))
    show Sh T28 35 #[vr b, vi sv, vi 3, vr bb17, vi 0] [.int 0, .ref bb17, .ref b28, .ref b28]
    refine w_ci X28 B hZ hown hml (rmSb0 l Z a0 hw [] b28 bb17 h28 n0 Z28 gn_b28 A28 F_b28_coder F_b28_value) (tw hw 190 rfl) (tw hw 191 rfl) (tw hw 9 rfl) (tw hw 192 rfl) e28 d29_35 2 1 rfl (lenOf pd23 rfl) rfl rfl rfl rfl (by decide) ?_
    rintro _ T35 Lc35 X35 ⟨rfl, Nq35, K35, Es35, Fcs35, Fvs35⟩
    have N35 := Fr.app N23 Nq35
    have Vk35 := V_bb17_28.keep K35 (ninS ne_bb17_b28 nin0)
    have Kt35 := Keep.trans K28 K35 (fun x hx => Or.inr ((List.mem_singleton.mp hx) ▸ gz_b28))
    have Z35 : n0 ≤ T35.heap.size := Nat.le_trans Z28 K35.1
    exact Dg.retA X35 hlk B hret rfl ⟨rfl, rfl⟩ d29_38 ⟨b28, rfl, gz_b28, N35, Kt35, Es35, Or.inl ⟨bb17, kb17, Fcs35, Fvs35, Vk35, hp17⟩⟩ (by decide)
  · refine w_U X17 B d29_20 rfl #[vr b, vi sv, vi 3, vr bb17, .unset] rfl (w_a X17 B d29_21 rfl rfl (w_i X17 B d29_22 rfl ?_))
    show Sh T17 23 #[vr b, vi sv, vi 3, vr bb17, .unset] [.int 3, .ref bb17]
    refine w_cs X17 B hZ hown hml (rmCl l Z a0 hw [] bb17 (3 : Int32) _ _ _ 1 T17.heap n0 Z17 VU17 (by decide) rfl) (tw hw 188 rfl) (tw hw 99 rfl) (tw hw 93 rfl) (tw hw 100 rfl) rfl d29_23 2 0 (lenOf pd13 rfl) rfl rfl rfl (by decide) ?_
    rintro _ T23 Lc23 X23 ⟨rfl, Nq23, hh23⟩
    have N23 := Fr.app N17 Nq23
    refine w_s X23 B d29_26 #[vr b, vi sv, vi 3, vr bb17, vi 1] rfl ?_
    show Sh T23 28 #[vr b, vi sv, vi 3, vr bb17, vi 1] []
    obtain ⟨T28, h28, X28, e28, E28, A28, D28, -, st28⟩ := newO X23 hx hZ hown (tw hw 189 rfl) (tw hw 8 rfl) (tw hw 9 rfl) hh23 (g := (mkF m 28 #[vr b, vi sv, vi 3, vr bb17, vi 1] [])) rfl (hb hby d29_28) (by decide) (by decide)
    obtain ⟨b28, g28⟩ : ∃ z, z = T17.heap.size := ⟨_, rfl⟩
    rw [← g28] at A28 D28 st28
    have ne_b_b28 : b ≠ b28 := Nat.ne_of_lt (Nat.lt_of_lt_of_le V_b_17.lt (Nat.le_of_eq g28.symm))
    have ne_bb17_b28 : bb17 ≠ b28 := Nat.ne_of_lt (Nat.lt_of_lt_of_le VU17.lt (Nat.le_of_eq g28.symm))
    have gz_b28 : h0.size ≤ b28 := Nat.le_trans Kt17.1 (Nat.le_of_eq g28.symm)
    have V_b_28 := V_b_17.ext E28
    have V_bb17_28 := VU17.ext E28
    have K28 := Kt17.ext E28
    have Wo28 := Wo17.ext E28
    have gn_b28 : n0 ≤ b28 := Nat.le_trans Z17 (Nat.le_of_eq g28.symm)
    have Z28 : n0 ≤ h28.size := Nat.le_trans Z17 E28.1
    have F_b28_value : Fld Z h28 b28 "java/lang/String" "value" "[B" .null := D28 (Or.inr (tw hw 22 rfl)) (ty := (.array .byte)) (by decide)
    have F_b28_coder : Fld Z h28 b28 "java/lang/String" "coder" "B" (.int 0) := D28 (Or.inr (tw hw 23 rfl)) (ty := .byte) (by decide)
    refine Dg.st st28 ?_
    refine Dg.st (fun _ kk => XS.dup X28.here hx rfl (hb hby d29_31) rfl rfl kk) (w_a X28 B d29_32 rfl rfl (w_j X28 B d29_33 rfl ?_))
    show Sh T28 35 #[vr b, vi sv, vi 3, vr bb17, vi 1] [.int 1, .ref bb17, .ref b28, .ref b28]
    refine w_ci X28 B hZ hown hml (rmSb1 l Z a0 hw [] b28 bb17 h28 n0 Z28 gn_b28 A28 F_b28_coder F_b28_value) (tw hw 190 rfl) (tw hw 191 rfl) (tw hw 9 rfl) (tw hw 192 rfl) e28 d29_35 2 1 rfl (lenOf pd23 rfl) rfl rfl rfl rfl (by decide) ?_
    rintro _ T35 Lc35 X35 ⟨rfl, Nq35, K35, Es35, Fcs35, Fvs35⟩
    have N35 := Fr.app N23 Nq35
    have Vk35 := V_bb17_28.keep K35 (ninS ne_bb17_b28 nin0)
    have Kt35 := Keep.trans K28 K35 (fun x hx => Or.inr ((List.mem_singleton.mp hx) ▸ gz_b28))
    have Z35 : n0 ≤ T35.heap.size := Nat.le_trans Z28 K35.1
    exact Dg.retA X35 hlk B hret rfl ⟨rfl, rfl⟩ d29_38 ⟨b28, rfl, gz_b28, N35, Kt35, Es35, Or.inr ⟨bb17, kb17, Fcs35, Fvs35, Vk35⟩⟩ (by decide)

def QS2_3 (Z : State) (a : Addr) (sv : Int32) (nn : Int32) (cs : Int32) (sf : Value) (mm : Int32) (ls lu : List Value) (PQ : Prop) (z0 : Int32) (z1 : Int32) (z2 : Int32) (h0 : Heap) (n0 : Nat) (v : Option Value) (h : Heap) (L : List Loc) : Prop := ∃ r : Addr, v = some (.ref r) ∧ h0.size ≤ r ∧ Fr n0 L ∧ Keep h0 h [] ∧ own_Str Z h r 3 6 [.int (own_b z0), .int (own_b z1), .int (own_b z2)] [.int (own_lo z0), .int (own_hi z0), .int (own_lo z1), .int (own_hi z1), .int (own_lo z2), .int (own_hi z2)] (z0.toInt ≤ 255 ∧ z1.toInt ≤ 255 ∧ z2.toInt ≤ 255 ∧ True)
theorem rmS2_3 (l : Launch) (Z : State) (a0 : Array Value) (hw : ∀ d ∈ tables_1, d.before a0 Z = true) (ws : List Jvm.Cond) (a : Addr) (sv : Int32) (nn : Int32) (cs : Int32) (sf : Value) (mm : Int32) (ls lu : List Value) (PQ : Prop) (z0 : Int32) (z1 : Int32) (z2 : Int32) (h0 : Heap) (n0 : Nat) (Z0 : n0 ≤ h0.size) (hW : own_W Z h0 n0 cs sf) (hS : own_Str Z h0 a nn mm ls lu PQ) (hs0 : nn >>> ((0 : Int32) &&& 31) = nn) (hs1 : mm >>> ((1 : Int32) &&& 31) = nn) (hb1 : ¬ sv < 0) (hb2 : ¬ nn < sv) (hfr0 : ¬ sv = 0) (hm : nn - sv = 3) (lto : sv + 3 = nn) (lsum : sv.toNatClampNeg + (3 : Int32).toNatClampNeg ≤ nn.toNatClampNeg) (hPZ : PQ → (z0.toInt ≤ 255 ∧ z1.toInt ≤ 255 ∧ z2.toInt ≤ 255 ∧ True)) (hsl : own_sl ls sv 3 = [.int (own_b z0), .int (own_b z1), .int (own_b z2)]) (hx1 : ¬ (((mm >>> ((1 : Int32) &&& 31)) ||| sv) ||| 3) < 0) (hx2 : ¬ ((mm >>> ((1 : Int32) &&& 31)) - sv) < 3) (hA0 : own_At mm lu sv z0) (hA1 : own_At mm lu (sv + (1 : Int32)) z1) (hA2 : own_At mm lu ((sv + (1 : Int32)) + (1 : Int32)) z2) (hto : (sv + 3) <<< ((1 : Int32) &&& 31) = mm) (hto1 : ¬ (sv + 3) < 0) (hto2 : (sv + 3) < 1073741823) (hck : ¬ mm < (sv <<< ((1 : Int32) &&& 31))) (hf0 : ¬ (sv <<< ((1 : Int32) &&& 31)) < 0) (he : mm - (sv <<< ((1 : Int32) &&& 31)) = 6) (hsum : (sv <<< ((1 : Int32) &&& 31)).toNatClampNeg + (6 : Int32).toNatClampNeg ≤ mm.toNatClampNeg) (hfr : ¬ (sv <<< ((1 : Int32) &&& 31)) = 0) (hB0 : own_At 6 (own_sl lu (sv <<< ((1 : Int32) &&& 31)) 6) 0 z0) (hB1 : own_At 6 (own_sl lu (sv <<< ((1 : Int32) &&& 31)) 6) 1 z1) (hB2 : own_At 6 (own_sl lu (sv <<< ((1 : Int32) &&& 31)) 6) 2 z2) (hsu : own_sl lu (sv <<< ((1 : Int32) &&& 31)) 6 = [.int (own_lo z0), .int (own_hi z0), .int (own_lo z1), .int (own_hi z1), .int (own_lo z2), .int (own_hi z2)]) :
    own_Met l on2 (Jvm.Cond.code on2 jdk_42_method_92_code 5 (some (.object "java/lang/String")) :: ws) orm36 #[.ref a, .int sv, .int nn] Z h0 (QS2_3 Z a sv nn cs sf mm ls lu PQ z0 z1 z2 h0 n0) := by
  refine own_met (plainFor_of_name pn0) (fun m => ef_RII5 m a sv nn) ?_
  intro p e s m below meth c s₁ B hlk hret hml hZ hown hnm X0 e0
  have hx := B.1
  have hby := B.2
  have N0 := Fr.nil n0
  have hS' := hS
  rcases hS' with ⟨Ea, ⟨bb, kb, Fc, Fv, Vb, hp⟩ | ⟨bb, kb, Fc, Fv, Vb⟩⟩
  · refine w_a X0 B d15_0 rfl rfl ?_
    show Sh s₁ 1 #[vr a, vi sv, vi nn, .unset, .unset] [.ref a]
    refine w_cv X0 B hZ hown hml (rmLn l Z a0 hw [] a cs sf _ _ _ _ _ h0 n0 Z0 hW hS hs0 hs1) (tw hw 37 rfl) (tw hw 38 rfl) (tw hw 40 rfl) (tw hw 39 rfl) (tw hw 9 rfl) (tw hw 41 rfl) e0 Ea d15_1 0 0 rfl (lenOf pd17 rfl) rfl rfl rfl (by decide) ?_
    rintro _ T1 Lc1 X1 ⟨rfl, Nq1, hh1⟩
    have N1 := Fr.app N0 Nq1
    refine w_S X1 B d15_4 #[vr a, vi sv, vi nn, vi nn, .unset] rfl (w_i X1 B d15_5 rfl (w_i X1 B d15_6 rfl (w_i X1 B d15_7 rfl ?_)))
    show Sh T1 8 #[vr a, vi sv, vi nn, vi nn, .unset] [.int nn, .int nn, .int sv]
    refine w_cs X1 B hZ hown hml (rmBe l Z a0 hw [] sv nn nn cs sf  h0 n0 Z0 hW hb1 hb2 (fun q => absurd q (by simp))) (tw hw 79 rfl) (tw hw 80 rfl) (tw hw 9 rfl) (tw hw 81 rfl) hh1 d15_8 3 0 (lenOf pd20 rfl) rfl rfl rfl (by decide) ?_
    rintro _ T8 Lc8 X8 ⟨rfl, Nq8, hh8⟩
    have N8 := Fr.app N1 Nq8
    refine w_i X8 B d15_11 rfl ?_
    show Sh T8 12 #[vr a, vi sv, vi nn, vi nn, .unset] [.int sv]
    have hc12 : ¬ (sv = (0 : Int32)) := hfr0
    refine w_t X8 B 12 22 rfl d15_12 (feq hc12).2 (by decide) (w_i X8 B d15_22 rfl (w_i X8 B d15_23 rfl (Dg.st (fun _ kk => XS.isub X8.here hx rfl (hb hby d15_24) rfl kk) ?_)))
    show Sh T8 25 #[vr a, vi sv, vi nn, vi nn, .unset] [.int (nn - sv)]
    rw [hm]
    refine w_s X8 B d15_25 #[vr a, vi sv, vi nn, vi nn, vi 3] rfl (w_a X8 B d15_27 rfl rfl ?_)
    show Sh T8 28 #[vr a, vi sv, vi nn, vi nn, vi 3] [.ref a]
    refine w_cv X8 B hZ hown hml (rmIl0 l Z a0 hw [] a cs sf  h0 n0 Z0 hW Fc) (tw hw 53 rfl) (tw hw 54 rfl) (tw hw 56 rfl) (tw hw 55 rfl) (tw hw 9 rfl) (tw hw 57 rfl) hh8 Ea d15_28 0 0 rfl (lenOf pd7 rfl) rfl rfl rfl (by decide) ?_
    rintro _ T28 Lc28 X28 ⟨rfl, Nq28, hh28⟩
    have N28 := Fr.app N8 Nq28
    refine w_f X28 B d15_31 (feq (by decide)).1 (w_a X28 B d15_34 rfl rfl ?_)
    show Sh T28 35 #[vr a, vi sv, vi nn, vi nn, vi 3] [.ref a]
    refine w_gf X28 B hZ hown (tw hw 26 rfl) Via.refl hh28 Fv d15_35 ?_
    intro T35 X35 e35
    refine w_i X35 B d15_38 rfl (w_j X35 B d15_39 rfl ?_)
    show Sh T35 41 #[vr a, vi sv, vi nn, vi nn, vi 3] [.int 3, .int sv, .ref bb]
    refine w_cs X35 B hZ hown hml (rmNsl3 l Z a0 hw [] bb sv kb nn ls [.int (own_lo z0), .int (own_hi z0), .int (own_lo z1), .int (own_hi z1), .int (own_lo z2), .int (own_hi z2)] (z0.toInt ≤ 255 ∧ z1.toInt ≤ 255 ∧ z2.toInt ≤ 255 ∧ True) h0 n0 Z0 Vb (hPZ hp) lto hb2 hb1 hm lsum hfr0) (tw hw 101 rfl) (tw hw 102 rfl) (tw hw 60 rfl) (tw hw 103 rfl) e35 d15_41 3 0 (lenOf pd26 rfl) rfl rfl rfl (by decide) ?_
    rintro _ T41 Lc41 X41 ⟨rs41, rfl, gz41, Nq41, K41, S41⟩
    rw [hsl] at S41
    have N41 := Fr.app N28 Nq41
    refine w_g X41 B 44 57 rfl d15_44 (by decide) ?_
    show Sh T41 57 #[vr a, vi sv, vi nn, vi nn, vi 3] [.ref rs41]
    exact Dg.retA X41 hlk B hret rfl ⟨rfl, rfl⟩ d15_57 ⟨rs41, rfl, gz41, N41, K41, S41⟩ (by decide)
  · refine w_a X0 B d15_0 rfl rfl ?_
    show Sh s₁ 1 #[vr a, vi sv, vi nn, .unset, .unset] [.ref a]
    refine w_cv X0 B hZ hown hml (rmLn l Z a0 hw [] a cs sf _ _ _ _ _ h0 n0 Z0 hW hS hs0 hs1) (tw hw 37 rfl) (tw hw 38 rfl) (tw hw 40 rfl) (tw hw 39 rfl) (tw hw 9 rfl) (tw hw 41 rfl) e0 Ea d15_1 0 0 rfl (lenOf pd17 rfl) rfl rfl rfl (by decide) ?_
    rintro _ T1 Lc1 X1 ⟨rfl, Nq1, hh1⟩
    have N1 := Fr.app N0 Nq1
    refine w_S X1 B d15_4 #[vr a, vi sv, vi nn, vi nn, .unset] rfl (w_i X1 B d15_5 rfl (w_i X1 B d15_6 rfl (w_i X1 B d15_7 rfl ?_)))
    show Sh T1 8 #[vr a, vi sv, vi nn, vi nn, .unset] [.int nn, .int nn, .int sv]
    refine w_cs X1 B hZ hown hml (rmBe l Z a0 hw [] sv nn nn cs sf  h0 n0 Z0 hW hb1 hb2 (fun q => absurd q (by simp))) (tw hw 79 rfl) (tw hw 80 rfl) (tw hw 9 rfl) (tw hw 81 rfl) hh1 d15_8 3 0 (lenOf pd20 rfl) rfl rfl rfl (by decide) ?_
    rintro _ T8 Lc8 X8 ⟨rfl, Nq8, hh8⟩
    have N8 := Fr.app N1 Nq8
    refine w_i X8 B d15_11 rfl ?_
    show Sh T8 12 #[vr a, vi sv, vi nn, vi nn, .unset] [.int sv]
    have hc12 : ¬ (sv = (0 : Int32)) := hfr0
    refine w_t X8 B 12 22 rfl d15_12 (feq hc12).2 (by decide) (w_i X8 B d15_22 rfl (w_i X8 B d15_23 rfl (Dg.st (fun _ kk => XS.isub X8.here hx rfl (hb hby d15_24) rfl kk) ?_)))
    show Sh T8 25 #[vr a, vi sv, vi nn, vi nn, .unset] [.int (nn - sv)]
    rw [hm]
    refine w_s X8 B d15_25 #[vr a, vi sv, vi nn, vi nn, vi 3] rfl (w_a X8 B d15_27 rfl rfl ?_)
    show Sh T8 28 #[vr a, vi sv, vi nn, vi nn, vi 3] [.ref a]
    refine w_cv X8 B hZ hown hml (rmIl1 l Z a0 hw [] a cs sf  h0 n0 Z0 hW Fc) (tw hw 53 rfl) (tw hw 54 rfl) (tw hw 56 rfl) (tw hw 55 rfl) (tw hw 9 rfl) (tw hw 57 rfl) hh8 Ea d15_28 0 0 rfl (lenOf pd7 rfl) rfl rfl rfl (by decide) ?_
    rintro _ T28 Lc28 X28 ⟨rfl, Nq28, hh28⟩
    have N28 := Fr.app N8 Nq28
    refine w_t X28 B 31 47 rfl d15_31 (teq (by decide)).1 (by decide) (w_a X28 B d15_47 rfl rfl ?_)
    show Sh T28 48 #[vr a, vi sv, vi nn, vi nn, vi 3] [.ref a]
    refine w_gf X28 B hZ hown (tw hw 26 rfl) Via.refl hh28 Fv d15_48 ?_
    intro T48 X48 e48
    refine w_i X48 B d15_51 rfl (w_j X48 B d15_52 rfl ?_)
    show Sh T48 54 #[vr a, vi sv, vi nn, vi nn, vi 3] [.int 3, .int sv, .ref bb]
    refine w_cs X48 B hZ hown hml (rmNsu3 l Z a0 hw [] bb sv cs sf kb mm lu z0 z1 z2 h0 n0 Z0 hW Vb hx1 hx2 hA0 hA1 hA2 hto hto1 hto2 hck hf0 he hsum hfr hB0 hB1 hB2) (tw hw 129 rfl) (tw hw 130 rfl) (tw hw 93 rfl) (tw hw 131 rfl) e48 d15_54 3 0 (lenOf pd26 rfl) rfl rfl rfl (by decide) ?_
    rintro _ T54 Lc54 X54 ⟨rs54, rfl, gz54, Nq54, K54, S54⟩
    rw [hsu] at S54
    have N54 := Fr.app N28 Nq54
    exact Dg.retA X54 hlk B hret rfl ⟨rfl, rfl⟩ d15_57 ⟨rs54, rfl, gz54, N54, K54, S54⟩ (by decide)

def QS1_3 (Z : State) (a : Addr) (sv : Int32) (cs : Int32) (sf : Value) (nn mm : Int32) (ls lu : List Value) (PQ : Prop) (z0 : Int32) (z1 : Int32) (z2 : Int32) (h0 : Heap) (n0 : Nat) (v : Option Value) (h : Heap) (L : List Loc) : Prop := ∃ r : Addr, v = some (.ref r) ∧ h0.size ≤ r ∧ Fr n0 L ∧ Keep h0 h [] ∧ own_Str Z h r 3 6 [.int (own_b z0), .int (own_b z1), .int (own_b z2)] [.int (own_lo z0), .int (own_hi z0), .int (own_lo z1), .int (own_hi z1), .int (own_lo z2), .int (own_hi z2)] (z0.toInt ≤ 255 ∧ z1.toInt ≤ 255 ∧ z2.toInt ≤ 255 ∧ True)
theorem rmS1_3 (l : Launch) (Z : State) (a0 : Array Value) (hw : ∀ d ∈ tables_1, d.before a0 Z = true) (ws : List Jvm.Cond) (a : Addr) (sv : Int32) (cs : Int32) (sf : Value) (nn mm : Int32) (ls lu : List Value) (PQ : Prop) (z0 : Int32) (z1 : Int32) (z2 : Int32) (h0 : Heap) (n0 : Nat) (Z0 : n0 ≤ h0.size) (hW : own_W Z h0 n0 cs sf) (hS : own_Str Z h0 a nn mm ls lu PQ) (hs0 : nn >>> ((0 : Int32) &&& 31) = nn) (hs1 : mm >>> ((1 : Int32) &&& 31) = nn) (hb1 : ¬ sv < 0) (hb2 : ¬ nn < sv) (hfr0 : ¬ sv = 0) (hm : nn - sv = 3) (lto : sv + 3 = nn) (lsum : sv.toNatClampNeg + (3 : Int32).toNatClampNeg ≤ nn.toNatClampNeg) (hPZ : PQ → (z0.toInt ≤ 255 ∧ z1.toInt ≤ 255 ∧ z2.toInt ≤ 255 ∧ True)) (hsl : own_sl ls sv 3 = [.int (own_b z0), .int (own_b z1), .int (own_b z2)]) (hx1 : ¬ (((mm >>> ((1 : Int32) &&& 31)) ||| sv) ||| 3) < 0) (hx2 : ¬ ((mm >>> ((1 : Int32) &&& 31)) - sv) < 3) (hA0 : own_At mm lu sv z0) (hA1 : own_At mm lu (sv + (1 : Int32)) z1) (hA2 : own_At mm lu ((sv + (1 : Int32)) + (1 : Int32)) z2) (hto : (sv + 3) <<< ((1 : Int32) &&& 31) = mm) (hto1 : ¬ (sv + 3) < 0) (hto2 : (sv + 3) < 1073741823) (hck : ¬ mm < (sv <<< ((1 : Int32) &&& 31))) (hf0 : ¬ (sv <<< ((1 : Int32) &&& 31)) < 0) (he : mm - (sv <<< ((1 : Int32) &&& 31)) = 6) (hsum : (sv <<< ((1 : Int32) &&& 31)).toNatClampNeg + (6 : Int32).toNatClampNeg ≤ mm.toNatClampNeg) (hfr : ¬ (sv <<< ((1 : Int32) &&& 31)) = 0) (hB0 : own_At 6 (own_sl lu (sv <<< ((1 : Int32) &&& 31)) 6) 0 z0) (hB1 : own_At 6 (own_sl lu (sv <<< ((1 : Int32) &&& 31)) 6) 1 z1) (hB2 : own_At 6 (own_sl lu (sv <<< ((1 : Int32) &&& 31)) 6) 2 z2) (hsu : own_sl lu (sv <<< ((1 : Int32) &&& 31)) 6 = [.int (own_lo z0), .int (own_hi z0), .int (own_lo z1), .int (own_hi z1), .int (own_lo z2), .int (own_hi z2)]) :
    own_Met l on1 (Jvm.Cond.code on1 jdk_42_method_91_code 2 (some (.object "java/lang/String")) :: ws) orm40 #[.ref a, .int sv] Z h0 (QS1_3 Z a sv cs sf nn mm ls lu PQ z0 z1 z2 h0 n0) := by
  refine own_met (plainFor_of_name pn0) (fun m => ef_RI2 m a sv) ?_
  intro p e s m below meth c s₁ B hlk hret hml hZ hown hnm X0 e0
  have N0 := Fr.nil n0
  refine w_a X0 B d14_0 rfl rfl (w_i X0 B d14_1 rfl (w_a X0 B d14_2 rfl rfl ?_))
  show Sh s₁ 3 #[vr a, vi sv] [.ref a, .int sv, .ref a]
  refine w_cv X0 B hZ hown hml (rmLn l Z a0 hw [] a cs sf _ _ _ _ _ h0 n0 Z0 hW hS hs0 hs1) (tw hw 37 rfl) (tw hw 38 rfl) (tw hw 40 rfl) (tw hw 39 rfl) (tw hw 9 rfl) (tw hw 41 rfl) e0 hS.1 d14_3 0 2 rfl (lenOf pd17 rfl) rfl rfl rfl (by decide) ?_
  rintro _ T3 Lc3 X3 ⟨rfl, Nq3, hh3⟩
  have N3 := Fr.app N0 Nq3
  refine w_cv X3 B hZ hown hml (rmS2_3 l Z a0 hw [] a sv nn cs sf mm ls lu PQ z0 z1 z2 h0 n0 Z0 hW hS hs0 hs1 hb1 hb2 hfr0 hm lto lsum hPZ hsl hx1 hx2 hA0 hA1 hA2 hto hto1 hto2 hck hf0 he hsum hfr hB0 hB1 hB2 hsu) (tw hw 74 rfl) (tw hw 75 rfl) (tw hw 77 rfl) (tw hw 76 rfl) (tw hw 9 rfl) (tw hw 78 rfl) hh3 hS.1 d14_6 2 0 rfl (lenOf pd21 rfl) rfl rfl rfl (by decide) ?_
  rintro _ T6 Lc6 X6 ⟨rs6, rfl, gz6, Nq6, K6, S6⟩
  have N6 := Fr.app N3 Nq6
  exact Dg.retA X6 hlk B hret rfl ⟨rfl, rfl⟩ d14_9 ⟨rs6, rfl, gz6, N6, K6, S6⟩ (by decide)

theorem d22_4 : Dc k22 4 (.ldc 151) 2 := by decide +kernel
theorem d22_6 : Dc k22 6 (.areturn) 1 := by decide +kernel
def QNsl0 (Z : State) (b : Addr) (sv : Int32) (cs : Int32) (sf : Value) (h0 : Heap) (n0 : Nat) (v : Option Value) (h : Heap) (L : List Loc) : Prop := ∃ r : Addr, v = some (.ref r) ∧ Fr n0 L ∧ Keep h0 h [] ∧ own_Str Z h r 0 0 [] [] True
theorem rmNsl0 (l : Launch) (Z : State) (a0 : Array Value) (hw : ∀ d ∈ tables_1, d.before a0 Z = true) (ws : List Jvm.Cond) (b : Addr) (sv : Int32) (cs : Int32) (sf : Value) (h0 : Heap) (n0 : Nat) (Z0 : n0 ≤ h0.size) (hW : own_W Z h0 n0 cs sf) (hHl : Jvm.Lit.constHeld Z "java/lang/StringLatin1" 151) (hcw : Jvm.Lit.compactW.before a0 Z = true) :
    MetFree l on10 (head1 (Jvm.Cond.code on10 jdk_43_method_47_code 3 (some (.object "java/lang/String")) :: ws) orm29) (fun aa UU => aa = #[.ref b, .int sv, .int 0] ∧ Z.Warmed39 UU.vm ∧ UU.heap = h0 ∧ IB Z UU.vm []) (fun _ _ _ _ _ => True) (fun _ UU oo UU' => ∃ vv LL, oo = .returned vv ∧ QNsl0 Z b sv cs sf h0 n0 vv UU'.heap LL ∧ ReturnedEndW UU oo UU' LL orm29.cells orm29.slots) := by
  refine MetFree.of_bodySF (plainFor_of_name pn3) hisR ?_
  intro p e s m args below meth c s₁ Bd hml0 hP hK
  obtain ⟨rfl, hZ, hh, hI⟩ := hP
  have hml : c.maxLocals = 3 := hml0
  obtain ⟨hx, hby, hlk, hret, (hown : s.vm.findClass "java/lang/StringLatin1" = _), (X0 : Stand p l e orm29 s m _ below meth c s₁ [] 0 0), e0⟩ := own_bg Bd hh
  have N0 := Fr.nil n0
  show Dw p e below s (QNsl0 Z b sv cs sf h0 n0) orm29.cells orm29.slots (s₁.setTop (entryFrame m #[.ref b, .int sv, .int 0] 3))
  refine Dg.st (fun _ kk => castTop (ef_RII3 m b sv (0 : Int32)) kk) ?_
  have B := And.intro hx hby
  refine w_i X0 B d22_0 rfl (w_f X0 B d22_1 (teq (by decide)).2 ?_)
  show Sh s₁ 4 #[vr b, vi sv, vi 0] []
  have wS := own_wS hw
  obtain ⟨lt, T4, h4, k4, lb, kl, X4, e4, E4, hSw, hkw, hZ, hown, El, Flc, Flv, Vl, -, -, -, Ll, st4⟩ := ldcSVL (s := s) (vm0 := s.vm) (k0 := h0.size) (Ts := []) (vs := []) (z := 0) (text := "") X0 hx hZ hown (tw hw 104 rfl) wS e0 ((State.WarmedH.refl s).since _) (Nat.le_refl _) (Fr.nil _) (fun q cq hq => (congrArg (fun z => z[q]?) hh).trans (hW.1.2.2 q cq hq)) hI (by simp) hHl hcw ⟨by intro c hc; simp at hc, rfl⟩ (by decide) rfl (g := (mkF m 4 #[vr b, vi sv, vi 0] [])) rfl (hb hby d22_4) (n := 0) (by decide) (by decide) (by decide) (by decide)
  refine Dg.st st4 ?_
  refine Dw.of hSw ?_
  exact Dg.retA X4 hlk B hret rfl ⟨rfl, rfl⟩ d22_6 (by rw [e4]; exact ⟨⟨lt, rfl, N0, (Keep.refl h0 []).ext E4, El, Or.inl ⟨lb, kl, Flc, Flv, Vl, trivial⟩⟩, hkw⟩) (by decide)

theorem d29_4 : Dc k29 4 (.ldc_w 295) 3 := by decide +kernel
theorem d29_7 : Dc k29 7 (.areturn) 1 := by decide +kernel
def QNsu0 (Z : State) (b : Addr) (sv : Int32) (cs : Int32) (sf : Value) (h0 : Heap) (n0 : Nat) (v : Option Value) (h : Heap) (L : List Loc) : Prop := ∃ r : Addr, v = some (.ref r) ∧ Fr n0 L ∧ Keep h0 h [] ∧ own_Str Z h r 0 0 [] [] True
theorem rmNsu0 (l : Launch) (Z : State) (a0 : Array Value) (hw : ∀ d ∈ tables_1, d.before a0 Z = true) (ws : List Jvm.Cond) (b : Addr) (sv : Int32) (cs : Int32) (sf : Value) (h0 : Heap) (n0 : Nat) (Z0 : n0 ≤ h0.size) (hW : own_W Z h0 n0 cs sf) (hHu : Jvm.Lit.constHeld Z "java/lang/StringUTF16" 295) (hcw : Jvm.Lit.compactW.before a0 Z = true) :
    MetFree l on11 (head1 (Jvm.Cond.code on11 jdk_52_method_69_code 5 (some (.object "java/lang/String")) :: ws) orm29) (fun aa UU => aa = #[.ref b, .int sv, .int 0] ∧ Z.Warmed39 UU.vm ∧ UU.heap = h0 ∧ IB Z UU.vm []) (fun _ _ _ _ _ => True) (fun _ UU oo UU' => ∃ vv LL, oo = .returned vv ∧ QNsu0 Z b sv cs sf h0 n0 vv UU'.heap LL ∧ ReturnedEndW UU oo UU' LL orm29.cells orm29.slots) := by
  refine MetFree.of_bodySF (plainFor_of_name pn2) hisR ?_
  intro p e s m args below meth c s₁ Bd hml0 hP hK
  obtain ⟨rfl, hZ, hh, hI⟩ := hP
  have hml : c.maxLocals = 5 := hml0
  obtain ⟨hx, hby, hlk, hret, (hown : s.vm.findClass "java/lang/StringUTF16" = _), (X0 : Stand p l e orm29 s m _ below meth c s₁ [] 0 0), e0⟩ := own_bg Bd hh
  have N0 := Fr.nil n0
  show Dw p e below s (QNsu0 Z b sv cs sf h0 n0) orm29.cells orm29.slots (s₁.setTop (entryFrame m #[.ref b, .int sv, .int 0] 5))
  refine Dg.st (fun _ kk => castTop (ef_RII5 m b sv (0 : Int32)) kk) ?_
  have B := And.intro hx hby
  refine w_i X0 B d29_0 rfl (w_f X0 B d29_1 (teq (by decide)).2 ?_)
  show Sh s₁ 4 #[vr b, vi sv, vi 0, .unset, .unset] []
  have wS := own_wS hw
  obtain ⟨lt, T4, lb, kl, X4, E4, hSw, El, Flc, Flv, Vl, st4⟩ := own_ldcw0 X0 hx hZ hown (tw hw 132 rfl) wS e0 (Fr.nil _) (fun q cq hq => (congrArg (fun z => z[q]?) hh).trans (hW.1.2.2 q cq hq)) hI hHu hcw (g := (mkF m 4 #[vr b, vi sv, vi 0, .unset, .unset] [])) rfl (hb hby d29_4) (by decide) (by decide)
  have hkw := Nat.le_refl T4.heap.size
  refine Dg.st st4 ?_
  refine Dw.of hSw ?_
  exact Dg.retA X4 hlk B hret rfl ⟨rfl, rfl⟩ d29_7 ⟨⟨lt, rfl, N0, (Keep.refl h0 []).ext E4, El, Or.inl ⟨lb, kl, Flc, Flv, Vl, trivial⟩⟩, hkw⟩ (by decide)

def QS2E (Z : State) (a : Addr) (nn : Int32) (nn : Int32) (cs : Int32) (sf : Value) (mm : Int32) (ls lu : List Value) (PQ : Prop) (h0 : Heap) (n0 : Nat) (v : Option Value) (h : Heap) (L : List Loc) : Prop := ∃ r : Addr, v = some (.ref r) ∧ Fr n0 L ∧ Keep h0 h [] ∧ own_Str Z h r 0 0 [] [] True
theorem rmS2E (l : Launch) (Z : State) (a0 : Array Value) (hw : ∀ d ∈ tables_1, d.before a0 Z = true) (ws : List Jvm.Cond) (a : Addr) (nn : Int32) (nn : Int32) (cs : Int32) (sf : Value) (mm : Int32) (ls lu : List Value) (PQ : Prop) (h0 : Heap) (n0 : Nat) (Z0 : n0 ≤ h0.size) (hW : own_W Z h0 n0 cs sf) (hS : own_Str Z h0 a nn mm ls lu PQ) (hs0 : nn >>> ((0 : Int32) &&& 31) = nn) (hs1 : mm >>> ((1 : Int32) &&& 31) = nn) (hb1 : ¬ nn < 0) (hfr0 : ¬ nn = 0) (hm : nn - nn = 0) (hHl : Jvm.Lit.constHeld Z "java/lang/StringLatin1" 151) (hHu : Jvm.Lit.constHeld Z "java/lang/StringUTF16" 295) (hcw : Jvm.Lit.compactW.before a0 Z = true) :
    MetFree l on2 (head1 (Jvm.Cond.code on2 jdk_42_method_92_code 5 (some (.object "java/lang/String")) :: ws) orm28) (fun aa UU => aa = #[.ref a, .int nn, .int nn] ∧ Z.Warmed39 UU.vm ∧ UU.heap = h0 ∧ IB Z UU.vm []) (fun _ _ _ _ _ => True) (fun _ UU oo UU' => ∃ vv LL, oo = .returned vv ∧ QS2E Z a nn nn cs sf mm ls lu PQ h0 n0 vv UU'.heap LL ∧ ReturnedEndW UU oo UU' LL orm28.cells orm28.slots) := by
  refine MetFree.of_bodySF (plainFor_of_name pn0) hisR ?_
  intro p e s m args below meth c s₁ Bd hml0 hP hK
  obtain ⟨rfl, hZ, hh, hI⟩ := hP
  have hml : c.maxLocals = 5 := hml0
  obtain ⟨hx, hby, hlk, hret, (hown : s.vm.findClass "java/lang/String" = _), (X0 : Stand p l e orm28 s m _ below meth c s₁ [] 0 0), e0⟩ := own_bg Bd hh
  have N0 := Fr.nil n0
  show Dw p e below s (QS2E Z a nn nn cs sf mm ls lu PQ h0 n0) orm28.cells orm28.slots (s₁.setTop (entryFrame m #[.ref a, .int nn, .int nn] 5))
  refine Dg.st (fun _ kk => castTop (ef_RII5 m a nn nn) kk) ?_
  have B := And.intro hx hby
  have hS' := hS
  rcases hS' with ⟨Ea, ⟨bb, kb, Fc, Fv, Vb, hp⟩ | ⟨bb, kb, Fc, Fv, Vb⟩⟩
  · refine w_a X0 B d15_0 rfl rfl ?_
    show Sh s₁ 1 #[vr a, vi nn, vi nn, .unset, .unset] [.ref a]
    refine w_cv X0 B hZ hown hml (rmLn l Z a0 hw [] a cs sf _ _ _ _ _ h0 n0 Z0 hW hS hs0 hs1) (tw hw 37 rfl) (tw hw 38 rfl) (tw hw 40 rfl) (tw hw 39 rfl) (tw hw 9 rfl) (tw hw 41 rfl) e0 Ea d15_1 0 0 rfl (lenOf pd17 rfl) rfl rfl rfl (by decide) ?_
    rintro _ T1 Lc1 X1 ⟨rfl, Nq1, hh1⟩
    have N1 := Fr.app N0 Nq1
    refine w_S X1 B d15_4 #[vr a, vi nn, vi nn, vi nn, .unset] rfl (w_i X1 B d15_5 rfl (w_i X1 B d15_6 rfl (w_i X1 B d15_7 rfl ?_)))
    show Sh T1 8 #[vr a, vi nn, vi nn, vi nn, .unset] [.int nn, .int nn, .int nn]
    refine w_cs X1 B hZ hown hml (rmBe l Z a0 hw [] nn nn nn cs sf  h0 n0 Z0 hW hb1 (fun q => absurd q (by simp)) (fun q => absurd q (by simp))) (tw hw 79 rfl) (tw hw 80 rfl) (tw hw 9 rfl) (tw hw 81 rfl) hh1 d15_8 3 0 (lenOf pd20 rfl) rfl rfl rfl (by decide) ?_
    rintro _ T8 Lc8 X8 ⟨rfl, Nq8, hh8⟩
    have N8 := Fr.app N1 Nq8
    refine w_i X8 B d15_11 rfl ?_
    show Sh T8 12 #[vr a, vi nn, vi nn, vi nn, .unset] [.int nn]
    have hc12 : ¬ (nn = (0 : Int32)) := hfr0
    refine w_t X8 B 12 22 rfl d15_12 (feq hc12).2 (by decide) (w_i X8 B d15_22 rfl (w_i X8 B d15_23 rfl (Dg.st (fun _ kk => XS.isub X8.here hx rfl (hb hby d15_24) rfl kk) ?_)))
    show Sh T8 25 #[vr a, vi nn, vi nn, vi nn, .unset] [.int (nn - nn)]
    rw [hm]
    refine w_s X8 B d15_25 #[vr a, vi nn, vi nn, vi nn, vi 0] rfl (w_a X8 B d15_27 rfl rfl ?_)
    show Sh T8 28 #[vr a, vi nn, vi nn, vi nn, vi 0] [.ref a]
    refine w_cv X8 B hZ hown hml (rmIl0 l Z a0 hw [] a cs sf  h0 n0 Z0 hW Fc) (tw hw 53 rfl) (tw hw 54 rfl) (tw hw 56 rfl) (tw hw 55 rfl) (tw hw 9 rfl) (tw hw 57 rfl) hh8 Ea d15_28 0 0 rfl (lenOf pd7 rfl) rfl rfl rfl (by decide) ?_
    rintro _ T28 Lc28 X28 ⟨rfl, Nq28, hh28⟩
    have N28 := Fr.app N8 Nq28
    refine w_f X28 B d15_31 (feq (by decide)).1 (w_a X28 B d15_34 rfl rfl ?_)
    show Sh T28 35 #[vr a, vi nn, vi nn, vi nn, vi 0] [.ref a]
    refine w_gf X28 B hZ hown (tw hw 26 rfl) Via.refl hh28 Fv d15_35 ?_
    intro T35 X35 e35
    refine w_i X35 B d15_38 rfl (w_j X35 B d15_39 rfl ?_)
    show Sh T35 41 #[vr a, vi nn, vi nn, vi nn, vi 0] [.int 0, .int nn, .ref bb]
    obtain ⟨_, _, ⟨T41, L41, k41, n41⟩, -, X41, hSw, hgr41, ⟨Lc41, hQ41, l41, y41, z41⟩, st41⟩ := Jvm.RoadKit.callSS X35 hx (y := on10) hown (mvT hZ (tw hw 101 rfl)) (mvT hZ (tw hw 102 rfl)) (mvT hZ (tw hw 60 rfl)) (mvT hZ (tw hw 103 rfl)) (by decide) (own_backS (W := 0) (rmNsl0 l Z a0 hw [] bb nn cs sf  h0 n0 Z0 hW hHl hcw) hZ hI (tw hw 103 rfl) (tw hw 60 rfl) (by decide) (by decide)) (g := (mkF m 41 #[vr a, vi nn, vi nn, vi nn, vi 0] [.int 0, .int nn, .ref bb])) rfl (by rw [hml]; rfl) (argsL := [.ref bb, .int nn, .int 0]) (rest := []) (lenOf pd26 rfl) rfl (by show 2 * 0 + _ ≤ _; exact Nat.le_of_eq rfl) (hb hby d15_41) (fun _ _ => ⟨rfl, e35, (by decide : 0 + 2 ≤ _), (by decide : 0 + 4 ≤ _)⟩)
    dsimp only [Pt.U, Pt.locs, Pt.cells, Pt.slots] at X41 l41 y41 z41 st41 hQ41 hSw hgr41
    subst l41 y41 z41
    obtain ⟨rs41, rfl, Nq41, K41, S41⟩ := hQ41
    have N41 := Fr.app N28 Nq41
    have hZ := State.Warmed39.trans (t := s) hZ hSw.1
    have hown := (hSw.1.alike.findClass _ _).trans hown
    refine Dg.tr st41 ?_
    refine Dw.of hSw ?_
    refine w_g X41 B 44 57 rfl d15_44 (by decide) ?_
    show Sh T41 57 #[vr a, vi nn, vi nn, vi nn, vi 0] [.ref rs41]
    exact Dg.retA X41 hlk B hret rfl ⟨rfl, rfl⟩ d15_57 ⟨⟨rs41, rfl, N41, K41, S41⟩, Nat.le_refl _⟩ (by decide)
  · refine w_a X0 B d15_0 rfl rfl ?_
    show Sh s₁ 1 #[vr a, vi nn, vi nn, .unset, .unset] [.ref a]
    refine w_cv X0 B hZ hown hml (rmLn l Z a0 hw [] a cs sf _ _ _ _ _ h0 n0 Z0 hW hS hs0 hs1) (tw hw 37 rfl) (tw hw 38 rfl) (tw hw 40 rfl) (tw hw 39 rfl) (tw hw 9 rfl) (tw hw 41 rfl) e0 Ea d15_1 0 0 rfl (lenOf pd17 rfl) rfl rfl rfl (by decide) ?_
    rintro _ T1 Lc1 X1 ⟨rfl, Nq1, hh1⟩
    have N1 := Fr.app N0 Nq1
    refine w_S X1 B d15_4 #[vr a, vi nn, vi nn, vi nn, .unset] rfl (w_i X1 B d15_5 rfl (w_i X1 B d15_6 rfl (w_i X1 B d15_7 rfl ?_)))
    show Sh T1 8 #[vr a, vi nn, vi nn, vi nn, .unset] [.int nn, .int nn, .int nn]
    refine w_cs X1 B hZ hown hml (rmBe l Z a0 hw [] nn nn nn cs sf  h0 n0 Z0 hW hb1 (fun q => absurd q (by simp)) (fun q => absurd q (by simp))) (tw hw 79 rfl) (tw hw 80 rfl) (tw hw 9 rfl) (tw hw 81 rfl) hh1 d15_8 3 0 (lenOf pd20 rfl) rfl rfl rfl (by decide) ?_
    rintro _ T8 Lc8 X8 ⟨rfl, Nq8, hh8⟩
    have N8 := Fr.app N1 Nq8
    refine w_i X8 B d15_11 rfl ?_
    show Sh T8 12 #[vr a, vi nn, vi nn, vi nn, .unset] [.int nn]
    have hc12 : ¬ (nn = (0 : Int32)) := hfr0
    refine w_t X8 B 12 22 rfl d15_12 (feq hc12).2 (by decide) (w_i X8 B d15_22 rfl (w_i X8 B d15_23 rfl (Dg.st (fun _ kk => XS.isub X8.here hx rfl (hb hby d15_24) rfl kk) ?_)))
    show Sh T8 25 #[vr a, vi nn, vi nn, vi nn, .unset] [.int (nn - nn)]
    rw [hm]
    refine w_s X8 B d15_25 #[vr a, vi nn, vi nn, vi nn, vi 0] rfl (w_a X8 B d15_27 rfl rfl ?_)
    show Sh T8 28 #[vr a, vi nn, vi nn, vi nn, vi 0] [.ref a]
    refine w_cv X8 B hZ hown hml (rmIl1 l Z a0 hw [] a cs sf  h0 n0 Z0 hW Fc) (tw hw 53 rfl) (tw hw 54 rfl) (tw hw 56 rfl) (tw hw 55 rfl) (tw hw 9 rfl) (tw hw 57 rfl) hh8 Ea d15_28 0 0 rfl (lenOf pd7 rfl) rfl rfl rfl (by decide) ?_
    rintro _ T28 Lc28 X28 ⟨rfl, Nq28, hh28⟩
    have N28 := Fr.app N8 Nq28
    refine w_t X28 B 31 47 rfl d15_31 (teq (by decide)).1 (by decide) (w_a X28 B d15_47 rfl rfl ?_)
    show Sh T28 48 #[vr a, vi nn, vi nn, vi nn, vi 0] [.ref a]
    refine w_gf X28 B hZ hown (tw hw 26 rfl) Via.refl hh28 Fv d15_48 ?_
    intro T48 X48 e48
    refine w_i X48 B d15_51 rfl (w_j X48 B d15_52 rfl ?_)
    show Sh T48 54 #[vr a, vi nn, vi nn, vi nn, vi 0] [.int 0, .int nn, .ref bb]
    obtain ⟨_, _, ⟨T54, L54, k54, n54⟩, -, X54, hSw, hgr54, ⟨Lc54, hQ54, l54, y54, z54⟩, st54⟩ := Jvm.RoadKit.callSS X48 hx (y := on11) hown (mvT hZ (tw hw 129 rfl)) (mvT hZ (tw hw 130 rfl)) (mvT hZ (tw hw 93 rfl)) (mvT hZ (tw hw 131 rfl)) (by decide) (own_backS (W := 0) (rmNsu0 l Z a0 hw [] bb nn cs sf  h0 n0 Z0 hW hHu hcw) hZ hI (tw hw 131 rfl) (tw hw 93 rfl) (by decide) (by decide)) (g := (mkF m 54 #[vr a, vi nn, vi nn, vi nn, vi 0] [.int 0, .int nn, .ref bb])) rfl (by rw [hml]; rfl) (argsL := [.ref bb, .int nn, .int 0]) (rest := []) (lenOf pd26 rfl) rfl (by show 2 * 0 + _ ≤ _; exact Nat.le_of_eq rfl) (hb hby d15_54) (fun _ _ => ⟨rfl, e48, (by decide : 0 + 2 ≤ _), (by decide : 0 + 4 ≤ _)⟩)
    dsimp only [Pt.U, Pt.locs, Pt.cells, Pt.slots] at X54 l54 y54 z54 st54 hQ54 hSw hgr54
    subst l54 y54 z54
    obtain ⟨rs54, rfl, Nq54, K54, S54⟩ := hQ54
    have N54 := Fr.app N28 Nq54
    have hZ := State.Warmed39.trans (t := s) hZ hSw.1
    have hown := (hSw.1.alike.findClass _ _).trans hown
    refine Dg.tr st54 ?_
    refine Dw.of hSw ?_
    exact Dg.retA X54 hlk B hret rfl ⟨rfl, rfl⟩ d15_57 ⟨⟨rs54, rfl, N54, K54, S54⟩, Nat.le_refl _⟩ (by decide)

def QS1E (Z : State) (a : Addr) (nn : Int32) (cs : Int32) (sf : Value) (mm : Int32) (ls lu : List Value) (PQ : Prop) (h0 : Heap) (n0 : Nat) (v : Option Value) (h : Heap) (L : List Loc) : Prop := ∃ r : Addr, v = some (.ref r) ∧ Fr n0 L ∧ Keep h0 h [] ∧ own_Str Z h r 0 0 [] [] True
theorem rmS1E (l : Launch) (Z : State) (a0 : Array Value) (hw : ∀ d ∈ tables_1, d.before a0 Z = true) (ws : List Jvm.Cond) (a : Addr) (nn : Int32) (cs : Int32) (sf : Value) (mm : Int32) (ls lu : List Value) (PQ : Prop) (h0 : Heap) (n0 : Nat) (Z0 : n0 ≤ h0.size) (hW : own_W Z h0 n0 cs sf) (hS : own_Str Z h0 a nn mm ls lu PQ) (hs0 : nn >>> ((0 : Int32) &&& 31) = nn) (hs1 : mm >>> ((1 : Int32) &&& 31) = nn) (hb1 : ¬ nn < 0) (hfr0 : ¬ nn = 0) (hm : nn - nn = 0) (hHl : Jvm.Lit.constHeld Z "java/lang/StringLatin1" 151) (hHu : Jvm.Lit.constHeld Z "java/lang/StringUTF16" 295) (hcw : Jvm.Lit.compactW.before a0 Z = true) :
    MetFree l on1 (head1 (Jvm.Cond.code on1 jdk_42_method_91_code 2 (some (.object "java/lang/String")) :: ws) orm31) (fun aa UU => aa = #[.ref a, .int nn] ∧ Z.Warmed39 UU.vm ∧ UU.heap = h0 ∧ IB Z UU.vm []) (fun _ _ _ _ _ => True) (fun _ UU oo UU' => ∃ vv LL, oo = .returned vv ∧ QS1E Z a nn cs sf mm ls lu PQ h0 n0 vv UU'.heap LL ∧ ReturnedEndW UU oo UU' LL orm31.cells orm31.slots) := by
  refine MetFree.of_bodySF (plainFor_of_name pn0) hisR ?_
  intro p e s m args below meth c s₁ Bd hml0 hP hK
  obtain ⟨rfl, hZ, hh, hI⟩ := hP
  have hml : c.maxLocals = 2 := hml0
  obtain ⟨hx, hby, hlk, hret, (hown : s.vm.findClass "java/lang/String" = _), (X0 : Stand p l e orm31 s m _ below meth c s₁ [] 0 0), e0⟩ := own_bg Bd hh
  have N0 := Fr.nil n0
  show Dw p e below s (QS1E Z a nn cs sf mm ls lu PQ h0 n0) orm31.cells orm31.slots (s₁.setTop (entryFrame m #[.ref a, .int nn] 2))
  refine Dg.st (fun _ kk => castTop (ef_RI2 m a nn) kk) ?_
  have B := And.intro hx hby
  refine w_a X0 B d14_0 rfl rfl (w_i X0 B d14_1 rfl (w_a X0 B d14_2 rfl rfl ?_))
  show Sh s₁ 3 #[vr a, vi nn] [.ref a, .int nn, .ref a]
  refine w_cv X0 B hZ hown hml (rmLn l Z a0 hw [] a cs sf _ _ _ _ _ h0 n0 Z0 hW hS hs0 hs1) (tw hw 37 rfl) (tw hw 38 rfl) (tw hw 40 rfl) (tw hw 39 rfl) (tw hw 9 rfl) (tw hw 41 rfl) e0 hS.1 d14_3 0 2 rfl (lenOf pd17 rfl) rfl rfl rfl (by decide) ?_
  rintro _ T3 Lc3 X3 ⟨rfl, Nq3, hh3⟩
  have N3 := Fr.app N0 Nq3
  obtain ⟨cq6, kq6, qa6, qb6, qc6⟩ := isOf hZ hh3 hS.1
  obtain ⟨_, _, ⟨T6, L6, k6, n6⟩, -, X6, hSw, hgr6, ⟨Lc6, hQ6, l6, y6, z6⟩, st6⟩ := X3.virtualBackS hx (y := on2) (z := on2) hown (mvT hZ (tw hw 74 rfl)) (mvT hZ (tw hw 75 rfl)) (notFace_of_selects (args := #[]) (mvT hZ (tw hw 77 rfl))) (mvT hZ (tw hw 77 rfl)) (mvT hZ (tw hw 76 rfl)) (by decide) (own_backS (W := 0) (rmS2E l Z a0 hw [] a nn nn cs sf mm ls lu PQ h0 n0 Z0 hW hS hs0 hs1 hb1 hfr0 hm hHl hHu hcw) hZ hI (tw hw 78 rfl) (tw hw 9 rfl) (by decide) (by decide)) qa6 qc6 (g := (mkF m 6 #[vr a, vi nn] [.int nn, .int nn, .ref a])) rfl (by rw [hml]; rfl) (Steps.refl _) (argsL := [.int nn, .int nn]) (rest := []) (lenOf pd21 rfl) rfl (by show 2 * 0 + _ ≤ _; exact Nat.le_of_eq rfl) (hb hby d14_6) (fun _ _ => ⟨rfl, hh3, (by decide : 0 + 2 ≤ _), (by decide : 0 + 4 ≤ _)⟩)
  dsimp only [Pt.U, Pt.locs, Pt.cells, Pt.slots] at X6 l6 y6 z6 st6 hQ6 hSw hgr6
  subst l6 y6 z6
  obtain ⟨rs6, rfl, Nq6, K6, S6⟩ := hQ6
  have N6 := Fr.app N3 Nq6
  have hZ := State.Warmed39.trans (t := s) hZ hSw.1
  have hown := (hSw.1.alike.findClass _ _).trans hown
  refine Dg.tr st6 ?_
  refine Dw.of hSw ?_
  exact Dg.retA X6 hlk B hret rfl ⟨rfl, rfl⟩ d14_9 ⟨⟨rs6, rfl, N6, K6, S6⟩, Nat.le_refl _⟩ (by decide)

abbrev k5 := prog_12_method_3_code
theorem d5_0 : Dc k5 0 (.aload_n 0) 1 := by decide +kernel
theorem d5_1 : Dc k5 1 (.aload_n 0) 1 := by decide +kernel
theorem d5_2 : Dc k5 2 (.bipush 47) 2 := by decide +kernel
theorem d5_4 : Dc k5 4 (.invokevirtual 26) 3 := by decide +kernel
theorem d5_7 : Dc k5 7 (.iconst 1) 1 := by decide +kernel
theorem d5_8 : Dc k5 8 (.iadd) 1 := by decide +kernel
theorem d5_9 : Dc k5 9 (.invokevirtual 30) 3 := by decide +kernel
theorem d5_12 : Dc k5 12 (.areturn) 1 := by decide +kernel
theorem pd27 : parseMethodDescriptor "(I)Ljava/lang/String;" = some ⟨[.int], some (.object "java/lang/String")⟩ := by decide +kernel
theorem pn5 : plainName "com/example/wakeline/wakeline/QualifiedFileName" = true := by first | (simp [plainName, overriddenIn]; done) | decide +kernel
def QF0 (Z : State) (a : Addr) (cs : Int32) (sf : Value) (h0 : Heap) (n0 : Nat) (v : Option Value) (h : Heap) (L : List Loc) : Prop := ∃ r : Addr, v = some (.ref r) ∧ Fr n0 L ∧ Keep h0 h [] ∧ (((True) ∧ own_Str Z h r 0 0 [] [] (True)))
theorem rmF0 (l : Launch) (Z : State) (a0 : Array Value) (hw : ∀ d ∈ tables_1, d.before a0 Z = true) (ws : List Jvm.Cond) (a : Addr) (cs : Int32) (sf : Value) (h0 : Heap) (n0 : Nat) (Z0 : n0 ≤ h0.size) (hW : own_W Z h0 n0 cs sf) (hS : own_Str Z h0 a 0 0 [] [] (True)) :
    own_Met l on0 (Jvm.Cond.code on0 prog_12_method_3_code 1 (some (.object "java/lang/String")) :: ws) ({ frames := 4, cells := 0, slots := 0, locals := 70 } : Room) #[.ref a] Z h0 (QF0 Z a cs sf h0 n0) := by
  refine own_met (plainFor_of_name pn5) (fun m => ef_R1 m a) ?_
  intro p e s m below meth c s₁ B hlk hret hml hZ hown hnm X0 e0
  have hx := B.1
  have hby := B.2
  have N0 := Fr.nil n0
  refine w_a X0 B d5_0 rfl rfl (w_a X0 B d5_1 rfl rfl (Dg.st (fun _ kk => XS.bipush X0.here hx rfl (hb hby d5_2) kk) ?_))
  show Sh s₁ 4 #[vr a] [.int 47, .ref a, .ref a]
  refine w_cv X0 B hZ hown hml (rmL1_0 l Z a0 hw [] a cs sf  h0 n0 Z0 hW hS ) (tw hw 32 rfl) (tw hw 33 rfl) (tw hw 35 rfl) (tw hw 34 rfl) (tw hw 9 rfl) (tw hw 36 rfl) e0 hS.1 d5_4 1 1 rfl (lenOf pd8 rfl) rfl rfl rfl (by decide) ?_
  rintro _ T4 Lc4 X4 ⟨Nq4, hh4, hq4⟩
  have N4 := Fr.app N0 Nq4
  rcases hq4 with ⟨rfl, gl4⟩
  · refine w_c X4 B d5_7 (Dg.st (fun _ kk => XS.iadd X4.here hx rfl (hb hby d5_8) rfl kk) ?_)
    show Sh T4 9 #[vr a] [.int 0, .ref a]
    refine w_cv X4 B hZ hown hml (rmS10 l Z a0 hw [] a cs sf _ _ _ _ _ h0 n0 Z0 hW hS (by decide) (by decide) (by decide)) (tw hw 69 rfl) (tw hw 70 rfl) (tw hw 72 rfl) (tw hw 71 rfl) (tw hw 9 rfl) (tw hw 73 rfl) hh4 hS.1 d5_9 1 0 rfl (lenOf pd27 rfl) rfl rfl rfl (by decide) ?_
    rintro _ T9 Lc9 X9 ⟨rfl, Nq9, hh9⟩
    have N9 := Fr.app N4 Nq9
    exact Dg.retA X9 hlk B hret rfl ⟨rfl, rfl⟩ d5_12 (by rw [hh9]; exact ⟨a, rfl, N9, Keep.refl _ _, ⟨gl4, hS⟩⟩) (by decide)

def QF1 (Z : State) (a : Addr) (cs : Int32) (sf : Value) (y0 : Int32) (h0 : Heap) (n0 : Nat) (v : Option Value) (h : Heap) (L : List Loc) : Prop := ∃ r : Addr, v = some (.ref r) ∧ Fr n0 L ∧ Keep h0 h [] ∧ (((y0 = 47 ∧ True) ∧ own_Str Z h r 0 0 [] [] (True)) ∨ ((¬ y0 = 47 ∧ True) ∧ own_Str Z h r 1 2 [.int (own_b y0)] [.int (own_lo y0), .int (own_hi y0)] (y0.toInt ≤ 255 ∧ True)))
theorem rmF1 (l : Launch) (Z : State) (a0 : Array Value) (hw : ∀ d ∈ tables_1, d.before a0 Z = true) (ws : List Jvm.Cond) (a : Addr) (cs : Int32) (sf : Value) (y0 : Int32) (h0 : Heap) (n0 : Nat) (Z0 : n0 ≤ h0.size) (hW : own_W Z h0 n0 cs sf) (hS : own_Str Z h0 a 1 2 [.int (own_b y0)] [.int (own_lo y0), .int (own_hi y0)] (y0.toInt ≤ 255 ∧ True)) (hr0 : 0 ≤ y0.toInt ∧ y0.toInt ≤ 65535) (hHl : Jvm.Lit.constHeld Z "java/lang/StringLatin1" 151) (hHu : Jvm.Lit.constHeld Z "java/lang/StringUTF16" 295) (hcw : Jvm.Lit.compactW.before a0 Z = true) :
    MetFree l on0 (head1 (Jvm.Cond.code on0 prog_12_method_3_code 1 (some (.object "java/lang/String")) :: ws) orm32) (fun aa UU => aa = #[.ref a] ∧ Z.Warmed39 UU.vm ∧ UU.heap = h0 ∧ IB Z UU.vm []) (fun _ _ _ _ _ => True) (fun _ UU oo UU' => ∃ vv LL, oo = .returned vv ∧ QF1 Z a cs sf y0 h0 n0 vv UU'.heap LL ∧ ReturnedEndW UU oo UU' LL orm32.cells orm32.slots) := by
  refine MetFree.of_bodySF (plainFor_of_name pn5) hisR ?_
  intro p e s m args below meth c s₁ Bd hml0 hP hK
  obtain ⟨rfl, hZ, hh, hI⟩ := hP
  have hml : c.maxLocals = 1 := hml0
  obtain ⟨hx, hby, hlk, hret, (hown : s.vm.findClass "com/example/wakeline/wakeline/QualifiedFileName" = _), (X0 : Stand p l e orm32 s m _ below meth c s₁ [] 0 0), e0⟩ := own_bg Bd hh
  have N0 := Fr.nil n0
  show Dw p e below s (QF1 Z a cs sf y0 h0 n0) orm32.cells orm32.slots (s₁.setTop (entryFrame m #[.ref a] 1))
  refine Dg.st (fun _ kk => castTop (ef_R1 m a) kk) ?_
  have B := And.intro hx hby
  refine w_a X0 B d5_0 rfl rfl (w_a X0 B d5_1 rfl rfl (Dg.st (fun _ kk => XS.bipush X0.here hx rfl (hb hby d5_2) kk) ?_))
  show Sh s₁ 4 #[vr a] [.int 47, .ref a, .ref a]
  refine w_cv X0 B hZ hown hml (rmL1_1 l Z a0 hw [] a cs sf y0 h0 n0 Z0 hW hS hr0) (tw hw 32 rfl) (tw hw 33 rfl) (tw hw 35 rfl) (tw hw 34 rfl) (tw hw 9 rfl) (tw hw 36 rfl) e0 hS.1 d5_4 1 1 rfl (lenOf pd8 rfl) rfl rfl rfl (by decide) ?_
  rintro _ T4 Lc4 X4 ⟨Nq4, hh4, hq4⟩
  have N4 := Fr.app N0 Nq4
  rcases hq4 with ⟨rfl, gl4⟩ | ⟨rfl, gl4⟩
  · refine w_c X4 B d5_7 (Dg.st (fun _ kk => XS.iadd X4.here hx rfl (hb hby d5_8) rfl kk) ?_)
    show Sh T4 9 #[vr a] [.int 1, .ref a]
    obtain ⟨cq9, kq9, qa9, qb9, qc9⟩ := isOf hZ hh4 hS.1
    obtain ⟨_, _, ⟨T9, L9, k9, n9⟩, -, X9, hSw, hgr9, ⟨Lc9, hQ9, l9, y9, z9⟩, st9⟩ := X4.virtualBackS hx (y := on1) (z := on1) hown (mvT hZ (tw hw 69 rfl)) (mvT hZ (tw hw 70 rfl)) (notFace_of_selects (args := #[]) (mvT hZ (tw hw 72 rfl))) (mvT hZ (tw hw 72 rfl)) (mvT hZ (tw hw 71 rfl)) (by decide) (own_backS (W := 0) (rmS1E l Z a0 hw [] a (1 : Int32) cs sf _ _ _ _ h0 n0 Z0 hW hS (by decide) (by decide) (by decide) (by decide) (by decide) hHl hHu hcw) hZ hI (tw hw 73 rfl) (tw hw 9 rfl) (by decide) (by decide)) qa9 qc9 (g := (mkF m 9 #[vr a] [.int 1, .ref a])) rfl (by rw [hml]; rfl) (Steps.refl _) (argsL := [.int 1]) (rest := []) (lenOf pd27 rfl) rfl (by show 2 * 0 + _ ≤ _; exact Nat.le_of_eq rfl) (hb hby d5_9) (fun _ _ => ⟨rfl, hh4, (by decide : 0 + 2 ≤ _), (by decide : 0 + 4 ≤ _)⟩)
    dsimp only [Pt.U, Pt.locs, Pt.cells, Pt.slots] at X9 l9 y9 z9 st9 hQ9 hSw hgr9
    subst l9 y9 z9
    obtain ⟨rs9, rfl, Nq9, K9, S9⟩ := hQ9
    have N9 := Fr.app N4 Nq9
    have hZ := State.Warmed39.trans (t := s) hZ hSw.1
    have hown := (hSw.1.alike.findClass _ _).trans hown
    refine Dg.tr st9 ?_
    refine Dw.of hSw ?_
    exact Dg.retA X9 hlk B hret rfl ⟨rfl, rfl⟩ d5_12 ⟨⟨rs9, rfl, N9, K9, (Or.inl ⟨gl4, S9⟩)⟩, Nat.le_refl _⟩ (by decide)
  · refine w_c X4 B d5_7 (Dg.st (fun _ kk => XS.iadd X4.here hx rfl (hb hby d5_8) rfl kk) ?_)
    show Sh T4 9 #[vr a] [.int 0, .ref a]
    refine Dw.ofN ?_
    refine w_cv X4 B hZ hown hml (rmS10 l Z a0 hw [] a cs sf _ _ _ _ _ h0 n0 Z0 hW hS (by decide) (by decide) (by decide)) (tw hw 69 rfl) (tw hw 70 rfl) (tw hw 72 rfl) (tw hw 71 rfl) (tw hw 9 rfl) (tw hw 73 rfl) hh4 hS.1 d5_9 1 0 rfl (lenOf pd27 rfl) rfl rfl rfl (by decide) ?_
    rintro _ T9 Lc9 X9 ⟨rfl, Nq9, hh9⟩
    have N9 := Fr.app N4 Nq9
    exact Dg.retA X9 hlk B hret rfl ⟨rfl, rfl⟩ d5_12 (by rw [hh9]; exact ⟨a, rfl, N9, Keep.refl _ _, (Or.inr ⟨gl4, hS⟩)⟩) (by decide)

def QF2 (Z : State) (a : Addr) (cs : Int32) (sf : Value) (y0 : Int32) (y1 : Int32) (h0 : Heap) (n0 : Nat) (v : Option Value) (h : Heap) (L : List Loc) : Prop := ∃ r : Addr, v = some (.ref r) ∧ Fr n0 L ∧ Keep h0 h [] ∧ (((y0 = 47 ∧ ¬ y1 = 47 ∧ True) ∧ own_Str Z h r 1 2 [.int (own_b y1)] [.int (own_lo y1), .int (own_hi y1)] (y1.toInt ≤ 255 ∧ True)) ∨ ((y1 = 47 ∧ True) ∧ own_Str Z h r 0 0 [] [] (True)) ∨ ((¬ y0 = 47 ∧ ¬ y1 = 47 ∧ True) ∧ own_Str Z h r 2 4 [.int (own_b y0), .int (own_b y1)] [.int (own_lo y0), .int (own_hi y0), .int (own_lo y1), .int (own_hi y1)] (y0.toInt ≤ 255 ∧ y1.toInt ≤ 255 ∧ True)))
theorem rmF2 (l : Launch) (Z : State) (a0 : Array Value) (hw : ∀ d ∈ tables_1, d.before a0 Z = true) (ws : List Jvm.Cond) (a : Addr) (cs : Int32) (sf : Value) (y0 : Int32) (y1 : Int32) (h0 : Heap) (n0 : Nat) (Z0 : n0 ≤ h0.size) (hW : own_W Z h0 n0 cs sf) (hS : own_Str Z h0 a 2 4 [.int (own_b y0), .int (own_b y1)] [.int (own_lo y0), .int (own_hi y0), .int (own_lo y1), .int (own_hi y1)] (y0.toInt ≤ 255 ∧ y1.toInt ≤ 255 ∧ True)) (hr0 : 0 ≤ y0.toInt ∧ y0.toInt ≤ 65535) (hr1 : 0 ≤ y1.toInt ∧ y1.toInt ≤ 65535) (hHl : Jvm.Lit.constHeld Z "java/lang/StringLatin1" 151) (hHu : Jvm.Lit.constHeld Z "java/lang/StringUTF16" 295) (hcw : Jvm.Lit.compactW.before a0 Z = true) :
    MetFree l on0 (head1 (Jvm.Cond.code on0 prog_12_method_3_code 1 (some (.object "java/lang/String")) :: ws) orm27) (fun aa UU => aa = #[.ref a] ∧ Z.Warmed39 UU.vm ∧ UU.heap = h0 ∧ IB Z UU.vm []) (fun _ _ _ _ _ => True) (fun _ UU oo UU' => ∃ vv LL, oo = .returned vv ∧ QF2 Z a cs sf y0 y1 h0 n0 vv UU'.heap LL ∧ ReturnedEndW UU oo UU' LL orm27.cells orm27.slots) := by
  refine MetFree.of_bodySF (plainFor_of_name pn5) hisR ?_
  intro p e s m args below meth c s₁ Bd hml0 hP hK
  obtain ⟨rfl, hZ, hh, hI⟩ := hP
  have hml : c.maxLocals = 1 := hml0
  obtain ⟨hx, hby, hlk, hret, (hown : s.vm.findClass "com/example/wakeline/wakeline/QualifiedFileName" = _), (X0 : Stand p l e orm27 s m _ below meth c s₁ [] 0 0), e0⟩ := own_bg Bd hh
  have N0 := Fr.nil n0
  show Dw p e below s (QF2 Z a cs sf y0 y1 h0 n0) orm27.cells orm27.slots (s₁.setTop (entryFrame m #[.ref a] 1))
  refine Dg.st (fun _ kk => castTop (ef_R1 m a) kk) ?_
  have B := And.intro hx hby
  refine w_a X0 B d5_0 rfl rfl (w_a X0 B d5_1 rfl rfl (Dg.st (fun _ kk => XS.bipush X0.here hx rfl (hb hby d5_2) kk) ?_))
  show Sh s₁ 4 #[vr a] [.int 47, .ref a, .ref a]
  refine w_cv X0 B hZ hown hml (rmL1_2 l Z a0 hw [] a cs sf y0 y1 h0 n0 Z0 hW hS hr0 hr1) (tw hw 32 rfl) (tw hw 33 rfl) (tw hw 35 rfl) (tw hw 34 rfl) (tw hw 9 rfl) (tw hw 36 rfl) e0 hS.1 d5_4 1 1 rfl (lenOf pd8 rfl) rfl rfl rfl (by decide) ?_
  rintro _ T4 Lc4 X4 ⟨Nq4, hh4, hq4⟩
  have N4 := Fr.app N0 Nq4
  rcases hq4 with ⟨rfl, gl4⟩ | ⟨rfl, gl4⟩ | ⟨rfl, gl4⟩
  · refine w_c X4 B d5_7 (Dg.st (fun _ kk => XS.iadd X4.here hx rfl (hb hby d5_8) rfl kk) ?_)
    show Sh T4 9 #[vr a] [.int 1, .ref a]
    refine Dw.ofN ?_
    refine w_cv X4 B hZ hown hml (rmS1_1 l Z a0 hw [] a (1 : Int32) cs sf _ _ _ _ _ y1 h0 n0 Z0 hW hS (by decide) (by decide) (by decide) (by decide) (by decide) (by decide) (by decide) (by decide) (fun q => q.2) rfl (by decide) (by decide) ⟨by decide, by decide, rfl, rfl, hr1.1, hr1.2⟩ (by decide) (by decide) (by decide) (by decide) (by decide) (by decide) (by decide) (by decide) ⟨by decide, by decide, rfl, rfl, hr1.1, hr1.2⟩ rfl) (tw hw 69 rfl) (tw hw 70 rfl) (tw hw 72 rfl) (tw hw 71 rfl) (tw hw 9 rfl) (tw hw 73 rfl) hh4 hS.1 d5_9 1 0 rfl (lenOf pd27 rfl) rfl rfl rfl (by decide) ?_
    rintro _ T9 Lc9 X9 ⟨rs9, rfl, gz9, Nq9, K9, S9⟩
    have N9 := Fr.app N4 Nq9
    exact Dg.retA X9 hlk B hret rfl ⟨rfl, rfl⟩ d5_12 ⟨rs9, rfl, N9, K9, (Or.inl ⟨gl4, S9⟩)⟩ (by decide)
  · refine w_c X4 B d5_7 (Dg.st (fun _ kk => XS.iadd X4.here hx rfl (hb hby d5_8) rfl kk) ?_)
    show Sh T4 9 #[vr a] [.int 2, .ref a]
    obtain ⟨cq9, kq9, qa9, qb9, qc9⟩ := isOf hZ hh4 hS.1
    obtain ⟨_, _, ⟨T9, L9, k9, n9⟩, -, X9, hSw, hgr9, ⟨Lc9, hQ9, l9, y9, z9⟩, st9⟩ := X4.virtualBackS hx (y := on1) (z := on1) hown (mvT hZ (tw hw 69 rfl)) (mvT hZ (tw hw 70 rfl)) (notFace_of_selects (args := #[]) (mvT hZ (tw hw 72 rfl))) (mvT hZ (tw hw 72 rfl)) (mvT hZ (tw hw 71 rfl)) (by decide) (own_backS (W := 0) (rmS1E l Z a0 hw [] a (2 : Int32) cs sf _ _ _ _ h0 n0 Z0 hW hS (by decide) (by decide) (by decide) (by decide) (by decide) hHl hHu hcw) hZ hI (tw hw 73 rfl) (tw hw 9 rfl) (by decide) (by decide)) qa9 qc9 (g := (mkF m 9 #[vr a] [.int 2, .ref a])) rfl (by rw [hml]; rfl) (Steps.refl _) (argsL := [.int 2]) (rest := []) (lenOf pd27 rfl) rfl (by show 2 * 0 + _ ≤ _; exact Nat.le_of_eq rfl) (hb hby d5_9) (fun _ _ => ⟨rfl, hh4, (by decide : 0 + 2 ≤ _), (by decide : 0 + 4 ≤ _)⟩)
    dsimp only [Pt.U, Pt.locs, Pt.cells, Pt.slots] at X9 l9 y9 z9 st9 hQ9 hSw hgr9
    subst l9 y9 z9
    obtain ⟨rs9, rfl, Nq9, K9, S9⟩ := hQ9
    have N9 := Fr.app N4 Nq9
    have hZ := State.Warmed39.trans (t := s) hZ hSw.1
    have hown := (hSw.1.alike.findClass _ _).trans hown
    refine Dg.tr st9 ?_
    refine Dw.of hSw ?_
    exact Dg.retA X9 hlk B hret rfl ⟨rfl, rfl⟩ d5_12 ⟨⟨rs9, rfl, N9, K9, (Or.inr (Or.inl ⟨gl4, S9⟩))⟩, Nat.le_refl _⟩ (by decide)
  · refine w_c X4 B d5_7 (Dg.st (fun _ kk => XS.iadd X4.here hx rfl (hb hby d5_8) rfl kk) ?_)
    show Sh T4 9 #[vr a] [.int 0, .ref a]
    refine Dw.ofN ?_
    refine w_cv X4 B hZ hown hml (rmS10 l Z a0 hw [] a cs sf _ _ _ _ _ h0 n0 Z0 hW hS (by decide) (by decide) (by decide)) (tw hw 69 rfl) (tw hw 70 rfl) (tw hw 72 rfl) (tw hw 71 rfl) (tw hw 9 rfl) (tw hw 73 rfl) hh4 hS.1 d5_9 1 0 rfl (lenOf pd27 rfl) rfl rfl rfl (by decide) ?_
    rintro _ T9 Lc9 X9 ⟨rfl, Nq9, hh9⟩
    have N9 := Fr.app N4 Nq9
    exact Dg.retA X9 hlk B hret rfl ⟨rfl, rfl⟩ d5_12 (by rw [hh9]; exact ⟨a, rfl, N9, Keep.refl _ _, (Or.inr (Or.inr ⟨gl4, hS⟩))⟩) (by decide)

def QF3 (Z : State) (a : Addr) (cs : Int32) (sf : Value) (y0 : Int32) (y1 : Int32) (y2 : Int32) (h0 : Heap) (n0 : Nat) (v : Option Value) (h : Heap) (L : List Loc) : Prop := ∃ r : Addr, v = some (.ref r) ∧ Fr n0 L ∧ Keep h0 h [] ∧ (((y0 = 47 ∧ ¬ y1 = 47 ∧ ¬ y2 = 47 ∧ True) ∧ own_Str Z h r 2 4 [.int (own_b y1), .int (own_b y2)] [.int (own_lo y1), .int (own_hi y1), .int (own_lo y2), .int (own_hi y2)] (y1.toInt ≤ 255 ∧ y2.toInt ≤ 255 ∧ True)) ∨ ((y1 = 47 ∧ ¬ y2 = 47 ∧ True) ∧ own_Str Z h r 1 2 [.int (own_b y2)] [.int (own_lo y2), .int (own_hi y2)] (y2.toInt ≤ 255 ∧ True)) ∨ ((y2 = 47 ∧ True) ∧ own_Str Z h r 0 0 [] [] (True)) ∨ ((¬ y0 = 47 ∧ ¬ y1 = 47 ∧ ¬ y2 = 47 ∧ True) ∧ own_Str Z h r 3 6 [.int (own_b y0), .int (own_b y1), .int (own_b y2)] [.int (own_lo y0), .int (own_hi y0), .int (own_lo y1), .int (own_hi y1), .int (own_lo y2), .int (own_hi y2)] (y0.toInt ≤ 255 ∧ y1.toInt ≤ 255 ∧ y2.toInt ≤ 255 ∧ True)))
theorem rmF3 (l : Launch) (Z : State) (a0 : Array Value) (hw : ∀ d ∈ tables_1, d.before a0 Z = true) (ws : List Jvm.Cond) (a : Addr) (cs : Int32) (sf : Value) (y0 : Int32) (y1 : Int32) (y2 : Int32) (h0 : Heap) (n0 : Nat) (Z0 : n0 ≤ h0.size) (hW : own_W Z h0 n0 cs sf) (hS : own_Str Z h0 a 3 6 [.int (own_b y0), .int (own_b y1), .int (own_b y2)] [.int (own_lo y0), .int (own_hi y0), .int (own_lo y1), .int (own_hi y1), .int (own_lo y2), .int (own_hi y2)] (y0.toInt ≤ 255 ∧ y1.toInt ≤ 255 ∧ y2.toInt ≤ 255 ∧ True)) (hr0 : 0 ≤ y0.toInt ∧ y0.toInt ≤ 65535) (hr1 : 0 ≤ y1.toInt ∧ y1.toInt ≤ 65535) (hr2 : 0 ≤ y2.toInt ∧ y2.toInt ≤ 65535) (hHl : Jvm.Lit.constHeld Z "java/lang/StringLatin1" 151) (hHu : Jvm.Lit.constHeld Z "java/lang/StringUTF16" 295) (hcw : Jvm.Lit.compactW.before a0 Z = true) :
    MetFree l on0 (head1 (Jvm.Cond.code on0 prog_12_method_3_code 1 (some (.object "java/lang/String")) :: ws) orm27) (fun aa UU => aa = #[.ref a] ∧ Z.Warmed39 UU.vm ∧ UU.heap = h0 ∧ IB Z UU.vm []) (fun _ _ _ _ _ => True) (fun _ UU oo UU' => ∃ vv LL, oo = .returned vv ∧ QF3 Z a cs sf y0 y1 y2 h0 n0 vv UU'.heap LL ∧ ReturnedEndW UU oo UU' LL orm27.cells orm27.slots) := by
  refine MetFree.of_bodySF (plainFor_of_name pn5) hisR ?_
  intro p e s m args below meth c s₁ Bd hml0 hP hK
  obtain ⟨rfl, hZ, hh, hI⟩ := hP
  have hml : c.maxLocals = 1 := hml0
  obtain ⟨hx, hby, hlk, hret, (hown : s.vm.findClass "com/example/wakeline/wakeline/QualifiedFileName" = _), (X0 : Stand p l e orm27 s m _ below meth c s₁ [] 0 0), e0⟩ := own_bg Bd hh
  have N0 := Fr.nil n0
  show Dw p e below s (QF3 Z a cs sf y0 y1 y2 h0 n0) orm27.cells orm27.slots (s₁.setTop (entryFrame m #[.ref a] 1))
  refine Dg.st (fun _ kk => castTop (ef_R1 m a) kk) ?_
  have B := And.intro hx hby
  refine w_a X0 B d5_0 rfl rfl (w_a X0 B d5_1 rfl rfl (Dg.st (fun _ kk => XS.bipush X0.here hx rfl (hb hby d5_2) kk) ?_))
  show Sh s₁ 4 #[vr a] [.int 47, .ref a, .ref a]
  refine w_cv X0 B hZ hown hml (rmL1_3 l Z a0 hw [] a cs sf y0 y1 y2 h0 n0 Z0 hW hS hr0 hr1 hr2) (tw hw 32 rfl) (tw hw 33 rfl) (tw hw 35 rfl) (tw hw 34 rfl) (tw hw 9 rfl) (tw hw 36 rfl) e0 hS.1 d5_4 1 1 rfl (lenOf pd8 rfl) rfl rfl rfl (by decide) ?_
  rintro _ T4 Lc4 X4 ⟨Nq4, hh4, hq4⟩
  have N4 := Fr.app N0 Nq4
  rcases hq4 with ⟨rfl, gl4⟩ | ⟨rfl, gl4⟩ | ⟨rfl, gl4⟩ | ⟨rfl, gl4⟩
  · refine w_c X4 B d5_7 (Dg.st (fun _ kk => XS.iadd X4.here hx rfl (hb hby d5_8) rfl kk) ?_)
    show Sh T4 9 #[vr a] [.int 1, .ref a]
    refine Dw.ofN ?_
    refine w_cv X4 B hZ hown hml (rmS1_2 l Z a0 hw [] a (1 : Int32) cs sf _ _ _ _ _ y1 y2 h0 n0 Z0 hW hS (by decide) (by decide) (by decide) (by decide) (by decide) (by decide) (by decide) (by decide) (fun q => q.2) rfl (by decide) (by decide) ⟨by decide, by decide, rfl, rfl, hr1.1, hr1.2⟩ ⟨by decide, by decide, rfl, rfl, hr2.1, hr2.2⟩ (by decide) (by decide) (by decide) (by decide) (by decide) (by decide) (by decide) (by decide) ⟨by decide, by decide, rfl, rfl, hr1.1, hr1.2⟩ ⟨by decide, by decide, rfl, rfl, hr2.1, hr2.2⟩ rfl) (tw hw 69 rfl) (tw hw 70 rfl) (tw hw 72 rfl) (tw hw 71 rfl) (tw hw 9 rfl) (tw hw 73 rfl) hh4 hS.1 d5_9 1 0 rfl (lenOf pd27 rfl) rfl rfl rfl (by decide) ?_
    rintro _ T9 Lc9 X9 ⟨rs9, rfl, gz9, Nq9, K9, S9⟩
    have N9 := Fr.app N4 Nq9
    exact Dg.retA X9 hlk B hret rfl ⟨rfl, rfl⟩ d5_12 ⟨rs9, rfl, N9, K9, (Or.inl ⟨gl4, S9⟩)⟩ (by decide)
  · refine w_c X4 B d5_7 (Dg.st (fun _ kk => XS.iadd X4.here hx rfl (hb hby d5_8) rfl kk) ?_)
    show Sh T4 9 #[vr a] [.int 2, .ref a]
    refine Dw.ofN ?_
    refine w_cv X4 B hZ hown hml (rmS1_1 l Z a0 hw [] a (2 : Int32) cs sf _ _ _ _ _ y2 h0 n0 Z0 hW hS (by decide) (by decide) (by decide) (by decide) (by decide) (by decide) (by decide) (by decide) (fun q => q.2.2) rfl (by decide) (by decide) ⟨by decide, by decide, rfl, rfl, hr2.1, hr2.2⟩ (by decide) (by decide) (by decide) (by decide) (by decide) (by decide) (by decide) (by decide) ⟨by decide, by decide, rfl, rfl, hr2.1, hr2.2⟩ rfl) (tw hw 69 rfl) (tw hw 70 rfl) (tw hw 72 rfl) (tw hw 71 rfl) (tw hw 9 rfl) (tw hw 73 rfl) hh4 hS.1 d5_9 1 0 rfl (lenOf pd27 rfl) rfl rfl rfl (by decide) ?_
    rintro _ T9 Lc9 X9 ⟨rs9, rfl, gz9, Nq9, K9, S9⟩
    have N9 := Fr.app N4 Nq9
    exact Dg.retA X9 hlk B hret rfl ⟨rfl, rfl⟩ d5_12 ⟨rs9, rfl, N9, K9, (Or.inr (Or.inl ⟨gl4, S9⟩))⟩ (by decide)
  · refine w_c X4 B d5_7 (Dg.st (fun _ kk => XS.iadd X4.here hx rfl (hb hby d5_8) rfl kk) ?_)
    show Sh T4 9 #[vr a] [.int 3, .ref a]
    obtain ⟨cq9, kq9, qa9, qb9, qc9⟩ := isOf hZ hh4 hS.1
    obtain ⟨_, _, ⟨T9, L9, k9, n9⟩, -, X9, hSw, hgr9, ⟨Lc9, hQ9, l9, y9, z9⟩, st9⟩ := X4.virtualBackS hx (y := on1) (z := on1) hown (mvT hZ (tw hw 69 rfl)) (mvT hZ (tw hw 70 rfl)) (notFace_of_selects (args := #[]) (mvT hZ (tw hw 72 rfl))) (mvT hZ (tw hw 72 rfl)) (mvT hZ (tw hw 71 rfl)) (by decide) (own_backS (W := 0) (rmS1E l Z a0 hw [] a (3 : Int32) cs sf _ _ _ _ h0 n0 Z0 hW hS (by decide) (by decide) (by decide) (by decide) (by decide) hHl hHu hcw) hZ hI (tw hw 73 rfl) (tw hw 9 rfl) (by decide) (by decide)) qa9 qc9 (g := (mkF m 9 #[vr a] [.int 3, .ref a])) rfl (by rw [hml]; rfl) (Steps.refl _) (argsL := [.int 3]) (rest := []) (lenOf pd27 rfl) rfl (by show 2 * 0 + _ ≤ _; exact Nat.le_of_eq rfl) (hb hby d5_9) (fun _ _ => ⟨rfl, hh4, (by decide : 0 + 2 ≤ _), (by decide : 0 + 4 ≤ _)⟩)
    dsimp only [Pt.U, Pt.locs, Pt.cells, Pt.slots] at X9 l9 y9 z9 st9 hQ9 hSw hgr9
    subst l9 y9 z9
    obtain ⟨rs9, rfl, Nq9, K9, S9⟩ := hQ9
    have N9 := Fr.app N4 Nq9
    have hZ := State.Warmed39.trans (t := s) hZ hSw.1
    have hown := (hSw.1.alike.findClass _ _).trans hown
    refine Dg.tr st9 ?_
    refine Dw.of hSw ?_
    exact Dg.retA X9 hlk B hret rfl ⟨rfl, rfl⟩ d5_12 ⟨⟨rs9, rfl, N9, K9, (Or.inr (Or.inr (Or.inl ⟨gl4, S9⟩)))⟩, Nat.le_refl _⟩ (by decide)
  · refine w_c X4 B d5_7 (Dg.st (fun _ kk => XS.iadd X4.here hx rfl (hb hby d5_8) rfl kk) ?_)
    show Sh T4 9 #[vr a] [.int 0, .ref a]
    refine Dw.ofN ?_
    refine w_cv X4 B hZ hown hml (rmS10 l Z a0 hw [] a cs sf _ _ _ _ _ h0 n0 Z0 hW hS (by decide) (by decide) (by decide)) (tw hw 69 rfl) (tw hw 70 rfl) (tw hw 72 rfl) (tw hw 71 rfl) (tw hw 9 rfl) (tw hw 73 rfl) hh4 hS.1 d5_9 1 0 rfl (lenOf pd27 rfl) rfl rfl rfl (by decide) ?_
    rintro _ T9 Lc9 X9 ⟨rfl, Nq9, hh9⟩
    have N9 := Fr.app N4 Nq9
    exact Dg.retA X9 hlk B hret rfl ⟨rfl, rfl⟩ d5_12 (by rw [hh9]; exact ⟨a, rfl, N9, Keep.refl _ _, (Or.inr (Or.inr (Or.inr ⟨gl4, hS⟩)))⟩) (by decide)

def QF4 (Z : State) (a : Addr) (cs : Int32) (sf : Value) (y0 : Int32) (y1 : Int32) (y2 : Int32) (y3 : Int32) (h0 : Heap) (n0 : Nat) (v : Option Value) (h : Heap) (L : List Loc) : Prop := ∃ r : Addr, v = some (.ref r) ∧ Fr n0 L ∧ Keep h0 h [] ∧ (((y0 = 47 ∧ ¬ y1 = 47 ∧ ¬ y2 = 47 ∧ ¬ y3 = 47 ∧ True) ∧ own_Str Z h r 3 6 [.int (own_b y1), .int (own_b y2), .int (own_b y3)] [.int (own_lo y1), .int (own_hi y1), .int (own_lo y2), .int (own_hi y2), .int (own_lo y3), .int (own_hi y3)] (y1.toInt ≤ 255 ∧ y2.toInt ≤ 255 ∧ y3.toInt ≤ 255 ∧ True)) ∨ ((y1 = 47 ∧ ¬ y2 = 47 ∧ ¬ y3 = 47 ∧ True) ∧ own_Str Z h r 2 4 [.int (own_b y2), .int (own_b y3)] [.int (own_lo y2), .int (own_hi y2), .int (own_lo y3), .int (own_hi y3)] (y2.toInt ≤ 255 ∧ y3.toInt ≤ 255 ∧ True)) ∨ ((y2 = 47 ∧ ¬ y3 = 47 ∧ True) ∧ own_Str Z h r 1 2 [.int (own_b y3)] [.int (own_lo y3), .int (own_hi y3)] (y3.toInt ≤ 255 ∧ True)) ∨ ((y3 = 47 ∧ True) ∧ own_Str Z h r 0 0 [] [] (True)) ∨ ((¬ y0 = 47 ∧ ¬ y1 = 47 ∧ ¬ y2 = 47 ∧ ¬ y3 = 47 ∧ True) ∧ own_Str Z h r 4 8 [.int (own_b y0), .int (own_b y1), .int (own_b y2), .int (own_b y3)] [.int (own_lo y0), .int (own_hi y0), .int (own_lo y1), .int (own_hi y1), .int (own_lo y2), .int (own_hi y2), .int (own_lo y3), .int (own_hi y3)] (y0.toInt ≤ 255 ∧ y1.toInt ≤ 255 ∧ y2.toInt ≤ 255 ∧ y3.toInt ≤ 255 ∧ True)))
theorem rmF4 (l : Launch) (Z : State) (a0 : Array Value) (hw : ∀ d ∈ tables_1, d.before a0 Z = true) (ws : List Jvm.Cond) (a : Addr) (cs : Int32) (sf : Value) (y0 : Int32) (y1 : Int32) (y2 : Int32) (y3 : Int32) (h0 : Heap) (n0 : Nat) (Z0 : n0 ≤ h0.size) (hW : own_W Z h0 n0 cs sf) (hS : own_Str Z h0 a 4 8 [.int (own_b y0), .int (own_b y1), .int (own_b y2), .int (own_b y3)] [.int (own_lo y0), .int (own_hi y0), .int (own_lo y1), .int (own_hi y1), .int (own_lo y2), .int (own_hi y2), .int (own_lo y3), .int (own_hi y3)] (y0.toInt ≤ 255 ∧ y1.toInt ≤ 255 ∧ y2.toInt ≤ 255 ∧ y3.toInt ≤ 255 ∧ True)) (hr0 : 0 ≤ y0.toInt ∧ y0.toInt ≤ 65535) (hr1 : 0 ≤ y1.toInt ∧ y1.toInt ≤ 65535) (hr2 : 0 ≤ y2.toInt ∧ y2.toInt ≤ 65535) (hr3 : 0 ≤ y3.toInt ∧ y3.toInt ≤ 65535) (hHl : Jvm.Lit.constHeld Z "java/lang/StringLatin1" 151) (hHu : Jvm.Lit.constHeld Z "java/lang/StringUTF16" 295) (hcw : Jvm.Lit.compactW.before a0 Z = true) :
    MetFree l on0 (head1 (Jvm.Cond.code on0 prog_12_method_3_code 1 (some (.object "java/lang/String")) :: ws) orm27) (fun aa UU => aa = #[.ref a] ∧ Z.Warmed39 UU.vm ∧ UU.heap = h0 ∧ IB Z UU.vm []) (fun _ _ _ _ _ => True) (fun _ UU oo UU' => ∃ vv LL, oo = .returned vv ∧ QF4 Z a cs sf y0 y1 y2 y3 h0 n0 vv UU'.heap LL ∧ ReturnedEndW UU oo UU' LL orm27.cells orm27.slots) := by
  refine MetFree.of_bodySF (plainFor_of_name pn5) hisR ?_
  intro p e s m args below meth c s₁ Bd hml0 hP hK
  obtain ⟨rfl, hZ, hh, hI⟩ := hP
  have hml : c.maxLocals = 1 := hml0
  obtain ⟨hx, hby, hlk, hret, (hown : s.vm.findClass "com/example/wakeline/wakeline/QualifiedFileName" = _), (X0 : Stand p l e orm27 s m _ below meth c s₁ [] 0 0), e0⟩ := own_bg Bd hh
  have N0 := Fr.nil n0
  show Dw p e below s (QF4 Z a cs sf y0 y1 y2 y3 h0 n0) orm27.cells orm27.slots (s₁.setTop (entryFrame m #[.ref a] 1))
  refine Dg.st (fun _ kk => castTop (ef_R1 m a) kk) ?_
  have B := And.intro hx hby
  refine w_a X0 B d5_0 rfl rfl (w_a X0 B d5_1 rfl rfl (Dg.st (fun _ kk => XS.bipush X0.here hx rfl (hb hby d5_2) kk) ?_))
  show Sh s₁ 4 #[vr a] [.int 47, .ref a, .ref a]
  refine w_cv X0 B hZ hown hml (rmL1_4 l Z a0 hw [] a cs sf y0 y1 y2 y3 h0 n0 Z0 hW hS hr0 hr1 hr2 hr3) (tw hw 32 rfl) (tw hw 33 rfl) (tw hw 35 rfl) (tw hw 34 rfl) (tw hw 9 rfl) (tw hw 36 rfl) e0 hS.1 d5_4 1 1 rfl (lenOf pd8 rfl) rfl rfl rfl (by decide) ?_
  rintro _ T4 Lc4 X4 ⟨Nq4, hh4, hq4⟩
  have N4 := Fr.app N0 Nq4
  rcases hq4 with ⟨rfl, gl4⟩ | ⟨rfl, gl4⟩ | ⟨rfl, gl4⟩ | ⟨rfl, gl4⟩ | ⟨rfl, gl4⟩
  · refine w_c X4 B d5_7 (Dg.st (fun _ kk => XS.iadd X4.here hx rfl (hb hby d5_8) rfl kk) ?_)
    show Sh T4 9 #[vr a] [.int 1, .ref a]
    refine Dw.ofN ?_
    refine w_cv X4 B hZ hown hml (rmS1_3 l Z a0 hw [] a (1 : Int32) cs sf _ _ _ _ _ y1 y2 y3 h0 n0 Z0 hW hS (by decide) (by decide) (by decide) (by decide) (by decide) (by decide) (by decide) (by decide) (fun q => q.2) rfl (by decide) (by decide) ⟨by decide, by decide, rfl, rfl, hr1.1, hr1.2⟩ ⟨by decide, by decide, rfl, rfl, hr2.1, hr2.2⟩ ⟨by decide, by decide, rfl, rfl, hr3.1, hr3.2⟩ (by decide) (by decide) (by decide) (by decide) (by decide) (by decide) (by decide) (by decide) ⟨by decide, by decide, rfl, rfl, hr1.1, hr1.2⟩ ⟨by decide, by decide, rfl, rfl, hr2.1, hr2.2⟩ ⟨by decide, by decide, rfl, rfl, hr3.1, hr3.2⟩ rfl) (tw hw 69 rfl) (tw hw 70 rfl) (tw hw 72 rfl) (tw hw 71 rfl) (tw hw 9 rfl) (tw hw 73 rfl) hh4 hS.1 d5_9 1 0 rfl (lenOf pd27 rfl) rfl rfl rfl (by decide) ?_
    rintro _ T9 Lc9 X9 ⟨rs9, rfl, gz9, Nq9, K9, S9⟩
    have N9 := Fr.app N4 Nq9
    exact Dg.retA X9 hlk B hret rfl ⟨rfl, rfl⟩ d5_12 ⟨rs9, rfl, N9, K9, (Or.inl ⟨gl4, S9⟩)⟩ (by decide)
  · refine w_c X4 B d5_7 (Dg.st (fun _ kk => XS.iadd X4.here hx rfl (hb hby d5_8) rfl kk) ?_)
    show Sh T4 9 #[vr a] [.int 2, .ref a]
    refine Dw.ofN ?_
    refine w_cv X4 B hZ hown hml (rmS1_2 l Z a0 hw [] a (2 : Int32) cs sf _ _ _ _ _ y2 y3 h0 n0 Z0 hW hS (by decide) (by decide) (by decide) (by decide) (by decide) (by decide) (by decide) (by decide) (fun q => q.2.2) rfl (by decide) (by decide) ⟨by decide, by decide, rfl, rfl, hr2.1, hr2.2⟩ ⟨by decide, by decide, rfl, rfl, hr3.1, hr3.2⟩ (by decide) (by decide) (by decide) (by decide) (by decide) (by decide) (by decide) (by decide) ⟨by decide, by decide, rfl, rfl, hr2.1, hr2.2⟩ ⟨by decide, by decide, rfl, rfl, hr3.1, hr3.2⟩ rfl) (tw hw 69 rfl) (tw hw 70 rfl) (tw hw 72 rfl) (tw hw 71 rfl) (tw hw 9 rfl) (tw hw 73 rfl) hh4 hS.1 d5_9 1 0 rfl (lenOf pd27 rfl) rfl rfl rfl (by decide) ?_
    rintro _ T9 Lc9 X9 ⟨rs9, rfl, gz9, Nq9, K9, S9⟩
    have N9 := Fr.app N4 Nq9
    exact Dg.retA X9 hlk B hret rfl ⟨rfl, rfl⟩ d5_12 ⟨rs9, rfl, N9, K9, (Or.inr (Or.inl ⟨gl4, S9⟩))⟩ (by decide)
  · refine w_c X4 B d5_7 (Dg.st (fun _ kk => XS.iadd X4.here hx rfl (hb hby d5_8) rfl kk) ?_)
    show Sh T4 9 #[vr a] [.int 3, .ref a]
    refine Dw.ofN ?_
    refine w_cv X4 B hZ hown hml (rmS1_1 l Z a0 hw [] a (3 : Int32) cs sf _ _ _ _ _ y3 h0 n0 Z0 hW hS (by decide) (by decide) (by decide) (by decide) (by decide) (by decide) (by decide) (by decide) (fun q => q.2.2.2) rfl (by decide) (by decide) ⟨by decide, by decide, rfl, rfl, hr3.1, hr3.2⟩ (by decide) (by decide) (by decide) (by decide) (by decide) (by decide) (by decide) (by decide) ⟨by decide, by decide, rfl, rfl, hr3.1, hr3.2⟩ rfl) (tw hw 69 rfl) (tw hw 70 rfl) (tw hw 72 rfl) (tw hw 71 rfl) (tw hw 9 rfl) (tw hw 73 rfl) hh4 hS.1 d5_9 1 0 rfl (lenOf pd27 rfl) rfl rfl rfl (by decide) ?_
    rintro _ T9 Lc9 X9 ⟨rs9, rfl, gz9, Nq9, K9, S9⟩
    have N9 := Fr.app N4 Nq9
    exact Dg.retA X9 hlk B hret rfl ⟨rfl, rfl⟩ d5_12 ⟨rs9, rfl, N9, K9, (Or.inr (Or.inr (Or.inl ⟨gl4, S9⟩)))⟩ (by decide)
  · refine w_c X4 B d5_7 (Dg.st (fun _ kk => XS.iadd X4.here hx rfl (hb hby d5_8) rfl kk) ?_)
    show Sh T4 9 #[vr a] [.int 4, .ref a]
    obtain ⟨cq9, kq9, qa9, qb9, qc9⟩ := isOf hZ hh4 hS.1
    obtain ⟨_, _, ⟨T9, L9, k9, n9⟩, -, X9, hSw, hgr9, ⟨Lc9, hQ9, l9, y9, z9⟩, st9⟩ := X4.virtualBackS hx (y := on1) (z := on1) hown (mvT hZ (tw hw 69 rfl)) (mvT hZ (tw hw 70 rfl)) (notFace_of_selects (args := #[]) (mvT hZ (tw hw 72 rfl))) (mvT hZ (tw hw 72 rfl)) (mvT hZ (tw hw 71 rfl)) (by decide) (own_backS (W := 0) (rmS1E l Z a0 hw [] a (4 : Int32) cs sf _ _ _ _ h0 n0 Z0 hW hS (by decide) (by decide) (by decide) (by decide) (by decide) hHl hHu hcw) hZ hI (tw hw 73 rfl) (tw hw 9 rfl) (by decide) (by decide)) qa9 qc9 (g := (mkF m 9 #[vr a] [.int 4, .ref a])) rfl (by rw [hml]; rfl) (Steps.refl _) (argsL := [.int 4]) (rest := []) (lenOf pd27 rfl) rfl (by show 2 * 0 + _ ≤ _; exact Nat.le_of_eq rfl) (hb hby d5_9) (fun _ _ => ⟨rfl, hh4, (by decide : 0 + 2 ≤ _), (by decide : 0 + 4 ≤ _)⟩)
    dsimp only [Pt.U, Pt.locs, Pt.cells, Pt.slots] at X9 l9 y9 z9 st9 hQ9 hSw hgr9
    subst l9 y9 z9
    obtain ⟨rs9, rfl, Nq9, K9, S9⟩ := hQ9
    have N9 := Fr.app N4 Nq9
    have hZ := State.Warmed39.trans (t := s) hZ hSw.1
    have hown := (hSw.1.alike.findClass _ _).trans hown
    refine Dg.tr st9 ?_
    refine Dw.of hSw ?_
    exact Dg.retA X9 hlk B hret rfl ⟨rfl, rfl⟩ d5_12 ⟨⟨rs9, rfl, N9, K9, (Or.inr (Or.inr (Or.inr (Or.inl ⟨gl4, S9⟩))))⟩, Nat.le_refl _⟩ (by decide)
  · refine w_c X4 B d5_7 (Dg.st (fun _ kk => XS.iadd X4.here hx rfl (hb hby d5_8) rfl kk) ?_)
    show Sh T4 9 #[vr a] [.int 0, .ref a]
    refine Dw.ofN ?_
    refine w_cv X4 B hZ hown hml (rmS10 l Z a0 hw [] a cs sf _ _ _ _ _ h0 n0 Z0 hW hS (by decide) (by decide) (by decide)) (tw hw 69 rfl) (tw hw 70 rfl) (tw hw 72 rfl) (tw hw 71 rfl) (tw hw 9 rfl) (tw hw 73 rfl) hh4 hS.1 d5_9 1 0 rfl (lenOf pd27 rfl) rfl rfl rfl (by decide) ?_
    rintro _ T9 Lc9 X9 ⟨rfl, Nq9, hh9⟩
    have N9 := Fr.app N4 Nq9
    exact Dg.retA X9 hlk B hret rfl ⟨rfl, rfl⟩ d5_12 (by rw [hh9]; exact ⟨a, rfl, N9, Keep.refl _ _, (Or.inr (Or.inr (Or.inr (Or.inr ⟨gl4, hS⟩))))⟩) (by decide)

abbrev k1 := method_2_code
theorem d1_0 : Dc k1 0 (.iload_n 0) 1 := by decide +kernel
theorem d1_1 : Dc k1 1 (.iconst 3) 1 := by decide +kernel
theorem d1_2 : Dc k1 2 (.iand) 1 := by decide +kernel
theorem d1_3 : Dc k1 3 (.ifCond .ne 8) 3 := by decide +kernel
theorem d1_6 : Dc k1 6 (.bipush 47) 2 := by decide +kernel
theorem d1_8 : Dc k1 8 (.goto 10) 3 := by decide +kernel
theorem d1_11 : Dc k1 11 (.iload_n 0) 1 := by decide +kernel
theorem d1_12 : Dc k1 12 (.iconst 2) 1 := by decide +kernel
theorem d1_13 : Dc k1 13 (.iushr) 1 := by decide +kernel
theorem d1_14 : Dc k1 14 (.ldc 7) 2 := by decide +kernel
theorem d1_16 : Dc k1 16 (.iand) 1 := by decide +kernel
theorem d1_17 : Dc k1 17 (.i2c) 1 := by decide +kernel
theorem d1_18 : Dc k1 18 (.ireturn) 1 := by decide +kernel
theorem pn6 : plainName "com/example/wakeline/wakeline/QualifiedFileNameFileNamePinLaw" = true := by first | (simp [plainName, overriddenIn]; done) | decide +kernel
def QDr (Z : State) (px : Int32) (h0 : Heap) (n0 : Nat) (v : Option Value) (h : Heap) (L : List Loc) : Prop := ∃ r : Int32, v = some (.int r) ∧ (0 ≤ r.toInt ∧ r.toInt ≤ 65535) ∧ Fr n0 L ∧ h = h0
theorem rmDr (l : Launch) (Z : State) (a0 : Array Value) (hw : ∀ d ∈ tables_1, d.before a0 Z = true) (ws : List Jvm.Cond) (px : Int32) (h0 : Heap) (n0 : Nat) (Z0 : n0 ≤ h0.size) :
    own_Met l (⟨"com/example/wakeline/wakeline/QualifiedFileNameFileNamePinLaw", "draw", "(I)C"⟩ : MethodName) (Jvm.Cond.code (⟨"com/example/wakeline/wakeline/QualifiedFileNameFileNamePinLaw", "draw", "(I)C"⟩ : MethodName) method_2_code 1 (some .char) :: ws) orm26 #[.int px] Z h0 (QDr Z px h0 n0) := by
  refine own_met (plainFor_of_name pn6) (fun m => ef_I1 m px) ?_
  intro p e s m below meth c s₁ B hlk hret hml hZ hown hnm X0 e0
  have hx := B.1
  have hby := B.2
  have N0 := Fr.nil n0
  have r_px := rng32 px
  refine w_i X0 B d1_0 rfl (w_c X0 B d1_1 (Dg.st (fun _ kk => XS.iand X0.here hx rfl (hb hby d1_2) rfl kk) ?_))
  show Sh s₁ 3 #[vi px] [(.int (px &&& (3 : Int32)))]
  generalize hv2 : ((px &&& (3 : Int32)) : Int32) = v2
  have q2 : v2.toInt = px.toInt % 4 := by have qq := c_mask px (3 : Int32) 2 (by decide) (by decide); rw [hv2] at qq; exact qq
  have r2 := rng32 v2
  by_cases hc3 : v2 = (0 : Int32)
  · have hi3 : v2.toInt = 0 := congrArg Int32.toInt hc3
    refine w_f X0 B d1_3 (teq hc3).2 (Dg.st (fun _ kk => XS.bipush X0.here hx rfl (hb hby d1_6) kk) (w_g X0 B 8 18 rfl d1_8 (by decide) ?_))
    show Sh s₁ 18 #[vi px] [.int 47]
    exact Dg.retI X0 hlk B hret rfl (Or.inr (Or.inr (Or.inr (Or.inl rfl)))) d1_18 (by rw [e0]; exact ⟨_, rfl, ⟨by decide, by decide⟩, N0, rfl⟩) (by decide)
  · have hi3 : ¬ v2.toInt = 0 := fun qq => hc3 (Int32.toInt_inj.mp qq)
    refine w_t X0 B 3 11 rfl d1_3 (feq hc3).2 (by decide) (w_i X0 B d1_11 rfl (w_c X0 B d1_12 (Dg.st (fun _ kk => XS.iushr X0.here hx rfl (hb hby d1_13) rfl kk) ?_)))
    show Sh s₁ 14 #[vi px] [(.int ((px.toUInt32 >>> ((2 : Int32) &&& 31).toUInt32).toInt32))]
    generalize hv13 : (((px.toUInt32 >>> ((2 : Int32) &&& 31).toUInt32).toInt32) : Int32) = v13
    have q13 : v13.toInt = (px.toInt % 4294967296) / 4 := by have qq := c_iushr px (2 : Int32) 2 (by decide) (by decide); rw [hv13] at qq; exact qq
    have r13 := rng32 v13
    refine Dg.st (fun _ kk => X0.ldcInt hx hown (mvT hZ (tw hw 6 rfl)) (g := (mkF m 14 #[vi px] [.int v13])) rfl (hb hby d1_14) _ kk) (Dg.st (fun _ kk => XS.iand X0.here hx rfl (hb hby d1_16) rfl kk) ?_)
    show Sh s₁ 17 #[vi px] [(.int (v13 &&& (65535 : Int32)))]
    generalize hv16 : ((v13 &&& (65535 : Int32)) : Int32) = v16
    have q16 : v16.toInt = v13.toInt % 65536 := by have qq := c_mask v13 (65535 : Int32) 16 (by decide) (by decide); rw [hv16] at qq; exact qq
    have r16 := rng32 v16
    refine Dg.st (fun _ kk => XS.i2c X0.here hx rfl (hb hby d1_17) rfl kk) ?_
    show Sh s₁ 18 #[vi px] [.int (v16.toUInt32.toUInt16.toUInt32.toInt32)]
    generalize hv17 : ((v16.toUInt32.toUInt16.toUInt32.toInt32) : Int32) = v17
    have q17 : (v17.toInt - v16.toInt) % 65536 = 0 ∧ 0 ≤ v17.toInt ∧ v17.toInt < 65536 := by have qq := c_i2c v16; rw [hv17] at qq; exact qq
    have r17 := rng32 v17
    exact Dg.retI X0 hlk B hret (own_nc (by omega) (by omega)) (Or.inr (Or.inr (Or.inr (Or.inl rfl)))) d1_18 (by rw [e0]; exact ⟨_, rfl, ⟨by omega, by omega⟩, N0, rfl⟩) (by decide)

abbrev k18 := method_3_code
theorem d18_0 : Dc k18 0 (.iload_n 3) 1 := by decide +kernel
theorem d18_1 : Dc k18 1 (.aload_n 0) 1 := by decide +kernel
theorem d18_2 : Dc k18 2 (.invokevirtual 8) 3 := by decide +kernel
theorem d18_5 : Dc k18 5 (.if_icmp .ge 16) 3 := by decide +kernel
theorem d18_21 : Dc k18 21 (.iconst 1) 1 := by decide +kernel
theorem d18_22 : Dc k18 22 (.goto 4) 3 := by decide +kernel
theorem d18_26 : Dc k18 26 (.ireturn) 1 := by decide +kernel
theorem ef_RRII4 (m : MethodId) (x0 : Addr) (x1 : Addr) (x2 : Int32) (x3 : Int32) : entryFrame m #[.ref x0, .ref x1, .int x2, .int x3] 4 = mkF m 0 #[vr x0, vr x1, vi x2, vi x3] [] := by first | (simp [entryFrame, mkF, argsToLocals, Value.category]; done) | rfl
def QAt0 (Z : State) (a : Addr) (al : Addr) (sv : Int32) (ix : Int32) (cs : Int32) (sf : Value) (nn mm : Int32) (ls lu : List Value) (PQ : Prop) (h0 : Heap) (n0 : Nat) (v : Option Value) (h : Heap) (L : List Loc) : Prop := v = some (.int 1) ∧ Fr n0 L ∧ h = h0
theorem rmAt0 (l : Launch) (Z : State) (a0 : Array Value) (hw : ∀ d ∈ tables_1, d.before a0 Z = true) (ws : List Jvm.Cond) (a : Addr) (al : Addr) (sv : Int32) (ix : Int32) (cs : Int32) (sf : Value) (nn mm : Int32) (ls lu : List Value) (PQ : Prop) (h0 : Heap) (n0 : Nat) (Z0 : n0 ≤ h0.size) (hW : own_W Z h0 n0 cs sf) (hS : own_Str Z h0 a nn mm ls lu PQ) (hs0 : nn >>> ((0 : Int32) &&& 31) = nn) (hs1 : mm >>> ((1 : Int32) &&& 31) = nn) (hge : ¬ ix < nn) :
    own_Met l on25 (Jvm.Cond.code on25 method_3_code 4 (some .boolean) :: ws) ({ frames := 2, cells := 0, slots := 0, locals := 30 } : Room) #[.ref a, .ref al, .int sv, .int ix] Z h0 (QAt0 Z a al sv ix cs sf nn mm ls lu PQ h0 n0) := by
  refine own_met (plainFor_of_name pn6) (fun m => ef_RRII4 m a al sv ix) ?_
  intro p e s m below meth c s₁ B hlk hret hml hZ hown hnm X0 e0
  have N0 := Fr.nil n0
  refine w_i X0 B d18_0 rfl (w_a X0 B d18_1 rfl rfl ?_)
  show Sh s₁ 2 #[vr a, vr al, vi sv, vi ix] [.ref a, .int ix]
  refine w_cv X0 B hZ hown hml (rmLn l Z a0 hw [] a cs sf _ _ _ _ _ h0 n0 Z0 hW hS hs0 hs1) (tw hw 87 rfl) (tw hw 38 rfl) (tw hw 40 rfl) (tw hw 39 rfl) (tw hw 9 rfl) (tw hw 41 rfl) e0 hS.1 d18_2 0 1 rfl (lenOf pd17 rfl) rfl rfl rfl (by decide) ?_
  rintro _ T2 Lc2 X2 ⟨rfl, Nq2, hh2⟩
  have N2 := Fr.app N0 Nq2
  have hc5 : ¬ (ix < nn) := hge
  refine w_y X2 B 5 21 rfl d18_5 (flt hc5).2.1 (by decide) (w_c X2 B d18_21 (w_g X2 B 22 26 rfl d18_22 (by decide) ?_))
  show Sh T2 26 #[vr a, vr al, vi sv, vi ix] [.int 1]
  exact Dg.retI X2 hlk B hret rfl (Or.inr (Or.inl rfl)) d18_26 (by rw [hh2]; exact ⟨rfl, N2, rfl⟩) (by decide)

theorem d18_8 : Dc k18 8 (.aload_n 0) 1 := by decide +kernel
theorem d18_9 : Dc k18 9 (.iload_n 3) 1 := by decide +kernel
theorem d18_10 : Dc k18 10 (.invokevirtual 14) 3 := by decide +kernel
theorem d18_13 : Dc k18 13 (.aload_n 1) 1 := by decide +kernel
theorem d18_14 : Dc k18 14 (.iload_n 2) 1 := by decide +kernel
theorem d18_15 : Dc k18 15 (.iload_n 3) 1 := by decide +kernel
theorem d18_16 : Dc k18 16 (.iadd) 1 := by decide +kernel
theorem d18_17 : Dc k18 17 (.caload) 1 := by decide +kernel
theorem d18_18 : Dc k18 18 (.if_icmp .ne 7) 3 := by decide +kernel
theorem pd28 : parseMethodDescriptor "(I)C" = some ⟨[.int], some .char⟩ := by decide +kernel
def QAt1 (Z : State) (a : Addr) (al : Addr) (sv : Int32) (ix : Int32) (cs : Int32) (sf : Value) (nn mm : Int32) (ls lu : List Value) (PQ : Prop) (yy : Int32) (kl : ClassId) (la : List Value) (h0 : Heap) (n0 : Nat) (v : Option Value) (h : Heap) (L : List Loc) : Prop := v = some (.int 1) ∧ Fr n0 L ∧ h = h0
theorem rmAt1 (l : Launch) (Z : State) (a0 : Array Value) (hw : ∀ d ∈ tables_1, d.before a0 Z = true) (ws : List Jvm.Cond) (a : Addr) (al : Addr) (sv : Int32) (ix : Int32) (cs : Int32) (sf : Value) (nn mm : Int32) (ls lu : List Value) (PQ : Prop) (yy : Int32) (kl : ClassId) (la : List Value) (h0 : Heap) (n0 : Nat) (Z0 : n0 ≤ h0.size) (hW : own_W Z h0 n0 cs sf) (hS : own_Str Z h0 a nn mm ls lu PQ) (hs0 : nn >>> ((0 : Int32) &&& 31) = nn) (hs1 : mm >>> ((1 : Int32) &&& 31) = nn) (hx1 : ¬ ix < 0) (hn : ix < nn) (el : ls.getD ix.toNatClampNeg (.int 0) = .int (own_b yy)) (hP : PQ → yy.toInt ≤ 255) (hm0 : ¬ (ix <<< ((1 : Int32) &&& 31)) < 0 ∧ (ix <<< ((1 : Int32) &&& 31)) < mm) (hm1 : ¬ ((ix <<< ((1 : Int32) &&& 31)) + (1 : Int32)) < 0 ∧ ((ix <<< ((1 : Int32) &&& 31)) + (1 : Int32)) < mm) (ge0 : lu.getD (ix <<< ((1 : Int32) &&& 31)).toNatClampNeg (.int 0) = .int (own_lo yy)) (ge1 : lu.getD ((ix <<< ((1 : Int32) &&& 31)) + (1 : Int32)).toNatClampNeg (.int 0) = .int (own_hi yy)) (hx2 : ix < mm >>> ((1 : Int32) &&& 31)) (hr : 0 ≤ yy.toInt ∧ yy.toInt ≤ 65535) (Vl : Arv Z h0 al kl .char 4 la (.int 0)) (hal : ¬ (sv + ix) < 0 ∧ (sv + ix) < 4) (hav : la.getD (sv + ix).toNatClampNeg (.int 0) = .int yy) :
    own_Met l on25 (Jvm.Cond.code on25 method_3_code 4 (some .boolean) :: ws) ({ frames := 5, cells := 0, slots := 0, locals := 81 } : Room) #[.ref a, .ref al, .int sv, .int ix] Z h0 (QAt1 Z a al sv ix cs sf nn mm ls lu PQ yy kl la h0 n0) := by
  refine own_met (plainFor_of_name pn6) (fun m => ef_RRII4 m a al sv ix) ?_
  intro p e s m below meth c s₁ B hlk hret hml hZ hown hnm X0 e0
  have hx := B.1
  have hby := B.2
  have N0 := Fr.nil n0
  refine w_i X0 B d18_0 rfl (w_a X0 B d18_1 rfl rfl ?_)
  show Sh s₁ 2 #[vr a, vr al, vi sv, vi ix] [.ref a, .int ix]
  refine w_cv X0 B hZ hown hml (rmLn l Z a0 hw [] a cs sf _ _ _ _ _ h0 n0 Z0 hW hS hs0 hs1) (tw hw 87 rfl) (tw hw 38 rfl) (tw hw 40 rfl) (tw hw 39 rfl) (tw hw 9 rfl) (tw hw 41 rfl) e0 hS.1 d18_2 0 1 rfl (lenOf pd17 rfl) rfl rfl rfl (by decide) ?_
  rintro _ T2 Lc2 X2 ⟨rfl, Nq2, hh2⟩
  have N2 := Fr.app N0 Nq2
  have hc5 : ix < nn := hn
  refine w_n X2 B d18_5 (tlt hc5).2.1 (w_a X2 B d18_8 rfl rfl (w_i X2 B d18_9 rfl ?_))
  show Sh T2 10 #[vr a, vr al, vi sv, vi ix] [.int ix, .ref a]
  refine w_cv X2 B hZ hown hml (rmCh l Z a0 hw [] a ix cs sf _ _ _ _ _ yy h0 n0 Z0 hW hS hx1 hn el hP hm0 hm1 ge0 ge1 hx2 hr) (tw hw 133 rfl) (tw hw 134 rfl) (tw hw 136 rfl) (tw hw 135 rfl) (tw hw 9 rfl) (tw hw 137 rfl) hh2 hS.1 d18_10 1 0 rfl (lenOf pd28 rfl) rfl rfl rfl (by decide) ?_
  rintro _ T10 Lc10 X10 ⟨rfl, Nq10, hh10⟩
  have N10 := Fr.app N2 Nq10
  refine w_a X10 B d18_13 rfl rfl (w_i X10 B d18_14 rfl (w_i X10 B d18_15 rfl (Dg.st (fun _ kk => XS.iadd X10.here hx rfl (hb hby d18_16) rfl kk) (w_ca X10 B hZ hh10 Vl hal (v := (.int yy)) hav d18_17 ?_))))
  show Sh T10 18 #[vr a, vr al, vi sv, vi ix] [.int yy, .int yy]
  have hc18 : yy = yy := rfl
  refine w_n X10 B d18_18 (teq hc18).2 (w_c X10 B d18_21 (w_g X10 B 22 26 rfl d18_22 (by decide) ?_))
  show Sh T10 26 #[vr a, vr al, vi sv, vi ix] [.int 1]
  exact Dg.retI X10 hlk B hret rfl (Or.inr (Or.inl rfl)) d18_26 (by rw [hh10]; exact ⟨rfl, N10, rfl⟩) (by decide)

theorem pd29 : parseMethodDescriptor "([C)V" = some ⟨[(.array .char)], none⟩ := by decide +kernel
theorem pd30 : parseMethodDescriptor "(Ljava/lang/String;)Ljava/lang/String;" = some ⟨[(.object "java/lang/String")], some (.object "java/lang/String")⟩ := by decide +kernel
theorem pd31 : parseMethodDescriptor "(Ljava/lang/String;[CII)Z" = some ⟨[(.object "java/lang/String"), (.array .char), .int, .int], some .boolean⟩ := by decide +kernel
theorem ef0_rm0 (m : MethodId) (x0 : Int32) (x1 : Int32) (x2 : Int32) (x3 : Int32) (x4 : Int32) : entryFrame m #[.int x0, .int x1, .int x2, .int x3, .int x4] maxLocals = mkF m 0 #[vi x0, vi x1, vi x2, vi x3, vi x4, .unset, .unset, .unset, .unset, .unset, .unset, .unset] [] := by first | (simp [entryFrame, mkF, argsToLocals, Value.category, maxLocals]; done) | rfl
def Q0 (Z : State) (p0 : Int32) (p1 : Int32) (p2 : Int32) (p3 : Int32) (p4 : Int32) (cs : Int32) (sf : Value) (h0 : Heap) (n0 : Nat) (v : Option Value) (h : Heap) (L : List Loc) : Prop := v = some (.int 1) ∧ Fr n0 L
theorem rm0 (l : Launch) (Z : State) (a0 : Array Value) (hw : ∀ d ∈ tables_1, d.before a0 Z = true) (ws : List Jvm.Cond) (p0 : Int32) (p1 : Int32) (p2 : Int32) (p3 : Int32) (p4 : Int32) (cs : Int32) (sf : Value) (h0 : Heap) (n0 : Nat) (Z0 : n0 ≤ h0.size) (hW : own_W Z h0 n0 cs sf) (hH : Jvm.Lit.constHeld Z "java/lang/String" 7) (hHl : Jvm.Lit.constHeld Z "java/lang/StringLatin1" 151) (hHu : Jvm.Lit.constHeld Z "java/lang/StringUTF16" 295) (hcw : Jvm.Lit.compactW.before a0 Z = true) :
    MetFree l x (head1 (Jvm.Cond.code x code maxLocals ret :: ws) room_1) (fun aa UU => aa = #[.int p0, .int p1, .int p2, .int p3, .int p4] ∧ Z.Warmed39 UU.vm ∧ UU.heap = h0 ∧ IB Z UU.vm []) (fun _ _ _ _ _ => True) (fun _ UU oo UU' => ∃ vv LL, oo = .returned vv ∧ Q0 Z p0 p1 p2 p3 p4 cs sf h0 n0 vv UU'.heap LL ∧ ReturnedEndW UU oo UU' LL 32 3264) := by
  refine MetFree.of_bodySF (plainFor_of_name pn6) hisR ?_
  intro p e s m args below meth c s₁ Bd hml0 hP hK
  obtain ⟨rfl, hZ, hh, hI⟩ := hP
  have hml : c.maxLocals = 12 := hml0
  obtain ⟨hx, hby, hlk, hret, (hown : s.vm.findClass "com/example/wakeline/wakeline/QualifiedFileNameFileNamePinLaw" = _), (X0 : Stand p l e room_1 s m _ below meth c s₁ [] 0 0), e0⟩ := own_bg Bd hh
  have N0 := Fr.nil n0
  have r_p0 := rng32 p0
  have r_p1 := rng32 p1
  have r_p2 := rng32 p2
  have r_p3 := rng32 p3
  have r_p4 := rng32 p4
  show Dw p e below s (Q0 Z p0 p1 p2 p3 p4 cs sf h0 n0) 32 3264 (s₁.setTop (entryFrame m #[.int p0, .int p1, .int p2, .int p3, .int p4] maxLocals))
  refine Dg.st (fun _ kk => castTop (ef0_rm0 m p0 p1 p2 p3 p4) kk) ?_
  have B := And.intro hx hby
  refine w_j X0 B at_0 rfl (Dg.st (fun _ kk => X0.ldcInt hx hown (mvT hZ (tw hw 0 rfl)) (g := (mkF m 2 #[vi p0, vi p1, vi p2, vi p3, vi p4, .unset, .unset, .unset, .unset, .unset, .unset, .unset] [.int p4])) rfl (hb hby at_2) _ kk) (Dg.st (fun _ kk => XS.iand X0.here hx rfl (hb hby at_4) rfl kk) ?_))
  show Sh s₁ 5 #[vi p0, vi p1, vi p2, vi p3, vi p4, .unset, .unset, .unset, .unset, .unset, .unset, .unset] [(.int (p4 &&& (2147483647 : Int32)))]
  generalize hv4 : ((p4 &&& (2147483647 : Int32)) : Int32) = v4
  have q4 : v4.toInt = p4.toInt % 2147483648 := by have qq := c_mask p4 (2147483647 : Int32) 31 (by decide) (by decide); rw [hv4] at qq; exact qq
  have r4 := rng32 v4
  refine w_c X0 B at_5 (Dg.st (fun _ kk => iremM X0 hx rfl (hb hby at_6) rfl (by decide) kk) ?_)
  show Sh s₁ 7 #[vi p0, vi p1, vi p2, vi p3, vi p4, .unset, .unset, .unset, .unset, .unset, .unset, .unset] [(.int (v4 % (5 : Int32)))]
  generalize hv6 : ((v4 % (5 : Int32)) : Int32) = v6
  have q6 : (0 ≤ v4.toInt → v6.toInt = v4.toInt % 5) ∧ (v4.toInt < 0 → v6.toInt = -((-v4.toInt) % 5)) := by have qq := c_irem v4 (5 : Int32) 5 rfl; rw [hv6] at qq; exact qq
  have r6 := rng32 v6
  refine w_s X0 B at_7 #[vi p0, vi p1, vi p2, vi p3, vi p4, vi v6, .unset, .unset, .unset, .unset, .unset, .unset] rfl (w_c X0 B at_9 ?_)
  show Sh s₁ 10 #[vi p0, vi p1, vi p2, vi p3, vi p4, vi v6, .unset, .unset, .unset, .unset, .unset, .unset] [.int 4]
  obtain ⟨T10, h10, k10, X10, e10, E10, A10, st10⟩ := newP X0 hx hZ (tw hw 1 rfl) e0 (g := (mkF m 10 #[vi p0, vi p1, vi p2, vi p3, vi p4, vi v6, .unset, .unset, .unset, .unset, .unset, .unset] [.int 4])) rfl (hb hby at_10) rfl (by decide) (cap := 4) (by decide) (by decide) (by decide) (by decide)
  obtain ⟨b10, g10⟩ : ∃ z, z = h0.size := ⟨_, rfl⟩
  rw [← g10] at A10 st10
  have Wo10 := hW.ext E10
  have gn_b10 : n0 ≤ b10 := Nat.le_trans Z0 (Nat.le_of_eq g10.symm)
  have Z10 : n0 ≤ h10.size := Nat.le_trans Z0 E10.1
  have V_b10 : Arv Z h10 b10 k10 .char (4 : Int32) [.int 0, .int 0, .int 0, .int 0] (.int 0) := (Arv.new A10 (by decide)).pad (pad_rep [] (.int 0) 4)
  refine Dg.st st10 ?_
  refine Dg.st (fun _ kk => XS.dup X10.here hx rfl (hb hby at_12) rfl rfl kk) (w_c X10 B at_13 (w_i X10 B at_14 rfl ?_))
  show Sh T10 15 #[vi p0, vi p1, vi p2, vi p3, vi p4, vi v6, .unset, .unset, .unset, .unset, .unset, .unset] [.int p0, .int 0, .ref b10, .ref b10]
  refine w_cs X10 B hZ hown hml (rmDr l Z a0 hw [] p0  h10 n0 Z10 ) (tw hw 2 rfl) (tw hw 3 rfl) (tw hw 4 rfl) (tw hw 5 rfl) e10 at_15 1 3 (lenOf pd28 rfl) rfl rfl rfl (by decide) ?_
  rintro _ T15 Lc15 X15 ⟨r15, rfl, hr15, Nq15, hh15⟩
  have N15 := Fr.app N0 Nq15
  have Vc_b10_18 := V_b10
  obtain ⟨cl_b10_18, Ar_b10_18, q_b10_18, S_b10_18, N_b10_18, H_b10_18, G_b10_18⟩ := Vc_b10_18
  have hin18 : ¬ ((0 : Int32) < 0 ∨ cl_b10_18.slots.size ≤ ((0 : Int32)).toNatClampNeg) := inb_of S_b10_18 ⟨by decide, by decide⟩
  obtain ⟨T18, h18, X18, e18, W18, st18⟩ := stC X15 hx hZ hh15 Ar_b10_18 (j := (0 : Int32)) hin18 (g := (mkF m 18 #[vi p0, vi p1, vi p2, vi p3, vi p4, vi v6, .unset, .unset, .unset, .unset, .unset, .unset] [.int r15, .int 0, .ref b10, .ref b10])) rfl rfl (hb hby at_18)
  have Wo18 := Wo10.wr W18 gn_b10
  have V_b10_18 := Arv.set Ar_b10_18 q_b10_18 S_b10_18 N_b10_18 H_b10_18 G_b10_18 (fits_nar_char _) W18 0 rfl (Nat.le_of_ble_eq_true rfl)
  have N18 := Fr.snoc X18 N15 gn_b10
  have Z18 : n0 ≤ h18.size := Nat.le_trans Z10 (Keep.of_wr W18).1
  refine Dg.st st18 ?_
  refine Dg.st (fun _ kk => XS.dup X18.here hx rfl (hb hby at_19) rfl rfl kk) (w_c X18 B at_20 (w_i X18 B at_21 rfl ?_))
  show Sh T18 22 #[vi p0, vi p1, vi p2, vi p3, vi p4, vi v6, .unset, .unset, .unset, .unset, .unset, .unset] [.int p1, .int 1, .ref b10, .ref b10]
  refine w_cs X18 B hZ hown hml (rmDr l Z a0 hw [] p1  h18 n0 Z18 ) (tw hw 2 rfl) (tw hw 3 rfl) (tw hw 4 rfl) (tw hw 5 rfl) e18 at_22 1 3 (lenOf pd28 rfl) rfl rfl rfl (by decide) ?_
  rintro _ T22 Lc22 X22 ⟨r22, rfl, hr22, Nq22, hh22⟩
  have N22 := Fr.app N18 Nq22
  have Vc_b10_25 := V_b10_18
  obtain ⟨cl_b10_25, Ar_b10_25, q_b10_25, S_b10_25, N_b10_25, H_b10_25, G_b10_25⟩ := Vc_b10_25
  have hin25 : ¬ ((1 : Int32) < 0 ∨ cl_b10_25.slots.size ≤ ((1 : Int32)).toNatClampNeg) := inb_of S_b10_25 ⟨by decide, by decide⟩
  obtain ⟨T25, h25, X25, e25, W25, st25⟩ := stC X22 hx hZ hh22 Ar_b10_25 (j := (1 : Int32)) hin25 (g := (mkF m 25 #[vi p0, vi p1, vi p2, vi p3, vi p4, vi v6, .unset, .unset, .unset, .unset, .unset, .unset] [.int r22, .int 1, .ref b10, .ref b10])) rfl rfl (hb hby at_25)
  have Wo25 := Wo18.wr W25 gn_b10
  have V_b10_25 := Arv.set Ar_b10_25 q_b10_25 S_b10_25 N_b10_25 H_b10_25 G_b10_25 (fits_nar_char _) W25 1 rfl (Nat.le_of_ble_eq_true rfl)
  have N25 := Fr.snoc X25 N22 gn_b10
  have Z25 : n0 ≤ h25.size := Nat.le_trans Z18 (Keep.of_wr W25).1
  refine Dg.st st25 ?_
  refine Dg.st (fun _ kk => XS.dup X25.here hx rfl (hb hby at_26) rfl rfl kk) (w_c X25 B at_27 (w_i X25 B at_28 rfl ?_))
  show Sh T25 29 #[vi p0, vi p1, vi p2, vi p3, vi p4, vi v6, .unset, .unset, .unset, .unset, .unset, .unset] [.int p2, .int 2, .ref b10, .ref b10]
  refine w_cs X25 B hZ hown hml (rmDr l Z a0 hw [] p2  h25 n0 Z25 ) (tw hw 2 rfl) (tw hw 3 rfl) (tw hw 4 rfl) (tw hw 5 rfl) e25 at_29 1 3 (lenOf pd28 rfl) rfl rfl rfl (by decide) ?_
  rintro _ T29 Lc29 X29 ⟨r29, rfl, hr29, Nq29, hh29⟩
  have N29 := Fr.app N25 Nq29
  have Vc_b10_32 := V_b10_25
  obtain ⟨cl_b10_32, Ar_b10_32, q_b10_32, S_b10_32, N_b10_32, H_b10_32, G_b10_32⟩ := Vc_b10_32
  have hin32 : ¬ ((2 : Int32) < 0 ∨ cl_b10_32.slots.size ≤ ((2 : Int32)).toNatClampNeg) := inb_of S_b10_32 ⟨by decide, by decide⟩
  obtain ⟨T32, h32, X32, e32, W32, st32⟩ := stC X29 hx hZ hh29 Ar_b10_32 (j := (2 : Int32)) hin32 (g := (mkF m 32 #[vi p0, vi p1, vi p2, vi p3, vi p4, vi v6, .unset, .unset, .unset, .unset, .unset, .unset] [.int r29, .int 2, .ref b10, .ref b10])) rfl rfl (hb hby at_32)
  have Wo32 := Wo25.wr W32 gn_b10
  have V_b10_32 := Arv.set Ar_b10_32 q_b10_32 S_b10_32 N_b10_32 H_b10_32 G_b10_32 (fits_nar_char _) W32 2 rfl (Nat.le_of_ble_eq_true rfl)
  have N32 := Fr.snoc X32 N29 gn_b10
  have Z32 : n0 ≤ h32.size := Nat.le_trans Z25 (Keep.of_wr W32).1
  refine Dg.st st32 ?_
  refine Dg.st (fun _ kk => XS.dup X32.here hx rfl (hb hby at_33) rfl rfl kk) (w_c X32 B at_34 (w_i X32 B at_35 rfl ?_))
  show Sh T32 36 #[vi p0, vi p1, vi p2, vi p3, vi p4, vi v6, .unset, .unset, .unset, .unset, .unset, .unset] [.int p3, .int 3, .ref b10, .ref b10]
  refine w_cs X32 B hZ hown hml (rmDr l Z a0 hw [] p3  h32 n0 Z32 ) (tw hw 2 rfl) (tw hw 3 rfl) (tw hw 4 rfl) (tw hw 5 rfl) e32 at_36 1 3 (lenOf pd28 rfl) rfl rfl rfl (by decide) ?_
  rintro _ T36 Lc36 X36 ⟨r36, rfl, hr36, Nq36, hh36⟩
  have N36 := Fr.app N32 Nq36
  have Vc_b10_39 := V_b10_32
  obtain ⟨cl_b10_39, Ar_b10_39, q_b10_39, S_b10_39, N_b10_39, H_b10_39, G_b10_39⟩ := Vc_b10_39
  have hin39 : ¬ ((3 : Int32) < 0 ∨ cl_b10_39.slots.size ≤ ((3 : Int32)).toNatClampNeg) := inb_of S_b10_39 ⟨by decide, by decide⟩
  obtain ⟨T39, h39, X39, e39, W39, st39⟩ := stC X36 hx hZ hh36 Ar_b10_39 (j := (3 : Int32)) hin39 (g := (mkF m 39 #[vi p0, vi p1, vi p2, vi p3, vi p4, vi v6, .unset, .unset, .unset, .unset, .unset, .unset] [.int r36, .int 3, .ref b10, .ref b10])) rfl rfl (hb hby at_39)
  have Wo39 := Wo32.wr W39 gn_b10
  have V_b10_39 := Arv.set Ar_b10_39 q_b10_39 S_b10_39 N_b10_39 H_b10_39 G_b10_39 (fits_nar_char _) W39 3 rfl (Nat.le_of_ble_eq_true rfl)
  have N39 := Fr.snoc X39 N36 gn_b10
  have Z39 : n0 ≤ h39.size := Nat.le_trans Z32 (Keep.of_wr W39).1
  refine Dg.st st39 ?_
  rw [own_c hr15.1 hr15.2, own_c hr22.1 hr22.2, own_c hr29.1 hr29.2, own_c hr36.1 hr36.2] at V_b10_39
  refine w_u X39 B at_40 rfl #[vi p0, vi p1, vi p2, vi p3, vi p4, vi v6, vr b10, .unset, .unset, .unset, .unset, .unset] rfl ?_
  show Sh T39 42 #[vi p0, vi p1, vi p2, vi p3, vi p4, vi v6, vr b10, .unset, .unset, .unset, .unset, .unset] []
  rcases own_c5 (v := v6) (by omega) (by omega) with hk42 | hk42 | hk42 | hk42 | hk42
  · subst hk42
    refine w_j X39 B at_42 rfl ?_
    show Sh T39 44 #[vi p0, vi p1, vi p2, vi p3, vi p4, vi 0, vr b10, .unset, .unset, .unset, .unset, .unset] [.int 0]
    obtain ⟨T44, h44, k44, X44, e44, E44, A44, st44⟩ := newP X39 hx hZ (tw hw 1 rfl) e39 (g := (mkF m 44 #[vi p0, vi p1, vi p2, vi p3, vi p4, vi 0, vr b10, .unset, .unset, .unset, .unset, .unset] [.int 0])) rfl (hb hby at_44) rfl (by decide) (cap := 0) (by decide) (by decide) (by decide) (by decide)
    obtain ⟨b44, g44⟩ : ∃ z, z = h39.size := ⟨_, rfl⟩
    rw [← g44] at A44 st44
    have ne_b10_b44 : b10 ≠ b44 := Nat.ne_of_lt (Nat.lt_of_lt_of_le V_b10_39.lt (Nat.le_of_eq g44.symm))
    have V_b10_44 := V_b10_39.ext E44
    have Wo44 := Wo39.ext E44
    have gn_b44 : n0 ≤ b44 := Nat.le_trans Z39 (Nat.le_of_eq g44.symm)
    have Z44 : n0 ≤ h44.size := Nat.le_trans Z39 E44.1
    have V_b44 : Arv Z h44 b44 k44 .char (0 : Int32) [] (.int 0) := (Arv.new A44 (by decide)).pad (pad_rep [] (.int 0) 0)
    refine Dg.st st44 ?_
    refine w_u X44 B at_46 rfl #[vi p0, vi p1, vi p2, vi p3, vi p4, vi 0, vr b10, vr b44, .unset, .unset, .unset, .unset] rfl (w_j X44 B at_48 rfl (w_t X44 B 50 61 rfl at_50 (flt (by decide)).2.2.2 (by decide) (w_j X44 B at_61 rfl (w_c X44 B at_63 (w_y X44 B 64 75 rfl at_64 (flt (by decide)).2.2.2 (by decide) (w_j X44 B at_75 rfl (w_c X44 B at_77 ?_)))))))
    show Sh T44 78 #[vi p0, vi p1, vi p2, vi p3, vi p4, vi 0, vr b10, vr b44, .unset, .unset, .unset, .unset] [.int 2, .int 0]
    refine w_y X44 B 78 89 rfl at_78 (flt (by decide)).2.2.2 (by decide) (w_j X44 B at_89 rfl (w_c X44 B at_91 (w_y X44 B 92 103 rfl at_92 (flt (by decide)).2.2.2 (by decide) ?_)))
    show Sh T44 103 #[vi p0, vi p1, vi p2, vi p3, vi p4, vi 0, vr b10, vr b44, .unset, .unset, .unset, .unset] []
    obtain ⟨T103, h103, X103, e103, E103, A103, D103, -, st103⟩ := newO X44 hx hZ hown (tw hw 7 rfl) (tw hw 8 rfl) (tw hw 9 rfl) e44 (g := (mkF m 103 #[vi p0, vi p1, vi p2, vi p3, vi p4, vi 0, vr b10, vr b44, .unset, .unset, .unset, .unset] [])) rfl (hb hby at_103) (by decide) (by decide)
    obtain ⟨b103, g103⟩ : ∃ z, z = h44.size := ⟨_, rfl⟩
    rw [← g103] at A103 D103 st103
    have ne_b10_b103 : b10 ≠ b103 := Nat.ne_of_lt (Nat.lt_of_lt_of_le V_b10_44.lt (Nat.le_of_eq g103.symm))
    have ne_b44_b103 : b44 ≠ b103 := Nat.ne_of_lt (Nat.lt_of_lt_of_le V_b44.lt (Nat.le_of_eq g103.symm))
    have V_b10_103 := V_b10_44.ext E103
    have V_b44_103 := V_b44.ext E103
    have Wo103 := Wo44.ext E103
    have gn_b103 : n0 ≤ b103 := Nat.le_trans Z44 (Nat.le_of_eq g103.symm)
    have Z103 : n0 ≤ h103.size := Nat.le_trans Z44 E103.1
    have F_b103_value : Fld Z h103 b103 "java/lang/String" "value" "[B" .null := D103 (Or.inr (tw hw 22 rfl)) (ty := (.array .byte)) (by decide)
    have F_b103_coder : Fld Z h103 b103 "java/lang/String" "coder" "B" (.int 0) := D103 (Or.inr (tw hw 23 rfl)) (ty := .byte) (by decide)
    refine Dg.st st103 ?_
    refine Dg.st (fun _ kk => XS.dup X103.here hx rfl (hb hby at_106) rfl rfl kk) (w_k X103 B at_107 rfl rfl ?_)
    show Sh T103 109 #[vi p0, vi p1, vi p2, vi p3, vi p4, vi 0, vr b10, vr b44, .unset, .unset, .unset, .unset] [.ref b44, .ref b103, .ref b103]
    obtain ⟨_, _, ⟨T109, L109, k109, n109⟩, -, X109, hSw, hgr109, ⟨Lc109, hQ109, l109, y109, z109⟩, st109⟩ := X103.specialBackS hx (y := on3) rfl hown (mvT hZ (tw hw 10 rfl)) (mvT hZ (tw hw 11 rfl)) (mvT hZ (tw hw 12 rfl)) (by decide) (own_backS (W := 1) (rmSc0 l Z a0 hw [] b103 b44 cs sf k44 h103 n0 Z103 Wo103 gn_b103 A103 F_b103_coder F_b103_value hH hcw V_b44_103) hZ hI (tw hw 12 rfl) (tw hw 9 rfl) (by decide) (by decide)) (g := (mkF m 109 #[vi p0, vi p1, vi p2, vi p3, vi p4, vi 0, vr b10, vr b44, .unset, .unset, .unset, .unset] [.ref b44, .ref b103, .ref b103])) rfl (by rw [hml]; rfl) (Steps.refl _) (a := b103) (argsL := [.ref b44]) (rest := [.ref b103]) (lenOf pd29 rfl) rfl (by show 2 * 0 + _ ≤ _; exact Nat.le_of_eq rfl) (hb hby at_109) (fun _ _ => ⟨rfl, e103, (by decide : 3 + 2 ≤ _), (by decide : 8 + 4 ≤ _)⟩)
    dsimp only [Pt.U, Pt.locs, Pt.cells, Pt.slots] at X109 l109 y109 z109 st109 hQ109 hSw hgr109
    subst l109 y109 z109
    obtain ⟨rfl, Nq109, K109, S109⟩ := hQ109
    have N109 := Fr.app N39 Nq109
    have hZ := State.Warmed39.trans (t := s) hZ hSw.1
    have hown := (hSw.1.alike.findClass _ _).trans hown
    refine Dg.tr st109 ?_
    refine Dw.of hSw ?_
    have Wo109 := Wo103.keep K109 (own_k1 gn_b103)
    have V_b10_109 := V_b10_103.keep K109 (ninS ne_b10_b103 nin0)
    have Zz : n0 ≤ T109.heap.size := Nat.le_trans Z103 K109.1
    refine w_u X109 B at_112 rfl #[vi p0, vi p1, vi p2, vi p3, vi p4, vi 0, vr b10, vr b44, vr b103, .unset, .unset, .unset] rfl (w_c X109 B at_114 (w_s X109 B at_115 #[vi p0, vi p1, vi p2, vi p3, vi p4, vi 0, vr b10, vr b44, vr b103, vi (-1), .unset, .unset] rfl (w_j X109 B at_117 rfl (w_t X109 B 119 134 rfl at_119 (flt (by decide)).2.2.2 (by decide) (w_j X109 B at_134 rfl (w_c X109 B at_136 (w_y X109 B 137 152 rfl at_137 (flt (by decide)).2.2.2 (by decide) ?_)))))))
    show Sh T109 152 #[vi p0, vi p1, vi p2, vi p3, vi p4, vi 0, vr b10, vr b44, vr b103, vi (-1), .unset, .unset] []
    refine w_j X109 B at_152 rfl (w_c X109 B at_154 (w_y X109 B 155 170 rfl at_155 (flt (by decide)).2.2.2 (by decide) (w_j X109 B at_170 rfl (w_c X109 B at_172 (w_y X109 B 173 188 rfl at_173 (flt (by decide)).2.2.2 (by decide) (w_j X109 B at_188 rfl (w_c X109 B at_190 ?_)))))))
    show Sh T109 191 #[vi p0, vi p1, vi p2, vi p3, vi p4, vi 0, vr b10, vr b44, vr b103, vi (-1), .unset, .unset] [.int 1, .int (-1)]
    refine Dg.st (fun _ kk => XS.iadd X109.here hx rfl (hb hby at_191) rfl kk) (w_s X109 B at_192 #[vi p0, vi p1, vi p2, vi p3, vi p4, vi 0, vr b10, vr b44, vr b103, vi (-1), vi 0, .unset] rfl (w_k X109 B at_194 rfl rfl ?_))
    show Sh T109 196 #[vi p0, vi p1, vi p2, vi p3, vi p4, vi 0, vr b10, vr b44, vr b103, vi (-1), vi 0, .unset] [.ref b103]
    refine w_cs X109 B hZ hown hml (rmF0 l Z a0 hw [] b103 cs sf  T109.heap n0 Zz Wo109 S109 ) (tw hw 28 rfl) (tw hw 29 rfl) (tw hw 30 rfl) (tw hw 31 rfl) rfl at_196 1 0 (lenOf pd30 rfl) rfl rfl rfl (by decide) ?_
    rintro _ T196 Lc196 X196 ⟨rs196, rfl, Nq196, K196, hq196⟩
    have N196 := Fr.app N109 Nq196
    have SF : own_Str Z T196.heap rs196 0 0 [] [] (True) := by
      rcases hq196 with ⟨g_, sf_⟩
      · exact sf_
    have Wo196 := Wo109.keep K196 own_k0
    have V_b10_196 := V_b10_109.keep K196 nin0
    have Zf : n0 ≤ T196.heap.size := Nat.le_trans Zz K196.1
    refine w_u X196 B at_199 rfl #[vi p0, vi p1, vi p2, vi p3, vi p4, vi 0, vr b10, vr b44, vr b103, vi (-1), vi 0, vr rs196] rfl (w_k X196 B at_201 rfl rfl ?_)
    show Sh T196 203 #[vi p0, vi p1, vi p2, vi p3, vi p4, vi 0, vr b10, vr b44, vr b103, vi (-1), vi 0, vr rs196] [.ref rs196]
    refine w_cv X196 B hZ hown hml (rmLn l Z a0 hw [] rs196 cs sf _ _ _ _ _ T196.heap n0 Zf Wo196 SF (by decide) (by decide)) (tw hw 87 rfl) (tw hw 38 rfl) (tw hw 40 rfl) (tw hw 39 rfl) (tw hw 9 rfl) (tw hw 41 rfl) rfl SF.1 at_203 0 0 rfl (lenOf pd17 rfl) rfl rfl rfl (by decide) ?_
    rintro _ T203 Lc203 X203 ⟨rfl, Nq203, hh203⟩
    have N203 := Fr.app N196 Nq203
    refine w_j X203 B at_206 rfl (w_j X203 B at_208 rfl (Dg.st (fun _ kk => XS.isub X203.here hx rfl (hb hby at_210) rfl kk) (w_y X203 B 211 216 rfl at_211 (teq (by decide)).1 (by decide) (w_k X203 B at_216 rfl rfl (w_k X203 B at_218 rfl rfl (w_j X203 B at_220 rfl (w_c X203 B at_222 ?_)))))))
    show Sh T203 223 #[vi p0, vi p1, vi p2, vi p3, vi p4, vi 0, vr b10, vr b44, vr b103, vi (-1), vi 0, vr rs196] [.int 0, .int 0, .ref b10, .ref rs196]
    refine w_cs X203 B hZ hown hml (rmAt0 l Z a0 hw [] rs196 b10 (0 : Int32) (0 : Int32) cs sf _ _ _ _ _ T196.heap n0 Zf Wo196 SF (by decide) (by decide) (by decide)) (tw hw 88 rfl) (tw hw 89 rfl) (tw hw 4 rfl) (tw hw 90 rfl) hh203 at_223 4 0 (lenOf pd31 rfl) rfl rfl rfl (by decide) ?_
    rintro _ T223 Lc223 X223 ⟨rfl, Nq223, hh223⟩
    have N223 := Fr.app N203 Nq223
    refine w_f X223 B at_226 (feq (by decide)).1 (w_k X223 B at_229 rfl rfl (w_k X223 B at_231 rfl rfl (w_j X223 B at_233 rfl (w_c X223 B at_235 ?_))))
    show Sh T223 236 #[vi p0, vi p1, vi p2, vi p3, vi p4, vi 0, vr b10, vr b44, vr b103, vi (-1), vi 0, vr rs196] [.int 1, .int 0, .ref b10, .ref rs196]
    refine w_cs X223 B hZ hown hml (rmAt0 l Z a0 hw [] rs196 b10 (0 : Int32) (1 : Int32) cs sf _ _ _ _ _ T196.heap n0 Zf Wo196 SF (by decide) (by decide) (by decide)) (tw hw 88 rfl) (tw hw 89 rfl) (tw hw 4 rfl) (tw hw 90 rfl) hh223 at_236 4 0 (lenOf pd31 rfl) rfl rfl rfl (by decide) ?_
    rintro _ T236 Lc236 X236 ⟨rfl, Nq236, hh236⟩
    have N236 := Fr.app N223 Nq236
    refine w_f X236 B at_239 (feq (by decide)).1 (w_k X236 B at_242 rfl rfl (w_k X236 B at_244 rfl rfl (w_j X236 B at_246 rfl (w_c X236 B at_248 ?_))))
    show Sh T236 249 #[vi p0, vi p1, vi p2, vi p3, vi p4, vi 0, vr b10, vr b44, vr b103, vi (-1), vi 0, vr rs196] [.int 2, .int 0, .ref b10, .ref rs196]
    refine w_cs X236 B hZ hown hml (rmAt0 l Z a0 hw [] rs196 b10 (0 : Int32) (2 : Int32) cs sf _ _ _ _ _ T196.heap n0 Zf Wo196 SF (by decide) (by decide) (by decide)) (tw hw 88 rfl) (tw hw 89 rfl) (tw hw 4 rfl) (tw hw 90 rfl) hh236 at_249 4 0 (lenOf pd31 rfl) rfl rfl rfl (by decide) ?_
    rintro _ T249 Lc249 X249 ⟨rfl, Nq249, hh249⟩
    have N249 := Fr.app N236 Nq249
    refine w_f X249 B at_252 (feq (by decide)).1 (w_k X249 B at_255 rfl rfl (w_k X249 B at_257 rfl rfl (w_j X249 B at_259 rfl (w_c X249 B at_261 ?_))))
    show Sh T249 262 #[vi p0, vi p1, vi p2, vi p3, vi p4, vi 0, vr b10, vr b44, vr b103, vi (-1), vi 0, vr rs196] [.int 3, .int 0, .ref b10, .ref rs196]
    refine w_cs X249 B hZ hown hml (rmAt0 l Z a0 hw [] rs196 b10 (0 : Int32) (3 : Int32) cs sf _ _ _ _ _ T196.heap n0 Zf Wo196 SF (by decide) (by decide) (by decide)) (tw hw 88 rfl) (tw hw 89 rfl) (tw hw 4 rfl) (tw hw 90 rfl) hh249 at_262 4 0 (lenOf pd31 rfl) rfl rfl rfl (by decide) ?_
    rintro _ T262 Lc262 X262 ⟨rfl, Nq262, hh262⟩
    have N262 := Fr.app N249 Nq262
    refine w_f X262 B at_265 (feq (by decide)).1 (w_c X262 B at_268 (w_g X262 B 269 273 rfl at_269 (by decide) ?_))
    show Sh T262 273 #[vi p0, vi p1, vi p2, vi p3, vi p4, vi 0, vr b10, vr b44, vr b103, vi (-1), vi 0, vr rs196] [.int 1]
    exact Dg.retI X262 hlk B hret rfl (Or.inr (Or.inl rfl)) at_273 (by rw [hh262]; exact ⟨⟨rfl, N262⟩, K196.1⟩) (by decide)
  · subst hk42
    refine w_j X39 B at_42 rfl ?_
    show Sh T39 44 #[vi p0, vi p1, vi p2, vi p3, vi p4, vi 1, vr b10, .unset, .unset, .unset, .unset, .unset] [.int 1]
    obtain ⟨T44, h44, k44, X44, e44, E44, A44, st44⟩ := newP X39 hx hZ (tw hw 1 rfl) e39 (g := (mkF m 44 #[vi p0, vi p1, vi p2, vi p3, vi p4, vi 1, vr b10, .unset, .unset, .unset, .unset, .unset] [.int 1])) rfl (hb hby at_44) rfl (by decide) (cap := 1) (by decide) (by decide) (by decide) (by decide)
    obtain ⟨b44, g44⟩ : ∃ z, z = h39.size := ⟨_, rfl⟩
    rw [← g44] at A44 st44
    have ne_b10_b44 : b10 ≠ b44 := Nat.ne_of_lt (Nat.lt_of_lt_of_le V_b10_39.lt (Nat.le_of_eq g44.symm))
    have V_b10_44 := V_b10_39.ext E44
    have Wo44 := Wo39.ext E44
    have gn_b44 : n0 ≤ b44 := Nat.le_trans Z39 (Nat.le_of_eq g44.symm)
    have Z44 : n0 ≤ h44.size := Nat.le_trans Z39 E44.1
    have V_b44 : Arv Z h44 b44 k44 .char (1 : Int32) [.int 0] (.int 0) := (Arv.new A44 (by decide)).pad (pad_rep [] (.int 0) 1)
    refine Dg.st st44 ?_
    refine w_u X44 B at_46 rfl #[vi p0, vi p1, vi p2, vi p3, vi p4, vi 1, vr b10, vr b44, .unset, .unset, .unset, .unset] rfl (w_j X44 B at_48 rfl (w_f X44 B at_50 (tlt (by decide)).2.2.2 (w_k X44 B at_53 rfl rfl (w_c X44 B at_55 (w_k X44 B at_56 rfl rfl (w_c X44 B at_58 (w_ca X44 B hZ e44 V_b10_44 (by decide) (v := (.int r15)) rfl at_59 ?_)))))))
    show Sh T44 60 #[vi p0, vi p1, vi p2, vi p3, vi p4, vi 1, vr b10, vr b44, .unset, .unset, .unset, .unset] [.int r15, .int 0, .ref b44]
    have Vc_b44_60 := V_b44
    obtain ⟨cl_b44_60, Ar_b44_60, q_b44_60, S_b44_60, N_b44_60, H_b44_60, G_b44_60⟩ := Vc_b44_60
    have hin60 : ¬ ((0 : Int32) < 0 ∨ cl_b44_60.slots.size ≤ ((0 : Int32)).toNatClampNeg) := inb_of S_b44_60 ⟨by decide, by decide⟩
    obtain ⟨T60, h60, X60, e60, W60, st60⟩ := stC X44 hx hZ e44 Ar_b44_60 (j := (0 : Int32)) hin60 (g := (mkF m 60 #[vi p0, vi p1, vi p2, vi p3, vi p4, vi 1, vr b10, vr b44, .unset, .unset, .unset, .unset] [.int r15, .int 0, .ref b44])) rfl rfl (hb hby at_60)
    have Wo60 := Wo44.wr W60 gn_b44
    have V_b10_60 := V_b10_44.other W60 ne_b10_b44
    have V_b44_60 := Arv.set Ar_b44_60 q_b44_60 S_b44_60 N_b44_60 H_b44_60 G_b44_60 (fits_nar_char _) W60 0 rfl (Nat.le_of_ble_eq_true rfl)
    have N60 := Fr.snoc X60 N39 gn_b44
    have Z60 : n0 ≤ h60.size := Nat.le_trans Z44 (Keep.of_wr W60).1
    refine Dg.st st60 ?_
    refine w_j X60 B at_61 rfl (w_c X60 B at_63 (w_y X60 B 64 75 rfl at_64 (flt (by decide)).2.2.2 (by decide) (w_j X60 B at_75 rfl (w_c X60 B at_77 (w_y X60 B 78 89 rfl at_78 (flt (by decide)).2.2.2 (by decide) (w_j X60 B at_89 rfl (w_c X60 B at_91 ?_)))))))
    show Sh T60 92 #[vi p0, vi p1, vi p2, vi p3, vi p4, vi 1, vr b10, vr b44, .unset, .unset, .unset, .unset] [.int 3, .int 1]
    refine w_y X60 B 92 103 rfl at_92 (flt (by decide)).2.2.2 (by decide) ?_
    show Sh T60 103 #[vi p0, vi p1, vi p2, vi p3, vi p4, vi 1, vr b10, vr b44, .unset, .unset, .unset, .unset] []
    obtain ⟨T103, h103, X103, e103, E103, A103, D103, -, st103⟩ := newO X60 hx hZ hown (tw hw 7 rfl) (tw hw 8 rfl) (tw hw 9 rfl) e60 (g := (mkF m 103 #[vi p0, vi p1, vi p2, vi p3, vi p4, vi 1, vr b10, vr b44, .unset, .unset, .unset, .unset] [])) rfl (hb hby at_103) (by decide) (by decide)
    obtain ⟨b103, g103⟩ : ∃ z, z = h60.size := ⟨_, rfl⟩
    rw [← g103] at A103 D103 st103
    have ne_b10_b103 : b10 ≠ b103 := Nat.ne_of_lt (Nat.lt_of_lt_of_le V_b10_60.lt (Nat.le_of_eq g103.symm))
    have ne_b44_b103 : b44 ≠ b103 := Nat.ne_of_lt (Nat.lt_of_lt_of_le V_b44_60.lt (Nat.le_of_eq g103.symm))
    have V_b10_103 := V_b10_60.ext E103
    have V_b44_103 := V_b44_60.ext E103
    have Wo103 := Wo60.ext E103
    have gn_b103 : n0 ≤ b103 := Nat.le_trans Z60 (Nat.le_of_eq g103.symm)
    have Z103 : n0 ≤ h103.size := Nat.le_trans Z60 E103.1
    have F_b103_value : Fld Z h103 b103 "java/lang/String" "value" "[B" .null := D103 (Or.inr (tw hw 22 rfl)) (ty := (.array .byte)) (by decide)
    have F_b103_coder : Fld Z h103 b103 "java/lang/String" "coder" "B" (.int 0) := D103 (Or.inr (tw hw 23 rfl)) (ty := .byte) (by decide)
    refine Dg.st st103 ?_
    refine Dg.st (fun _ kk => XS.dup X103.here hx rfl (hb hby at_106) rfl rfl kk) (w_k X103 B at_107 rfl rfl ?_)
    show Sh T103 109 #[vi p0, vi p1, vi p2, vi p3, vi p4, vi 1, vr b10, vr b44, .unset, .unset, .unset, .unset] [.ref b44, .ref b103, .ref b103]
    rw [own_c hr15.1 hr15.2] at V_b44_103
    refine w_ci X103 B hZ hown hml (rmSc1 l Z a0 hw [] b103 b44 cs sf k44 r15 h103 n0 Z103 Wo103 gn_b103 A103 F_b103_coder F_b103_value V_b44_103 (Ne.symm ne_b44_b103) hr15) (tw hw 10 rfl) (tw hw 11 rfl) (tw hw 9 rfl) (tw hw 12 rfl) e103 at_109 1 1 rfl (lenOf pd29 rfl) rfl rfl rfl rfl (by decide) ?_
    rintro _ T109 Lc109 X109 ⟨rfl, Nq109, K109, S109⟩
    have N109 := Fr.app N60 Nq109
    have Wo109 := Wo103.keep K109 (own_k1 gn_b103)
    have V_b10_109 := V_b10_103.keep K109 (ninS ne_b10_b103 nin0)
    have Zz : n0 ≤ T109.heap.size := Nat.le_trans Z103 K109.1
    refine w_u X109 B at_112 rfl #[vi p0, vi p1, vi p2, vi p3, vi p4, vi 1, vr b10, vr b44, vr b103, .unset, .unset, .unset] rfl (w_c X109 B at_114 (w_s X109 B at_115 #[vi p0, vi p1, vi p2, vi p3, vi p4, vi 1, vr b10, vr b44, vr b103, vi (-1), .unset, .unset] rfl ?_))
    show Sh T109 117 #[vi p0, vi p1, vi p2, vi p3, vi p4, vi 1, vr b10, vr b44, vr b103, vi (-1), .unset, .unset] []
    have J134 : ∀ (j134_9 : Int32), ((j134_9 = (0 : Int32) ∧ (r15 = 47 ∧ True)) ∨ (j134_9 = (-1 : Int32) ∧ (¬ r15 = 47 ∧ True))) → Dw p e below s (Q0 Z p0 p1 p2 p3 p4 cs sf h0 n0) 32 3264 (T109.setTop (mkF m 134 #[vi p0, vi p1, vi p2, vi p3, vi p4, vi 1, vr b10, vr b44, vr b103, vi j134_9, .unset, .unset] [])) := by
      intro j134_9 hj134
      refine w_j X109 B at_134 rfl (w_c X109 B at_136 (w_y X109 B 137 152 rfl at_137 (flt (by decide)).2.2.2 (by decide) (w_j X109 B at_152 rfl (w_c X109 B at_154 (w_y X109 B 155 170 rfl at_155 (flt (by decide)).2.2.2 (by decide) (w_j X109 B at_170 rfl (w_c X109 B at_172 ?_)))))))
      show Sh T109 173 #[vi p0, vi p1, vi p2, vi p3, vi p4, vi 1, vr b10, vr b44, vr b103, vi j134_9, .unset, .unset] [.int 3, .int 1]
      refine w_y X109 B 173 188 rfl at_173 (flt (by decide)).2.2.2 (by decide) ?_
      show Sh T109 188 #[vi p0, vi p1, vi p2, vi p3, vi p4, vi 1, vr b10, vr b44, vr b103, vi j134_9, .unset, .unset] []
      rcases hj134 with ⟨rfl, gl⟩ | ⟨rfl, gl⟩
      · refine w_j X109 B at_188 rfl (w_c X109 B at_190 (Dg.st (fun _ kk => XS.iadd X109.here hx rfl (hb hby at_191) rfl kk) (w_s X109 B at_192 #[vi p0, vi p1, vi p2, vi p3, vi p4, vi 1, vr b10, vr b44, vr b103, vi 0, vi 1, .unset] rfl (w_k X109 B at_194 rfl rfl ?_))))
        show Sh T109 196 #[vi p0, vi p1, vi p2, vi p3, vi p4, vi 1, vr b10, vr b44, vr b103, vi 0, vi 1, .unset] [.ref b103]
        obtain ⟨_, _, ⟨T196, L196, k196, n196⟩, -, X196, hSw, hgr196, ⟨Lc196, hQ196, l196, y196, z196⟩, st196⟩ := Jvm.RoadKit.callSS X109 hx (y := on0) hown (mvT hZ (tw hw 28 rfl)) (mvT hZ (tw hw 29 rfl)) (mvT hZ (tw hw 30 rfl)) (mvT hZ (tw hw 31 rfl)) (by decide) (own_backS (W := 0) (rmF1 l Z a0 hw [] b103 cs sf r15 T109.heap n0 Zz Wo109 S109 hr15 hHl hHu hcw) hZ hI (tw hw 31 rfl) (tw hw 30 rfl) (by decide) (by decide)) (g := (mkF m 196 #[vi p0, vi p1, vi p2, vi p3, vi p4, vi 1, vr b10, vr b44, vr b103, vi 0, vi 1, .unset] [.ref b103])) rfl (by rw [hml]; rfl) (argsL := [.ref b103]) (rest := []) (lenOf pd30 rfl) rfl (by show 2 * 0 + _ ≤ _; exact Nat.le_of_eq rfl) (hb hby at_196) (fun _ _ => ⟨rfl, rfl, (by decide : 5 + 3 ≤ _), (by decide : 12 + 16 ≤ _)⟩)
        dsimp only [Pt.U, Pt.locs, Pt.cells, Pt.slots] at X196 l196 y196 z196 st196 hQ196 hSw hgr196
        subst l196 y196 z196
        obtain ⟨rs196, rfl, Nq196, K196, hq196⟩ := hQ196
        have N196 := Fr.app N109 Nq196
        have hZ := State.Warmed39.trans (t := s) hZ hSw.1
        have hown := (hSw.1.alike.findClass _ _).trans hown
        refine Dg.tr st196 ?_
        refine Dw.of hSw ?_
        have SF : own_Str Z T196.heap rs196 0 0 [] [] (True) := by
          rcases hq196 with ⟨g_, sf_⟩ | ⟨g_, sf_⟩
          · exact sf_
          · exact absurd gl.1 g_.1
        have Wo196 := Wo109.keep K196 own_k0
        have V_b10_196 := V_b10_109.keep K196 nin0
        have Zf : n0 ≤ T196.heap.size := Nat.le_trans Zz K196.1
        refine w_u X196 B at_199 rfl #[vi p0, vi p1, vi p2, vi p3, vi p4, vi 1, vr b10, vr b44, vr b103, vi 0, vi 1, vr rs196] rfl (w_k X196 B at_201 rfl rfl ?_)
        show Sh T196 203 #[vi p0, vi p1, vi p2, vi p3, vi p4, vi 1, vr b10, vr b44, vr b103, vi 0, vi 1, vr rs196] [.ref rs196]
        refine w_cv X196 B hZ hown hml (rmLn l Z a0 hw [] rs196 cs sf _ _ _ _ _ T196.heap n0 Zf Wo196 SF (by decide) (by decide)) (tw hw 87 rfl) (tw hw 38 rfl) (tw hw 40 rfl) (tw hw 39 rfl) (tw hw 9 rfl) (tw hw 41 rfl) rfl SF.1 at_203 0 0 rfl (lenOf pd17 rfl) rfl rfl rfl (by decide) ?_
        rintro _ T203 Lc203 X203 ⟨rfl, Nq203, hh203⟩
        have N203 := Fr.app N196 Nq203
        refine w_j X203 B at_206 rfl (w_j X203 B at_208 rfl (Dg.st (fun _ kk => XS.isub X203.here hx rfl (hb hby at_210) rfl kk) (w_y X203 B 211 216 rfl at_211 (teq (by decide)).1 (by decide) (w_k X203 B at_216 rfl rfl (w_k X203 B at_218 rfl rfl (w_j X203 B at_220 rfl (w_c X203 B at_222 ?_)))))))
        show Sh T203 223 #[vi p0, vi p1, vi p2, vi p3, vi p4, vi 1, vr b10, vr b44, vr b103, vi 0, vi 1, vr rs196] [.int 0, .int 1, .ref b10, .ref rs196]
        refine w_cs X203 B hZ hown hml (rmAt0 l Z a0 hw [] rs196 b10 (1 : Int32) (0 : Int32) cs sf _ _ _ _ _ T196.heap n0 Zf Wo196 SF (by decide) (by decide) (by decide)) (tw hw 88 rfl) (tw hw 89 rfl) (tw hw 4 rfl) (tw hw 90 rfl) hh203 at_223 4 0 (lenOf pd31 rfl) rfl rfl rfl (by decide) ?_
        rintro _ T223 Lc223 X223 ⟨rfl, Nq223, hh223⟩
        have N223 := Fr.app N203 Nq223
        refine w_f X223 B at_226 (feq (by decide)).1 (w_k X223 B at_229 rfl rfl (w_k X223 B at_231 rfl rfl (w_j X223 B at_233 rfl (w_c X223 B at_235 ?_))))
        show Sh T223 236 #[vi p0, vi p1, vi p2, vi p3, vi p4, vi 1, vr b10, vr b44, vr b103, vi 0, vi 1, vr rs196] [.int 1, .int 1, .ref b10, .ref rs196]
        refine w_cs X223 B hZ hown hml (rmAt0 l Z a0 hw [] rs196 b10 (1 : Int32) (1 : Int32) cs sf _ _ _ _ _ T196.heap n0 Zf Wo196 SF (by decide) (by decide) (by decide)) (tw hw 88 rfl) (tw hw 89 rfl) (tw hw 4 rfl) (tw hw 90 rfl) hh223 at_236 4 0 (lenOf pd31 rfl) rfl rfl rfl (by decide) ?_
        rintro _ T236 Lc236 X236 ⟨rfl, Nq236, hh236⟩
        have N236 := Fr.app N223 Nq236
        refine w_f X236 B at_239 (feq (by decide)).1 (w_k X236 B at_242 rfl rfl (w_k X236 B at_244 rfl rfl (w_j X236 B at_246 rfl (w_c X236 B at_248 ?_))))
        show Sh T236 249 #[vi p0, vi p1, vi p2, vi p3, vi p4, vi 1, vr b10, vr b44, vr b103, vi 0, vi 1, vr rs196] [.int 2, .int 1, .ref b10, .ref rs196]
        refine w_cs X236 B hZ hown hml (rmAt0 l Z a0 hw [] rs196 b10 (1 : Int32) (2 : Int32) cs sf _ _ _ _ _ T196.heap n0 Zf Wo196 SF (by decide) (by decide) (by decide)) (tw hw 88 rfl) (tw hw 89 rfl) (tw hw 4 rfl) (tw hw 90 rfl) hh236 at_249 4 0 (lenOf pd31 rfl) rfl rfl rfl (by decide) ?_
        rintro _ T249 Lc249 X249 ⟨rfl, Nq249, hh249⟩
        have N249 := Fr.app N236 Nq249
        refine w_f X249 B at_252 (feq (by decide)).1 (w_k X249 B at_255 rfl rfl (w_k X249 B at_257 rfl rfl (w_j X249 B at_259 rfl (w_c X249 B at_261 ?_))))
        show Sh T249 262 #[vi p0, vi p1, vi p2, vi p3, vi p4, vi 1, vr b10, vr b44, vr b103, vi 0, vi 1, vr rs196] [.int 3, .int 1, .ref b10, .ref rs196]
        refine w_cs X249 B hZ hown hml (rmAt0 l Z a0 hw [] rs196 b10 (1 : Int32) (3 : Int32) cs sf _ _ _ _ _ T196.heap n0 Zf Wo196 SF (by decide) (by decide) (by decide)) (tw hw 88 rfl) (tw hw 89 rfl) (tw hw 4 rfl) (tw hw 90 rfl) hh249 at_262 4 0 (lenOf pd31 rfl) rfl rfl rfl (by decide) ?_
        rintro _ T262 Lc262 X262 ⟨rfl, Nq262, hh262⟩
        have N262 := Fr.app N249 Nq262
        refine w_f X262 B at_265 (feq (by decide)).1 (w_c X262 B at_268 (w_g X262 B 269 273 rfl at_269 (by decide) ?_))
        show Sh T262 273 #[vi p0, vi p1, vi p2, vi p3, vi p4, vi 1, vr b10, vr b44, vr b103, vi 0, vi 1, vr rs196] [.int 1]
        exact Dg.retI X262 hlk B hret rfl (Or.inr (Or.inl rfl)) at_273 (by rw [hh262]; exact ⟨⟨rfl, N262⟩, Nat.le_refl _⟩) (by decide)
      · refine w_j X109 B at_188 rfl (w_c X109 B at_190 (Dg.st (fun _ kk => XS.iadd X109.here hx rfl (hb hby at_191) rfl kk) (w_s X109 B at_192 #[vi p0, vi p1, vi p2, vi p3, vi p4, vi 1, vr b10, vr b44, vr b103, vi (-1), vi 0, .unset] rfl (w_k X109 B at_194 rfl rfl ?_))))
        show Sh T109 196 #[vi p0, vi p1, vi p2, vi p3, vi p4, vi 1, vr b10, vr b44, vr b103, vi (-1), vi 0, .unset] [.ref b103]
        obtain ⟨_, _, ⟨T196, L196, k196, n196⟩, -, X196, hSw, hgr196, ⟨Lc196, hQ196, l196, y196, z196⟩, st196⟩ := Jvm.RoadKit.callSS X109 hx (y := on0) hown (mvT hZ (tw hw 28 rfl)) (mvT hZ (tw hw 29 rfl)) (mvT hZ (tw hw 30 rfl)) (mvT hZ (tw hw 31 rfl)) (by decide) (own_backS (W := 0) (rmF1 l Z a0 hw [] b103 cs sf r15 T109.heap n0 Zz Wo109 S109 hr15 hHl hHu hcw) hZ hI (tw hw 31 rfl) (tw hw 30 rfl) (by decide) (by decide)) (g := (mkF m 196 #[vi p0, vi p1, vi p2, vi p3, vi p4, vi 1, vr b10, vr b44, vr b103, vi (-1), vi 0, .unset] [.ref b103])) rfl (by rw [hml]; rfl) (argsL := [.ref b103]) (rest := []) (lenOf pd30 rfl) rfl (by show 2 * 0 + _ ≤ _; exact Nat.le_of_eq rfl) (hb hby at_196) (fun _ _ => ⟨rfl, rfl, (by decide : 5 + 3 ≤ _), (by decide : 12 + 16 ≤ _)⟩)
        dsimp only [Pt.U, Pt.locs, Pt.cells, Pt.slots] at X196 l196 y196 z196 st196 hQ196 hSw hgr196
        subst l196 y196 z196
        obtain ⟨rs196, rfl, Nq196, K196, hq196⟩ := hQ196
        have N196 := Fr.app N109 Nq196
        have hZ := State.Warmed39.trans (t := s) hZ hSw.1
        have hown := (hSw.1.alike.findClass _ _).trans hown
        refine Dg.tr st196 ?_
        refine Dw.of hSw ?_
        have SF : own_Str Z T196.heap rs196 1 2 [.int (own_b r15)] [.int (own_lo r15), .int (own_hi r15)] (r15.toInt ≤ 255 ∧ True) := by
          rcases hq196 with ⟨g_, sf_⟩ | ⟨g_, sf_⟩
          · exact absurd g_.1 gl.1
          · exact sf_
        have Wo196 := Wo109.keep K196 own_k0
        have V_b10_196 := V_b10_109.keep K196 nin0
        have Zf : n0 ≤ T196.heap.size := Nat.le_trans Zz K196.1
        refine w_u X196 B at_199 rfl #[vi p0, vi p1, vi p2, vi p3, vi p4, vi 1, vr b10, vr b44, vr b103, vi (-1), vi 0, vr rs196] rfl (w_k X196 B at_201 rfl rfl ?_)
        show Sh T196 203 #[vi p0, vi p1, vi p2, vi p3, vi p4, vi 1, vr b10, vr b44, vr b103, vi (-1), vi 0, vr rs196] [.ref rs196]
        refine w_cv X196 B hZ hown hml (rmLn l Z a0 hw [] rs196 cs sf _ _ _ _ _ T196.heap n0 Zf Wo196 SF (by decide) (by decide)) (tw hw 87 rfl) (tw hw 38 rfl) (tw hw 40 rfl) (tw hw 39 rfl) (tw hw 9 rfl) (tw hw 41 rfl) rfl SF.1 at_203 0 0 rfl (lenOf pd17 rfl) rfl rfl rfl (by decide) ?_
        rintro _ T203 Lc203 X203 ⟨rfl, Nq203, hh203⟩
        have N203 := Fr.app N196 Nq203
        refine w_j X203 B at_206 rfl (w_j X203 B at_208 rfl (Dg.st (fun _ kk => XS.isub X203.here hx rfl (hb hby at_210) rfl kk) (w_y X203 B 211 216 rfl at_211 (teq (by decide)).1 (by decide) (w_k X203 B at_216 rfl rfl (w_k X203 B at_218 rfl rfl (w_j X203 B at_220 rfl (w_c X203 B at_222 ?_)))))))
        show Sh T203 223 #[vi p0, vi p1, vi p2, vi p3, vi p4, vi 1, vr b10, vr b44, vr b103, vi (-1), vi 0, vr rs196] [.int 0, .int 0, .ref b10, .ref rs196]
        refine w_cs X203 B hZ hown hml (rmAt1 l Z a0 hw [] rs196 b10 (0 : Int32) (0 : Int32) cs sf _ _ _ _ _ r15 _ _ T196.heap n0 Zf Wo196 SF (by decide) (by decide) (by decide) (by decide) rfl (fun q => q.1) (by decide) (by decide) rfl rfl (by decide) hr15 V_b10_196 (by decide) rfl) (tw hw 88 rfl) (tw hw 89 rfl) (tw hw 4 rfl) (tw hw 90 rfl) hh203 at_223 4 0 (lenOf pd31 rfl) rfl rfl rfl (by decide) ?_
        rintro _ T223 Lc223 X223 ⟨rfl, Nq223, hh223⟩
        have N223 := Fr.app N203 Nq223
        refine w_f X223 B at_226 (feq (by decide)).1 (w_k X223 B at_229 rfl rfl (w_k X223 B at_231 rfl rfl (w_j X223 B at_233 rfl (w_c X223 B at_235 ?_))))
        show Sh T223 236 #[vi p0, vi p1, vi p2, vi p3, vi p4, vi 1, vr b10, vr b44, vr b103, vi (-1), vi 0, vr rs196] [.int 1, .int 0, .ref b10, .ref rs196]
        refine w_cs X223 B hZ hown hml (rmAt0 l Z a0 hw [] rs196 b10 (0 : Int32) (1 : Int32) cs sf _ _ _ _ _ T196.heap n0 Zf Wo196 SF (by decide) (by decide) (by decide)) (tw hw 88 rfl) (tw hw 89 rfl) (tw hw 4 rfl) (tw hw 90 rfl) hh223 at_236 4 0 (lenOf pd31 rfl) rfl rfl rfl (by decide) ?_
        rintro _ T236 Lc236 X236 ⟨rfl, Nq236, hh236⟩
        have N236 := Fr.app N223 Nq236
        refine w_f X236 B at_239 (feq (by decide)).1 (w_k X236 B at_242 rfl rfl (w_k X236 B at_244 rfl rfl (w_j X236 B at_246 rfl (w_c X236 B at_248 ?_))))
        show Sh T236 249 #[vi p0, vi p1, vi p2, vi p3, vi p4, vi 1, vr b10, vr b44, vr b103, vi (-1), vi 0, vr rs196] [.int 2, .int 0, .ref b10, .ref rs196]
        refine w_cs X236 B hZ hown hml (rmAt0 l Z a0 hw [] rs196 b10 (0 : Int32) (2 : Int32) cs sf _ _ _ _ _ T196.heap n0 Zf Wo196 SF (by decide) (by decide) (by decide)) (tw hw 88 rfl) (tw hw 89 rfl) (tw hw 4 rfl) (tw hw 90 rfl) hh236 at_249 4 0 (lenOf pd31 rfl) rfl rfl rfl (by decide) ?_
        rintro _ T249 Lc249 X249 ⟨rfl, Nq249, hh249⟩
        have N249 := Fr.app N236 Nq249
        refine w_f X249 B at_252 (feq (by decide)).1 (w_k X249 B at_255 rfl rfl (w_k X249 B at_257 rfl rfl (w_j X249 B at_259 rfl (w_c X249 B at_261 ?_))))
        show Sh T249 262 #[vi p0, vi p1, vi p2, vi p3, vi p4, vi 1, vr b10, vr b44, vr b103, vi (-1), vi 0, vr rs196] [.int 3, .int 0, .ref b10, .ref rs196]
        refine w_cs X249 B hZ hown hml (rmAt0 l Z a0 hw [] rs196 b10 (0 : Int32) (3 : Int32) cs sf _ _ _ _ _ T196.heap n0 Zf Wo196 SF (by decide) (by decide) (by decide)) (tw hw 88 rfl) (tw hw 89 rfl) (tw hw 4 rfl) (tw hw 90 rfl) hh249 at_262 4 0 (lenOf pd31 rfl) rfl rfl rfl (by decide) ?_
        rintro _ T262 Lc262 X262 ⟨rfl, Nq262, hh262⟩
        have N262 := Fr.app N249 Nq262
        refine w_f X262 B at_265 (feq (by decide)).1 (w_c X262 B at_268 (w_g X262 B 269 273 rfl at_269 (by decide) ?_))
        show Sh T262 273 #[vi p0, vi p1, vi p2, vi p3, vi p4, vi 1, vr b10, vr b44, vr b103, vi (-1), vi 0, vr rs196] [.int 1]
        exact Dg.retI X262 hlk B hret rfl (Or.inr (Or.inl rfl)) at_273 (by rw [hh262]; exact ⟨⟨rfl, N262⟩, Nat.le_refl _⟩) (by decide)
    refine w_j X109 B at_117 rfl (w_f X109 B at_119 (tlt (by decide)).2.2.2 (w_k X109 B at_122 rfl rfl (w_c X109 B at_124 (w_ca X109 B hZ rfl V_b10_109 (by decide) (v := (.int r15)) rfl at_125 (Dg.st (fun _ kk => XS.bipush X109.here hx rfl (hb hby at_126) kk) ?_)))))
    show Sh T109 128 #[vi p0, vi p1, vi p2, vi p3, vi p4, vi 1, vr b10, vr b44, vr b103, vi (-1), .unset, .unset] [.int 47, .int r15]
    by_cases hc128 : r15 = (47 : Int32)
    · refine w_n X109 B at_128 (teq hc128).2 (w_c X109 B at_131 (w_s X109 B at_132 #[vi p0, vi p1, vi p2, vi p3, vi p4, vi 1, vr b10, vr b44, vr b103, vi 0, .unset, .unset] rfl ?_))
      show Sh T109 134 #[vi p0, vi p1, vi p2, vi p3, vi p4, vi 1, vr b10, vr b44, vr b103, vi 0, .unset, .unset] []
      exact J134 (0 : Int32) (Or.inl ⟨rfl, hc128, trivial⟩)
    · refine w_y X109 B 128 134 rfl at_128 (feq hc128).2 (by decide) ?_
      show Sh T109 134 #[vi p0, vi p1, vi p2, vi p3, vi p4, vi 1, vr b10, vr b44, vr b103, vi (-1), .unset, .unset] []
      exact J134 (-1 : Int32) (Or.inr ⟨rfl, hc128, trivial⟩)
  · subst hk42
    refine w_j X39 B at_42 rfl ?_
    show Sh T39 44 #[vi p0, vi p1, vi p2, vi p3, vi p4, vi 2, vr b10, .unset, .unset, .unset, .unset, .unset] [.int 2]
    obtain ⟨T44, h44, k44, X44, e44, E44, A44, st44⟩ := newP X39 hx hZ (tw hw 1 rfl) e39 (g := (mkF m 44 #[vi p0, vi p1, vi p2, vi p3, vi p4, vi 2, vr b10, .unset, .unset, .unset, .unset, .unset] [.int 2])) rfl (hb hby at_44) rfl (by decide) (cap := 2) (by decide) (by decide) (by decide) (by decide)
    obtain ⟨b44, g44⟩ : ∃ z, z = h39.size := ⟨_, rfl⟩
    rw [← g44] at A44 st44
    have ne_b10_b44 : b10 ≠ b44 := Nat.ne_of_lt (Nat.lt_of_lt_of_le V_b10_39.lt (Nat.le_of_eq g44.symm))
    have V_b10_44 := V_b10_39.ext E44
    have Wo44 := Wo39.ext E44
    have gn_b44 : n0 ≤ b44 := Nat.le_trans Z39 (Nat.le_of_eq g44.symm)
    have Z44 : n0 ≤ h44.size := Nat.le_trans Z39 E44.1
    have V_b44 : Arv Z h44 b44 k44 .char (2 : Int32) [.int 0, .int 0] (.int 0) := (Arv.new A44 (by decide)).pad (pad_rep [] (.int 0) 2)
    refine Dg.st st44 ?_
    refine w_u X44 B at_46 rfl #[vi p0, vi p1, vi p2, vi p3, vi p4, vi 2, vr b10, vr b44, .unset, .unset, .unset, .unset] rfl (w_j X44 B at_48 rfl (w_f X44 B at_50 (tlt (by decide)).2.2.2 (w_k X44 B at_53 rfl rfl (w_c X44 B at_55 (w_k X44 B at_56 rfl rfl (w_c X44 B at_58 (w_ca X44 B hZ e44 V_b10_44 (by decide) (v := (.int r15)) rfl at_59 ?_)))))))
    show Sh T44 60 #[vi p0, vi p1, vi p2, vi p3, vi p4, vi 2, vr b10, vr b44, .unset, .unset, .unset, .unset] [.int r15, .int 0, .ref b44]
    have Vc_b44_60 := V_b44
    obtain ⟨cl_b44_60, Ar_b44_60, q_b44_60, S_b44_60, N_b44_60, H_b44_60, G_b44_60⟩ := Vc_b44_60
    have hin60 : ¬ ((0 : Int32) < 0 ∨ cl_b44_60.slots.size ≤ ((0 : Int32)).toNatClampNeg) := inb_of S_b44_60 ⟨by decide, by decide⟩
    obtain ⟨T60, h60, X60, e60, W60, st60⟩ := stC X44 hx hZ e44 Ar_b44_60 (j := (0 : Int32)) hin60 (g := (mkF m 60 #[vi p0, vi p1, vi p2, vi p3, vi p4, vi 2, vr b10, vr b44, .unset, .unset, .unset, .unset] [.int r15, .int 0, .ref b44])) rfl rfl (hb hby at_60)
    have Wo60 := Wo44.wr W60 gn_b44
    have V_b10_60 := V_b10_44.other W60 ne_b10_b44
    have V_b44_60 := Arv.set Ar_b44_60 q_b44_60 S_b44_60 N_b44_60 H_b44_60 G_b44_60 (fits_nar_char _) W60 0 rfl (Nat.le_of_ble_eq_true rfl)
    have N60 := Fr.snoc X60 N39 gn_b44
    have Z60 : n0 ≤ h60.size := Nat.le_trans Z44 (Keep.of_wr W60).1
    refine Dg.st st60 ?_
    refine w_j X60 B at_61 rfl (w_c X60 B at_63 (w_n X60 B at_64 (tlt (by decide)).2.2.2 (w_k X60 B at_67 rfl rfl (w_c X60 B at_69 (w_k X60 B at_70 rfl rfl (w_c X60 B at_72 (w_ca X60 B hZ e60 V_b10_60 (by decide) (v := (.int r22)) rfl at_73 ?_)))))))
    show Sh T60 74 #[vi p0, vi p1, vi p2, vi p3, vi p4, vi 2, vr b10, vr b44, .unset, .unset, .unset, .unset] [.int r22, .int 1, .ref b44]
    have Vc_b44_74 := V_b44_60
    obtain ⟨cl_b44_74, Ar_b44_74, q_b44_74, S_b44_74, N_b44_74, H_b44_74, G_b44_74⟩ := Vc_b44_74
    have hin74 : ¬ ((1 : Int32) < 0 ∨ cl_b44_74.slots.size ≤ ((1 : Int32)).toNatClampNeg) := inb_of S_b44_74 ⟨by decide, by decide⟩
    obtain ⟨T74, h74, X74, e74, W74, st74⟩ := stC X60 hx hZ e60 Ar_b44_74 (j := (1 : Int32)) hin74 (g := (mkF m 74 #[vi p0, vi p1, vi p2, vi p3, vi p4, vi 2, vr b10, vr b44, .unset, .unset, .unset, .unset] [.int r22, .int 1, .ref b44])) rfl rfl (hb hby at_74)
    have Wo74 := Wo60.wr W74 gn_b44
    have V_b10_74 := V_b10_60.other W74 ne_b10_b44
    have V_b44_74 := Arv.set Ar_b44_74 q_b44_74 S_b44_74 N_b44_74 H_b44_74 G_b44_74 (fits_nar_char _) W74 1 rfl (Nat.le_of_ble_eq_true rfl)
    have N74 := Fr.snoc X74 N60 gn_b44
    have Z74 : n0 ≤ h74.size := Nat.le_trans Z60 (Keep.of_wr W74).1
    refine Dg.st st74 ?_
    refine w_j X74 B at_75 rfl (w_c X74 B at_77 (w_y X74 B 78 89 rfl at_78 (flt (by decide)).2.2.2 (by decide) (w_j X74 B at_89 rfl (w_c X74 B at_91 (w_y X74 B 92 103 rfl at_92 (flt (by decide)).2.2.2 (by decide) ?_)))))
    show Sh T74 103 #[vi p0, vi p1, vi p2, vi p3, vi p4, vi 2, vr b10, vr b44, .unset, .unset, .unset, .unset] []
    obtain ⟨T103, h103, X103, e103, E103, A103, D103, -, st103⟩ := newO X74 hx hZ hown (tw hw 7 rfl) (tw hw 8 rfl) (tw hw 9 rfl) e74 (g := (mkF m 103 #[vi p0, vi p1, vi p2, vi p3, vi p4, vi 2, vr b10, vr b44, .unset, .unset, .unset, .unset] [])) rfl (hb hby at_103) (by decide) (by decide)
    obtain ⟨b103, g103⟩ : ∃ z, z = h74.size := ⟨_, rfl⟩
    rw [← g103] at A103 D103 st103
    have ne_b10_b103 : b10 ≠ b103 := Nat.ne_of_lt (Nat.lt_of_lt_of_le V_b10_74.lt (Nat.le_of_eq g103.symm))
    have ne_b44_b103 : b44 ≠ b103 := Nat.ne_of_lt (Nat.lt_of_lt_of_le V_b44_74.lt (Nat.le_of_eq g103.symm))
    have V_b10_103 := V_b10_74.ext E103
    have V_b44_103 := V_b44_74.ext E103
    have Wo103 := Wo74.ext E103
    have gn_b103 : n0 ≤ b103 := Nat.le_trans Z74 (Nat.le_of_eq g103.symm)
    have Z103 : n0 ≤ h103.size := Nat.le_trans Z74 E103.1
    have F_b103_value : Fld Z h103 b103 "java/lang/String" "value" "[B" .null := D103 (Or.inr (tw hw 22 rfl)) (ty := (.array .byte)) (by decide)
    have F_b103_coder : Fld Z h103 b103 "java/lang/String" "coder" "B" (.int 0) := D103 (Or.inr (tw hw 23 rfl)) (ty := .byte) (by decide)
    refine Dg.st st103 ?_
    refine Dg.st (fun _ kk => XS.dup X103.here hx rfl (hb hby at_106) rfl rfl kk) (w_k X103 B at_107 rfl rfl ?_)
    show Sh T103 109 #[vi p0, vi p1, vi p2, vi p3, vi p4, vi 2, vr b10, vr b44, .unset, .unset, .unset, .unset] [.ref b44, .ref b103, .ref b103]
    rw [own_c hr15.1 hr15.2, own_c hr22.1 hr22.2] at V_b44_103
    refine w_ci X103 B hZ hown hml (rmSc2 l Z a0 hw [] b103 b44 cs sf k44 r15 r22 h103 n0 Z103 Wo103 gn_b103 A103 F_b103_coder F_b103_value V_b44_103 (Ne.symm ne_b44_b103) hr15 hr22) (tw hw 10 rfl) (tw hw 11 rfl) (tw hw 9 rfl) (tw hw 12 rfl) e103 at_109 1 1 rfl (lenOf pd29 rfl) rfl rfl rfl rfl (by decide) ?_
    rintro _ T109 Lc109 X109 ⟨rfl, Nq109, K109, S109⟩
    have N109 := Fr.app N74 Nq109
    have Wo109 := Wo103.keep K109 (own_k1 gn_b103)
    have V_b10_109 := V_b10_103.keep K109 (ninS ne_b10_b103 nin0)
    have Zz : n0 ≤ T109.heap.size := Nat.le_trans Z103 K109.1
    refine w_u X109 B at_112 rfl #[vi p0, vi p1, vi p2, vi p3, vi p4, vi 2, vr b10, vr b44, vr b103, .unset, .unset, .unset] rfl (w_c X109 B at_114 (w_s X109 B at_115 #[vi p0, vi p1, vi p2, vi p3, vi p4, vi 2, vr b10, vr b44, vr b103, vi (-1), .unset, .unset] rfl ?_))
    show Sh T109 117 #[vi p0, vi p1, vi p2, vi p3, vi p4, vi 2, vr b10, vr b44, vr b103, vi (-1), .unset, .unset] []
    have J134 : ∀ (j134_9 : Int32), ((j134_9 = (0 : Int32) ∧ (r15 = 47 ∧ True)) ∨ (j134_9 = (-1 : Int32) ∧ (¬ r15 = 47 ∧ True))) → Dw p e below s (Q0 Z p0 p1 p2 p3 p4 cs sf h0 n0) 32 3264 (T109.setTop (mkF m 134 #[vi p0, vi p1, vi p2, vi p3, vi p4, vi 2, vr b10, vr b44, vr b103, vi j134_9, .unset, .unset] [])) := by
      intro j134_9 hj134
      have J152 : ∀ (j152_9 : Int32), ((j152_9 = (0 : Int32) ∧ (r15 = 47 ∧ ¬ r22 = 47 ∧ True)) ∨ (j152_9 = (1 : Int32) ∧ (r22 = 47 ∧ True)) ∨ (j152_9 = (-1 : Int32) ∧ (¬ r15 = 47 ∧ ¬ r22 = 47 ∧ True))) → Dw p e below s (Q0 Z p0 p1 p2 p3 p4 cs sf h0 n0) 32 3264 (T109.setTop (mkF m 152 #[vi p0, vi p1, vi p2, vi p3, vi p4, vi 2, vr b10, vr b44, vr b103, vi j152_9, .unset, .unset] [])) := by
        intro j152_9 hj152
        refine w_j X109 B at_152 rfl (w_c X109 B at_154 (w_y X109 B 155 170 rfl at_155 (flt (by decide)).2.2.2 (by decide) (w_j X109 B at_170 rfl (w_c X109 B at_172 (w_y X109 B 173 188 rfl at_173 (flt (by decide)).2.2.2 (by decide) ?_)))))
        show Sh T109 188 #[vi p0, vi p1, vi p2, vi p3, vi p4, vi 2, vr b10, vr b44, vr b103, vi j152_9, .unset, .unset] []
        rcases hj152 with ⟨rfl, gl⟩ | ⟨rfl, gl⟩ | ⟨rfl, gl⟩
        · refine w_j X109 B at_188 rfl (w_c X109 B at_190 (Dg.st (fun _ kk => XS.iadd X109.here hx rfl (hb hby at_191) rfl kk) (w_s X109 B at_192 #[vi p0, vi p1, vi p2, vi p3, vi p4, vi 2, vr b10, vr b44, vr b103, vi 0, vi 1, .unset] rfl (w_k X109 B at_194 rfl rfl ?_))))
          show Sh T109 196 #[vi p0, vi p1, vi p2, vi p3, vi p4, vi 2, vr b10, vr b44, vr b103, vi 0, vi 1, .unset] [.ref b103]
          obtain ⟨_, _, ⟨T196, L196, k196, n196⟩, -, X196, hSw, hgr196, ⟨Lc196, hQ196, l196, y196, z196⟩, st196⟩ := Jvm.RoadKit.callSS X109 hx (y := on0) hown (mvT hZ (tw hw 28 rfl)) (mvT hZ (tw hw 29 rfl)) (mvT hZ (tw hw 30 rfl)) (mvT hZ (tw hw 31 rfl)) (by decide) (own_backS (W := 0) (rmF2 l Z a0 hw [] b103 cs sf r15 r22 T109.heap n0 Zz Wo109 S109 hr15 hr22 hHl hHu hcw) hZ hI (tw hw 31 rfl) (tw hw 30 rfl) (by decide) (by decide)) (g := (mkF m 196 #[vi p0, vi p1, vi p2, vi p3, vi p4, vi 2, vr b10, vr b44, vr b103, vi 0, vi 1, .unset] [.ref b103])) rfl (by rw [hml]; rfl) (argsL := [.ref b103]) (rest := []) (lenOf pd30 rfl) rfl (by show 2 * 0 + _ ≤ _; exact Nat.le_of_eq rfl) (hb hby at_196) (fun _ _ => ⟨rfl, rfl, (by decide : 5 + 3 ≤ _), (by decide : 16 + 16 ≤ _)⟩)
          dsimp only [Pt.U, Pt.locs, Pt.cells, Pt.slots] at X196 l196 y196 z196 st196 hQ196 hSw hgr196
          subst l196 y196 z196
          obtain ⟨rs196, rfl, Nq196, K196, hq196⟩ := hQ196
          have N196 := Fr.app N109 Nq196
          have hZ := State.Warmed39.trans (t := s) hZ hSw.1
          have hown := (hSw.1.alike.findClass _ _).trans hown
          refine Dg.tr st196 ?_
          refine Dw.of hSw ?_
          have SF : own_Str Z T196.heap rs196 1 2 [.int (own_b r22)] [.int (own_lo r22), .int (own_hi r22)] (r22.toInt ≤ 255 ∧ True) := by
            rcases hq196 with ⟨g_, sf_⟩ | ⟨g_, sf_⟩ | ⟨g_, sf_⟩
            · exact sf_
            · exact absurd g_.1 gl.2.1
            · exact absurd gl.1 g_.1
          have Wo196 := Wo109.keep K196 own_k0
          have V_b10_196 := V_b10_109.keep K196 nin0
          have Zf : n0 ≤ T196.heap.size := Nat.le_trans Zz K196.1
          refine w_u X196 B at_199 rfl #[vi p0, vi p1, vi p2, vi p3, vi p4, vi 2, vr b10, vr b44, vr b103, vi 0, vi 1, vr rs196] rfl (w_k X196 B at_201 rfl rfl ?_)
          show Sh T196 203 #[vi p0, vi p1, vi p2, vi p3, vi p4, vi 2, vr b10, vr b44, vr b103, vi 0, vi 1, vr rs196] [.ref rs196]
          refine w_cv X196 B hZ hown hml (rmLn l Z a0 hw [] rs196 cs sf _ _ _ _ _ T196.heap n0 Zf Wo196 SF (by decide) (by decide)) (tw hw 87 rfl) (tw hw 38 rfl) (tw hw 40 rfl) (tw hw 39 rfl) (tw hw 9 rfl) (tw hw 41 rfl) rfl SF.1 at_203 0 0 rfl (lenOf pd17 rfl) rfl rfl rfl (by decide) ?_
          rintro _ T203 Lc203 X203 ⟨rfl, Nq203, hh203⟩
          have N203 := Fr.app N196 Nq203
          refine w_j X203 B at_206 rfl (w_j X203 B at_208 rfl (Dg.st (fun _ kk => XS.isub X203.here hx rfl (hb hby at_210) rfl kk) (w_y X203 B 211 216 rfl at_211 (teq (by decide)).1 (by decide) (w_k X203 B at_216 rfl rfl (w_k X203 B at_218 rfl rfl (w_j X203 B at_220 rfl (w_c X203 B at_222 ?_)))))))
          show Sh T203 223 #[vi p0, vi p1, vi p2, vi p3, vi p4, vi 2, vr b10, vr b44, vr b103, vi 0, vi 1, vr rs196] [.int 0, .int 1, .ref b10, .ref rs196]
          refine w_cs X203 B hZ hown hml (rmAt1 l Z a0 hw [] rs196 b10 (1 : Int32) (0 : Int32) cs sf _ _ _ _ _ r22 _ _ T196.heap n0 Zf Wo196 SF (by decide) (by decide) (by decide) (by decide) rfl (fun q => q.1) (by decide) (by decide) rfl rfl (by decide) hr22 V_b10_196 (by decide) rfl) (tw hw 88 rfl) (tw hw 89 rfl) (tw hw 4 rfl) (tw hw 90 rfl) hh203 at_223 4 0 (lenOf pd31 rfl) rfl rfl rfl (by decide) ?_
          rintro _ T223 Lc223 X223 ⟨rfl, Nq223, hh223⟩
          have N223 := Fr.app N203 Nq223
          refine w_f X223 B at_226 (feq (by decide)).1 (w_k X223 B at_229 rfl rfl (w_k X223 B at_231 rfl rfl (w_j X223 B at_233 rfl (w_c X223 B at_235 ?_))))
          show Sh T223 236 #[vi p0, vi p1, vi p2, vi p3, vi p4, vi 2, vr b10, vr b44, vr b103, vi 0, vi 1, vr rs196] [.int 1, .int 1, .ref b10, .ref rs196]
          refine w_cs X223 B hZ hown hml (rmAt0 l Z a0 hw [] rs196 b10 (1 : Int32) (1 : Int32) cs sf _ _ _ _ _ T196.heap n0 Zf Wo196 SF (by decide) (by decide) (by decide)) (tw hw 88 rfl) (tw hw 89 rfl) (tw hw 4 rfl) (tw hw 90 rfl) hh223 at_236 4 0 (lenOf pd31 rfl) rfl rfl rfl (by decide) ?_
          rintro _ T236 Lc236 X236 ⟨rfl, Nq236, hh236⟩
          have N236 := Fr.app N223 Nq236
          refine w_f X236 B at_239 (feq (by decide)).1 (w_k X236 B at_242 rfl rfl (w_k X236 B at_244 rfl rfl (w_j X236 B at_246 rfl (w_c X236 B at_248 ?_))))
          show Sh T236 249 #[vi p0, vi p1, vi p2, vi p3, vi p4, vi 2, vr b10, vr b44, vr b103, vi 0, vi 1, vr rs196] [.int 2, .int 1, .ref b10, .ref rs196]
          refine w_cs X236 B hZ hown hml (rmAt0 l Z a0 hw [] rs196 b10 (1 : Int32) (2 : Int32) cs sf _ _ _ _ _ T196.heap n0 Zf Wo196 SF (by decide) (by decide) (by decide)) (tw hw 88 rfl) (tw hw 89 rfl) (tw hw 4 rfl) (tw hw 90 rfl) hh236 at_249 4 0 (lenOf pd31 rfl) rfl rfl rfl (by decide) ?_
          rintro _ T249 Lc249 X249 ⟨rfl, Nq249, hh249⟩
          have N249 := Fr.app N236 Nq249
          refine w_f X249 B at_252 (feq (by decide)).1 (w_k X249 B at_255 rfl rfl (w_k X249 B at_257 rfl rfl (w_j X249 B at_259 rfl (w_c X249 B at_261 ?_))))
          show Sh T249 262 #[vi p0, vi p1, vi p2, vi p3, vi p4, vi 2, vr b10, vr b44, vr b103, vi 0, vi 1, vr rs196] [.int 3, .int 1, .ref b10, .ref rs196]
          refine w_cs X249 B hZ hown hml (rmAt0 l Z a0 hw [] rs196 b10 (1 : Int32) (3 : Int32) cs sf _ _ _ _ _ T196.heap n0 Zf Wo196 SF (by decide) (by decide) (by decide)) (tw hw 88 rfl) (tw hw 89 rfl) (tw hw 4 rfl) (tw hw 90 rfl) hh249 at_262 4 0 (lenOf pd31 rfl) rfl rfl rfl (by decide) ?_
          rintro _ T262 Lc262 X262 ⟨rfl, Nq262, hh262⟩
          have N262 := Fr.app N249 Nq262
          refine w_f X262 B at_265 (feq (by decide)).1 (w_c X262 B at_268 (w_g X262 B 269 273 rfl at_269 (by decide) ?_))
          show Sh T262 273 #[vi p0, vi p1, vi p2, vi p3, vi p4, vi 2, vr b10, vr b44, vr b103, vi 0, vi 1, vr rs196] [.int 1]
          exact Dg.retI X262 hlk B hret rfl (Or.inr (Or.inl rfl)) at_273 (by rw [hh262]; exact ⟨⟨rfl, N262⟩, Nat.le_refl _⟩) (by decide)
        · refine w_j X109 B at_188 rfl (w_c X109 B at_190 (Dg.st (fun _ kk => XS.iadd X109.here hx rfl (hb hby at_191) rfl kk) (w_s X109 B at_192 #[vi p0, vi p1, vi p2, vi p3, vi p4, vi 2, vr b10, vr b44, vr b103, vi 1, vi 2, .unset] rfl (w_k X109 B at_194 rfl rfl ?_))))
          show Sh T109 196 #[vi p0, vi p1, vi p2, vi p3, vi p4, vi 2, vr b10, vr b44, vr b103, vi 1, vi 2, .unset] [.ref b103]
          obtain ⟨_, _, ⟨T196, L196, k196, n196⟩, -, X196, hSw, hgr196, ⟨Lc196, hQ196, l196, y196, z196⟩, st196⟩ := Jvm.RoadKit.callSS X109 hx (y := on0) hown (mvT hZ (tw hw 28 rfl)) (mvT hZ (tw hw 29 rfl)) (mvT hZ (tw hw 30 rfl)) (mvT hZ (tw hw 31 rfl)) (by decide) (own_backS (W := 0) (rmF2 l Z a0 hw [] b103 cs sf r15 r22 T109.heap n0 Zz Wo109 S109 hr15 hr22 hHl hHu hcw) hZ hI (tw hw 31 rfl) (tw hw 30 rfl) (by decide) (by decide)) (g := (mkF m 196 #[vi p0, vi p1, vi p2, vi p3, vi p4, vi 2, vr b10, vr b44, vr b103, vi 1, vi 2, .unset] [.ref b103])) rfl (by rw [hml]; rfl) (argsL := [.ref b103]) (rest := []) (lenOf pd30 rfl) rfl (by show 2 * 0 + _ ≤ _; exact Nat.le_of_eq rfl) (hb hby at_196) (fun _ _ => ⟨rfl, rfl, (by decide : 5 + 3 ≤ _), (by decide : 16 + 16 ≤ _)⟩)
          dsimp only [Pt.U, Pt.locs, Pt.cells, Pt.slots] at X196 l196 y196 z196 st196 hQ196 hSw hgr196
          subst l196 y196 z196
          obtain ⟨rs196, rfl, Nq196, K196, hq196⟩ := hQ196
          have N196 := Fr.app N109 Nq196
          have hZ := State.Warmed39.trans (t := s) hZ hSw.1
          have hown := (hSw.1.alike.findClass _ _).trans hown
          refine Dg.tr st196 ?_
          refine Dw.of hSw ?_
          have SF : own_Str Z T196.heap rs196 0 0 [] [] (True) := by
            rcases hq196 with ⟨g_, sf_⟩ | ⟨g_, sf_⟩ | ⟨g_, sf_⟩
            · exact absurd gl.1 g_.2.1
            · exact sf_
            · exact absurd gl.1 g_.2.1
          have Wo196 := Wo109.keep K196 own_k0
          have V_b10_196 := V_b10_109.keep K196 nin0
          have Zf : n0 ≤ T196.heap.size := Nat.le_trans Zz K196.1
          refine w_u X196 B at_199 rfl #[vi p0, vi p1, vi p2, vi p3, vi p4, vi 2, vr b10, vr b44, vr b103, vi 1, vi 2, vr rs196] rfl (w_k X196 B at_201 rfl rfl ?_)
          show Sh T196 203 #[vi p0, vi p1, vi p2, vi p3, vi p4, vi 2, vr b10, vr b44, vr b103, vi 1, vi 2, vr rs196] [.ref rs196]
          refine w_cv X196 B hZ hown hml (rmLn l Z a0 hw [] rs196 cs sf _ _ _ _ _ T196.heap n0 Zf Wo196 SF (by decide) (by decide)) (tw hw 87 rfl) (tw hw 38 rfl) (tw hw 40 rfl) (tw hw 39 rfl) (tw hw 9 rfl) (tw hw 41 rfl) rfl SF.1 at_203 0 0 rfl (lenOf pd17 rfl) rfl rfl rfl (by decide) ?_
          rintro _ T203 Lc203 X203 ⟨rfl, Nq203, hh203⟩
          have N203 := Fr.app N196 Nq203
          refine w_j X203 B at_206 rfl (w_j X203 B at_208 rfl (Dg.st (fun _ kk => XS.isub X203.here hx rfl (hb hby at_210) rfl kk) (w_y X203 B 211 216 rfl at_211 (teq (by decide)).1 (by decide) (w_k X203 B at_216 rfl rfl (w_k X203 B at_218 rfl rfl (w_j X203 B at_220 rfl (w_c X203 B at_222 ?_)))))))
          show Sh T203 223 #[vi p0, vi p1, vi p2, vi p3, vi p4, vi 2, vr b10, vr b44, vr b103, vi 1, vi 2, vr rs196] [.int 0, .int 2, .ref b10, .ref rs196]
          refine w_cs X203 B hZ hown hml (rmAt0 l Z a0 hw [] rs196 b10 (2 : Int32) (0 : Int32) cs sf _ _ _ _ _ T196.heap n0 Zf Wo196 SF (by decide) (by decide) (by decide)) (tw hw 88 rfl) (tw hw 89 rfl) (tw hw 4 rfl) (tw hw 90 rfl) hh203 at_223 4 0 (lenOf pd31 rfl) rfl rfl rfl (by decide) ?_
          rintro _ T223 Lc223 X223 ⟨rfl, Nq223, hh223⟩
          have N223 := Fr.app N203 Nq223
          refine w_f X223 B at_226 (feq (by decide)).1 (w_k X223 B at_229 rfl rfl (w_k X223 B at_231 rfl rfl (w_j X223 B at_233 rfl (w_c X223 B at_235 ?_))))
          show Sh T223 236 #[vi p0, vi p1, vi p2, vi p3, vi p4, vi 2, vr b10, vr b44, vr b103, vi 1, vi 2, vr rs196] [.int 1, .int 2, .ref b10, .ref rs196]
          refine w_cs X223 B hZ hown hml (rmAt0 l Z a0 hw [] rs196 b10 (2 : Int32) (1 : Int32) cs sf _ _ _ _ _ T196.heap n0 Zf Wo196 SF (by decide) (by decide) (by decide)) (tw hw 88 rfl) (tw hw 89 rfl) (tw hw 4 rfl) (tw hw 90 rfl) hh223 at_236 4 0 (lenOf pd31 rfl) rfl rfl rfl (by decide) ?_
          rintro _ T236 Lc236 X236 ⟨rfl, Nq236, hh236⟩
          have N236 := Fr.app N223 Nq236
          refine w_f X236 B at_239 (feq (by decide)).1 (w_k X236 B at_242 rfl rfl (w_k X236 B at_244 rfl rfl (w_j X236 B at_246 rfl (w_c X236 B at_248 ?_))))
          show Sh T236 249 #[vi p0, vi p1, vi p2, vi p3, vi p4, vi 2, vr b10, vr b44, vr b103, vi 1, vi 2, vr rs196] [.int 2, .int 2, .ref b10, .ref rs196]
          refine w_cs X236 B hZ hown hml (rmAt0 l Z a0 hw [] rs196 b10 (2 : Int32) (2 : Int32) cs sf _ _ _ _ _ T196.heap n0 Zf Wo196 SF (by decide) (by decide) (by decide)) (tw hw 88 rfl) (tw hw 89 rfl) (tw hw 4 rfl) (tw hw 90 rfl) hh236 at_249 4 0 (lenOf pd31 rfl) rfl rfl rfl (by decide) ?_
          rintro _ T249 Lc249 X249 ⟨rfl, Nq249, hh249⟩
          have N249 := Fr.app N236 Nq249
          refine w_f X249 B at_252 (feq (by decide)).1 (w_k X249 B at_255 rfl rfl (w_k X249 B at_257 rfl rfl (w_j X249 B at_259 rfl (w_c X249 B at_261 ?_))))
          show Sh T249 262 #[vi p0, vi p1, vi p2, vi p3, vi p4, vi 2, vr b10, vr b44, vr b103, vi 1, vi 2, vr rs196] [.int 3, .int 2, .ref b10, .ref rs196]
          refine w_cs X249 B hZ hown hml (rmAt0 l Z a0 hw [] rs196 b10 (2 : Int32) (3 : Int32) cs sf _ _ _ _ _ T196.heap n0 Zf Wo196 SF (by decide) (by decide) (by decide)) (tw hw 88 rfl) (tw hw 89 rfl) (tw hw 4 rfl) (tw hw 90 rfl) hh249 at_262 4 0 (lenOf pd31 rfl) rfl rfl rfl (by decide) ?_
          rintro _ T262 Lc262 X262 ⟨rfl, Nq262, hh262⟩
          have N262 := Fr.app N249 Nq262
          refine w_f X262 B at_265 (feq (by decide)).1 (w_c X262 B at_268 (w_g X262 B 269 273 rfl at_269 (by decide) ?_))
          show Sh T262 273 #[vi p0, vi p1, vi p2, vi p3, vi p4, vi 2, vr b10, vr b44, vr b103, vi 1, vi 2, vr rs196] [.int 1]
          exact Dg.retI X262 hlk B hret rfl (Or.inr (Or.inl rfl)) at_273 (by rw [hh262]; exact ⟨⟨rfl, N262⟩, Nat.le_refl _⟩) (by decide)
        · refine w_j X109 B at_188 rfl (w_c X109 B at_190 (Dg.st (fun _ kk => XS.iadd X109.here hx rfl (hb hby at_191) rfl kk) (w_s X109 B at_192 #[vi p0, vi p1, vi p2, vi p3, vi p4, vi 2, vr b10, vr b44, vr b103, vi (-1), vi 0, .unset] rfl (w_k X109 B at_194 rfl rfl ?_))))
          show Sh T109 196 #[vi p0, vi p1, vi p2, vi p3, vi p4, vi 2, vr b10, vr b44, vr b103, vi (-1), vi 0, .unset] [.ref b103]
          obtain ⟨_, _, ⟨T196, L196, k196, n196⟩, -, X196, hSw, hgr196, ⟨Lc196, hQ196, l196, y196, z196⟩, st196⟩ := Jvm.RoadKit.callSS X109 hx (y := on0) hown (mvT hZ (tw hw 28 rfl)) (mvT hZ (tw hw 29 rfl)) (mvT hZ (tw hw 30 rfl)) (mvT hZ (tw hw 31 rfl)) (by decide) (own_backS (W := 0) (rmF2 l Z a0 hw [] b103 cs sf r15 r22 T109.heap n0 Zz Wo109 S109 hr15 hr22 hHl hHu hcw) hZ hI (tw hw 31 rfl) (tw hw 30 rfl) (by decide) (by decide)) (g := (mkF m 196 #[vi p0, vi p1, vi p2, vi p3, vi p4, vi 2, vr b10, vr b44, vr b103, vi (-1), vi 0, .unset] [.ref b103])) rfl (by rw [hml]; rfl) (argsL := [.ref b103]) (rest := []) (lenOf pd30 rfl) rfl (by show 2 * 0 + _ ≤ _; exact Nat.le_of_eq rfl) (hb hby at_196) (fun _ _ => ⟨rfl, rfl, (by decide : 5 + 3 ≤ _), (by decide : 16 + 16 ≤ _)⟩)
          dsimp only [Pt.U, Pt.locs, Pt.cells, Pt.slots] at X196 l196 y196 z196 st196 hQ196 hSw hgr196
          subst l196 y196 z196
          obtain ⟨rs196, rfl, Nq196, K196, hq196⟩ := hQ196
          have N196 := Fr.app N109 Nq196
          have hZ := State.Warmed39.trans (t := s) hZ hSw.1
          have hown := (hSw.1.alike.findClass _ _).trans hown
          refine Dg.tr st196 ?_
          refine Dw.of hSw ?_
          have SF : own_Str Z T196.heap rs196 2 4 [.int (own_b r15), .int (own_b r22)] [.int (own_lo r15), .int (own_hi r15), .int (own_lo r22), .int (own_hi r22)] (r15.toInt ≤ 255 ∧ r22.toInt ≤ 255 ∧ True) := by
            rcases hq196 with ⟨g_, sf_⟩ | ⟨g_, sf_⟩ | ⟨g_, sf_⟩
            · exact absurd g_.1 gl.1
            · exact absurd g_.1 gl.2.1
            · exact sf_
          have Wo196 := Wo109.keep K196 own_k0
          have V_b10_196 := V_b10_109.keep K196 nin0
          have Zf : n0 ≤ T196.heap.size := Nat.le_trans Zz K196.1
          refine w_u X196 B at_199 rfl #[vi p0, vi p1, vi p2, vi p3, vi p4, vi 2, vr b10, vr b44, vr b103, vi (-1), vi 0, vr rs196] rfl (w_k X196 B at_201 rfl rfl ?_)
          show Sh T196 203 #[vi p0, vi p1, vi p2, vi p3, vi p4, vi 2, vr b10, vr b44, vr b103, vi (-1), vi 0, vr rs196] [.ref rs196]
          refine w_cv X196 B hZ hown hml (rmLn l Z a0 hw [] rs196 cs sf _ _ _ _ _ T196.heap n0 Zf Wo196 SF (by decide) (by decide)) (tw hw 87 rfl) (tw hw 38 rfl) (tw hw 40 rfl) (tw hw 39 rfl) (tw hw 9 rfl) (tw hw 41 rfl) rfl SF.1 at_203 0 0 rfl (lenOf pd17 rfl) rfl rfl rfl (by decide) ?_
          rintro _ T203 Lc203 X203 ⟨rfl, Nq203, hh203⟩
          have N203 := Fr.app N196 Nq203
          refine w_j X203 B at_206 rfl (w_j X203 B at_208 rfl (Dg.st (fun _ kk => XS.isub X203.here hx rfl (hb hby at_210) rfl kk) (w_y X203 B 211 216 rfl at_211 (teq (by decide)).1 (by decide) (w_k X203 B at_216 rfl rfl (w_k X203 B at_218 rfl rfl (w_j X203 B at_220 rfl (w_c X203 B at_222 ?_)))))))
          show Sh T203 223 #[vi p0, vi p1, vi p2, vi p3, vi p4, vi 2, vr b10, vr b44, vr b103, vi (-1), vi 0, vr rs196] [.int 0, .int 0, .ref b10, .ref rs196]
          refine w_cs X203 B hZ hown hml (rmAt1 l Z a0 hw [] rs196 b10 (0 : Int32) (0 : Int32) cs sf _ _ _ _ _ r15 _ _ T196.heap n0 Zf Wo196 SF (by decide) (by decide) (by decide) (by decide) rfl (fun q => q.1) (by decide) (by decide) rfl rfl (by decide) hr15 V_b10_196 (by decide) rfl) (tw hw 88 rfl) (tw hw 89 rfl) (tw hw 4 rfl) (tw hw 90 rfl) hh203 at_223 4 0 (lenOf pd31 rfl) rfl rfl rfl (by decide) ?_
          rintro _ T223 Lc223 X223 ⟨rfl, Nq223, hh223⟩
          have N223 := Fr.app N203 Nq223
          refine w_f X223 B at_226 (feq (by decide)).1 (w_k X223 B at_229 rfl rfl (w_k X223 B at_231 rfl rfl (w_j X223 B at_233 rfl (w_c X223 B at_235 ?_))))
          show Sh T223 236 #[vi p0, vi p1, vi p2, vi p3, vi p4, vi 2, vr b10, vr b44, vr b103, vi (-1), vi 0, vr rs196] [.int 1, .int 0, .ref b10, .ref rs196]
          refine w_cs X223 B hZ hown hml (rmAt1 l Z a0 hw [] rs196 b10 (0 : Int32) (1 : Int32) cs sf _ _ _ _ _ r22 _ _ T196.heap n0 Zf Wo196 SF (by decide) (by decide) (by decide) (by decide) rfl (fun q => q.2.1) (by decide) (by decide) rfl rfl (by decide) hr22 V_b10_196 (by decide) rfl) (tw hw 88 rfl) (tw hw 89 rfl) (tw hw 4 rfl) (tw hw 90 rfl) hh223 at_236 4 0 (lenOf pd31 rfl) rfl rfl rfl (by decide) ?_
          rintro _ T236 Lc236 X236 ⟨rfl, Nq236, hh236⟩
          have N236 := Fr.app N223 Nq236
          refine w_f X236 B at_239 (feq (by decide)).1 (w_k X236 B at_242 rfl rfl (w_k X236 B at_244 rfl rfl (w_j X236 B at_246 rfl (w_c X236 B at_248 ?_))))
          show Sh T236 249 #[vi p0, vi p1, vi p2, vi p3, vi p4, vi 2, vr b10, vr b44, vr b103, vi (-1), vi 0, vr rs196] [.int 2, .int 0, .ref b10, .ref rs196]
          refine w_cs X236 B hZ hown hml (rmAt0 l Z a0 hw [] rs196 b10 (0 : Int32) (2 : Int32) cs sf _ _ _ _ _ T196.heap n0 Zf Wo196 SF (by decide) (by decide) (by decide)) (tw hw 88 rfl) (tw hw 89 rfl) (tw hw 4 rfl) (tw hw 90 rfl) hh236 at_249 4 0 (lenOf pd31 rfl) rfl rfl rfl (by decide) ?_
          rintro _ T249 Lc249 X249 ⟨rfl, Nq249, hh249⟩
          have N249 := Fr.app N236 Nq249
          refine w_f X249 B at_252 (feq (by decide)).1 (w_k X249 B at_255 rfl rfl (w_k X249 B at_257 rfl rfl (w_j X249 B at_259 rfl (w_c X249 B at_261 ?_))))
          show Sh T249 262 #[vi p0, vi p1, vi p2, vi p3, vi p4, vi 2, vr b10, vr b44, vr b103, vi (-1), vi 0, vr rs196] [.int 3, .int 0, .ref b10, .ref rs196]
          refine w_cs X249 B hZ hown hml (rmAt0 l Z a0 hw [] rs196 b10 (0 : Int32) (3 : Int32) cs sf _ _ _ _ _ T196.heap n0 Zf Wo196 SF (by decide) (by decide) (by decide)) (tw hw 88 rfl) (tw hw 89 rfl) (tw hw 4 rfl) (tw hw 90 rfl) hh249 at_262 4 0 (lenOf pd31 rfl) rfl rfl rfl (by decide) ?_
          rintro _ T262 Lc262 X262 ⟨rfl, Nq262, hh262⟩
          have N262 := Fr.app N249 Nq262
          refine w_f X262 B at_265 (feq (by decide)).1 (w_c X262 B at_268 (w_g X262 B 269 273 rfl at_269 (by decide) ?_))
          show Sh T262 273 #[vi p0, vi p1, vi p2, vi p3, vi p4, vi 2, vr b10, vr b44, vr b103, vi (-1), vi 0, vr rs196] [.int 1]
          exact Dg.retI X262 hlk B hret rfl (Or.inr (Or.inl rfl)) at_273 (by rw [hh262]; exact ⟨⟨rfl, N262⟩, Nat.le_refl _⟩) (by decide)
      refine w_j X109 B at_134 rfl (w_c X109 B at_136 (w_n X109 B at_137 (tlt (by decide)).2.2.2 (w_k X109 B at_140 rfl rfl (w_c X109 B at_142 (w_ca X109 B hZ rfl V_b10_109 (by decide) (v := (.int r22)) rfl at_143 (Dg.st (fun _ kk => XS.bipush X109.here hx rfl (hb hby at_144) kk) ?_))))))
      show Sh T109 146 #[vi p0, vi p1, vi p2, vi p3, vi p4, vi 2, vr b10, vr b44, vr b103, vi j134_9, .unset, .unset] [.int 47, .int r22]
      by_cases hc146 : r22 = (47 : Int32)
      · refine w_n X109 B at_146 (teq hc146).2 (w_c X109 B at_149 (w_s X109 B at_150 #[vi p0, vi p1, vi p2, vi p3, vi p4, vi 2, vr b10, vr b44, vr b103, vi 1, .unset, .unset] rfl ?_))
        show Sh T109 152 #[vi p0, vi p1, vi p2, vi p3, vi p4, vi 2, vr b10, vr b44, vr b103, vi 1, .unset, .unset] []
        exact J152 (1 : Int32) (Or.inr (Or.inl ⟨rfl, hc146, trivial⟩))
      · refine w_y X109 B 146 152 rfl at_146 (feq hc146).2 (by decide) ?_
        show Sh T109 152 #[vi p0, vi p1, vi p2, vi p3, vi p4, vi 2, vr b10, vr b44, vr b103, vi j134_9, .unset, .unset] []
        exact J152 j134_9 (match hj134 with | Or.inl ⟨ee, a0, _⟩ => (Or.inl ⟨ee, a0, hc146, trivial⟩) | Or.inr ⟨ee, a0, _⟩ => (Or.inr (Or.inr ⟨ee, a0, hc146, trivial⟩)))
    refine w_j X109 B at_117 rfl (w_f X109 B at_119 (tlt (by decide)).2.2.2 (w_k X109 B at_122 rfl rfl (w_c X109 B at_124 (w_ca X109 B hZ rfl V_b10_109 (by decide) (v := (.int r15)) rfl at_125 (Dg.st (fun _ kk => XS.bipush X109.here hx rfl (hb hby at_126) kk) ?_)))))
    show Sh T109 128 #[vi p0, vi p1, vi p2, vi p3, vi p4, vi 2, vr b10, vr b44, vr b103, vi (-1), .unset, .unset] [.int 47, .int r15]
    by_cases hc128 : r15 = (47 : Int32)
    · refine w_n X109 B at_128 (teq hc128).2 (w_c X109 B at_131 (w_s X109 B at_132 #[vi p0, vi p1, vi p2, vi p3, vi p4, vi 2, vr b10, vr b44, vr b103, vi 0, .unset, .unset] rfl ?_))
      show Sh T109 134 #[vi p0, vi p1, vi p2, vi p3, vi p4, vi 2, vr b10, vr b44, vr b103, vi 0, .unset, .unset] []
      exact J134 (0 : Int32) (Or.inl ⟨rfl, hc128, trivial⟩)
    · refine w_y X109 B 128 134 rfl at_128 (feq hc128).2 (by decide) ?_
      show Sh T109 134 #[vi p0, vi p1, vi p2, vi p3, vi p4, vi 2, vr b10, vr b44, vr b103, vi (-1), .unset, .unset] []
      exact J134 (-1 : Int32) (Or.inr ⟨rfl, hc128, trivial⟩)
  · subst hk42
    refine w_j X39 B at_42 rfl ?_
    show Sh T39 44 #[vi p0, vi p1, vi p2, vi p3, vi p4, vi 3, vr b10, .unset, .unset, .unset, .unset, .unset] [.int 3]
    obtain ⟨T44, h44, k44, X44, e44, E44, A44, st44⟩ := newP X39 hx hZ (tw hw 1 rfl) e39 (g := (mkF m 44 #[vi p0, vi p1, vi p2, vi p3, vi p4, vi 3, vr b10, .unset, .unset, .unset, .unset, .unset] [.int 3])) rfl (hb hby at_44) rfl (by decide) (cap := 3) (by decide) (by decide) (by decide) (by decide)
    obtain ⟨b44, g44⟩ : ∃ z, z = h39.size := ⟨_, rfl⟩
    rw [← g44] at A44 st44
    have ne_b10_b44 : b10 ≠ b44 := Nat.ne_of_lt (Nat.lt_of_lt_of_le V_b10_39.lt (Nat.le_of_eq g44.symm))
    have V_b10_44 := V_b10_39.ext E44
    have Wo44 := Wo39.ext E44
    have gn_b44 : n0 ≤ b44 := Nat.le_trans Z39 (Nat.le_of_eq g44.symm)
    have Z44 : n0 ≤ h44.size := Nat.le_trans Z39 E44.1
    have V_b44 : Arv Z h44 b44 k44 .char (3 : Int32) [.int 0, .int 0, .int 0] (.int 0) := (Arv.new A44 (by decide)).pad (pad_rep [] (.int 0) 3)
    refine Dg.st st44 ?_
    refine w_u X44 B at_46 rfl #[vi p0, vi p1, vi p2, vi p3, vi p4, vi 3, vr b10, vr b44, .unset, .unset, .unset, .unset] rfl (w_j X44 B at_48 rfl (w_f X44 B at_50 (tlt (by decide)).2.2.2 (w_k X44 B at_53 rfl rfl (w_c X44 B at_55 (w_k X44 B at_56 rfl rfl (w_c X44 B at_58 (w_ca X44 B hZ e44 V_b10_44 (by decide) (v := (.int r15)) rfl at_59 ?_)))))))
    show Sh T44 60 #[vi p0, vi p1, vi p2, vi p3, vi p4, vi 3, vr b10, vr b44, .unset, .unset, .unset, .unset] [.int r15, .int 0, .ref b44]
    have Vc_b44_60 := V_b44
    obtain ⟨cl_b44_60, Ar_b44_60, q_b44_60, S_b44_60, N_b44_60, H_b44_60, G_b44_60⟩ := Vc_b44_60
    have hin60 : ¬ ((0 : Int32) < 0 ∨ cl_b44_60.slots.size ≤ ((0 : Int32)).toNatClampNeg) := inb_of S_b44_60 ⟨by decide, by decide⟩
    obtain ⟨T60, h60, X60, e60, W60, st60⟩ := stC X44 hx hZ e44 Ar_b44_60 (j := (0 : Int32)) hin60 (g := (mkF m 60 #[vi p0, vi p1, vi p2, vi p3, vi p4, vi 3, vr b10, vr b44, .unset, .unset, .unset, .unset] [.int r15, .int 0, .ref b44])) rfl rfl (hb hby at_60)
    have Wo60 := Wo44.wr W60 gn_b44
    have V_b10_60 := V_b10_44.other W60 ne_b10_b44
    have V_b44_60 := Arv.set Ar_b44_60 q_b44_60 S_b44_60 N_b44_60 H_b44_60 G_b44_60 (fits_nar_char _) W60 0 rfl (Nat.le_of_ble_eq_true rfl)
    have N60 := Fr.snoc X60 N39 gn_b44
    have Z60 : n0 ≤ h60.size := Nat.le_trans Z44 (Keep.of_wr W60).1
    refine Dg.st st60 ?_
    refine w_j X60 B at_61 rfl (w_c X60 B at_63 (w_n X60 B at_64 (tlt (by decide)).2.2.2 (w_k X60 B at_67 rfl rfl (w_c X60 B at_69 (w_k X60 B at_70 rfl rfl (w_c X60 B at_72 (w_ca X60 B hZ e60 V_b10_60 (by decide) (v := (.int r22)) rfl at_73 ?_)))))))
    show Sh T60 74 #[vi p0, vi p1, vi p2, vi p3, vi p4, vi 3, vr b10, vr b44, .unset, .unset, .unset, .unset] [.int r22, .int 1, .ref b44]
    have Vc_b44_74 := V_b44_60
    obtain ⟨cl_b44_74, Ar_b44_74, q_b44_74, S_b44_74, N_b44_74, H_b44_74, G_b44_74⟩ := Vc_b44_74
    have hin74 : ¬ ((1 : Int32) < 0 ∨ cl_b44_74.slots.size ≤ ((1 : Int32)).toNatClampNeg) := inb_of S_b44_74 ⟨by decide, by decide⟩
    obtain ⟨T74, h74, X74, e74, W74, st74⟩ := stC X60 hx hZ e60 Ar_b44_74 (j := (1 : Int32)) hin74 (g := (mkF m 74 #[vi p0, vi p1, vi p2, vi p3, vi p4, vi 3, vr b10, vr b44, .unset, .unset, .unset, .unset] [.int r22, .int 1, .ref b44])) rfl rfl (hb hby at_74)
    have Wo74 := Wo60.wr W74 gn_b44
    have V_b10_74 := V_b10_60.other W74 ne_b10_b44
    have V_b44_74 := Arv.set Ar_b44_74 q_b44_74 S_b44_74 N_b44_74 H_b44_74 G_b44_74 (fits_nar_char _) W74 1 rfl (Nat.le_of_ble_eq_true rfl)
    have N74 := Fr.snoc X74 N60 gn_b44
    have Z74 : n0 ≤ h74.size := Nat.le_trans Z60 (Keep.of_wr W74).1
    refine Dg.st st74 ?_
    refine w_j X74 B at_75 rfl (w_c X74 B at_77 (w_n X74 B at_78 (tlt (by decide)).2.2.2 (w_k X74 B at_81 rfl rfl (w_c X74 B at_83 (w_k X74 B at_84 rfl rfl (w_c X74 B at_86 (w_ca X74 B hZ e74 V_b10_74 (by decide) (v := (.int r29)) rfl at_87 ?_)))))))
    show Sh T74 88 #[vi p0, vi p1, vi p2, vi p3, vi p4, vi 3, vr b10, vr b44, .unset, .unset, .unset, .unset] [.int r29, .int 2, .ref b44]
    have Vc_b44_88 := V_b44_74
    obtain ⟨cl_b44_88, Ar_b44_88, q_b44_88, S_b44_88, N_b44_88, H_b44_88, G_b44_88⟩ := Vc_b44_88
    have hin88 : ¬ ((2 : Int32) < 0 ∨ cl_b44_88.slots.size ≤ ((2 : Int32)).toNatClampNeg) := inb_of S_b44_88 ⟨by decide, by decide⟩
    obtain ⟨T88, h88, X88, e88, W88, st88⟩ := stC X74 hx hZ e74 Ar_b44_88 (j := (2 : Int32)) hin88 (g := (mkF m 88 #[vi p0, vi p1, vi p2, vi p3, vi p4, vi 3, vr b10, vr b44, .unset, .unset, .unset, .unset] [.int r29, .int 2, .ref b44])) rfl rfl (hb hby at_88)
    have Wo88 := Wo74.wr W88 gn_b44
    have V_b10_88 := V_b10_74.other W88 ne_b10_b44
    have V_b44_88 := Arv.set Ar_b44_88 q_b44_88 S_b44_88 N_b44_88 H_b44_88 G_b44_88 (fits_nar_char _) W88 2 rfl (Nat.le_of_ble_eq_true rfl)
    have N88 := Fr.snoc X88 N74 gn_b44
    have Z88 : n0 ≤ h88.size := Nat.le_trans Z74 (Keep.of_wr W88).1
    refine Dg.st st88 ?_
    refine w_j X88 B at_89 rfl (w_c X88 B at_91 (w_y X88 B 92 103 rfl at_92 (flt (by decide)).2.2.2 (by decide) ?_))
    show Sh T88 103 #[vi p0, vi p1, vi p2, vi p3, vi p4, vi 3, vr b10, vr b44, .unset, .unset, .unset, .unset] []
    obtain ⟨T103, h103, X103, e103, E103, A103, D103, -, st103⟩ := newO X88 hx hZ hown (tw hw 7 rfl) (tw hw 8 rfl) (tw hw 9 rfl) e88 (g := (mkF m 103 #[vi p0, vi p1, vi p2, vi p3, vi p4, vi 3, vr b10, vr b44, .unset, .unset, .unset, .unset] [])) rfl (hb hby at_103) (by decide) (by decide)
    obtain ⟨b103, g103⟩ : ∃ z, z = h88.size := ⟨_, rfl⟩
    rw [← g103] at A103 D103 st103
    have ne_b10_b103 : b10 ≠ b103 := Nat.ne_of_lt (Nat.lt_of_lt_of_le V_b10_88.lt (Nat.le_of_eq g103.symm))
    have ne_b44_b103 : b44 ≠ b103 := Nat.ne_of_lt (Nat.lt_of_lt_of_le V_b44_88.lt (Nat.le_of_eq g103.symm))
    have V_b10_103 := V_b10_88.ext E103
    have V_b44_103 := V_b44_88.ext E103
    have Wo103 := Wo88.ext E103
    have gn_b103 : n0 ≤ b103 := Nat.le_trans Z88 (Nat.le_of_eq g103.symm)
    have Z103 : n0 ≤ h103.size := Nat.le_trans Z88 E103.1
    have F_b103_value : Fld Z h103 b103 "java/lang/String" "value" "[B" .null := D103 (Or.inr (tw hw 22 rfl)) (ty := (.array .byte)) (by decide)
    have F_b103_coder : Fld Z h103 b103 "java/lang/String" "coder" "B" (.int 0) := D103 (Or.inr (tw hw 23 rfl)) (ty := .byte) (by decide)
    refine Dg.st st103 ?_
    refine Dg.st (fun _ kk => XS.dup X103.here hx rfl (hb hby at_106) rfl rfl kk) (w_k X103 B at_107 rfl rfl ?_)
    show Sh T103 109 #[vi p0, vi p1, vi p2, vi p3, vi p4, vi 3, vr b10, vr b44, .unset, .unset, .unset, .unset] [.ref b44, .ref b103, .ref b103]
    rw [own_c hr15.1 hr15.2, own_c hr22.1 hr22.2, own_c hr29.1 hr29.2] at V_b44_103
    refine w_ci X103 B hZ hown hml (rmSc3 l Z a0 hw [] b103 b44 cs sf k44 r15 r22 r29 h103 n0 Z103 Wo103 gn_b103 A103 F_b103_coder F_b103_value V_b44_103 (Ne.symm ne_b44_b103) hr15 hr22 hr29) (tw hw 10 rfl) (tw hw 11 rfl) (tw hw 9 rfl) (tw hw 12 rfl) e103 at_109 1 1 rfl (lenOf pd29 rfl) rfl rfl rfl rfl (by decide) ?_
    rintro _ T109 Lc109 X109 ⟨rfl, Nq109, K109, S109⟩
    have N109 := Fr.app N88 Nq109
    have Wo109 := Wo103.keep K109 (own_k1 gn_b103)
    have V_b10_109 := V_b10_103.keep K109 (ninS ne_b10_b103 nin0)
    have Zz : n0 ≤ T109.heap.size := Nat.le_trans Z103 K109.1
    refine w_u X109 B at_112 rfl #[vi p0, vi p1, vi p2, vi p3, vi p4, vi 3, vr b10, vr b44, vr b103, .unset, .unset, .unset] rfl (w_c X109 B at_114 (w_s X109 B at_115 #[vi p0, vi p1, vi p2, vi p3, vi p4, vi 3, vr b10, vr b44, vr b103, vi (-1), .unset, .unset] rfl ?_))
    show Sh T109 117 #[vi p0, vi p1, vi p2, vi p3, vi p4, vi 3, vr b10, vr b44, vr b103, vi (-1), .unset, .unset] []
    have J134 : ∀ (j134_9 : Int32), ((j134_9 = (0 : Int32) ∧ (r15 = 47 ∧ True)) ∨ (j134_9 = (-1 : Int32) ∧ (¬ r15 = 47 ∧ True))) → Dw p e below s (Q0 Z p0 p1 p2 p3 p4 cs sf h0 n0) 32 3264 (T109.setTop (mkF m 134 #[vi p0, vi p1, vi p2, vi p3, vi p4, vi 3, vr b10, vr b44, vr b103, vi j134_9, .unset, .unset] [])) := by
      intro j134_9 hj134
      have J152 : ∀ (j152_9 : Int32), ((j152_9 = (0 : Int32) ∧ (r15 = 47 ∧ ¬ r22 = 47 ∧ True)) ∨ (j152_9 = (1 : Int32) ∧ (r22 = 47 ∧ True)) ∨ (j152_9 = (-1 : Int32) ∧ (¬ r15 = 47 ∧ ¬ r22 = 47 ∧ True))) → Dw p e below s (Q0 Z p0 p1 p2 p3 p4 cs sf h0 n0) 32 3264 (T109.setTop (mkF m 152 #[vi p0, vi p1, vi p2, vi p3, vi p4, vi 3, vr b10, vr b44, vr b103, vi j152_9, .unset, .unset] [])) := by
        intro j152_9 hj152
        have J170 : ∀ (j170_9 : Int32), ((j170_9 = (0 : Int32) ∧ (r15 = 47 ∧ ¬ r22 = 47 ∧ ¬ r29 = 47 ∧ True)) ∨ (j170_9 = (1 : Int32) ∧ (r22 = 47 ∧ ¬ r29 = 47 ∧ True)) ∨ (j170_9 = (2 : Int32) ∧ (r29 = 47 ∧ True)) ∨ (j170_9 = (-1 : Int32) ∧ (¬ r15 = 47 ∧ ¬ r22 = 47 ∧ ¬ r29 = 47 ∧ True))) → Dw p e below s (Q0 Z p0 p1 p2 p3 p4 cs sf h0 n0) 32 3264 (T109.setTop (mkF m 170 #[vi p0, vi p1, vi p2, vi p3, vi p4, vi 3, vr b10, vr b44, vr b103, vi j170_9, .unset, .unset] [])) := by
          intro j170_9 hj170
          refine w_j X109 B at_170 rfl (w_c X109 B at_172 (w_y X109 B 173 188 rfl at_173 (flt (by decide)).2.2.2 (by decide) ?_))
          show Sh T109 188 #[vi p0, vi p1, vi p2, vi p3, vi p4, vi 3, vr b10, vr b44, vr b103, vi j170_9, .unset, .unset] []
          rcases hj170 with ⟨rfl, gl⟩ | ⟨rfl, gl⟩ | ⟨rfl, gl⟩ | ⟨rfl, gl⟩
          · refine w_j X109 B at_188 rfl (w_c X109 B at_190 (Dg.st (fun _ kk => XS.iadd X109.here hx rfl (hb hby at_191) rfl kk) (w_s X109 B at_192 #[vi p0, vi p1, vi p2, vi p3, vi p4, vi 3, vr b10, vr b44, vr b103, vi 0, vi 1, .unset] rfl (w_k X109 B at_194 rfl rfl ?_))))
            show Sh T109 196 #[vi p0, vi p1, vi p2, vi p3, vi p4, vi 3, vr b10, vr b44, vr b103, vi 0, vi 1, .unset] [.ref b103]
            obtain ⟨_, _, ⟨T196, L196, k196, n196⟩, -, X196, hSw, hgr196, ⟨Lc196, hQ196, l196, y196, z196⟩, st196⟩ := Jvm.RoadKit.callSS X109 hx (y := on0) hown (mvT hZ (tw hw 28 rfl)) (mvT hZ (tw hw 29 rfl)) (mvT hZ (tw hw 30 rfl)) (mvT hZ (tw hw 31 rfl)) (by decide) (own_backS (W := 0) (rmF3 l Z a0 hw [] b103 cs sf r15 r22 r29 T109.heap n0 Zz Wo109 S109 hr15 hr22 hr29 hHl hHu hcw) hZ hI (tw hw 31 rfl) (tw hw 30 rfl) (by decide) (by decide)) (g := (mkF m 196 #[vi p0, vi p1, vi p2, vi p3, vi p4, vi 3, vr b10, vr b44, vr b103, vi 0, vi 1, .unset] [.ref b103])) rfl (by rw [hml]; rfl) (argsL := [.ref b103]) (rest := []) (lenOf pd30 rfl) rfl (by show 2 * 0 + _ ≤ _; exact Nat.le_of_eq rfl) (hb hby at_196) (fun _ _ => ⟨rfl, rfl, (by decide : 5 + 3 ≤ _), (by decide : 20 + 16 ≤ _)⟩)
            dsimp only [Pt.U, Pt.locs, Pt.cells, Pt.slots] at X196 l196 y196 z196 st196 hQ196 hSw hgr196
            subst l196 y196 z196
            obtain ⟨rs196, rfl, Nq196, K196, hq196⟩ := hQ196
            have N196 := Fr.app N109 Nq196
            have hZ := State.Warmed39.trans (t := s) hZ hSw.1
            have hown := (hSw.1.alike.findClass _ _).trans hown
            refine Dg.tr st196 ?_
            refine Dw.of hSw ?_
            have SF : own_Str Z T196.heap rs196 2 4 [.int (own_b r22), .int (own_b r29)] [.int (own_lo r22), .int (own_hi r22), .int (own_lo r29), .int (own_hi r29)] (r22.toInt ≤ 255 ∧ r29.toInt ≤ 255 ∧ True) := by
              rcases hq196 with ⟨g_, sf_⟩ | ⟨g_, sf_⟩ | ⟨g_, sf_⟩ | ⟨g_, sf_⟩
              · exact sf_
              · exact absurd g_.1 gl.2.1
              · exact absurd g_.1 gl.2.2.1
              · exact absurd gl.1 g_.1
            have Wo196 := Wo109.keep K196 own_k0
            have V_b10_196 := V_b10_109.keep K196 nin0
            have Zf : n0 ≤ T196.heap.size := Nat.le_trans Zz K196.1
            refine w_u X196 B at_199 rfl #[vi p0, vi p1, vi p2, vi p3, vi p4, vi 3, vr b10, vr b44, vr b103, vi 0, vi 1, vr rs196] rfl (w_k X196 B at_201 rfl rfl ?_)
            show Sh T196 203 #[vi p0, vi p1, vi p2, vi p3, vi p4, vi 3, vr b10, vr b44, vr b103, vi 0, vi 1, vr rs196] [.ref rs196]
            refine w_cv X196 B hZ hown hml (rmLn l Z a0 hw [] rs196 cs sf _ _ _ _ _ T196.heap n0 Zf Wo196 SF (by decide) (by decide)) (tw hw 87 rfl) (tw hw 38 rfl) (tw hw 40 rfl) (tw hw 39 rfl) (tw hw 9 rfl) (tw hw 41 rfl) rfl SF.1 at_203 0 0 rfl (lenOf pd17 rfl) rfl rfl rfl (by decide) ?_
            rintro _ T203 Lc203 X203 ⟨rfl, Nq203, hh203⟩
            have N203 := Fr.app N196 Nq203
            refine w_j X203 B at_206 rfl (w_j X203 B at_208 rfl (Dg.st (fun _ kk => XS.isub X203.here hx rfl (hb hby at_210) rfl kk) (w_y X203 B 211 216 rfl at_211 (teq (by decide)).1 (by decide) (w_k X203 B at_216 rfl rfl (w_k X203 B at_218 rfl rfl (w_j X203 B at_220 rfl (w_c X203 B at_222 ?_)))))))
            show Sh T203 223 #[vi p0, vi p1, vi p2, vi p3, vi p4, vi 3, vr b10, vr b44, vr b103, vi 0, vi 1, vr rs196] [.int 0, .int 1, .ref b10, .ref rs196]
            refine w_cs X203 B hZ hown hml (rmAt1 l Z a0 hw [] rs196 b10 (1 : Int32) (0 : Int32) cs sf _ _ _ _ _ r22 _ _ T196.heap n0 Zf Wo196 SF (by decide) (by decide) (by decide) (by decide) rfl (fun q => q.1) (by decide) (by decide) rfl rfl (by decide) hr22 V_b10_196 (by decide) rfl) (tw hw 88 rfl) (tw hw 89 rfl) (tw hw 4 rfl) (tw hw 90 rfl) hh203 at_223 4 0 (lenOf pd31 rfl) rfl rfl rfl (by decide) ?_
            rintro _ T223 Lc223 X223 ⟨rfl, Nq223, hh223⟩
            have N223 := Fr.app N203 Nq223
            refine w_f X223 B at_226 (feq (by decide)).1 (w_k X223 B at_229 rfl rfl (w_k X223 B at_231 rfl rfl (w_j X223 B at_233 rfl (w_c X223 B at_235 ?_))))
            show Sh T223 236 #[vi p0, vi p1, vi p2, vi p3, vi p4, vi 3, vr b10, vr b44, vr b103, vi 0, vi 1, vr rs196] [.int 1, .int 1, .ref b10, .ref rs196]
            refine w_cs X223 B hZ hown hml (rmAt1 l Z a0 hw [] rs196 b10 (1 : Int32) (1 : Int32) cs sf _ _ _ _ _ r29 _ _ T196.heap n0 Zf Wo196 SF (by decide) (by decide) (by decide) (by decide) rfl (fun q => q.2.1) (by decide) (by decide) rfl rfl (by decide) hr29 V_b10_196 (by decide) rfl) (tw hw 88 rfl) (tw hw 89 rfl) (tw hw 4 rfl) (tw hw 90 rfl) hh223 at_236 4 0 (lenOf pd31 rfl) rfl rfl rfl (by decide) ?_
            rintro _ T236 Lc236 X236 ⟨rfl, Nq236, hh236⟩
            have N236 := Fr.app N223 Nq236
            refine w_f X236 B at_239 (feq (by decide)).1 (w_k X236 B at_242 rfl rfl (w_k X236 B at_244 rfl rfl (w_j X236 B at_246 rfl (w_c X236 B at_248 ?_))))
            show Sh T236 249 #[vi p0, vi p1, vi p2, vi p3, vi p4, vi 3, vr b10, vr b44, vr b103, vi 0, vi 1, vr rs196] [.int 2, .int 1, .ref b10, .ref rs196]
            refine w_cs X236 B hZ hown hml (rmAt0 l Z a0 hw [] rs196 b10 (1 : Int32) (2 : Int32) cs sf _ _ _ _ _ T196.heap n0 Zf Wo196 SF (by decide) (by decide) (by decide)) (tw hw 88 rfl) (tw hw 89 rfl) (tw hw 4 rfl) (tw hw 90 rfl) hh236 at_249 4 0 (lenOf pd31 rfl) rfl rfl rfl (by decide) ?_
            rintro _ T249 Lc249 X249 ⟨rfl, Nq249, hh249⟩
            have N249 := Fr.app N236 Nq249
            refine w_f X249 B at_252 (feq (by decide)).1 (w_k X249 B at_255 rfl rfl (w_k X249 B at_257 rfl rfl (w_j X249 B at_259 rfl (w_c X249 B at_261 ?_))))
            show Sh T249 262 #[vi p0, vi p1, vi p2, vi p3, vi p4, vi 3, vr b10, vr b44, vr b103, vi 0, vi 1, vr rs196] [.int 3, .int 1, .ref b10, .ref rs196]
            refine w_cs X249 B hZ hown hml (rmAt0 l Z a0 hw [] rs196 b10 (1 : Int32) (3 : Int32) cs sf _ _ _ _ _ T196.heap n0 Zf Wo196 SF (by decide) (by decide) (by decide)) (tw hw 88 rfl) (tw hw 89 rfl) (tw hw 4 rfl) (tw hw 90 rfl) hh249 at_262 4 0 (lenOf pd31 rfl) rfl rfl rfl (by decide) ?_
            rintro _ T262 Lc262 X262 ⟨rfl, Nq262, hh262⟩
            have N262 := Fr.app N249 Nq262
            refine w_f X262 B at_265 (feq (by decide)).1 (w_c X262 B at_268 (w_g X262 B 269 273 rfl at_269 (by decide) ?_))
            show Sh T262 273 #[vi p0, vi p1, vi p2, vi p3, vi p4, vi 3, vr b10, vr b44, vr b103, vi 0, vi 1, vr rs196] [.int 1]
            exact Dg.retI X262 hlk B hret rfl (Or.inr (Or.inl rfl)) at_273 (by rw [hh262]; exact ⟨⟨rfl, N262⟩, Nat.le_refl _⟩) (by decide)
          · refine w_j X109 B at_188 rfl (w_c X109 B at_190 (Dg.st (fun _ kk => XS.iadd X109.here hx rfl (hb hby at_191) rfl kk) (w_s X109 B at_192 #[vi p0, vi p1, vi p2, vi p3, vi p4, vi 3, vr b10, vr b44, vr b103, vi 1, vi 2, .unset] rfl (w_k X109 B at_194 rfl rfl ?_))))
            show Sh T109 196 #[vi p0, vi p1, vi p2, vi p3, vi p4, vi 3, vr b10, vr b44, vr b103, vi 1, vi 2, .unset] [.ref b103]
            obtain ⟨_, _, ⟨T196, L196, k196, n196⟩, -, X196, hSw, hgr196, ⟨Lc196, hQ196, l196, y196, z196⟩, st196⟩ := Jvm.RoadKit.callSS X109 hx (y := on0) hown (mvT hZ (tw hw 28 rfl)) (mvT hZ (tw hw 29 rfl)) (mvT hZ (tw hw 30 rfl)) (mvT hZ (tw hw 31 rfl)) (by decide) (own_backS (W := 0) (rmF3 l Z a0 hw [] b103 cs sf r15 r22 r29 T109.heap n0 Zz Wo109 S109 hr15 hr22 hr29 hHl hHu hcw) hZ hI (tw hw 31 rfl) (tw hw 30 rfl) (by decide) (by decide)) (g := (mkF m 196 #[vi p0, vi p1, vi p2, vi p3, vi p4, vi 3, vr b10, vr b44, vr b103, vi 1, vi 2, .unset] [.ref b103])) rfl (by rw [hml]; rfl) (argsL := [.ref b103]) (rest := []) (lenOf pd30 rfl) rfl (by show 2 * 0 + _ ≤ _; exact Nat.le_of_eq rfl) (hb hby at_196) (fun _ _ => ⟨rfl, rfl, (by decide : 5 + 3 ≤ _), (by decide : 20 + 16 ≤ _)⟩)
            dsimp only [Pt.U, Pt.locs, Pt.cells, Pt.slots] at X196 l196 y196 z196 st196 hQ196 hSw hgr196
            subst l196 y196 z196
            obtain ⟨rs196, rfl, Nq196, K196, hq196⟩ := hQ196
            have N196 := Fr.app N109 Nq196
            have hZ := State.Warmed39.trans (t := s) hZ hSw.1
            have hown := (hSw.1.alike.findClass _ _).trans hown
            refine Dg.tr st196 ?_
            refine Dw.of hSw ?_
            have SF : own_Str Z T196.heap rs196 1 2 [.int (own_b r29)] [.int (own_lo r29), .int (own_hi r29)] (r29.toInt ≤ 255 ∧ True) := by
              rcases hq196 with ⟨g_, sf_⟩ | ⟨g_, sf_⟩ | ⟨g_, sf_⟩ | ⟨g_, sf_⟩
              · exact absurd gl.1 g_.2.1
              · exact sf_
              · exact absurd g_.1 gl.2.1
              · exact absurd gl.1 g_.2.1
            have Wo196 := Wo109.keep K196 own_k0
            have V_b10_196 := V_b10_109.keep K196 nin0
            have Zf : n0 ≤ T196.heap.size := Nat.le_trans Zz K196.1
            refine w_u X196 B at_199 rfl #[vi p0, vi p1, vi p2, vi p3, vi p4, vi 3, vr b10, vr b44, vr b103, vi 1, vi 2, vr rs196] rfl (w_k X196 B at_201 rfl rfl ?_)
            show Sh T196 203 #[vi p0, vi p1, vi p2, vi p3, vi p4, vi 3, vr b10, vr b44, vr b103, vi 1, vi 2, vr rs196] [.ref rs196]
            refine w_cv X196 B hZ hown hml (rmLn l Z a0 hw [] rs196 cs sf _ _ _ _ _ T196.heap n0 Zf Wo196 SF (by decide) (by decide)) (tw hw 87 rfl) (tw hw 38 rfl) (tw hw 40 rfl) (tw hw 39 rfl) (tw hw 9 rfl) (tw hw 41 rfl) rfl SF.1 at_203 0 0 rfl (lenOf pd17 rfl) rfl rfl rfl (by decide) ?_
            rintro _ T203 Lc203 X203 ⟨rfl, Nq203, hh203⟩
            have N203 := Fr.app N196 Nq203
            refine w_j X203 B at_206 rfl (w_j X203 B at_208 rfl (Dg.st (fun _ kk => XS.isub X203.here hx rfl (hb hby at_210) rfl kk) (w_y X203 B 211 216 rfl at_211 (teq (by decide)).1 (by decide) (w_k X203 B at_216 rfl rfl (w_k X203 B at_218 rfl rfl (w_j X203 B at_220 rfl (w_c X203 B at_222 ?_)))))))
            show Sh T203 223 #[vi p0, vi p1, vi p2, vi p3, vi p4, vi 3, vr b10, vr b44, vr b103, vi 1, vi 2, vr rs196] [.int 0, .int 2, .ref b10, .ref rs196]
            refine w_cs X203 B hZ hown hml (rmAt1 l Z a0 hw [] rs196 b10 (2 : Int32) (0 : Int32) cs sf _ _ _ _ _ r29 _ _ T196.heap n0 Zf Wo196 SF (by decide) (by decide) (by decide) (by decide) rfl (fun q => q.1) (by decide) (by decide) rfl rfl (by decide) hr29 V_b10_196 (by decide) rfl) (tw hw 88 rfl) (tw hw 89 rfl) (tw hw 4 rfl) (tw hw 90 rfl) hh203 at_223 4 0 (lenOf pd31 rfl) rfl rfl rfl (by decide) ?_
            rintro _ T223 Lc223 X223 ⟨rfl, Nq223, hh223⟩
            have N223 := Fr.app N203 Nq223
            refine w_f X223 B at_226 (feq (by decide)).1 (w_k X223 B at_229 rfl rfl (w_k X223 B at_231 rfl rfl (w_j X223 B at_233 rfl (w_c X223 B at_235 ?_))))
            show Sh T223 236 #[vi p0, vi p1, vi p2, vi p3, vi p4, vi 3, vr b10, vr b44, vr b103, vi 1, vi 2, vr rs196] [.int 1, .int 2, .ref b10, .ref rs196]
            refine w_cs X223 B hZ hown hml (rmAt0 l Z a0 hw [] rs196 b10 (2 : Int32) (1 : Int32) cs sf _ _ _ _ _ T196.heap n0 Zf Wo196 SF (by decide) (by decide) (by decide)) (tw hw 88 rfl) (tw hw 89 rfl) (tw hw 4 rfl) (tw hw 90 rfl) hh223 at_236 4 0 (lenOf pd31 rfl) rfl rfl rfl (by decide) ?_
            rintro _ T236 Lc236 X236 ⟨rfl, Nq236, hh236⟩
            have N236 := Fr.app N223 Nq236
            refine w_f X236 B at_239 (feq (by decide)).1 (w_k X236 B at_242 rfl rfl (w_k X236 B at_244 rfl rfl (w_j X236 B at_246 rfl (w_c X236 B at_248 ?_))))
            show Sh T236 249 #[vi p0, vi p1, vi p2, vi p3, vi p4, vi 3, vr b10, vr b44, vr b103, vi 1, vi 2, vr rs196] [.int 2, .int 2, .ref b10, .ref rs196]
            refine w_cs X236 B hZ hown hml (rmAt0 l Z a0 hw [] rs196 b10 (2 : Int32) (2 : Int32) cs sf _ _ _ _ _ T196.heap n0 Zf Wo196 SF (by decide) (by decide) (by decide)) (tw hw 88 rfl) (tw hw 89 rfl) (tw hw 4 rfl) (tw hw 90 rfl) hh236 at_249 4 0 (lenOf pd31 rfl) rfl rfl rfl (by decide) ?_
            rintro _ T249 Lc249 X249 ⟨rfl, Nq249, hh249⟩
            have N249 := Fr.app N236 Nq249
            refine w_f X249 B at_252 (feq (by decide)).1 (w_k X249 B at_255 rfl rfl (w_k X249 B at_257 rfl rfl (w_j X249 B at_259 rfl (w_c X249 B at_261 ?_))))
            show Sh T249 262 #[vi p0, vi p1, vi p2, vi p3, vi p4, vi 3, vr b10, vr b44, vr b103, vi 1, vi 2, vr rs196] [.int 3, .int 2, .ref b10, .ref rs196]
            refine w_cs X249 B hZ hown hml (rmAt0 l Z a0 hw [] rs196 b10 (2 : Int32) (3 : Int32) cs sf _ _ _ _ _ T196.heap n0 Zf Wo196 SF (by decide) (by decide) (by decide)) (tw hw 88 rfl) (tw hw 89 rfl) (tw hw 4 rfl) (tw hw 90 rfl) hh249 at_262 4 0 (lenOf pd31 rfl) rfl rfl rfl (by decide) ?_
            rintro _ T262 Lc262 X262 ⟨rfl, Nq262, hh262⟩
            have N262 := Fr.app N249 Nq262
            refine w_f X262 B at_265 (feq (by decide)).1 (w_c X262 B at_268 (w_g X262 B 269 273 rfl at_269 (by decide) ?_))
            show Sh T262 273 #[vi p0, vi p1, vi p2, vi p3, vi p4, vi 3, vr b10, vr b44, vr b103, vi 1, vi 2, vr rs196] [.int 1]
            exact Dg.retI X262 hlk B hret rfl (Or.inr (Or.inl rfl)) at_273 (by rw [hh262]; exact ⟨⟨rfl, N262⟩, Nat.le_refl _⟩) (by decide)
          · refine w_j X109 B at_188 rfl (w_c X109 B at_190 (Dg.st (fun _ kk => XS.iadd X109.here hx rfl (hb hby at_191) rfl kk) (w_s X109 B at_192 #[vi p0, vi p1, vi p2, vi p3, vi p4, vi 3, vr b10, vr b44, vr b103, vi 2, vi 3, .unset] rfl (w_k X109 B at_194 rfl rfl ?_))))
            show Sh T109 196 #[vi p0, vi p1, vi p2, vi p3, vi p4, vi 3, vr b10, vr b44, vr b103, vi 2, vi 3, .unset] [.ref b103]
            obtain ⟨_, _, ⟨T196, L196, k196, n196⟩, -, X196, hSw, hgr196, ⟨Lc196, hQ196, l196, y196, z196⟩, st196⟩ := Jvm.RoadKit.callSS X109 hx (y := on0) hown (mvT hZ (tw hw 28 rfl)) (mvT hZ (tw hw 29 rfl)) (mvT hZ (tw hw 30 rfl)) (mvT hZ (tw hw 31 rfl)) (by decide) (own_backS (W := 0) (rmF3 l Z a0 hw [] b103 cs sf r15 r22 r29 T109.heap n0 Zz Wo109 S109 hr15 hr22 hr29 hHl hHu hcw) hZ hI (tw hw 31 rfl) (tw hw 30 rfl) (by decide) (by decide)) (g := (mkF m 196 #[vi p0, vi p1, vi p2, vi p3, vi p4, vi 3, vr b10, vr b44, vr b103, vi 2, vi 3, .unset] [.ref b103])) rfl (by rw [hml]; rfl) (argsL := [.ref b103]) (rest := []) (lenOf pd30 rfl) rfl (by show 2 * 0 + _ ≤ _; exact Nat.le_of_eq rfl) (hb hby at_196) (fun _ _ => ⟨rfl, rfl, (by decide : 5 + 3 ≤ _), (by decide : 20 + 16 ≤ _)⟩)
            dsimp only [Pt.U, Pt.locs, Pt.cells, Pt.slots] at X196 l196 y196 z196 st196 hQ196 hSw hgr196
            subst l196 y196 z196
            obtain ⟨rs196, rfl, Nq196, K196, hq196⟩ := hQ196
            have N196 := Fr.app N109 Nq196
            have hZ := State.Warmed39.trans (t := s) hZ hSw.1
            have hown := (hSw.1.alike.findClass _ _).trans hown
            refine Dg.tr st196 ?_
            refine Dw.of hSw ?_
            have SF : own_Str Z T196.heap rs196 0 0 [] [] (True) := by
              rcases hq196 with ⟨g_, sf_⟩ | ⟨g_, sf_⟩ | ⟨g_, sf_⟩ | ⟨g_, sf_⟩
              · exact absurd gl.1 g_.2.2.1
              · exact absurd gl.1 g_.2.1
              · exact sf_
              · exact absurd gl.1 g_.2.2.1
            have Wo196 := Wo109.keep K196 own_k0
            have V_b10_196 := V_b10_109.keep K196 nin0
            have Zf : n0 ≤ T196.heap.size := Nat.le_trans Zz K196.1
            refine w_u X196 B at_199 rfl #[vi p0, vi p1, vi p2, vi p3, vi p4, vi 3, vr b10, vr b44, vr b103, vi 2, vi 3, vr rs196] rfl (w_k X196 B at_201 rfl rfl ?_)
            show Sh T196 203 #[vi p0, vi p1, vi p2, vi p3, vi p4, vi 3, vr b10, vr b44, vr b103, vi 2, vi 3, vr rs196] [.ref rs196]
            refine w_cv X196 B hZ hown hml (rmLn l Z a0 hw [] rs196 cs sf _ _ _ _ _ T196.heap n0 Zf Wo196 SF (by decide) (by decide)) (tw hw 87 rfl) (tw hw 38 rfl) (tw hw 40 rfl) (tw hw 39 rfl) (tw hw 9 rfl) (tw hw 41 rfl) rfl SF.1 at_203 0 0 rfl (lenOf pd17 rfl) rfl rfl rfl (by decide) ?_
            rintro _ T203 Lc203 X203 ⟨rfl, Nq203, hh203⟩
            have N203 := Fr.app N196 Nq203
            refine w_j X203 B at_206 rfl (w_j X203 B at_208 rfl (Dg.st (fun _ kk => XS.isub X203.here hx rfl (hb hby at_210) rfl kk) (w_y X203 B 211 216 rfl at_211 (teq (by decide)).1 (by decide) (w_k X203 B at_216 rfl rfl (w_k X203 B at_218 rfl rfl (w_j X203 B at_220 rfl (w_c X203 B at_222 ?_)))))))
            show Sh T203 223 #[vi p0, vi p1, vi p2, vi p3, vi p4, vi 3, vr b10, vr b44, vr b103, vi 2, vi 3, vr rs196] [.int 0, .int 3, .ref b10, .ref rs196]
            refine w_cs X203 B hZ hown hml (rmAt0 l Z a0 hw [] rs196 b10 (3 : Int32) (0 : Int32) cs sf _ _ _ _ _ T196.heap n0 Zf Wo196 SF (by decide) (by decide) (by decide)) (tw hw 88 rfl) (tw hw 89 rfl) (tw hw 4 rfl) (tw hw 90 rfl) hh203 at_223 4 0 (lenOf pd31 rfl) rfl rfl rfl (by decide) ?_
            rintro _ T223 Lc223 X223 ⟨rfl, Nq223, hh223⟩
            have N223 := Fr.app N203 Nq223
            refine w_f X223 B at_226 (feq (by decide)).1 (w_k X223 B at_229 rfl rfl (w_k X223 B at_231 rfl rfl (w_j X223 B at_233 rfl (w_c X223 B at_235 ?_))))
            show Sh T223 236 #[vi p0, vi p1, vi p2, vi p3, vi p4, vi 3, vr b10, vr b44, vr b103, vi 2, vi 3, vr rs196] [.int 1, .int 3, .ref b10, .ref rs196]
            refine w_cs X223 B hZ hown hml (rmAt0 l Z a0 hw [] rs196 b10 (3 : Int32) (1 : Int32) cs sf _ _ _ _ _ T196.heap n0 Zf Wo196 SF (by decide) (by decide) (by decide)) (tw hw 88 rfl) (tw hw 89 rfl) (tw hw 4 rfl) (tw hw 90 rfl) hh223 at_236 4 0 (lenOf pd31 rfl) rfl rfl rfl (by decide) ?_
            rintro _ T236 Lc236 X236 ⟨rfl, Nq236, hh236⟩
            have N236 := Fr.app N223 Nq236
            refine w_f X236 B at_239 (feq (by decide)).1 (w_k X236 B at_242 rfl rfl (w_k X236 B at_244 rfl rfl (w_j X236 B at_246 rfl (w_c X236 B at_248 ?_))))
            show Sh T236 249 #[vi p0, vi p1, vi p2, vi p3, vi p4, vi 3, vr b10, vr b44, vr b103, vi 2, vi 3, vr rs196] [.int 2, .int 3, .ref b10, .ref rs196]
            refine w_cs X236 B hZ hown hml (rmAt0 l Z a0 hw [] rs196 b10 (3 : Int32) (2 : Int32) cs sf _ _ _ _ _ T196.heap n0 Zf Wo196 SF (by decide) (by decide) (by decide)) (tw hw 88 rfl) (tw hw 89 rfl) (tw hw 4 rfl) (tw hw 90 rfl) hh236 at_249 4 0 (lenOf pd31 rfl) rfl rfl rfl (by decide) ?_
            rintro _ T249 Lc249 X249 ⟨rfl, Nq249, hh249⟩
            have N249 := Fr.app N236 Nq249
            refine w_f X249 B at_252 (feq (by decide)).1 (w_k X249 B at_255 rfl rfl (w_k X249 B at_257 rfl rfl (w_j X249 B at_259 rfl (w_c X249 B at_261 ?_))))
            show Sh T249 262 #[vi p0, vi p1, vi p2, vi p3, vi p4, vi 3, vr b10, vr b44, vr b103, vi 2, vi 3, vr rs196] [.int 3, .int 3, .ref b10, .ref rs196]
            refine w_cs X249 B hZ hown hml (rmAt0 l Z a0 hw [] rs196 b10 (3 : Int32) (3 : Int32) cs sf _ _ _ _ _ T196.heap n0 Zf Wo196 SF (by decide) (by decide) (by decide)) (tw hw 88 rfl) (tw hw 89 rfl) (tw hw 4 rfl) (tw hw 90 rfl) hh249 at_262 4 0 (lenOf pd31 rfl) rfl rfl rfl (by decide) ?_
            rintro _ T262 Lc262 X262 ⟨rfl, Nq262, hh262⟩
            have N262 := Fr.app N249 Nq262
            refine w_f X262 B at_265 (feq (by decide)).1 (w_c X262 B at_268 (w_g X262 B 269 273 rfl at_269 (by decide) ?_))
            show Sh T262 273 #[vi p0, vi p1, vi p2, vi p3, vi p4, vi 3, vr b10, vr b44, vr b103, vi 2, vi 3, vr rs196] [.int 1]
            exact Dg.retI X262 hlk B hret rfl (Or.inr (Or.inl rfl)) at_273 (by rw [hh262]; exact ⟨⟨rfl, N262⟩, Nat.le_refl _⟩) (by decide)
          · refine w_j X109 B at_188 rfl (w_c X109 B at_190 (Dg.st (fun _ kk => XS.iadd X109.here hx rfl (hb hby at_191) rfl kk) (w_s X109 B at_192 #[vi p0, vi p1, vi p2, vi p3, vi p4, vi 3, vr b10, vr b44, vr b103, vi (-1), vi 0, .unset] rfl (w_k X109 B at_194 rfl rfl ?_))))
            show Sh T109 196 #[vi p0, vi p1, vi p2, vi p3, vi p4, vi 3, vr b10, vr b44, vr b103, vi (-1), vi 0, .unset] [.ref b103]
            obtain ⟨_, _, ⟨T196, L196, k196, n196⟩, -, X196, hSw, hgr196, ⟨Lc196, hQ196, l196, y196, z196⟩, st196⟩ := Jvm.RoadKit.callSS X109 hx (y := on0) hown (mvT hZ (tw hw 28 rfl)) (mvT hZ (tw hw 29 rfl)) (mvT hZ (tw hw 30 rfl)) (mvT hZ (tw hw 31 rfl)) (by decide) (own_backS (W := 0) (rmF3 l Z a0 hw [] b103 cs sf r15 r22 r29 T109.heap n0 Zz Wo109 S109 hr15 hr22 hr29 hHl hHu hcw) hZ hI (tw hw 31 rfl) (tw hw 30 rfl) (by decide) (by decide)) (g := (mkF m 196 #[vi p0, vi p1, vi p2, vi p3, vi p4, vi 3, vr b10, vr b44, vr b103, vi (-1), vi 0, .unset] [.ref b103])) rfl (by rw [hml]; rfl) (argsL := [.ref b103]) (rest := []) (lenOf pd30 rfl) rfl (by show 2 * 0 + _ ≤ _; exact Nat.le_of_eq rfl) (hb hby at_196) (fun _ _ => ⟨rfl, rfl, (by decide : 5 + 3 ≤ _), (by decide : 20 + 16 ≤ _)⟩)
            dsimp only [Pt.U, Pt.locs, Pt.cells, Pt.slots] at X196 l196 y196 z196 st196 hQ196 hSw hgr196
            subst l196 y196 z196
            obtain ⟨rs196, rfl, Nq196, K196, hq196⟩ := hQ196
            have N196 := Fr.app N109 Nq196
            have hZ := State.Warmed39.trans (t := s) hZ hSw.1
            have hown := (hSw.1.alike.findClass _ _).trans hown
            refine Dg.tr st196 ?_
            refine Dw.of hSw ?_
            have SF : own_Str Z T196.heap rs196 3 6 [.int (own_b r15), .int (own_b r22), .int (own_b r29)] [.int (own_lo r15), .int (own_hi r15), .int (own_lo r22), .int (own_hi r22), .int (own_lo r29), .int (own_hi r29)] (r15.toInt ≤ 255 ∧ r22.toInt ≤ 255 ∧ r29.toInt ≤ 255 ∧ True) := by
              rcases hq196 with ⟨g_, sf_⟩ | ⟨g_, sf_⟩ | ⟨g_, sf_⟩ | ⟨g_, sf_⟩
              · exact absurd g_.1 gl.1
              · exact absurd g_.1 gl.2.1
              · exact absurd g_.1 gl.2.2.1
              · exact sf_
            have Wo196 := Wo109.keep K196 own_k0
            have V_b10_196 := V_b10_109.keep K196 nin0
            have Zf : n0 ≤ T196.heap.size := Nat.le_trans Zz K196.1
            refine w_u X196 B at_199 rfl #[vi p0, vi p1, vi p2, vi p3, vi p4, vi 3, vr b10, vr b44, vr b103, vi (-1), vi 0, vr rs196] rfl (w_k X196 B at_201 rfl rfl ?_)
            show Sh T196 203 #[vi p0, vi p1, vi p2, vi p3, vi p4, vi 3, vr b10, vr b44, vr b103, vi (-1), vi 0, vr rs196] [.ref rs196]
            refine w_cv X196 B hZ hown hml (rmLn l Z a0 hw [] rs196 cs sf _ _ _ _ _ T196.heap n0 Zf Wo196 SF (by decide) (by decide)) (tw hw 87 rfl) (tw hw 38 rfl) (tw hw 40 rfl) (tw hw 39 rfl) (tw hw 9 rfl) (tw hw 41 rfl) rfl SF.1 at_203 0 0 rfl (lenOf pd17 rfl) rfl rfl rfl (by decide) ?_
            rintro _ T203 Lc203 X203 ⟨rfl, Nq203, hh203⟩
            have N203 := Fr.app N196 Nq203
            refine w_j X203 B at_206 rfl (w_j X203 B at_208 rfl (Dg.st (fun _ kk => XS.isub X203.here hx rfl (hb hby at_210) rfl kk) (w_y X203 B 211 216 rfl at_211 (teq (by decide)).1 (by decide) (w_k X203 B at_216 rfl rfl (w_k X203 B at_218 rfl rfl (w_j X203 B at_220 rfl (w_c X203 B at_222 ?_)))))))
            show Sh T203 223 #[vi p0, vi p1, vi p2, vi p3, vi p4, vi 3, vr b10, vr b44, vr b103, vi (-1), vi 0, vr rs196] [.int 0, .int 0, .ref b10, .ref rs196]
            refine w_cs X203 B hZ hown hml (rmAt1 l Z a0 hw [] rs196 b10 (0 : Int32) (0 : Int32) cs sf _ _ _ _ _ r15 _ _ T196.heap n0 Zf Wo196 SF (by decide) (by decide) (by decide) (by decide) rfl (fun q => q.1) (by decide) (by decide) rfl rfl (by decide) hr15 V_b10_196 (by decide) rfl) (tw hw 88 rfl) (tw hw 89 rfl) (tw hw 4 rfl) (tw hw 90 rfl) hh203 at_223 4 0 (lenOf pd31 rfl) rfl rfl rfl (by decide) ?_
            rintro _ T223 Lc223 X223 ⟨rfl, Nq223, hh223⟩
            have N223 := Fr.app N203 Nq223
            refine w_f X223 B at_226 (feq (by decide)).1 (w_k X223 B at_229 rfl rfl (w_k X223 B at_231 rfl rfl (w_j X223 B at_233 rfl (w_c X223 B at_235 ?_))))
            show Sh T223 236 #[vi p0, vi p1, vi p2, vi p3, vi p4, vi 3, vr b10, vr b44, vr b103, vi (-1), vi 0, vr rs196] [.int 1, .int 0, .ref b10, .ref rs196]
            refine w_cs X223 B hZ hown hml (rmAt1 l Z a0 hw [] rs196 b10 (0 : Int32) (1 : Int32) cs sf _ _ _ _ _ r22 _ _ T196.heap n0 Zf Wo196 SF (by decide) (by decide) (by decide) (by decide) rfl (fun q => q.2.1) (by decide) (by decide) rfl rfl (by decide) hr22 V_b10_196 (by decide) rfl) (tw hw 88 rfl) (tw hw 89 rfl) (tw hw 4 rfl) (tw hw 90 rfl) hh223 at_236 4 0 (lenOf pd31 rfl) rfl rfl rfl (by decide) ?_
            rintro _ T236 Lc236 X236 ⟨rfl, Nq236, hh236⟩
            have N236 := Fr.app N223 Nq236
            refine w_f X236 B at_239 (feq (by decide)).1 (w_k X236 B at_242 rfl rfl (w_k X236 B at_244 rfl rfl (w_j X236 B at_246 rfl (w_c X236 B at_248 ?_))))
            show Sh T236 249 #[vi p0, vi p1, vi p2, vi p3, vi p4, vi 3, vr b10, vr b44, vr b103, vi (-1), vi 0, vr rs196] [.int 2, .int 0, .ref b10, .ref rs196]
            refine w_cs X236 B hZ hown hml (rmAt1 l Z a0 hw [] rs196 b10 (0 : Int32) (2 : Int32) cs sf _ _ _ _ _ r29 _ _ T196.heap n0 Zf Wo196 SF (by decide) (by decide) (by decide) (by decide) rfl (fun q => q.2.2.1) (by decide) (by decide) rfl rfl (by decide) hr29 V_b10_196 (by decide) rfl) (tw hw 88 rfl) (tw hw 89 rfl) (tw hw 4 rfl) (tw hw 90 rfl) hh236 at_249 4 0 (lenOf pd31 rfl) rfl rfl rfl (by decide) ?_
            rintro _ T249 Lc249 X249 ⟨rfl, Nq249, hh249⟩
            have N249 := Fr.app N236 Nq249
            refine w_f X249 B at_252 (feq (by decide)).1 (w_k X249 B at_255 rfl rfl (w_k X249 B at_257 rfl rfl (w_j X249 B at_259 rfl (w_c X249 B at_261 ?_))))
            show Sh T249 262 #[vi p0, vi p1, vi p2, vi p3, vi p4, vi 3, vr b10, vr b44, vr b103, vi (-1), vi 0, vr rs196] [.int 3, .int 0, .ref b10, .ref rs196]
            refine w_cs X249 B hZ hown hml (rmAt0 l Z a0 hw [] rs196 b10 (0 : Int32) (3 : Int32) cs sf _ _ _ _ _ T196.heap n0 Zf Wo196 SF (by decide) (by decide) (by decide)) (tw hw 88 rfl) (tw hw 89 rfl) (tw hw 4 rfl) (tw hw 90 rfl) hh249 at_262 4 0 (lenOf pd31 rfl) rfl rfl rfl (by decide) ?_
            rintro _ T262 Lc262 X262 ⟨rfl, Nq262, hh262⟩
            have N262 := Fr.app N249 Nq262
            refine w_f X262 B at_265 (feq (by decide)).1 (w_c X262 B at_268 (w_g X262 B 269 273 rfl at_269 (by decide) ?_))
            show Sh T262 273 #[vi p0, vi p1, vi p2, vi p3, vi p4, vi 3, vr b10, vr b44, vr b103, vi (-1), vi 0, vr rs196] [.int 1]
            exact Dg.retI X262 hlk B hret rfl (Or.inr (Or.inl rfl)) at_273 (by rw [hh262]; exact ⟨⟨rfl, N262⟩, Nat.le_refl _⟩) (by decide)
        refine w_j X109 B at_152 rfl (w_c X109 B at_154 (w_n X109 B at_155 (tlt (by decide)).2.2.2 (w_k X109 B at_158 rfl rfl (w_c X109 B at_160 (w_ca X109 B hZ rfl V_b10_109 (by decide) (v := (.int r29)) rfl at_161 (Dg.st (fun _ kk => XS.bipush X109.here hx rfl (hb hby at_162) kk) ?_))))))
        show Sh T109 164 #[vi p0, vi p1, vi p2, vi p3, vi p4, vi 3, vr b10, vr b44, vr b103, vi j152_9, .unset, .unset] [.int 47, .int r29]
        by_cases hc164 : r29 = (47 : Int32)
        · refine w_n X109 B at_164 (teq hc164).2 (w_c X109 B at_167 (w_s X109 B at_168 #[vi p0, vi p1, vi p2, vi p3, vi p4, vi 3, vr b10, vr b44, vr b103, vi 2, .unset, .unset] rfl ?_))
          show Sh T109 170 #[vi p0, vi p1, vi p2, vi p3, vi p4, vi 3, vr b10, vr b44, vr b103, vi 2, .unset, .unset] []
          exact J170 (2 : Int32) (Or.inr (Or.inr (Or.inl ⟨rfl, hc164, trivial⟩)))
        · refine w_y X109 B 164 170 rfl at_164 (feq hc164).2 (by decide) ?_
          show Sh T109 170 #[vi p0, vi p1, vi p2, vi p3, vi p4, vi 3, vr b10, vr b44, vr b103, vi j152_9, .unset, .unset] []
          exact J170 j152_9 (match hj152 with | Or.inl ⟨ee, a0, a1, _⟩ => (Or.inl ⟨ee, a0, a1, hc164, trivial⟩) | Or.inr (Or.inl ⟨ee, a0, _⟩) => (Or.inr (Or.inl ⟨ee, a0, hc164, trivial⟩)) | Or.inr (Or.inr ⟨ee, a0, a1, _⟩) => (Or.inr (Or.inr (Or.inr ⟨ee, a0, a1, hc164, trivial⟩))))
      refine w_j X109 B at_134 rfl (w_c X109 B at_136 (w_n X109 B at_137 (tlt (by decide)).2.2.2 (w_k X109 B at_140 rfl rfl (w_c X109 B at_142 (w_ca X109 B hZ rfl V_b10_109 (by decide) (v := (.int r22)) rfl at_143 (Dg.st (fun _ kk => XS.bipush X109.here hx rfl (hb hby at_144) kk) ?_))))))
      show Sh T109 146 #[vi p0, vi p1, vi p2, vi p3, vi p4, vi 3, vr b10, vr b44, vr b103, vi j134_9, .unset, .unset] [.int 47, .int r22]
      by_cases hc146 : r22 = (47 : Int32)
      · refine w_n X109 B at_146 (teq hc146).2 (w_c X109 B at_149 (w_s X109 B at_150 #[vi p0, vi p1, vi p2, vi p3, vi p4, vi 3, vr b10, vr b44, vr b103, vi 1, .unset, .unset] rfl ?_))
        show Sh T109 152 #[vi p0, vi p1, vi p2, vi p3, vi p4, vi 3, vr b10, vr b44, vr b103, vi 1, .unset, .unset] []
        exact J152 (1 : Int32) (Or.inr (Or.inl ⟨rfl, hc146, trivial⟩))
      · refine w_y X109 B 146 152 rfl at_146 (feq hc146).2 (by decide) ?_
        show Sh T109 152 #[vi p0, vi p1, vi p2, vi p3, vi p4, vi 3, vr b10, vr b44, vr b103, vi j134_9, .unset, .unset] []
        exact J152 j134_9 (match hj134 with | Or.inl ⟨ee, a0, _⟩ => (Or.inl ⟨ee, a0, hc146, trivial⟩) | Or.inr ⟨ee, a0, _⟩ => (Or.inr (Or.inr ⟨ee, a0, hc146, trivial⟩)))
    refine w_j X109 B at_117 rfl (w_f X109 B at_119 (tlt (by decide)).2.2.2 (w_k X109 B at_122 rfl rfl (w_c X109 B at_124 (w_ca X109 B hZ rfl V_b10_109 (by decide) (v := (.int r15)) rfl at_125 (Dg.st (fun _ kk => XS.bipush X109.here hx rfl (hb hby at_126) kk) ?_)))))
    show Sh T109 128 #[vi p0, vi p1, vi p2, vi p3, vi p4, vi 3, vr b10, vr b44, vr b103, vi (-1), .unset, .unset] [.int 47, .int r15]
    by_cases hc128 : r15 = (47 : Int32)
    · refine w_n X109 B at_128 (teq hc128).2 (w_c X109 B at_131 (w_s X109 B at_132 #[vi p0, vi p1, vi p2, vi p3, vi p4, vi 3, vr b10, vr b44, vr b103, vi 0, .unset, .unset] rfl ?_))
      show Sh T109 134 #[vi p0, vi p1, vi p2, vi p3, vi p4, vi 3, vr b10, vr b44, vr b103, vi 0, .unset, .unset] []
      exact J134 (0 : Int32) (Or.inl ⟨rfl, hc128, trivial⟩)
    · refine w_y X109 B 128 134 rfl at_128 (feq hc128).2 (by decide) ?_
      show Sh T109 134 #[vi p0, vi p1, vi p2, vi p3, vi p4, vi 3, vr b10, vr b44, vr b103, vi (-1), .unset, .unset] []
      exact J134 (-1 : Int32) (Or.inr ⟨rfl, hc128, trivial⟩)
  · subst hk42
    refine w_j X39 B at_42 rfl ?_
    show Sh T39 44 #[vi p0, vi p1, vi p2, vi p3, vi p4, vi 4, vr b10, .unset, .unset, .unset, .unset, .unset] [.int 4]
    obtain ⟨T44, h44, k44, X44, e44, E44, A44, st44⟩ := newP X39 hx hZ (tw hw 1 rfl) e39 (g := (mkF m 44 #[vi p0, vi p1, vi p2, vi p3, vi p4, vi 4, vr b10, .unset, .unset, .unset, .unset, .unset] [.int 4])) rfl (hb hby at_44) rfl (by decide) (cap := 4) (by decide) (by decide) (by decide) (by decide)
    obtain ⟨b44, g44⟩ : ∃ z, z = h39.size := ⟨_, rfl⟩
    rw [← g44] at A44 st44
    have ne_b10_b44 : b10 ≠ b44 := Nat.ne_of_lt (Nat.lt_of_lt_of_le V_b10_39.lt (Nat.le_of_eq g44.symm))
    have V_b10_44 := V_b10_39.ext E44
    have Wo44 := Wo39.ext E44
    have gn_b44 : n0 ≤ b44 := Nat.le_trans Z39 (Nat.le_of_eq g44.symm)
    have Z44 : n0 ≤ h44.size := Nat.le_trans Z39 E44.1
    have V_b44 : Arv Z h44 b44 k44 .char (4 : Int32) [.int 0, .int 0, .int 0, .int 0] (.int 0) := (Arv.new A44 (by decide)).pad (pad_rep [] (.int 0) 4)
    refine Dg.st st44 ?_
    refine w_u X44 B at_46 rfl #[vi p0, vi p1, vi p2, vi p3, vi p4, vi 4, vr b10, vr b44, .unset, .unset, .unset, .unset] rfl (w_j X44 B at_48 rfl (w_f X44 B at_50 (tlt (by decide)).2.2.2 (w_k X44 B at_53 rfl rfl (w_c X44 B at_55 (w_k X44 B at_56 rfl rfl (w_c X44 B at_58 (w_ca X44 B hZ e44 V_b10_44 (by decide) (v := (.int r15)) rfl at_59 ?_)))))))
    show Sh T44 60 #[vi p0, vi p1, vi p2, vi p3, vi p4, vi 4, vr b10, vr b44, .unset, .unset, .unset, .unset] [.int r15, .int 0, .ref b44]
    have Vc_b44_60 := V_b44
    obtain ⟨cl_b44_60, Ar_b44_60, q_b44_60, S_b44_60, N_b44_60, H_b44_60, G_b44_60⟩ := Vc_b44_60
    have hin60 : ¬ ((0 : Int32) < 0 ∨ cl_b44_60.slots.size ≤ ((0 : Int32)).toNatClampNeg) := inb_of S_b44_60 ⟨by decide, by decide⟩
    obtain ⟨T60, h60, X60, e60, W60, st60⟩ := stC X44 hx hZ e44 Ar_b44_60 (j := (0 : Int32)) hin60 (g := (mkF m 60 #[vi p0, vi p1, vi p2, vi p3, vi p4, vi 4, vr b10, vr b44, .unset, .unset, .unset, .unset] [.int r15, .int 0, .ref b44])) rfl rfl (hb hby at_60)
    have Wo60 := Wo44.wr W60 gn_b44
    have V_b10_60 := V_b10_44.other W60 ne_b10_b44
    have V_b44_60 := Arv.set Ar_b44_60 q_b44_60 S_b44_60 N_b44_60 H_b44_60 G_b44_60 (fits_nar_char _) W60 0 rfl (Nat.le_of_ble_eq_true rfl)
    have N60 := Fr.snoc X60 N39 gn_b44
    have Z60 : n0 ≤ h60.size := Nat.le_trans Z44 (Keep.of_wr W60).1
    refine Dg.st st60 ?_
    refine w_j X60 B at_61 rfl (w_c X60 B at_63 (w_n X60 B at_64 (tlt (by decide)).2.2.2 (w_k X60 B at_67 rfl rfl (w_c X60 B at_69 (w_k X60 B at_70 rfl rfl (w_c X60 B at_72 (w_ca X60 B hZ e60 V_b10_60 (by decide) (v := (.int r22)) rfl at_73 ?_)))))))
    show Sh T60 74 #[vi p0, vi p1, vi p2, vi p3, vi p4, vi 4, vr b10, vr b44, .unset, .unset, .unset, .unset] [.int r22, .int 1, .ref b44]
    have Vc_b44_74 := V_b44_60
    obtain ⟨cl_b44_74, Ar_b44_74, q_b44_74, S_b44_74, N_b44_74, H_b44_74, G_b44_74⟩ := Vc_b44_74
    have hin74 : ¬ ((1 : Int32) < 0 ∨ cl_b44_74.slots.size ≤ ((1 : Int32)).toNatClampNeg) := inb_of S_b44_74 ⟨by decide, by decide⟩
    obtain ⟨T74, h74, X74, e74, W74, st74⟩ := stC X60 hx hZ e60 Ar_b44_74 (j := (1 : Int32)) hin74 (g := (mkF m 74 #[vi p0, vi p1, vi p2, vi p3, vi p4, vi 4, vr b10, vr b44, .unset, .unset, .unset, .unset] [.int r22, .int 1, .ref b44])) rfl rfl (hb hby at_74)
    have Wo74 := Wo60.wr W74 gn_b44
    have V_b10_74 := V_b10_60.other W74 ne_b10_b44
    have V_b44_74 := Arv.set Ar_b44_74 q_b44_74 S_b44_74 N_b44_74 H_b44_74 G_b44_74 (fits_nar_char _) W74 1 rfl (Nat.le_of_ble_eq_true rfl)
    have N74 := Fr.snoc X74 N60 gn_b44
    have Z74 : n0 ≤ h74.size := Nat.le_trans Z60 (Keep.of_wr W74).1
    refine Dg.st st74 ?_
    refine w_j X74 B at_75 rfl (w_c X74 B at_77 (w_n X74 B at_78 (tlt (by decide)).2.2.2 (w_k X74 B at_81 rfl rfl (w_c X74 B at_83 (w_k X74 B at_84 rfl rfl (w_c X74 B at_86 (w_ca X74 B hZ e74 V_b10_74 (by decide) (v := (.int r29)) rfl at_87 ?_)))))))
    show Sh T74 88 #[vi p0, vi p1, vi p2, vi p3, vi p4, vi 4, vr b10, vr b44, .unset, .unset, .unset, .unset] [.int r29, .int 2, .ref b44]
    have Vc_b44_88 := V_b44_74
    obtain ⟨cl_b44_88, Ar_b44_88, q_b44_88, S_b44_88, N_b44_88, H_b44_88, G_b44_88⟩ := Vc_b44_88
    have hin88 : ¬ ((2 : Int32) < 0 ∨ cl_b44_88.slots.size ≤ ((2 : Int32)).toNatClampNeg) := inb_of S_b44_88 ⟨by decide, by decide⟩
    obtain ⟨T88, h88, X88, e88, W88, st88⟩ := stC X74 hx hZ e74 Ar_b44_88 (j := (2 : Int32)) hin88 (g := (mkF m 88 #[vi p0, vi p1, vi p2, vi p3, vi p4, vi 4, vr b10, vr b44, .unset, .unset, .unset, .unset] [.int r29, .int 2, .ref b44])) rfl rfl (hb hby at_88)
    have Wo88 := Wo74.wr W88 gn_b44
    have V_b10_88 := V_b10_74.other W88 ne_b10_b44
    have V_b44_88 := Arv.set Ar_b44_88 q_b44_88 S_b44_88 N_b44_88 H_b44_88 G_b44_88 (fits_nar_char _) W88 2 rfl (Nat.le_of_ble_eq_true rfl)
    have N88 := Fr.snoc X88 N74 gn_b44
    have Z88 : n0 ≤ h88.size := Nat.le_trans Z74 (Keep.of_wr W88).1
    refine Dg.st st88 ?_
    refine w_j X88 B at_89 rfl (w_c X88 B at_91 (w_n X88 B at_92 (tlt (by decide)).2.2.2 (w_k X88 B at_95 rfl rfl (w_c X88 B at_97 (w_k X88 B at_98 rfl rfl (w_c X88 B at_100 (w_ca X88 B hZ e88 V_b10_88 (by decide) (v := (.int r36)) rfl at_101 ?_)))))))
    show Sh T88 102 #[vi p0, vi p1, vi p2, vi p3, vi p4, vi 4, vr b10, vr b44, .unset, .unset, .unset, .unset] [.int r36, .int 3, .ref b44]
    have Vc_b44_102 := V_b44_88
    obtain ⟨cl_b44_102, Ar_b44_102, q_b44_102, S_b44_102, N_b44_102, H_b44_102, G_b44_102⟩ := Vc_b44_102
    have hin102 : ¬ ((3 : Int32) < 0 ∨ cl_b44_102.slots.size ≤ ((3 : Int32)).toNatClampNeg) := inb_of S_b44_102 ⟨by decide, by decide⟩
    obtain ⟨T102, h102, X102, e102, W102, st102⟩ := stC X88 hx hZ e88 Ar_b44_102 (j := (3 : Int32)) hin102 (g := (mkF m 102 #[vi p0, vi p1, vi p2, vi p3, vi p4, vi 4, vr b10, vr b44, .unset, .unset, .unset, .unset] [.int r36, .int 3, .ref b44])) rfl rfl (hb hby at_102)
    have Wo102 := Wo88.wr W102 gn_b44
    have V_b10_102 := V_b10_88.other W102 ne_b10_b44
    have V_b44_102 := Arv.set Ar_b44_102 q_b44_102 S_b44_102 N_b44_102 H_b44_102 G_b44_102 (fits_nar_char _) W102 3 rfl (Nat.le_of_ble_eq_true rfl)
    have N102 := Fr.snoc X102 N88 gn_b44
    have Z102 : n0 ≤ h102.size := Nat.le_trans Z88 (Keep.of_wr W102).1
    refine Dg.st st102 ?_
    obtain ⟨T103, h103, X103, e103, E103, A103, D103, -, st103⟩ := newO X102 hx hZ hown (tw hw 7 rfl) (tw hw 8 rfl) (tw hw 9 rfl) e102 (g := (mkF m 103 #[vi p0, vi p1, vi p2, vi p3, vi p4, vi 4, vr b10, vr b44, .unset, .unset, .unset, .unset] [])) rfl (hb hby at_103) (by decide) (by decide)
    obtain ⟨b103, g103⟩ : ∃ z, z = h102.size := ⟨_, rfl⟩
    rw [← g103] at A103 D103 st103
    have ne_b10_b103 : b10 ≠ b103 := Nat.ne_of_lt (Nat.lt_of_lt_of_le V_b10_102.lt (Nat.le_of_eq g103.symm))
    have ne_b44_b103 : b44 ≠ b103 := Nat.ne_of_lt (Nat.lt_of_lt_of_le V_b44_102.lt (Nat.le_of_eq g103.symm))
    have V_b10_103 := V_b10_102.ext E103
    have V_b44_103 := V_b44_102.ext E103
    have Wo103 := Wo102.ext E103
    have gn_b103 : n0 ≤ b103 := Nat.le_trans Z102 (Nat.le_of_eq g103.symm)
    have Z103 : n0 ≤ h103.size := Nat.le_trans Z102 E103.1
    have F_b103_value : Fld Z h103 b103 "java/lang/String" "value" "[B" .null := D103 (Or.inr (tw hw 22 rfl)) (ty := (.array .byte)) (by decide)
    have F_b103_coder : Fld Z h103 b103 "java/lang/String" "coder" "B" (.int 0) := D103 (Or.inr (tw hw 23 rfl)) (ty := .byte) (by decide)
    refine Dg.st st103 ?_
    refine Dg.st (fun _ kk => XS.dup X103.here hx rfl (hb hby at_106) rfl rfl kk) (w_k X103 B at_107 rfl rfl ?_)
    show Sh T103 109 #[vi p0, vi p1, vi p2, vi p3, vi p4, vi 4, vr b10, vr b44, .unset, .unset, .unset, .unset] [.ref b44, .ref b103, .ref b103]
    rw [own_c hr15.1 hr15.2, own_c hr22.1 hr22.2, own_c hr29.1 hr29.2, own_c hr36.1 hr36.2] at V_b44_103
    refine w_ci X103 B hZ hown hml (rmSc4 l Z a0 hw [] b103 b44 cs sf k44 r15 r22 r29 r36 h103 n0 Z103 Wo103 gn_b103 A103 F_b103_coder F_b103_value V_b44_103 (Ne.symm ne_b44_b103) hr15 hr22 hr29 hr36) (tw hw 10 rfl) (tw hw 11 rfl) (tw hw 9 rfl) (tw hw 12 rfl) e103 at_109 1 1 rfl (lenOf pd29 rfl) rfl rfl rfl rfl (by decide) ?_
    rintro _ T109 Lc109 X109 ⟨rfl, Nq109, K109, S109⟩
    have N109 := Fr.app N102 Nq109
    have Wo109 := Wo103.keep K109 (own_k1 gn_b103)
    have V_b10_109 := V_b10_103.keep K109 (ninS ne_b10_b103 nin0)
    have Zz : n0 ≤ T109.heap.size := Nat.le_trans Z103 K109.1
    refine w_u X109 B at_112 rfl #[vi p0, vi p1, vi p2, vi p3, vi p4, vi 4, vr b10, vr b44, vr b103, .unset, .unset, .unset] rfl (w_c X109 B at_114 (w_s X109 B at_115 #[vi p0, vi p1, vi p2, vi p3, vi p4, vi 4, vr b10, vr b44, vr b103, vi (-1), .unset, .unset] rfl ?_))
    show Sh T109 117 #[vi p0, vi p1, vi p2, vi p3, vi p4, vi 4, vr b10, vr b44, vr b103, vi (-1), .unset, .unset] []
    have J134 : ∀ (j134_9 : Int32), ((j134_9 = (0 : Int32) ∧ (r15 = 47 ∧ True)) ∨ (j134_9 = (-1 : Int32) ∧ (¬ r15 = 47 ∧ True))) → Dw p e below s (Q0 Z p0 p1 p2 p3 p4 cs sf h0 n0) 32 3264 (T109.setTop (mkF m 134 #[vi p0, vi p1, vi p2, vi p3, vi p4, vi 4, vr b10, vr b44, vr b103, vi j134_9, .unset, .unset] [])) := by
      intro j134_9 hj134
      have J152 : ∀ (j152_9 : Int32), ((j152_9 = (0 : Int32) ∧ (r15 = 47 ∧ ¬ r22 = 47 ∧ True)) ∨ (j152_9 = (1 : Int32) ∧ (r22 = 47 ∧ True)) ∨ (j152_9 = (-1 : Int32) ∧ (¬ r15 = 47 ∧ ¬ r22 = 47 ∧ True))) → Dw p e below s (Q0 Z p0 p1 p2 p3 p4 cs sf h0 n0) 32 3264 (T109.setTop (mkF m 152 #[vi p0, vi p1, vi p2, vi p3, vi p4, vi 4, vr b10, vr b44, vr b103, vi j152_9, .unset, .unset] [])) := by
        intro j152_9 hj152
        have J170 : ∀ (j170_9 : Int32), ((j170_9 = (0 : Int32) ∧ (r15 = 47 ∧ ¬ r22 = 47 ∧ ¬ r29 = 47 ∧ True)) ∨ (j170_9 = (1 : Int32) ∧ (r22 = 47 ∧ ¬ r29 = 47 ∧ True)) ∨ (j170_9 = (2 : Int32) ∧ (r29 = 47 ∧ True)) ∨ (j170_9 = (-1 : Int32) ∧ (¬ r15 = 47 ∧ ¬ r22 = 47 ∧ ¬ r29 = 47 ∧ True))) → Dw p e below s (Q0 Z p0 p1 p2 p3 p4 cs sf h0 n0) 32 3264 (T109.setTop (mkF m 170 #[vi p0, vi p1, vi p2, vi p3, vi p4, vi 4, vr b10, vr b44, vr b103, vi j170_9, .unset, .unset] [])) := by
          intro j170_9 hj170
          have J188 : ∀ (j188_9 : Int32), ((j188_9 = (0 : Int32) ∧ (r15 = 47 ∧ ¬ r22 = 47 ∧ ¬ r29 = 47 ∧ ¬ r36 = 47 ∧ True)) ∨ (j188_9 = (1 : Int32) ∧ (r22 = 47 ∧ ¬ r29 = 47 ∧ ¬ r36 = 47 ∧ True)) ∨ (j188_9 = (2 : Int32) ∧ (r29 = 47 ∧ ¬ r36 = 47 ∧ True)) ∨ (j188_9 = (3 : Int32) ∧ (r36 = 47 ∧ True)) ∨ (j188_9 = (-1 : Int32) ∧ (¬ r15 = 47 ∧ ¬ r22 = 47 ∧ ¬ r29 = 47 ∧ ¬ r36 = 47 ∧ True))) → Dw p e below s (Q0 Z p0 p1 p2 p3 p4 cs sf h0 n0) 32 3264 (T109.setTop (mkF m 188 #[vi p0, vi p1, vi p2, vi p3, vi p4, vi 4, vr b10, vr b44, vr b103, vi j188_9, .unset, .unset] [])) := by
            intro j188_9 hj188
            rcases hj188 with ⟨rfl, gl⟩ | ⟨rfl, gl⟩ | ⟨rfl, gl⟩ | ⟨rfl, gl⟩ | ⟨rfl, gl⟩
            · refine w_j X109 B at_188 rfl (w_c X109 B at_190 (Dg.st (fun _ kk => XS.iadd X109.here hx rfl (hb hby at_191) rfl kk) (w_s X109 B at_192 #[vi p0, vi p1, vi p2, vi p3, vi p4, vi 4, vr b10, vr b44, vr b103, vi 0, vi 1, .unset] rfl (w_k X109 B at_194 rfl rfl ?_))))
              show Sh T109 196 #[vi p0, vi p1, vi p2, vi p3, vi p4, vi 4, vr b10, vr b44, vr b103, vi 0, vi 1, .unset] [.ref b103]
              obtain ⟨_, _, ⟨T196, L196, k196, n196⟩, -, X196, hSw, hgr196, ⟨Lc196, hQ196, l196, y196, z196⟩, st196⟩ := Jvm.RoadKit.callSS X109 hx (y := on0) hown (mvT hZ (tw hw 28 rfl)) (mvT hZ (tw hw 29 rfl)) (mvT hZ (tw hw 30 rfl)) (mvT hZ (tw hw 31 rfl)) (by decide) (own_backS (W := 0) (rmF4 l Z a0 hw [] b103 cs sf r15 r22 r29 r36 T109.heap n0 Zz Wo109 S109 hr15 hr22 hr29 hr36 hHl hHu hcw) hZ hI (tw hw 31 rfl) (tw hw 30 rfl) (by decide) (by decide)) (g := (mkF m 196 #[vi p0, vi p1, vi p2, vi p3, vi p4, vi 4, vr b10, vr b44, vr b103, vi 0, vi 1, .unset] [.ref b103])) rfl (by rw [hml]; rfl) (argsL := [.ref b103]) (rest := []) (lenOf pd30 rfl) rfl (by show 2 * 0 + _ ≤ _; exact Nat.le_of_eq rfl) (hb hby at_196) (fun _ _ => ⟨rfl, rfl, (by decide : 5 + 3 ≤ _), (by decide : 24 + 16 ≤ _)⟩)
              dsimp only [Pt.U, Pt.locs, Pt.cells, Pt.slots] at X196 l196 y196 z196 st196 hQ196 hSw hgr196
              subst l196 y196 z196
              obtain ⟨rs196, rfl, Nq196, K196, hq196⟩ := hQ196
              have N196 := Fr.app N109 Nq196
              have hZ := State.Warmed39.trans (t := s) hZ hSw.1
              have hown := (hSw.1.alike.findClass _ _).trans hown
              refine Dg.tr st196 ?_
              refine Dw.of hSw ?_
              have SF : own_Str Z T196.heap rs196 3 6 [.int (own_b r22), .int (own_b r29), .int (own_b r36)] [.int (own_lo r22), .int (own_hi r22), .int (own_lo r29), .int (own_hi r29), .int (own_lo r36), .int (own_hi r36)] (r22.toInt ≤ 255 ∧ r29.toInt ≤ 255 ∧ r36.toInt ≤ 255 ∧ True) := by
                rcases hq196 with ⟨g_, sf_⟩ | ⟨g_, sf_⟩ | ⟨g_, sf_⟩ | ⟨g_, sf_⟩ | ⟨g_, sf_⟩
                · exact sf_
                · exact absurd g_.1 gl.2.1
                · exact absurd g_.1 gl.2.2.1
                · exact absurd g_.1 gl.2.2.2.1
                · exact absurd gl.1 g_.1
              have Wo196 := Wo109.keep K196 own_k0
              have V_b10_196 := V_b10_109.keep K196 nin0
              have Zf : n0 ≤ T196.heap.size := Nat.le_trans Zz K196.1
              refine w_u X196 B at_199 rfl #[vi p0, vi p1, vi p2, vi p3, vi p4, vi 4, vr b10, vr b44, vr b103, vi 0, vi 1, vr rs196] rfl (w_k X196 B at_201 rfl rfl ?_)
              show Sh T196 203 #[vi p0, vi p1, vi p2, vi p3, vi p4, vi 4, vr b10, vr b44, vr b103, vi 0, vi 1, vr rs196] [.ref rs196]
              refine w_cv X196 B hZ hown hml (rmLn l Z a0 hw [] rs196 cs sf _ _ _ _ _ T196.heap n0 Zf Wo196 SF (by decide) (by decide)) (tw hw 87 rfl) (tw hw 38 rfl) (tw hw 40 rfl) (tw hw 39 rfl) (tw hw 9 rfl) (tw hw 41 rfl) rfl SF.1 at_203 0 0 rfl (lenOf pd17 rfl) rfl rfl rfl (by decide) ?_
              rintro _ T203 Lc203 X203 ⟨rfl, Nq203, hh203⟩
              have N203 := Fr.app N196 Nq203
              refine w_j X203 B at_206 rfl (w_j X203 B at_208 rfl (Dg.st (fun _ kk => XS.isub X203.here hx rfl (hb hby at_210) rfl kk) (w_y X203 B 211 216 rfl at_211 (teq (by decide)).1 (by decide) (w_k X203 B at_216 rfl rfl (w_k X203 B at_218 rfl rfl (w_j X203 B at_220 rfl (w_c X203 B at_222 ?_)))))))
              show Sh T203 223 #[vi p0, vi p1, vi p2, vi p3, vi p4, vi 4, vr b10, vr b44, vr b103, vi 0, vi 1, vr rs196] [.int 0, .int 1, .ref b10, .ref rs196]
              refine w_cs X203 B hZ hown hml (rmAt1 l Z a0 hw [] rs196 b10 (1 : Int32) (0 : Int32) cs sf _ _ _ _ _ r22 _ _ T196.heap n0 Zf Wo196 SF (by decide) (by decide) (by decide) (by decide) rfl (fun q => q.1) (by decide) (by decide) rfl rfl (by decide) hr22 V_b10_196 (by decide) rfl) (tw hw 88 rfl) (tw hw 89 rfl) (tw hw 4 rfl) (tw hw 90 rfl) hh203 at_223 4 0 (lenOf pd31 rfl) rfl rfl rfl (by decide) ?_
              rintro _ T223 Lc223 X223 ⟨rfl, Nq223, hh223⟩
              have N223 := Fr.app N203 Nq223
              refine w_f X223 B at_226 (feq (by decide)).1 (w_k X223 B at_229 rfl rfl (w_k X223 B at_231 rfl rfl (w_j X223 B at_233 rfl (w_c X223 B at_235 ?_))))
              show Sh T223 236 #[vi p0, vi p1, vi p2, vi p3, vi p4, vi 4, vr b10, vr b44, vr b103, vi 0, vi 1, vr rs196] [.int 1, .int 1, .ref b10, .ref rs196]
              refine w_cs X223 B hZ hown hml (rmAt1 l Z a0 hw [] rs196 b10 (1 : Int32) (1 : Int32) cs sf _ _ _ _ _ r29 _ _ T196.heap n0 Zf Wo196 SF (by decide) (by decide) (by decide) (by decide) rfl (fun q => q.2.1) (by decide) (by decide) rfl rfl (by decide) hr29 V_b10_196 (by decide) rfl) (tw hw 88 rfl) (tw hw 89 rfl) (tw hw 4 rfl) (tw hw 90 rfl) hh223 at_236 4 0 (lenOf pd31 rfl) rfl rfl rfl (by decide) ?_
              rintro _ T236 Lc236 X236 ⟨rfl, Nq236, hh236⟩
              have N236 := Fr.app N223 Nq236
              refine w_f X236 B at_239 (feq (by decide)).1 (w_k X236 B at_242 rfl rfl (w_k X236 B at_244 rfl rfl (w_j X236 B at_246 rfl (w_c X236 B at_248 ?_))))
              show Sh T236 249 #[vi p0, vi p1, vi p2, vi p3, vi p4, vi 4, vr b10, vr b44, vr b103, vi 0, vi 1, vr rs196] [.int 2, .int 1, .ref b10, .ref rs196]
              refine w_cs X236 B hZ hown hml (rmAt1 l Z a0 hw [] rs196 b10 (1 : Int32) (2 : Int32) cs sf _ _ _ _ _ r36 _ _ T196.heap n0 Zf Wo196 SF (by decide) (by decide) (by decide) (by decide) rfl (fun q => q.2.2.1) (by decide) (by decide) rfl rfl (by decide) hr36 V_b10_196 (by decide) rfl) (tw hw 88 rfl) (tw hw 89 rfl) (tw hw 4 rfl) (tw hw 90 rfl) hh236 at_249 4 0 (lenOf pd31 rfl) rfl rfl rfl (by decide) ?_
              rintro _ T249 Lc249 X249 ⟨rfl, Nq249, hh249⟩
              have N249 := Fr.app N236 Nq249
              refine w_f X249 B at_252 (feq (by decide)).1 (w_k X249 B at_255 rfl rfl (w_k X249 B at_257 rfl rfl (w_j X249 B at_259 rfl (w_c X249 B at_261 ?_))))
              show Sh T249 262 #[vi p0, vi p1, vi p2, vi p3, vi p4, vi 4, vr b10, vr b44, vr b103, vi 0, vi 1, vr rs196] [.int 3, .int 1, .ref b10, .ref rs196]
              refine w_cs X249 B hZ hown hml (rmAt0 l Z a0 hw [] rs196 b10 (1 : Int32) (3 : Int32) cs sf _ _ _ _ _ T196.heap n0 Zf Wo196 SF (by decide) (by decide) (by decide)) (tw hw 88 rfl) (tw hw 89 rfl) (tw hw 4 rfl) (tw hw 90 rfl) hh249 at_262 4 0 (lenOf pd31 rfl) rfl rfl rfl (by decide) ?_
              rintro _ T262 Lc262 X262 ⟨rfl, Nq262, hh262⟩
              have N262 := Fr.app N249 Nq262
              refine w_f X262 B at_265 (feq (by decide)).1 (w_c X262 B at_268 (w_g X262 B 269 273 rfl at_269 (by decide) ?_))
              show Sh T262 273 #[vi p0, vi p1, vi p2, vi p3, vi p4, vi 4, vr b10, vr b44, vr b103, vi 0, vi 1, vr rs196] [.int 1]
              exact Dg.retI X262 hlk B hret rfl (Or.inr (Or.inl rfl)) at_273 (by rw [hh262]; exact ⟨⟨rfl, N262⟩, Nat.le_refl _⟩) (by decide)
            · refine w_j X109 B at_188 rfl (w_c X109 B at_190 (Dg.st (fun _ kk => XS.iadd X109.here hx rfl (hb hby at_191) rfl kk) (w_s X109 B at_192 #[vi p0, vi p1, vi p2, vi p3, vi p4, vi 4, vr b10, vr b44, vr b103, vi 1, vi 2, .unset] rfl (w_k X109 B at_194 rfl rfl ?_))))
              show Sh T109 196 #[vi p0, vi p1, vi p2, vi p3, vi p4, vi 4, vr b10, vr b44, vr b103, vi 1, vi 2, .unset] [.ref b103]
              obtain ⟨_, _, ⟨T196, L196, k196, n196⟩, -, X196, hSw, hgr196, ⟨Lc196, hQ196, l196, y196, z196⟩, st196⟩ := Jvm.RoadKit.callSS X109 hx (y := on0) hown (mvT hZ (tw hw 28 rfl)) (mvT hZ (tw hw 29 rfl)) (mvT hZ (tw hw 30 rfl)) (mvT hZ (tw hw 31 rfl)) (by decide) (own_backS (W := 0) (rmF4 l Z a0 hw [] b103 cs sf r15 r22 r29 r36 T109.heap n0 Zz Wo109 S109 hr15 hr22 hr29 hr36 hHl hHu hcw) hZ hI (tw hw 31 rfl) (tw hw 30 rfl) (by decide) (by decide)) (g := (mkF m 196 #[vi p0, vi p1, vi p2, vi p3, vi p4, vi 4, vr b10, vr b44, vr b103, vi 1, vi 2, .unset] [.ref b103])) rfl (by rw [hml]; rfl) (argsL := [.ref b103]) (rest := []) (lenOf pd30 rfl) rfl (by show 2 * 0 + _ ≤ _; exact Nat.le_of_eq rfl) (hb hby at_196) (fun _ _ => ⟨rfl, rfl, (by decide : 5 + 3 ≤ _), (by decide : 24 + 16 ≤ _)⟩)
              dsimp only [Pt.U, Pt.locs, Pt.cells, Pt.slots] at X196 l196 y196 z196 st196 hQ196 hSw hgr196
              subst l196 y196 z196
              obtain ⟨rs196, rfl, Nq196, K196, hq196⟩ := hQ196
              have N196 := Fr.app N109 Nq196
              have hZ := State.Warmed39.trans (t := s) hZ hSw.1
              have hown := (hSw.1.alike.findClass _ _).trans hown
              refine Dg.tr st196 ?_
              refine Dw.of hSw ?_
              have SF : own_Str Z T196.heap rs196 2 4 [.int (own_b r29), .int (own_b r36)] [.int (own_lo r29), .int (own_hi r29), .int (own_lo r36), .int (own_hi r36)] (r29.toInt ≤ 255 ∧ r36.toInt ≤ 255 ∧ True) := by
                rcases hq196 with ⟨g_, sf_⟩ | ⟨g_, sf_⟩ | ⟨g_, sf_⟩ | ⟨g_, sf_⟩ | ⟨g_, sf_⟩
                · exact absurd gl.1 g_.2.1
                · exact sf_
                · exact absurd g_.1 gl.2.1
                · exact absurd g_.1 gl.2.2.1
                · exact absurd gl.1 g_.2.1
              have Wo196 := Wo109.keep K196 own_k0
              have V_b10_196 := V_b10_109.keep K196 nin0
              have Zf : n0 ≤ T196.heap.size := Nat.le_trans Zz K196.1
              refine w_u X196 B at_199 rfl #[vi p0, vi p1, vi p2, vi p3, vi p4, vi 4, vr b10, vr b44, vr b103, vi 1, vi 2, vr rs196] rfl (w_k X196 B at_201 rfl rfl ?_)
              show Sh T196 203 #[vi p0, vi p1, vi p2, vi p3, vi p4, vi 4, vr b10, vr b44, vr b103, vi 1, vi 2, vr rs196] [.ref rs196]
              refine w_cv X196 B hZ hown hml (rmLn l Z a0 hw [] rs196 cs sf _ _ _ _ _ T196.heap n0 Zf Wo196 SF (by decide) (by decide)) (tw hw 87 rfl) (tw hw 38 rfl) (tw hw 40 rfl) (tw hw 39 rfl) (tw hw 9 rfl) (tw hw 41 rfl) rfl SF.1 at_203 0 0 rfl (lenOf pd17 rfl) rfl rfl rfl (by decide) ?_
              rintro _ T203 Lc203 X203 ⟨rfl, Nq203, hh203⟩
              have N203 := Fr.app N196 Nq203
              refine w_j X203 B at_206 rfl (w_j X203 B at_208 rfl (Dg.st (fun _ kk => XS.isub X203.here hx rfl (hb hby at_210) rfl kk) (w_y X203 B 211 216 rfl at_211 (teq (by decide)).1 (by decide) (w_k X203 B at_216 rfl rfl (w_k X203 B at_218 rfl rfl (w_j X203 B at_220 rfl (w_c X203 B at_222 ?_)))))))
              show Sh T203 223 #[vi p0, vi p1, vi p2, vi p3, vi p4, vi 4, vr b10, vr b44, vr b103, vi 1, vi 2, vr rs196] [.int 0, .int 2, .ref b10, .ref rs196]
              refine w_cs X203 B hZ hown hml (rmAt1 l Z a0 hw [] rs196 b10 (2 : Int32) (0 : Int32) cs sf _ _ _ _ _ r29 _ _ T196.heap n0 Zf Wo196 SF (by decide) (by decide) (by decide) (by decide) rfl (fun q => q.1) (by decide) (by decide) rfl rfl (by decide) hr29 V_b10_196 (by decide) rfl) (tw hw 88 rfl) (tw hw 89 rfl) (tw hw 4 rfl) (tw hw 90 rfl) hh203 at_223 4 0 (lenOf pd31 rfl) rfl rfl rfl (by decide) ?_
              rintro _ T223 Lc223 X223 ⟨rfl, Nq223, hh223⟩
              have N223 := Fr.app N203 Nq223
              refine w_f X223 B at_226 (feq (by decide)).1 (w_k X223 B at_229 rfl rfl (w_k X223 B at_231 rfl rfl (w_j X223 B at_233 rfl (w_c X223 B at_235 ?_))))
              show Sh T223 236 #[vi p0, vi p1, vi p2, vi p3, vi p4, vi 4, vr b10, vr b44, vr b103, vi 1, vi 2, vr rs196] [.int 1, .int 2, .ref b10, .ref rs196]
              refine w_cs X223 B hZ hown hml (rmAt1 l Z a0 hw [] rs196 b10 (2 : Int32) (1 : Int32) cs sf _ _ _ _ _ r36 _ _ T196.heap n0 Zf Wo196 SF (by decide) (by decide) (by decide) (by decide) rfl (fun q => q.2.1) (by decide) (by decide) rfl rfl (by decide) hr36 V_b10_196 (by decide) rfl) (tw hw 88 rfl) (tw hw 89 rfl) (tw hw 4 rfl) (tw hw 90 rfl) hh223 at_236 4 0 (lenOf pd31 rfl) rfl rfl rfl (by decide) ?_
              rintro _ T236 Lc236 X236 ⟨rfl, Nq236, hh236⟩
              have N236 := Fr.app N223 Nq236
              refine w_f X236 B at_239 (feq (by decide)).1 (w_k X236 B at_242 rfl rfl (w_k X236 B at_244 rfl rfl (w_j X236 B at_246 rfl (w_c X236 B at_248 ?_))))
              show Sh T236 249 #[vi p0, vi p1, vi p2, vi p3, vi p4, vi 4, vr b10, vr b44, vr b103, vi 1, vi 2, vr rs196] [.int 2, .int 2, .ref b10, .ref rs196]
              refine w_cs X236 B hZ hown hml (rmAt0 l Z a0 hw [] rs196 b10 (2 : Int32) (2 : Int32) cs sf _ _ _ _ _ T196.heap n0 Zf Wo196 SF (by decide) (by decide) (by decide)) (tw hw 88 rfl) (tw hw 89 rfl) (tw hw 4 rfl) (tw hw 90 rfl) hh236 at_249 4 0 (lenOf pd31 rfl) rfl rfl rfl (by decide) ?_
              rintro _ T249 Lc249 X249 ⟨rfl, Nq249, hh249⟩
              have N249 := Fr.app N236 Nq249
              refine w_f X249 B at_252 (feq (by decide)).1 (w_k X249 B at_255 rfl rfl (w_k X249 B at_257 rfl rfl (w_j X249 B at_259 rfl (w_c X249 B at_261 ?_))))
              show Sh T249 262 #[vi p0, vi p1, vi p2, vi p3, vi p4, vi 4, vr b10, vr b44, vr b103, vi 1, vi 2, vr rs196] [.int 3, .int 2, .ref b10, .ref rs196]
              refine w_cs X249 B hZ hown hml (rmAt0 l Z a0 hw [] rs196 b10 (2 : Int32) (3 : Int32) cs sf _ _ _ _ _ T196.heap n0 Zf Wo196 SF (by decide) (by decide) (by decide)) (tw hw 88 rfl) (tw hw 89 rfl) (tw hw 4 rfl) (tw hw 90 rfl) hh249 at_262 4 0 (lenOf pd31 rfl) rfl rfl rfl (by decide) ?_
              rintro _ T262 Lc262 X262 ⟨rfl, Nq262, hh262⟩
              have N262 := Fr.app N249 Nq262
              refine w_f X262 B at_265 (feq (by decide)).1 (w_c X262 B at_268 (w_g X262 B 269 273 rfl at_269 (by decide) ?_))
              show Sh T262 273 #[vi p0, vi p1, vi p2, vi p3, vi p4, vi 4, vr b10, vr b44, vr b103, vi 1, vi 2, vr rs196] [.int 1]
              exact Dg.retI X262 hlk B hret rfl (Or.inr (Or.inl rfl)) at_273 (by rw [hh262]; exact ⟨⟨rfl, N262⟩, Nat.le_refl _⟩) (by decide)
            · refine w_j X109 B at_188 rfl (w_c X109 B at_190 (Dg.st (fun _ kk => XS.iadd X109.here hx rfl (hb hby at_191) rfl kk) (w_s X109 B at_192 #[vi p0, vi p1, vi p2, vi p3, vi p4, vi 4, vr b10, vr b44, vr b103, vi 2, vi 3, .unset] rfl (w_k X109 B at_194 rfl rfl ?_))))
              show Sh T109 196 #[vi p0, vi p1, vi p2, vi p3, vi p4, vi 4, vr b10, vr b44, vr b103, vi 2, vi 3, .unset] [.ref b103]
              obtain ⟨_, _, ⟨T196, L196, k196, n196⟩, -, X196, hSw, hgr196, ⟨Lc196, hQ196, l196, y196, z196⟩, st196⟩ := Jvm.RoadKit.callSS X109 hx (y := on0) hown (mvT hZ (tw hw 28 rfl)) (mvT hZ (tw hw 29 rfl)) (mvT hZ (tw hw 30 rfl)) (mvT hZ (tw hw 31 rfl)) (by decide) (own_backS (W := 0) (rmF4 l Z a0 hw [] b103 cs sf r15 r22 r29 r36 T109.heap n0 Zz Wo109 S109 hr15 hr22 hr29 hr36 hHl hHu hcw) hZ hI (tw hw 31 rfl) (tw hw 30 rfl) (by decide) (by decide)) (g := (mkF m 196 #[vi p0, vi p1, vi p2, vi p3, vi p4, vi 4, vr b10, vr b44, vr b103, vi 2, vi 3, .unset] [.ref b103])) rfl (by rw [hml]; rfl) (argsL := [.ref b103]) (rest := []) (lenOf pd30 rfl) rfl (by show 2 * 0 + _ ≤ _; exact Nat.le_of_eq rfl) (hb hby at_196) (fun _ _ => ⟨rfl, rfl, (by decide : 5 + 3 ≤ _), (by decide : 24 + 16 ≤ _)⟩)
              dsimp only [Pt.U, Pt.locs, Pt.cells, Pt.slots] at X196 l196 y196 z196 st196 hQ196 hSw hgr196
              subst l196 y196 z196
              obtain ⟨rs196, rfl, Nq196, K196, hq196⟩ := hQ196
              have N196 := Fr.app N109 Nq196
              have hZ := State.Warmed39.trans (t := s) hZ hSw.1
              have hown := (hSw.1.alike.findClass _ _).trans hown
              refine Dg.tr st196 ?_
              refine Dw.of hSw ?_
              have SF : own_Str Z T196.heap rs196 1 2 [.int (own_b r36)] [.int (own_lo r36), .int (own_hi r36)] (r36.toInt ≤ 255 ∧ True) := by
                rcases hq196 with ⟨g_, sf_⟩ | ⟨g_, sf_⟩ | ⟨g_, sf_⟩ | ⟨g_, sf_⟩ | ⟨g_, sf_⟩
                · exact absurd gl.1 g_.2.2.1
                · exact absurd gl.1 g_.2.1
                · exact sf_
                · exact absurd g_.1 gl.2.1
                · exact absurd gl.1 g_.2.2.1
              have Wo196 := Wo109.keep K196 own_k0
              have V_b10_196 := V_b10_109.keep K196 nin0
              have Zf : n0 ≤ T196.heap.size := Nat.le_trans Zz K196.1
              refine w_u X196 B at_199 rfl #[vi p0, vi p1, vi p2, vi p3, vi p4, vi 4, vr b10, vr b44, vr b103, vi 2, vi 3, vr rs196] rfl (w_k X196 B at_201 rfl rfl ?_)
              show Sh T196 203 #[vi p0, vi p1, vi p2, vi p3, vi p4, vi 4, vr b10, vr b44, vr b103, vi 2, vi 3, vr rs196] [.ref rs196]
              refine w_cv X196 B hZ hown hml (rmLn l Z a0 hw [] rs196 cs sf _ _ _ _ _ T196.heap n0 Zf Wo196 SF (by decide) (by decide)) (tw hw 87 rfl) (tw hw 38 rfl) (tw hw 40 rfl) (tw hw 39 rfl) (tw hw 9 rfl) (tw hw 41 rfl) rfl SF.1 at_203 0 0 rfl (lenOf pd17 rfl) rfl rfl rfl (by decide) ?_
              rintro _ T203 Lc203 X203 ⟨rfl, Nq203, hh203⟩
              have N203 := Fr.app N196 Nq203
              refine w_j X203 B at_206 rfl (w_j X203 B at_208 rfl (Dg.st (fun _ kk => XS.isub X203.here hx rfl (hb hby at_210) rfl kk) (w_y X203 B 211 216 rfl at_211 (teq (by decide)).1 (by decide) (w_k X203 B at_216 rfl rfl (w_k X203 B at_218 rfl rfl (w_j X203 B at_220 rfl (w_c X203 B at_222 ?_)))))))
              show Sh T203 223 #[vi p0, vi p1, vi p2, vi p3, vi p4, vi 4, vr b10, vr b44, vr b103, vi 2, vi 3, vr rs196] [.int 0, .int 3, .ref b10, .ref rs196]
              refine w_cs X203 B hZ hown hml (rmAt1 l Z a0 hw [] rs196 b10 (3 : Int32) (0 : Int32) cs sf _ _ _ _ _ r36 _ _ T196.heap n0 Zf Wo196 SF (by decide) (by decide) (by decide) (by decide) rfl (fun q => q.1) (by decide) (by decide) rfl rfl (by decide) hr36 V_b10_196 (by decide) rfl) (tw hw 88 rfl) (tw hw 89 rfl) (tw hw 4 rfl) (tw hw 90 rfl) hh203 at_223 4 0 (lenOf pd31 rfl) rfl rfl rfl (by decide) ?_
              rintro _ T223 Lc223 X223 ⟨rfl, Nq223, hh223⟩
              have N223 := Fr.app N203 Nq223
              refine w_f X223 B at_226 (feq (by decide)).1 (w_k X223 B at_229 rfl rfl (w_k X223 B at_231 rfl rfl (w_j X223 B at_233 rfl (w_c X223 B at_235 ?_))))
              show Sh T223 236 #[vi p0, vi p1, vi p2, vi p3, vi p4, vi 4, vr b10, vr b44, vr b103, vi 2, vi 3, vr rs196] [.int 1, .int 3, .ref b10, .ref rs196]
              refine w_cs X223 B hZ hown hml (rmAt0 l Z a0 hw [] rs196 b10 (3 : Int32) (1 : Int32) cs sf _ _ _ _ _ T196.heap n0 Zf Wo196 SF (by decide) (by decide) (by decide)) (tw hw 88 rfl) (tw hw 89 rfl) (tw hw 4 rfl) (tw hw 90 rfl) hh223 at_236 4 0 (lenOf pd31 rfl) rfl rfl rfl (by decide) ?_
              rintro _ T236 Lc236 X236 ⟨rfl, Nq236, hh236⟩
              have N236 := Fr.app N223 Nq236
              refine w_f X236 B at_239 (feq (by decide)).1 (w_k X236 B at_242 rfl rfl (w_k X236 B at_244 rfl rfl (w_j X236 B at_246 rfl (w_c X236 B at_248 ?_))))
              show Sh T236 249 #[vi p0, vi p1, vi p2, vi p3, vi p4, vi 4, vr b10, vr b44, vr b103, vi 2, vi 3, vr rs196] [.int 2, .int 3, .ref b10, .ref rs196]
              refine w_cs X236 B hZ hown hml (rmAt0 l Z a0 hw [] rs196 b10 (3 : Int32) (2 : Int32) cs sf _ _ _ _ _ T196.heap n0 Zf Wo196 SF (by decide) (by decide) (by decide)) (tw hw 88 rfl) (tw hw 89 rfl) (tw hw 4 rfl) (tw hw 90 rfl) hh236 at_249 4 0 (lenOf pd31 rfl) rfl rfl rfl (by decide) ?_
              rintro _ T249 Lc249 X249 ⟨rfl, Nq249, hh249⟩
              have N249 := Fr.app N236 Nq249
              refine w_f X249 B at_252 (feq (by decide)).1 (w_k X249 B at_255 rfl rfl (w_k X249 B at_257 rfl rfl (w_j X249 B at_259 rfl (w_c X249 B at_261 ?_))))
              show Sh T249 262 #[vi p0, vi p1, vi p2, vi p3, vi p4, vi 4, vr b10, vr b44, vr b103, vi 2, vi 3, vr rs196] [.int 3, .int 3, .ref b10, .ref rs196]
              refine w_cs X249 B hZ hown hml (rmAt0 l Z a0 hw [] rs196 b10 (3 : Int32) (3 : Int32) cs sf _ _ _ _ _ T196.heap n0 Zf Wo196 SF (by decide) (by decide) (by decide)) (tw hw 88 rfl) (tw hw 89 rfl) (tw hw 4 rfl) (tw hw 90 rfl) hh249 at_262 4 0 (lenOf pd31 rfl) rfl rfl rfl (by decide) ?_
              rintro _ T262 Lc262 X262 ⟨rfl, Nq262, hh262⟩
              have N262 := Fr.app N249 Nq262
              refine w_f X262 B at_265 (feq (by decide)).1 (w_c X262 B at_268 (w_g X262 B 269 273 rfl at_269 (by decide) ?_))
              show Sh T262 273 #[vi p0, vi p1, vi p2, vi p3, vi p4, vi 4, vr b10, vr b44, vr b103, vi 2, vi 3, vr rs196] [.int 1]
              exact Dg.retI X262 hlk B hret rfl (Or.inr (Or.inl rfl)) at_273 (by rw [hh262]; exact ⟨⟨rfl, N262⟩, Nat.le_refl _⟩) (by decide)
            · refine w_j X109 B at_188 rfl (w_c X109 B at_190 (Dg.st (fun _ kk => XS.iadd X109.here hx rfl (hb hby at_191) rfl kk) (w_s X109 B at_192 #[vi p0, vi p1, vi p2, vi p3, vi p4, vi 4, vr b10, vr b44, vr b103, vi 3, vi 4, .unset] rfl (w_k X109 B at_194 rfl rfl ?_))))
              show Sh T109 196 #[vi p0, vi p1, vi p2, vi p3, vi p4, vi 4, vr b10, vr b44, vr b103, vi 3, vi 4, .unset] [.ref b103]
              obtain ⟨_, _, ⟨T196, L196, k196, n196⟩, -, X196, hSw, hgr196, ⟨Lc196, hQ196, l196, y196, z196⟩, st196⟩ := Jvm.RoadKit.callSS X109 hx (y := on0) hown (mvT hZ (tw hw 28 rfl)) (mvT hZ (tw hw 29 rfl)) (mvT hZ (tw hw 30 rfl)) (mvT hZ (tw hw 31 rfl)) (by decide) (own_backS (W := 0) (rmF4 l Z a0 hw [] b103 cs sf r15 r22 r29 r36 T109.heap n0 Zz Wo109 S109 hr15 hr22 hr29 hr36 hHl hHu hcw) hZ hI (tw hw 31 rfl) (tw hw 30 rfl) (by decide) (by decide)) (g := (mkF m 196 #[vi p0, vi p1, vi p2, vi p3, vi p4, vi 4, vr b10, vr b44, vr b103, vi 3, vi 4, .unset] [.ref b103])) rfl (by rw [hml]; rfl) (argsL := [.ref b103]) (rest := []) (lenOf pd30 rfl) rfl (by show 2 * 0 + _ ≤ _; exact Nat.le_of_eq rfl) (hb hby at_196) (fun _ _ => ⟨rfl, rfl, (by decide : 5 + 3 ≤ _), (by decide : 24 + 16 ≤ _)⟩)
              dsimp only [Pt.U, Pt.locs, Pt.cells, Pt.slots] at X196 l196 y196 z196 st196 hQ196 hSw hgr196
              subst l196 y196 z196
              obtain ⟨rs196, rfl, Nq196, K196, hq196⟩ := hQ196
              have N196 := Fr.app N109 Nq196
              have hZ := State.Warmed39.trans (t := s) hZ hSw.1
              have hown := (hSw.1.alike.findClass _ _).trans hown
              refine Dg.tr st196 ?_
              refine Dw.of hSw ?_
              have SF : own_Str Z T196.heap rs196 0 0 [] [] (True) := by
                rcases hq196 with ⟨g_, sf_⟩ | ⟨g_, sf_⟩ | ⟨g_, sf_⟩ | ⟨g_, sf_⟩ | ⟨g_, sf_⟩
                · exact absurd gl.1 g_.2.2.2.1
                · exact absurd gl.1 g_.2.2.1
                · exact absurd gl.1 g_.2.1
                · exact sf_
                · exact absurd gl.1 g_.2.2.2.1
              have Wo196 := Wo109.keep K196 own_k0
              have V_b10_196 := V_b10_109.keep K196 nin0
              have Zf : n0 ≤ T196.heap.size := Nat.le_trans Zz K196.1
              refine w_u X196 B at_199 rfl #[vi p0, vi p1, vi p2, vi p3, vi p4, vi 4, vr b10, vr b44, vr b103, vi 3, vi 4, vr rs196] rfl (w_k X196 B at_201 rfl rfl ?_)
              show Sh T196 203 #[vi p0, vi p1, vi p2, vi p3, vi p4, vi 4, vr b10, vr b44, vr b103, vi 3, vi 4, vr rs196] [.ref rs196]
              refine w_cv X196 B hZ hown hml (rmLn l Z a0 hw [] rs196 cs sf _ _ _ _ _ T196.heap n0 Zf Wo196 SF (by decide) (by decide)) (tw hw 87 rfl) (tw hw 38 rfl) (tw hw 40 rfl) (tw hw 39 rfl) (tw hw 9 rfl) (tw hw 41 rfl) rfl SF.1 at_203 0 0 rfl (lenOf pd17 rfl) rfl rfl rfl (by decide) ?_
              rintro _ T203 Lc203 X203 ⟨rfl, Nq203, hh203⟩
              have N203 := Fr.app N196 Nq203
              refine w_j X203 B at_206 rfl (w_j X203 B at_208 rfl (Dg.st (fun _ kk => XS.isub X203.here hx rfl (hb hby at_210) rfl kk) (w_y X203 B 211 216 rfl at_211 (teq (by decide)).1 (by decide) (w_k X203 B at_216 rfl rfl (w_k X203 B at_218 rfl rfl (w_j X203 B at_220 rfl (w_c X203 B at_222 ?_)))))))
              show Sh T203 223 #[vi p0, vi p1, vi p2, vi p3, vi p4, vi 4, vr b10, vr b44, vr b103, vi 3, vi 4, vr rs196] [.int 0, .int 4, .ref b10, .ref rs196]
              refine w_cs X203 B hZ hown hml (rmAt0 l Z a0 hw [] rs196 b10 (4 : Int32) (0 : Int32) cs sf _ _ _ _ _ T196.heap n0 Zf Wo196 SF (by decide) (by decide) (by decide)) (tw hw 88 rfl) (tw hw 89 rfl) (tw hw 4 rfl) (tw hw 90 rfl) hh203 at_223 4 0 (lenOf pd31 rfl) rfl rfl rfl (by decide) ?_
              rintro _ T223 Lc223 X223 ⟨rfl, Nq223, hh223⟩
              have N223 := Fr.app N203 Nq223
              refine w_f X223 B at_226 (feq (by decide)).1 (w_k X223 B at_229 rfl rfl (w_k X223 B at_231 rfl rfl (w_j X223 B at_233 rfl (w_c X223 B at_235 ?_))))
              show Sh T223 236 #[vi p0, vi p1, vi p2, vi p3, vi p4, vi 4, vr b10, vr b44, vr b103, vi 3, vi 4, vr rs196] [.int 1, .int 4, .ref b10, .ref rs196]
              refine w_cs X223 B hZ hown hml (rmAt0 l Z a0 hw [] rs196 b10 (4 : Int32) (1 : Int32) cs sf _ _ _ _ _ T196.heap n0 Zf Wo196 SF (by decide) (by decide) (by decide)) (tw hw 88 rfl) (tw hw 89 rfl) (tw hw 4 rfl) (tw hw 90 rfl) hh223 at_236 4 0 (lenOf pd31 rfl) rfl rfl rfl (by decide) ?_
              rintro _ T236 Lc236 X236 ⟨rfl, Nq236, hh236⟩
              have N236 := Fr.app N223 Nq236
              refine w_f X236 B at_239 (feq (by decide)).1 (w_k X236 B at_242 rfl rfl (w_k X236 B at_244 rfl rfl (w_j X236 B at_246 rfl (w_c X236 B at_248 ?_))))
              show Sh T236 249 #[vi p0, vi p1, vi p2, vi p3, vi p4, vi 4, vr b10, vr b44, vr b103, vi 3, vi 4, vr rs196] [.int 2, .int 4, .ref b10, .ref rs196]
              refine w_cs X236 B hZ hown hml (rmAt0 l Z a0 hw [] rs196 b10 (4 : Int32) (2 : Int32) cs sf _ _ _ _ _ T196.heap n0 Zf Wo196 SF (by decide) (by decide) (by decide)) (tw hw 88 rfl) (tw hw 89 rfl) (tw hw 4 rfl) (tw hw 90 rfl) hh236 at_249 4 0 (lenOf pd31 rfl) rfl rfl rfl (by decide) ?_
              rintro _ T249 Lc249 X249 ⟨rfl, Nq249, hh249⟩
              have N249 := Fr.app N236 Nq249
              refine w_f X249 B at_252 (feq (by decide)).1 (w_k X249 B at_255 rfl rfl (w_k X249 B at_257 rfl rfl (w_j X249 B at_259 rfl (w_c X249 B at_261 ?_))))
              show Sh T249 262 #[vi p0, vi p1, vi p2, vi p3, vi p4, vi 4, vr b10, vr b44, vr b103, vi 3, vi 4, vr rs196] [.int 3, .int 4, .ref b10, .ref rs196]
              refine w_cs X249 B hZ hown hml (rmAt0 l Z a0 hw [] rs196 b10 (4 : Int32) (3 : Int32) cs sf _ _ _ _ _ T196.heap n0 Zf Wo196 SF (by decide) (by decide) (by decide)) (tw hw 88 rfl) (tw hw 89 rfl) (tw hw 4 rfl) (tw hw 90 rfl) hh249 at_262 4 0 (lenOf pd31 rfl) rfl rfl rfl (by decide) ?_
              rintro _ T262 Lc262 X262 ⟨rfl, Nq262, hh262⟩
              have N262 := Fr.app N249 Nq262
              refine w_f X262 B at_265 (feq (by decide)).1 (w_c X262 B at_268 (w_g X262 B 269 273 rfl at_269 (by decide) ?_))
              show Sh T262 273 #[vi p0, vi p1, vi p2, vi p3, vi p4, vi 4, vr b10, vr b44, vr b103, vi 3, vi 4, vr rs196] [.int 1]
              exact Dg.retI X262 hlk B hret rfl (Or.inr (Or.inl rfl)) at_273 (by rw [hh262]; exact ⟨⟨rfl, N262⟩, Nat.le_refl _⟩) (by decide)
            · refine w_j X109 B at_188 rfl (w_c X109 B at_190 (Dg.st (fun _ kk => XS.iadd X109.here hx rfl (hb hby at_191) rfl kk) (w_s X109 B at_192 #[vi p0, vi p1, vi p2, vi p3, vi p4, vi 4, vr b10, vr b44, vr b103, vi (-1), vi 0, .unset] rfl (w_k X109 B at_194 rfl rfl ?_))))
              show Sh T109 196 #[vi p0, vi p1, vi p2, vi p3, vi p4, vi 4, vr b10, vr b44, vr b103, vi (-1), vi 0, .unset] [.ref b103]
              obtain ⟨_, _, ⟨T196, L196, k196, n196⟩, -, X196, hSw, hgr196, ⟨Lc196, hQ196, l196, y196, z196⟩, st196⟩ := Jvm.RoadKit.callSS X109 hx (y := on0) hown (mvT hZ (tw hw 28 rfl)) (mvT hZ (tw hw 29 rfl)) (mvT hZ (tw hw 30 rfl)) (mvT hZ (tw hw 31 rfl)) (by decide) (own_backS (W := 0) (rmF4 l Z a0 hw [] b103 cs sf r15 r22 r29 r36 T109.heap n0 Zz Wo109 S109 hr15 hr22 hr29 hr36 hHl hHu hcw) hZ hI (tw hw 31 rfl) (tw hw 30 rfl) (by decide) (by decide)) (g := (mkF m 196 #[vi p0, vi p1, vi p2, vi p3, vi p4, vi 4, vr b10, vr b44, vr b103, vi (-1), vi 0, .unset] [.ref b103])) rfl (by rw [hml]; rfl) (argsL := [.ref b103]) (rest := []) (lenOf pd30 rfl) rfl (by show 2 * 0 + _ ≤ _; exact Nat.le_of_eq rfl) (hb hby at_196) (fun _ _ => ⟨rfl, rfl, (by decide : 5 + 3 ≤ _), (by decide : 24 + 16 ≤ _)⟩)
              dsimp only [Pt.U, Pt.locs, Pt.cells, Pt.slots] at X196 l196 y196 z196 st196 hQ196 hSw hgr196
              subst l196 y196 z196
              obtain ⟨rs196, rfl, Nq196, K196, hq196⟩ := hQ196
              have N196 := Fr.app N109 Nq196
              have hZ := State.Warmed39.trans (t := s) hZ hSw.1
              have hown := (hSw.1.alike.findClass _ _).trans hown
              refine Dg.tr st196 ?_
              refine Dw.of hSw ?_
              have SF : own_Str Z T196.heap rs196 4 8 [.int (own_b r15), .int (own_b r22), .int (own_b r29), .int (own_b r36)] [.int (own_lo r15), .int (own_hi r15), .int (own_lo r22), .int (own_hi r22), .int (own_lo r29), .int (own_hi r29), .int (own_lo r36), .int (own_hi r36)] (r15.toInt ≤ 255 ∧ r22.toInt ≤ 255 ∧ r29.toInt ≤ 255 ∧ r36.toInt ≤ 255 ∧ True) := by
                rcases hq196 with ⟨g_, sf_⟩ | ⟨g_, sf_⟩ | ⟨g_, sf_⟩ | ⟨g_, sf_⟩ | ⟨g_, sf_⟩
                · exact absurd g_.1 gl.1
                · exact absurd g_.1 gl.2.1
                · exact absurd g_.1 gl.2.2.1
                · exact absurd g_.1 gl.2.2.2.1
                · exact sf_
              have Wo196 := Wo109.keep K196 own_k0
              have V_b10_196 := V_b10_109.keep K196 nin0
              have Zf : n0 ≤ T196.heap.size := Nat.le_trans Zz K196.1
              refine w_u X196 B at_199 rfl #[vi p0, vi p1, vi p2, vi p3, vi p4, vi 4, vr b10, vr b44, vr b103, vi (-1), vi 0, vr rs196] rfl (w_k X196 B at_201 rfl rfl ?_)
              show Sh T196 203 #[vi p0, vi p1, vi p2, vi p3, vi p4, vi 4, vr b10, vr b44, vr b103, vi (-1), vi 0, vr rs196] [.ref rs196]
              refine w_cv X196 B hZ hown hml (rmLn l Z a0 hw [] rs196 cs sf _ _ _ _ _ T196.heap n0 Zf Wo196 SF (by decide) (by decide)) (tw hw 87 rfl) (tw hw 38 rfl) (tw hw 40 rfl) (tw hw 39 rfl) (tw hw 9 rfl) (tw hw 41 rfl) rfl SF.1 at_203 0 0 rfl (lenOf pd17 rfl) rfl rfl rfl (by decide) ?_
              rintro _ T203 Lc203 X203 ⟨rfl, Nq203, hh203⟩
              have N203 := Fr.app N196 Nq203
              refine w_j X203 B at_206 rfl (w_j X203 B at_208 rfl (Dg.st (fun _ kk => XS.isub X203.here hx rfl (hb hby at_210) rfl kk) (w_y X203 B 211 216 rfl at_211 (teq (by decide)).1 (by decide) (w_k X203 B at_216 rfl rfl (w_k X203 B at_218 rfl rfl (w_j X203 B at_220 rfl (w_c X203 B at_222 ?_)))))))
              show Sh T203 223 #[vi p0, vi p1, vi p2, vi p3, vi p4, vi 4, vr b10, vr b44, vr b103, vi (-1), vi 0, vr rs196] [.int 0, .int 0, .ref b10, .ref rs196]
              refine w_cs X203 B hZ hown hml (rmAt1 l Z a0 hw [] rs196 b10 (0 : Int32) (0 : Int32) cs sf _ _ _ _ _ r15 _ _ T196.heap n0 Zf Wo196 SF (by decide) (by decide) (by decide) (by decide) rfl (fun q => q.1) (by decide) (by decide) rfl rfl (by decide) hr15 V_b10_196 (by decide) rfl) (tw hw 88 rfl) (tw hw 89 rfl) (tw hw 4 rfl) (tw hw 90 rfl) hh203 at_223 4 0 (lenOf pd31 rfl) rfl rfl rfl (by decide) ?_
              rintro _ T223 Lc223 X223 ⟨rfl, Nq223, hh223⟩
              have N223 := Fr.app N203 Nq223
              refine w_f X223 B at_226 (feq (by decide)).1 (w_k X223 B at_229 rfl rfl (w_k X223 B at_231 rfl rfl (w_j X223 B at_233 rfl (w_c X223 B at_235 ?_))))
              show Sh T223 236 #[vi p0, vi p1, vi p2, vi p3, vi p4, vi 4, vr b10, vr b44, vr b103, vi (-1), vi 0, vr rs196] [.int 1, .int 0, .ref b10, .ref rs196]
              refine w_cs X223 B hZ hown hml (rmAt1 l Z a0 hw [] rs196 b10 (0 : Int32) (1 : Int32) cs sf _ _ _ _ _ r22 _ _ T196.heap n0 Zf Wo196 SF (by decide) (by decide) (by decide) (by decide) rfl (fun q => q.2.1) (by decide) (by decide) rfl rfl (by decide) hr22 V_b10_196 (by decide) rfl) (tw hw 88 rfl) (tw hw 89 rfl) (tw hw 4 rfl) (tw hw 90 rfl) hh223 at_236 4 0 (lenOf pd31 rfl) rfl rfl rfl (by decide) ?_
              rintro _ T236 Lc236 X236 ⟨rfl, Nq236, hh236⟩
              have N236 := Fr.app N223 Nq236
              refine w_f X236 B at_239 (feq (by decide)).1 (w_k X236 B at_242 rfl rfl (w_k X236 B at_244 rfl rfl (w_j X236 B at_246 rfl (w_c X236 B at_248 ?_))))
              show Sh T236 249 #[vi p0, vi p1, vi p2, vi p3, vi p4, vi 4, vr b10, vr b44, vr b103, vi (-1), vi 0, vr rs196] [.int 2, .int 0, .ref b10, .ref rs196]
              refine w_cs X236 B hZ hown hml (rmAt1 l Z a0 hw [] rs196 b10 (0 : Int32) (2 : Int32) cs sf _ _ _ _ _ r29 _ _ T196.heap n0 Zf Wo196 SF (by decide) (by decide) (by decide) (by decide) rfl (fun q => q.2.2.1) (by decide) (by decide) rfl rfl (by decide) hr29 V_b10_196 (by decide) rfl) (tw hw 88 rfl) (tw hw 89 rfl) (tw hw 4 rfl) (tw hw 90 rfl) hh236 at_249 4 0 (lenOf pd31 rfl) rfl rfl rfl (by decide) ?_
              rintro _ T249 Lc249 X249 ⟨rfl, Nq249, hh249⟩
              have N249 := Fr.app N236 Nq249
              refine w_f X249 B at_252 (feq (by decide)).1 (w_k X249 B at_255 rfl rfl (w_k X249 B at_257 rfl rfl (w_j X249 B at_259 rfl (w_c X249 B at_261 ?_))))
              show Sh T249 262 #[vi p0, vi p1, vi p2, vi p3, vi p4, vi 4, vr b10, vr b44, vr b103, vi (-1), vi 0, vr rs196] [.int 3, .int 0, .ref b10, .ref rs196]
              refine w_cs X249 B hZ hown hml (rmAt1 l Z a0 hw [] rs196 b10 (0 : Int32) (3 : Int32) cs sf _ _ _ _ _ r36 _ _ T196.heap n0 Zf Wo196 SF (by decide) (by decide) (by decide) (by decide) rfl (fun q => q.2.2.2.1) (by decide) (by decide) rfl rfl (by decide) hr36 V_b10_196 (by decide) rfl) (tw hw 88 rfl) (tw hw 89 rfl) (tw hw 4 rfl) (tw hw 90 rfl) hh249 at_262 4 0 (lenOf pd31 rfl) rfl rfl rfl (by decide) ?_
              rintro _ T262 Lc262 X262 ⟨rfl, Nq262, hh262⟩
              have N262 := Fr.app N249 Nq262
              refine w_f X262 B at_265 (feq (by decide)).1 (w_c X262 B at_268 (w_g X262 B 269 273 rfl at_269 (by decide) ?_))
              show Sh T262 273 #[vi p0, vi p1, vi p2, vi p3, vi p4, vi 4, vr b10, vr b44, vr b103, vi (-1), vi 0, vr rs196] [.int 1]
              exact Dg.retI X262 hlk B hret rfl (Or.inr (Or.inl rfl)) at_273 (by rw [hh262]; exact ⟨⟨rfl, N262⟩, Nat.le_refl _⟩) (by decide)
          refine w_j X109 B at_170 rfl (w_c X109 B at_172 (w_n X109 B at_173 (tlt (by decide)).2.2.2 (w_k X109 B at_176 rfl rfl (w_c X109 B at_178 (w_ca X109 B hZ rfl V_b10_109 (by decide) (v := (.int r36)) rfl at_179 (Dg.st (fun _ kk => XS.bipush X109.here hx rfl (hb hby at_180) kk) ?_))))))
          show Sh T109 182 #[vi p0, vi p1, vi p2, vi p3, vi p4, vi 4, vr b10, vr b44, vr b103, vi j170_9, .unset, .unset] [.int 47, .int r36]
          by_cases hc182 : r36 = (47 : Int32)
          · refine w_n X109 B at_182 (teq hc182).2 (w_c X109 B at_185 (w_s X109 B at_186 #[vi p0, vi p1, vi p2, vi p3, vi p4, vi 4, vr b10, vr b44, vr b103, vi 3, .unset, .unset] rfl ?_))
            show Sh T109 188 #[vi p0, vi p1, vi p2, vi p3, vi p4, vi 4, vr b10, vr b44, vr b103, vi 3, .unset, .unset] []
            exact J188 (3 : Int32) (Or.inr (Or.inr (Or.inr (Or.inl ⟨rfl, hc182, trivial⟩))))
          · refine w_y X109 B 182 188 rfl at_182 (feq hc182).2 (by decide) ?_
            show Sh T109 188 #[vi p0, vi p1, vi p2, vi p3, vi p4, vi 4, vr b10, vr b44, vr b103, vi j170_9, .unset, .unset] []
            exact J188 j170_9 (match hj170 with | Or.inl ⟨ee, a0, a1, a2, _⟩ => (Or.inl ⟨ee, a0, a1, a2, hc182, trivial⟩) | Or.inr (Or.inl ⟨ee, a0, a1, _⟩) => (Or.inr (Or.inl ⟨ee, a0, a1, hc182, trivial⟩)) | Or.inr (Or.inr (Or.inl ⟨ee, a0, _⟩)) => (Or.inr (Or.inr (Or.inl ⟨ee, a0, hc182, trivial⟩))) | Or.inr (Or.inr (Or.inr ⟨ee, a0, a1, a2, _⟩)) => (Or.inr (Or.inr (Or.inr (Or.inr ⟨ee, a0, a1, a2, hc182, trivial⟩)))))
        refine w_j X109 B at_152 rfl (w_c X109 B at_154 (w_n X109 B at_155 (tlt (by decide)).2.2.2 (w_k X109 B at_158 rfl rfl (w_c X109 B at_160 (w_ca X109 B hZ rfl V_b10_109 (by decide) (v := (.int r29)) rfl at_161 (Dg.st (fun _ kk => XS.bipush X109.here hx rfl (hb hby at_162) kk) ?_))))))
        show Sh T109 164 #[vi p0, vi p1, vi p2, vi p3, vi p4, vi 4, vr b10, vr b44, vr b103, vi j152_9, .unset, .unset] [.int 47, .int r29]
        by_cases hc164 : r29 = (47 : Int32)
        · refine w_n X109 B at_164 (teq hc164).2 (w_c X109 B at_167 (w_s X109 B at_168 #[vi p0, vi p1, vi p2, vi p3, vi p4, vi 4, vr b10, vr b44, vr b103, vi 2, .unset, .unset] rfl ?_))
          show Sh T109 170 #[vi p0, vi p1, vi p2, vi p3, vi p4, vi 4, vr b10, vr b44, vr b103, vi 2, .unset, .unset] []
          exact J170 (2 : Int32) (Or.inr (Or.inr (Or.inl ⟨rfl, hc164, trivial⟩)))
        · refine w_y X109 B 164 170 rfl at_164 (feq hc164).2 (by decide) ?_
          show Sh T109 170 #[vi p0, vi p1, vi p2, vi p3, vi p4, vi 4, vr b10, vr b44, vr b103, vi j152_9, .unset, .unset] []
          exact J170 j152_9 (match hj152 with | Or.inl ⟨ee, a0, a1, _⟩ => (Or.inl ⟨ee, a0, a1, hc164, trivial⟩) | Or.inr (Or.inl ⟨ee, a0, _⟩) => (Or.inr (Or.inl ⟨ee, a0, hc164, trivial⟩)) | Or.inr (Or.inr ⟨ee, a0, a1, _⟩) => (Or.inr (Or.inr (Or.inr ⟨ee, a0, a1, hc164, trivial⟩))))
      refine w_j X109 B at_134 rfl (w_c X109 B at_136 (w_n X109 B at_137 (tlt (by decide)).2.2.2 (w_k X109 B at_140 rfl rfl (w_c X109 B at_142 (w_ca X109 B hZ rfl V_b10_109 (by decide) (v := (.int r22)) rfl at_143 (Dg.st (fun _ kk => XS.bipush X109.here hx rfl (hb hby at_144) kk) ?_))))))
      show Sh T109 146 #[vi p0, vi p1, vi p2, vi p3, vi p4, vi 4, vr b10, vr b44, vr b103, vi j134_9, .unset, .unset] [.int 47, .int r22]
      by_cases hc146 : r22 = (47 : Int32)
      · refine w_n X109 B at_146 (teq hc146).2 (w_c X109 B at_149 (w_s X109 B at_150 #[vi p0, vi p1, vi p2, vi p3, vi p4, vi 4, vr b10, vr b44, vr b103, vi 1, .unset, .unset] rfl ?_))
        show Sh T109 152 #[vi p0, vi p1, vi p2, vi p3, vi p4, vi 4, vr b10, vr b44, vr b103, vi 1, .unset, .unset] []
        exact J152 (1 : Int32) (Or.inr (Or.inl ⟨rfl, hc146, trivial⟩))
      · refine w_y X109 B 146 152 rfl at_146 (feq hc146).2 (by decide) ?_
        show Sh T109 152 #[vi p0, vi p1, vi p2, vi p3, vi p4, vi 4, vr b10, vr b44, vr b103, vi j134_9, .unset, .unset] []
        exact J152 j134_9 (match hj134 with | Or.inl ⟨ee, a0, _⟩ => (Or.inl ⟨ee, a0, hc146, trivial⟩) | Or.inr ⟨ee, a0, _⟩ => (Or.inr (Or.inr ⟨ee, a0, hc146, trivial⟩)))
    refine w_j X109 B at_117 rfl (w_f X109 B at_119 (tlt (by decide)).2.2.2 (w_k X109 B at_122 rfl rfl (w_c X109 B at_124 (w_ca X109 B hZ rfl V_b10_109 (by decide) (v := (.int r15)) rfl at_125 (Dg.st (fun _ kk => XS.bipush X109.here hx rfl (hb hby at_126) kk) ?_)))))
    show Sh T109 128 #[vi p0, vi p1, vi p2, vi p3, vi p4, vi 4, vr b10, vr b44, vr b103, vi (-1), .unset, .unset] [.int 47, .int r15]
    by_cases hc128 : r15 = (47 : Int32)
    · refine w_n X109 B at_128 (teq hc128).2 (w_c X109 B at_131 (w_s X109 B at_132 #[vi p0, vi p1, vi p2, vi p3, vi p4, vi 4, vr b10, vr b44, vr b103, vi 0, .unset, .unset] rfl ?_))
      show Sh T109 134 #[vi p0, vi p1, vi p2, vi p3, vi p4, vi 4, vr b10, vr b44, vr b103, vi 0, .unset, .unset] []
      exact J134 (0 : Int32) (Or.inl ⟨rfl, hc128, trivial⟩)
    · refine w_y X109 B 128 134 rfl at_128 (feq hc128).2 (by decide) ?_
      show Sh T109 134 #[vi p0, vi p1, vi p2, vi p3, vi p4, vi 4, vr b10, vr b44, vr b103, vi (-1), .unset, .unset] []
      exact J134 (-1 : Int32) (Or.inr ⟨rfl, hc128, trivial⟩)

theorem comes_1 {Post : Tables → Env → Array Value → State → Outcome → State → Prop} (hpost : ∀ tb e args s v u, (limb_1_1.after args s (.returned v) u = true ∧ limb_1_2.after args s (.returned v) u = true ∧ True) → ReturnedEndW s (.returned v) u (Jvm.fieldLocs frame_1_writes args s ++ Jvm.arrayLocs frame_1_arrays args s ++ Jvm.staticLocs frame_1_statics s) 32 3264 → Post tb e args s (.returned v) u) :
    ArmFor flags0 classFile x code maxLocals ret World_1 tables_1 room_1 Calls_1 rest_1 Pre_1 Post := by
  intro l hfl _ _ p e ha hc hk s m args below hf hA hF happ hP
  obtain ⟨hcalls, hrest, hpre⟩ := hP
  obtain ⟨-, -, -, hnamed, -, -, -, hat⟩ := (Spec.applies_iff hf).mp happ
  obtain ⟨hg, hn⟩ := and_e (Cond.before_iff.mp (show (Jvm.Cond.and given_1 narrow_1).before args s = true from hpre))
  obtain ⟨g1a, g1b⟩ := and_e hg
  obtain ⟨g2a, g2b⟩ := and_e g1b
  obtain ⟨g3a, g3b⟩ := and_e g2b
  obtain ⟨g4a, g4b⟩ := and_e g3b
  obtain ⟨g5a, g5b⟩ := and_e g4b
  obtain ⟨w0, w1, w2, w3, w4, rfl⟩ : ∃ w0 w1 w2 w3 w4 : Value, args = #[w0, w1, w2, w3, w4] := by
    have hs : args.size = 5 := by simpa [Cond.value, given_1] using g1a
    obtain ⟨L⟩ := args
    match L, hs with
    | [w0, w1, w2, w3, w4], _ => exact ⟨w0, w1, w2, w3, w4, rfl⟩
  have hw := fun d (hd : d ∈ tables_1) => atoms_spec (ws := Jvm.Cond.code x code maxLocals ret :: tables_1) hat d (List.mem_cons_of_mem _ hd)
  have hfit : Fit s := fun {y c} hc i hi => by
    obtain ⟨ha, rfl⟩ := Array.getElem?_eq_some_iff.mp hc
    have q := List.all_eq_true.mp ((Array.all_eq_true_iff_forall_mem.mp hF) _ (Array.getElem_mem ha)) i (List.mem_range.mpr hi)
    simpa [Array.getElem?_eq_getElem hi] using q
  obtain ⟨hsets, hown0⟩ := atoms_of _ (rest_1_c_eq ▸ (show rest_1_c.before _ s = true from hrest))
  have hr0 := Cond.before_iff.mp hown0
  obtain ⟨i0, ei0⟩ := is_v g2a
  obtain rfl : w0 = (.int i0) := Option.some.inj ei0
  obtain ⟨i1, ei1⟩ := is_v g3a
  obtain rfl : w1 = (.int i1) := Option.some.inj ei1
  obtain ⟨i2, ei2⟩ := is_v g4a
  obtain rfl : w2 = (.int i2) := Option.some.inj ei2
  obtain ⟨i3, ei3⟩ := is_v g5a
  obtain rfl : w3 = (.int i3) := Option.some.inj ei3
  obtain ⟨i4, ei4⟩ := is_v g5b
  obtain rfl : w4 = (.int i4) := Option.some.inj ei4
  obtain ⟨cs, v_cs⟩ := is_v (Cond.before_iff.mp (hsets _ (List.mem_of_getElem? (i := 1) rfl)))
  have hcs : cs ≠ 0 := own_ne0 v_cs (Cond.before_iff.mp (hsets _ (List.mem_of_getElem? (i := 2) rfl)))
  obtain ⟨sf, v_sf, hsf⟩ := own_isr (Cond.before_iff.mp (hsets _ (List.mem_of_getElem? (i := 8) rfl)))
  have hW : own_W s s.heap s.heap.size cs sf := ⟨⟨rfl, Nat.le_refl _, fun _ _ q => q⟩, ⟨Sta.start v_cs (Or.inl (hsets _ (List.mem_of_getElem? (i := 0) rfl))), hcs⟩, Sta.start (eqv_i (Term.int_eval (1)) (Cond.before_iff.mp (hsets _ (List.mem_of_getElem? (i := 12) rfl)))) (Or.inl (hsets _ (List.mem_of_getElem? (i := 11) rfl))), Sta.start (eqv_i (Term.int_eval (0)) (Cond.before_iff.mp (hsets _ (List.mem_of_getElem? (i := 15) rfl)))) (Or.inl (hsets _ (List.mem_of_getElem? (i := 14) rfl))), Sta.start (eqv_i (Term.int_eval (8)) (Cond.before_iff.mp (hsets _ (List.mem_of_getElem? (i := 18) rfl)))) (Or.inl (hsets _ (List.mem_of_getElem? (i := 17) rfl))), Sta.start v_sf (Or.inl (hsets _ (List.mem_of_getElem? (i := 7) rfl))), hsf⟩
  have hH : Jvm.Lit.constHeld s "java/lang/String" 7 := hcalls.1 _ (List.mem_of_getElem? (i := 0) rfl)
  have hHl : Jvm.Lit.constHeld s "java/lang/StringLatin1" 151 := hcalls.1 _ (List.mem_of_getElem? (i := 1) rfl)
  have hHu : Jvm.Lit.constHeld s "java/lang/StringUTF16" 295 := hcalls.1 _ (List.mem_of_getElem? (i := 2) rfl)
  obtain ⟨n, o, h1, h2, h3, _, L, rfl, ⟨rfl, N⟩, hq⟩ := rm0 l s _ hw tables_1 i0 i1 i2 i3 i4 cs sf s.heap s.heap.size (Nat.le_refl _) hW hH hHl hHu (hsets _ (List.mem_of_getElem? (i := 2) rfl)) p e ha hc hk s m _ below hf ((Spec.applies_iff_loose hf).mp happ).1 ⟨rfl, State.Warmed39.refl s, rfl, IB.start⟩ trivial
  refine ⟨n, _, h1, h2, h3, hpost _ _ _ _ _ _ ⟨Cond.after_iff.mpr rfl, Cond.after_iff.mpr (eq_i res_at (Term.int_eval (1)) rfl), trivial⟩ ⟨hq.1, hq.2.1, hq.2.2.1, (hq.2.2.2.sift fun y hy => Or.inr (N y hy)).mono (by decide) (by decide)⟩⟩
theorem main_1_1 : Claimed_1_1 := comes_1 fun _ _ _ _ _ _ h hF => ⟨h.1, hF⟩
theorem main_1_2 : Claimed_1_2 := comes_1 fun _ _ _ _ _ _ h hF => ⟨h.2.1, hF⟩
end Jvm.Pilot.@@N@@
namespace Jvm.Pilot.@@N@@
open Jvm Jvm.ClassFile Sem Op Lib Jvm.Free Jvm.Stand Jvm.Pilot.@@N@@.Jvm.D
/-! MADE BY PROGRAM (witnessworld.py) out of the Statement's table words and the real class files: 23 classes; the members and pool entries that the words name. The judged class is class 1, her method 3. -/
namespace start1
open Jvm.ClassFile
def u (s : String) : CpInfo := .utf8 (stringToUtf16 s)
/-- a pool by its gaps: so many unusable entries, then the entry; so many at the end -/
def gap : Nat → List CpInfo → List CpInfo
  | 0, r => r
  | n + 1, r => .unusable :: gap n r
def poolList (es : List (Nat × CpInfo)) (last : Nat) : List CpInfo := es.foldr (fun e r => gap e.1 (e.2 :: r)) (gap last [])
def pool (es : List (Nat × CpInfo)) (last : Nat) : Array CpInfo := ⟨poolList es last⟩
def fileOf (pool : Array CpInfo) (this : Nat) (attrs : Array Attribute := #[]) (ms : Array MethodInfo := #[]) (fl : Nat := 33) (sup : Nat := 0) (ifs : Array Nat := #[]) (fds : Array FieldInfo := #[]) : ClassFile where
  minorVersion := 0
  majorVersion := 65
  constantPool := pool
  accessFlags := fl
  thisClass := this
  superClass := sup
  interfaces := ifs
  fields := fds
  methods := ms
  attributes := attrs
def plain (name : String) (sup : Option ClassId) : Class where
  name := name
  kind := .ordinary
  loader := none
  accessFlags := 33
  super := sup
  interfaces := #[]
  cf := none
  fields := #[]
  methods := #[]
  instanceTypes := #[]
  staticTypes := #[]
  resolved := #[]
  callSites := []
  init := .initialized
  statics := none
  mirror := none

def pool0 : Array CpInfo := pool [(5, u "<init>"), (0, u "()V"), (1, .class_ 10), (1, u "java/lang/Object")] 113

def k0c0 : Code := { maxStack := 0, maxLocals := 1, code := object_method_1_code, exceptionTable := #[], attributes := #[] }
def k0m0 : Method := { name := "<init>", desc := "()V", sig := { parameters := [], returnType := none }, accessFlags := 1, code := some k0c0 }
/-- java/lang/Object -/
def k0 : Class := { plain "java/lang/Object" none with
  accessFlags := 33
  interfaces := #[]
  cf := some (fileOf pool0 8 #[] #[{ accessFlags := 1, nameIndex := 5, descriptorIndex := 6, attributes := #[] }] 33 0 #[] #[])
  fields := #[]
  methods := #[k0m0]
  instanceTypes := #[]
  staticTypes := #[]
  resolved := Array.replicate 124 none
  statics := none }

def pool1 : Array CpInfo := pool [(2, .class_ 4), (1, u "java/lang/Object"), (0, u "<init>"), (0, u "()V"), (0, .integer 65535), (0, .methodref 9 10), (0, .class_ 11), (0, .nameAndType 12 13), (0, u "java/lang/String"), (0, u "length"), (0, u "()I"), (0, .methodref 9 15), (0, .nameAndType 16 17), (0, u "charAt"), (0, u "(I)C"), (0, .integer 2147483647), (0, .methodref 20 21), (0, .class_ 22), (0, .nameAndType 23 17), (0, u "com/example/wakeline/wakeline/QualifiedFileNameFileNamePinLaw"), (0, u "draw"), (0, .methodref 9 25), (0, .nameAndType 5 26), (0, u "([C)V"), (0, .methodref 28 29), (0, .class_ 30), (0, .nameAndType 31 32), (0, u "com/example/wakeline/wakeline/QualifiedFileName"), (0, u "fileName"), (0, u "(Ljava/lang/String;)Ljava/lang/String;"), (0, .methodref 20 34), (0, .nameAndType 35 36), (0, u "at"), (0, u "(Ljava/lang/String;[CII)Z"), (3, u "law"), (0, u "(IIIII)Z")] 4

def k1m0 : Method := { name := "<init>", desc := "()V", sig := { parameters := [], returnType := none }, accessFlags := 1, code := none }
def k1c1 : Code := { maxStack := 2, maxLocals := 1, code := method_2_code, exceptionTable := #[], attributes := #[] }
def k1m1 : Method := { name := "draw", desc := "(I)C", sig := { parameters := [.int], returnType := some .char }, accessFlags := 10, code := some k1c1 }
def k1c2 : Code := { maxStack := 4, maxLocals := 4, code := method_3_code, exceptionTable := #[], attributes := #[] }
def k1m2 : Method := { name := "at", desc := "(Ljava/lang/String;[CII)Z", sig := { parameters := [(.object "java/lang/String"), (.array .char), .int, .int], returnType := some .boolean }, accessFlags := 10, code := some k1c2 }
def k1c3 : Code := { maxStack := 4, maxLocals := 12, code := code, exceptionTable := #[], attributes := #[] }
def k1m3 : Method := { name := "law", desc := "(IIIII)Z", sig := { parameters := [.int, .int, .int, .int, .int], returnType := some .boolean }, accessFlags := 9, code := some k1c3 }
/-- com/example/wakeline/wakeline/QualifiedFileNameFileNamePinLaw -/
def k1 : Class := { plain "com/example/wakeline/wakeline/QualifiedFileNameFileNamePinLaw" (some 0) with
  accessFlags := 49
  interfaces := #[]
  cf := some (fileOf pool1 20 #[] #[{ accessFlags := 1, nameIndex := 5, descriptorIndex := 6, attributes := #[] }, { accessFlags := 10, nameIndex := 23, descriptorIndex := 17, attributes := #[] }, { accessFlags := 10, nameIndex := 35, descriptorIndex := 36, attributes := #[] }, { accessFlags := 9, nameIndex := 40, descriptorIndex := 41, attributes := #[] }] 49 2 #[] #[])
  fields := #[]
  methods := #[k1m0, k1m1, k1m2, k1m3]
  instanceTypes := #[]
  staticTypes := #[]
  resolved := Array.replicate 46 none
  statics := none }

def pool2 : Array CpInfo := pool [(1, .class_ 2), (0, u "java/io/Serializable"), (0, .class_ 4), (0, u "java/lang/Object")] 2

/-- java/io/Serializable -/
def k2 : Class := { plain "java/io/Serializable" (some 0) with
  accessFlags := 1537
  interfaces := #[]
  cf := some (fileOf pool2 1 #[] #[] 1537 3 #[] #[])
  fields := #[]
  methods := #[]
  instanceTypes := #[]
  staticTypes := #[]
  resolved := Array.replicate 7 none
  statics := none }

def pool3 : Array CpInfo := pool [(1, .class_ 2), (0, u "java/lang/Comparable"), (0, .class_ 4), (0, u "java/lang/Object")] 7

/-- java/lang/Comparable -/
def k3 : Class := { plain "java/lang/Comparable" (some 0) with
  accessFlags := 1537
  interfaces := #[]
  cf := some (fileOf pool3 1 #[] #[] 1537 3 #[] #[])
  fields := #[]
  methods := #[]
  instanceTypes := #[]
  staticTypes := #[]
  resolved := Array.replicate 12 none
  statics := none }

def pool4 : Array CpInfo := pool [(2, .class_ 4), (1, u "java/lang/CharSequence"), (42, .class_ 48), (0, u "java/lang/CharSequence$1CodePointIterator"), (10, .class_ 60), (0, u "java/lang/CharSequence$1CharIterator"), (5, .class_ 67), (0, u "java/lang/Object")] 63

/-- java/lang/CharSequence -/
def k4 : Class := { plain "java/lang/CharSequence" (some 0) with
  accessFlags := 1537
  interfaces := #[]
  cf := some (fileOf pool4 2 #[.nestMembers #[47, 59]] #[] 1537 66 #[] #[])
  fields := #[]
  methods := #[]
  instanceTypes := #[]
  staticTypes := #[]
  resolved := Array.replicate 131 none
  statics := none }

def pool5 : Array CpInfo := pool [(1, .class_ 2), (0, u "java/lang/constant/Constable"), (0, .class_ 4), (0, u "java/lang/Object")] 6

/-- java/lang/constant/Constable -/
def k5 : Class := { plain "java/lang/constant/Constable" (some 0) with
  accessFlags := 1537
  interfaces := #[]
  cf := some (fileOf pool5 1 #[] #[] 1537 3 #[] #[])
  fields := #[]
  methods := #[]
  instanceTypes := #[]
  staticTypes := #[]
  resolved := Array.replicate 11 none
  statics := none }

def pool6 : Array CpInfo := pool [(1, .class_ 2), (0, u "java/lang/constant/ConstantDesc"), (0, .class_ 4), (0, u "java/lang/Object")] 32

/-- java/lang/constant/ConstantDesc -/
def k6 : Class := { plain "java/lang/constant/ConstantDesc" (some 0) with
  accessFlags := 1537
  interfaces := #[]
  cf := some (fileOf pool6 1 #[] #[] 1537 3 #[] #[])
  fields := #[]
  methods := #[]
  instanceTypes := #[]
  staticTypes := #[]
  resolved := Array.replicate 37 none
  statics := none }

def pool7 : Array CpInfo := pool [(1, .methodref 2 3), (0, .class_ 4), (0, .nameAndType 5 6), (0, u "java/lang/Object"), (0, u "<init>"), (0, u "()V"), (0, .string 8), (0, u ""), (0, .fieldref 10 11), (0, .class_ 12), (0, .nameAndType 13 14), (0, u "java/lang/String"), (0, u "value"), (0, u "[B"), (0, .fieldref 10 16), (0, .nameAndType 17 18), (0, u "coder"), (0, u "B"), (2, u "hash"), (0, u "I"), (2, u "hashIsZero"), (0, u "Z"), (0, .methodref 10 28), (0, .nameAndType 5 29), (0, u "([CIILjava/lang/Void;)V"), (6, u "checkBoundsOffCount"), (0, u "(III)I"), (0, .fieldref 10 39), (0, .nameAndType 40 26), (0, u "COMPACT_STRINGS"), (1, .class_ 44), (1, u "java/lang/StringUTF16"), (0, u "compress"), (1, .methodref 42 48), (0, .nameAndType 49 50), (0, u "coderFromArrayLen"), (0, u "([BI)B"), (46, u "([BII)I"), (9, .class_ 109), (1, u "java/lang/StringLatin1"), (32, u "()Z"), (34, .methodref 42 178), (0, .nameAndType 45 179), (0, u "([CII)[B"), (31, u "([BB)V"), (122, u "()I"), (0, .methodref 10 336), (0, .nameAndType 17 337), (0, u "()B"), (25, u "([BI)C"), (27, u "(II)V"), (35, u "(I)C"), (64, .methodref 10 493), (0, .nameAndType 494 142), (0, u "isLatin1"), (0, .methodref 107 496), (0, .nameAndType 497 363), (0, u "charAt"), (0, .methodref 42 496), (2, u "checkIndex"), (3, .methodref 10 506), (0, .nameAndType 507 334), (0, u "length"), (5, u "checkFromToIndex"), (7, .methodref 10 522), (0, .nameAndType 523 524), (0, u "checkBoundsBeginEnd"), (0, u "(III)V"), (50, .class_ 576), (0, u "java/lang/CharSequence"), (22, u "CASE_INSENSITIVE_ORDER"), (0, u "Ljava/util/Comparator;"), (35, u "(II)I"), (4, .methodref 10 642), (0, .nameAndType 643 636), (0, u "lastIndexOf"), (0, .methodref 107 645), (0, .nameAndType 643 97), (0, .methodref 42 645), (34, .methodref 10 682), (0, .nameAndType 683 684), (0, u "substring"), (0, u "(II)Ljava/lang/String;"), (0, .methodref 107 686), (0, .nameAndType 687 688), (0, u "newString"), (0, u "([BII)Ljava/lang/String;"), (0, .methodref 42 686), (75, u "(I)I"), (126, u "(I)Ljava/lang/String;"), (117, u "([C)V"), (42, .fieldref 1054 1055), (0, .class_ 1056), (0, .nameAndType 1057 1058), (0, u "jdk/internal/util/Preconditions"), (0, u "SIOOBE_FORMATTER"), (0, u "Ljava/util/function/BiFunction;"), (0, .methodref 1054 1060), (0, .nameAndType 501 1061), (0, u "(IILjava/util/function/BiFunction;)I"), (0, .methodref 1054 1063), (0, .nameAndType 513 1064), (0, u "(IIILjava/util/function/BiFunction;)I"), (0, .methodref 1054 1066), (0, .nameAndType 1067 1064), (0, u "checkFromIndexSize"), (33, u "serialPersistentFields"), (0, u "[Ljava/io/ObjectStreamField;"), (0, .class_ 1104), (0, u "java/lang/String$CaseInsensitiveComparator"), (1, .class_ 1107), (0, u "java/io/Serializable"), (0, .class_ 1109), (0, u "java/lang/Comparable"), (0, .class_ 1111), (0, u "java/lang/constant/Constable"), (0, .class_ 1113), (0, u "java/lang/constant/ConstantDesc"), (2, u "serialVersionUID"), (0, u "J"), (3, u "REPL"), (0, u "C"), (2, u "LATIN1"), (1, u "UTF16")] 323

def k7m0 : Method := { name := "<init>", desc := "()V", sig := { parameters := [], returnType := none }, accessFlags := 1, code := none }
def k7c1 : Code := { maxStack := 5, maxLocals := 2, code := jdk_42_method_3_code, exceptionTable := #[], attributes := #[] }
def k7m1 : Method := { name := "<init>", desc := "([C)V", sig := { parameters := [(.array .char)], returnType := none }, accessFlags := 1, code := some k7c1 }
def k7c2 : Code := { maxStack := 2, maxLocals := 1, code := jdk_42_method_54_code, exceptionTable := #[], attributes := #[] }
def k7m2 : Method := { name := "length", desc := "()I", sig := { parameters := [], returnType := some .int }, accessFlags := 1, code := some k7c2 }
def k7c3 : Code := { maxStack := 2, maxLocals := 2, code := jdk_42_method_56_code, exceptionTable := #[], attributes := #[] }
def k7m3 : Method := { name := "charAt", desc := "(I)C", sig := { parameters := [.int], returnType := some .char }, accessFlags := 1, code := some k7c3 }
def k7c4 : Code := { maxStack := 4, maxLocals := 2, code := jdk_42_method_82_code, exceptionTable := #[], attributes := #[] }
def k7m4 : Method := { name := "lastIndexOf", desc := "(I)I", sig := { parameters := [.int], returnType := some .int }, accessFlags := 1, code := some k7c4 }
def k7c5 : Code := { maxStack := 3, maxLocals := 3, code := jdk_42_method_83_code, exceptionTable := #[], attributes := #[] }
def k7m5 : Method := { name := "lastIndexOf", desc := "(II)I", sig := { parameters := [.int, .int], returnType := some .int }, accessFlags := 1, code := some k7c5 }
def k7c6 : Code := { maxStack := 3, maxLocals := 2, code := jdk_42_method_91_code, exceptionTable := #[], attributes := #[] }
def k7m6 : Method := { name := "substring", desc := "(I)Ljava/lang/String;", sig := { parameters := [.int], returnType := some (.object "java/lang/String") }, accessFlags := 1, code := some k7c6 }
def k7c7 : Code := { maxStack := 3, maxLocals := 5, code := jdk_42_method_92_code, exceptionTable := #[], attributes := #[] }
def k7m7 : Method := { name := "substring", desc := "(II)Ljava/lang/String;", sig := { parameters := [.int, .int], returnType := some (.object "java/lang/String") }, accessFlags := 1, code := some k7c7 }
def k7c8 : Code := { maxStack := 4, maxLocals := 6, code := jdk_42_method_149_code, exceptionTable := #[], attributes := #[] }
def k7m8 : Method := { name := "<init>", desc := "([CIILjava/lang/Void;)V", sig := { parameters := [(.array .char), .int, .int, (.object "java/lang/Void")], returnType := none }, accessFlags := 2, code := some k7c8 }
def k7c9 : Code := { maxStack := 2, maxLocals := 3, code := jdk_42_method_151_code, exceptionTable := #[], attributes := #[] }
def k7m9 : Method := { name := "<init>", desc := "([BB)V", sig := { parameters := [(.array .byte), .byte], returnType := none }, accessFlags := 0, code := some k7c9 }
def k7c10 : Code := { maxStack := 1, maxLocals := 1, code := jdk_42_method_152_code, exceptionTable := #[], attributes := #[] }
def k7m10 : Method := { name := "coder", desc := "()B", sig := { parameters := [], returnType := some .byte }, accessFlags := 0, code := some k7c10 }
def k7c11 : Code := { maxStack := 1, maxLocals := 1, code := jdk_42_method_154_code, exceptionTable := #[], attributes := #[] }
def k7m11 : Method := { name := "isLatin1", desc := "()Z", sig := { parameters := [], returnType := some .boolean }, accessFlags := 0, code := some k7c11 }
def k7c12 : Code := { maxStack := 3, maxLocals := 2, code := jdk_42_method_155_code, exceptionTable := #[], attributes := #[] }
def k7m12 : Method := { name := "checkIndex", desc := "(II)V", sig := { parameters := [.int, .int], returnType := none }, accessFlags := 8, code := some k7c12 }
def k7c13 : Code := { maxStack := 4, maxLocals := 3, code := jdk_42_method_157_code, exceptionTable := #[], attributes := #[] }
def k7m13 : Method := { name := "checkBoundsOffCount", desc := "(III)I", sig := { parameters := [.int, .int, .int], returnType := some .int }, accessFlags := 8, code := some k7c13 }
def k7c14 : Code := { maxStack := 4, maxLocals := 3, code := jdk_42_method_158_code, exceptionTable := #[], attributes := #[] }
def k7m14 : Method := { name := "checkBoundsBeginEnd", desc := "(III)V", sig := { parameters := [.int, .int, .int], returnType := none }, accessFlags := 8, code := some k7c14 }
/-- java/lang/String -/
def k7 : Class := { plain "java/lang/String" (some 0) with
  accessFlags := 49
  interfaces := #[2, 3, 4, 5, 6]
  cf := some (fileOf pool7 10 #[.nestMembers #[1103]] #[{ accessFlags := 1, nameIndex := 5, descriptorIndex := 6, attributes := #[] }, { accessFlags := 1, nameIndex := 5, descriptorIndex := 1010, attributes := #[] }, { accessFlags := 1, nameIndex := 507, descriptorIndex := 334, attributes := #[] }, { accessFlags := 1, nameIndex := 497, descriptorIndex := 427, attributes := #[] }, { accessFlags := 1, nameIndex := 643, descriptorIndex := 765, attributes := #[] }, { accessFlags := 1, nameIndex := 643, descriptorIndex := 636, attributes := #[] }, { accessFlags := 1, nameIndex := 683, descriptorIndex := 892, attributes := #[] }, { accessFlags := 1, nameIndex := 683, descriptorIndex := 684, attributes := #[] }, { accessFlags := 2, nameIndex := 5, descriptorIndex := 29, attributes := #[] }, { accessFlags := 0, nameIndex := 5, descriptorIndex := 211, attributes := #[] }, { accessFlags := 0, nameIndex := 17, descriptorIndex := 337, attributes := #[] }, { accessFlags := 0, nameIndex := 494, descriptorIndex := 142, attributes := #[] }, { accessFlags := 8, nameIndex := 501, descriptorIndex := 391, attributes := #[] }, { accessFlags := 8, nameIndex := 36, descriptorIndex := 37, attributes := #[] }, { accessFlags := 8, nameIndex := 523, descriptorIndex := 524, attributes := #[] }] 49 2 #[1106, 1108, 575, 1110, 1112] #[{ accessFlags := 18, nameIndex := 13, descriptorIndex := 14, attributes := #[] }, { accessFlags := 18, nameIndex := 17, descriptorIndex := 18, attributes := #[] }, { accessFlags := 2, nameIndex := 21, descriptorIndex := 22, attributes := #[] }, { accessFlags := 2, nameIndex := 25, descriptorIndex := 26, attributes := #[] }, { accessFlags := 26, nameIndex := 1116, descriptorIndex := 1117, attributes := #[] }, { accessFlags := 24, nameIndex := 40, descriptorIndex := 26, attributes := #[] }, { accessFlags := 26, nameIndex := 1101, descriptorIndex := 1102, attributes := #[] }, { accessFlags := 26, nameIndex := 1121, descriptorIndex := 1122, attributes := #[] }, { accessFlags := 25, nameIndex := 599, descriptorIndex := 600, attributes := #[] }, { accessFlags := 24, nameIndex := 1125, descriptorIndex := 18, attributes := #[] }, { accessFlags := 24, nameIndex := 1127, descriptorIndex := 18, attributes := #[] }])
  fields := #[{ name := "value", type := (.array .byte), accessFlags := 18, slot := 0, constantValue := 0 }, { name := "coder", type := .byte, accessFlags := 18, slot := 1, constantValue := 0 }, { name := "hash", type := .int, accessFlags := 2, slot := 2, constantValue := 0 }, { name := "hashIsZero", type := .boolean, accessFlags := 2, slot := 3, constantValue := 0 }, { name := "serialVersionUID", type := .long, accessFlags := 26, slot := 0, constantValue := 0 }, { name := "COMPACT_STRINGS", type := .boolean, accessFlags := 24, slot := 1, constantValue := 0 }, { name := "serialPersistentFields", type := (.array (.object "java/io/ObjectStreamField")), accessFlags := 26, slot := 2, constantValue := 0 }, { name := "REPL", type := .char, accessFlags := 26, slot := 3, constantValue := 0 }, { name := "CASE_INSENSITIVE_ORDER", type := (.object "java/util/Comparator"), accessFlags := 25, slot := 4, constantValue := 0 }, { name := "LATIN1", type := .byte, accessFlags := 24, slot := 5, constantValue := 0 }, { name := "UTF16", type := .byte, accessFlags := 24, slot := 6, constantValue := 0 }]
  methods := #[k7m0, k7m1, k7m2, k7m3, k7m4, k7m5, k7m6, k7m7, k7m8, k7m9, k7m10, k7m11, k7m12, k7m13, k7m14]
  instanceTypes := #[(.array .byte), .byte, .int, .boolean]
  staticTypes := #[.long, .boolean, (.array (.object "java/io/ObjectStreamField")), .char, (.object "java/util/Comparator"), .byte, .byte]
  resolved := Array.replicate 1451 none
  statics := some 0 }

def pool8 : Array CpInfo := pool [(2, .class_ 4), (1, u "java/lang/Object"), (0, u "<init>"), (0, u "()V"), (1, .class_ 10), (1, u "com/example/wakeline/wakeline/QualifiedFileName"), (0, u "fileName"), (0, u "(Ljava/lang/String;)Ljava/lang/String;"), (4, .class_ 19), (1, u "java/lang/String"), (6, .methodref 17 27), (0, .nameAndType 28 29), (0, u "lastIndexOf"), (0, u "(I)I"), (0, .methodref 17 31), (0, .nameAndType 32 33), (0, u "substring"), (0, u "(I)Ljava/lang/String;"), (61, u "PACKAGE"), (0, u "Ljava/lang/String;"), (1, u "BYTE_ORDER_MARK")] 22

def k8m0 : Method := { name := "<init>", desc := "()V", sig := { parameters := [], returnType := none }, accessFlags := 2, code := none }
def k8c1 : Code := { maxStack := 3, maxLocals := 1, code := prog_12_method_3_code, exceptionTable := #[], attributes := #[] }
def k8m1 : Method := { name := "fileName", desc := "(Ljava/lang/String;)Ljava/lang/String;", sig := { parameters := [(.object "java/lang/String")], returnType := some (.object "java/lang/String") }, accessFlags := 8, code := some k8c1 }
/-- com/example/wakeline/wakeline/QualifiedFileName -/
def k8 : Class := { plain "com/example/wakeline/wakeline/QualifiedFileName" (some 0) with
  accessFlags := 48
  interfaces := #[]
  cf := some (fileOf pool8 8 #[] #[{ accessFlags := 2, nameIndex := 5, descriptorIndex := 6, attributes := #[] }, { accessFlags := 8, nameIndex := 11, descriptorIndex := 12, attributes := #[] }] 48 2 #[] #[{ accessFlags := 26, nameIndex := 95, descriptorIndex := 96, attributes := #[] }, { accessFlags := 26, nameIndex := 98, descriptorIndex := 96, attributes := #[] }])
  fields := #[{ name := "PACKAGE", type := (.object "java/lang/String"), accessFlags := 26, slot := 0, constantValue := 0 }, { name := "BYTE_ORDER_MARK", type := (.object "java/lang/String"), accessFlags := 26, slot := 1, constantValue := 0 }]
  methods := #[k8m0, k8m1]
  instanceTypes := #[]
  staticTypes := #[(.object "java/lang/String"), (.object "java/lang/String")]
  resolved := Array.replicate 121 none
  statics := none }

def pool9 : Array CpInfo := pool [(1, .class_ 2), (0, u "java/lang/String"), (1, .class_ 6), (1, u "java/lang/Object"), (0, u "<init>"), (0, u "()V"), (0, .methodref 1 10), (0, .nameAndType 11 12), (0, u "checkIndex"), (0, u "(II)V"), (1, .class_ 16), (1, u "java/lang/StringLatin1"), (21, .methodref 39 40), (0, .class_ 41), (0, .nameAndType 42 43), (0, u "java/lang/Math"), (0, u "min"), (0, u "(II)I"), (9, u "([BI)C"), (34, .methodref 14 89), (0, .nameAndType 90 91), (0, u "canEncode"), (0, u "(I)Z"), (20, .methodref 1 113), (0, .nameAndType 7 114), (0, u "([BB)V"), (6, u "$assertionsDisabled"), (0, u "Z"), (8, .class_ 133), (1, u "java/util/Arrays"), (17, .string 152), (0, u ""), (43, u "newString"), (0, u "([BII)Ljava/lang/String;"), (23, .class_ 223), (1, u "java/lang/StringLatin1$LinesSpliterator"), (8, .methodref 131 233), (0, .nameAndType 234 235), (0, u "copyOfRange"), (0, u "([BII)[B"), (16, u "charAt"), (8, u "([BII)I"), (47, u "lastIndexOf"), (80, .class_ 391), (0, u "java/lang/StringLatin1$CharsSpliterator")] 3

def k9m0 : Method := { name := "<init>", desc := "()V", sig := { parameters := [], returnType := none }, accessFlags := 0, code := none }
def k9c1 : Code := { maxStack := 2, maxLocals := 2, code := jdk_43_method_2_code, exceptionTable := #[], attributes := #[] }
def k9m1 : Method := { name := "charAt", desc := "([BI)C", sig := { parameters := [(.array .byte), .int], returnType := some .char }, accessFlags := 9, code := some k9c1 }
def k9c2 : Code := { maxStack := 2, maxLocals := 1, code := jdk_43_method_4_code, exceptionTable := #[], attributes := #[] }
def k9m2 : Method := { name := "canEncode", desc := "(I)Z", sig := { parameters := [.int], returnType := some .boolean }, accessFlags := 9, code := some k9c2 }
def k9c3 : Code := { maxStack := 3, maxLocals := 4, code := jdk_43_method_27_code, exceptionTable := #[], attributes := #[] }
def k9m3 : Method := { name := "lastIndexOf", desc := "([BII)I", sig := { parameters := [(.array .byte), .int, .int], returnType := some .int }, accessFlags := 9, code := some k9c3 }
def k9c4 : Code := { maxStack := 6, maxLocals := 3, code := jdk_43_method_47_code, exceptionTable := #[], attributes := #[] }
def k9m4 : Method := { name := "newString", desc := "([BII)Ljava/lang/String;", sig := { parameters := [(.array .byte), .int, .int], returnType := some (.object "java/lang/String") }, accessFlags := 9, code := some k9c4 }
/-- java/lang/StringLatin1 -/
def k9 : Class := { plain "java/lang/StringLatin1" (some 0) with
  accessFlags := 48
  interfaces := #[]
  cf := some (fileOf pool9 14 #[.nestMembers #[390, 221]] #[{ accessFlags := 0, nameIndex := 7, descriptorIndex := 8, attributes := #[] }, { accessFlags := 9, nameIndex := 252, descriptorIndex := 53, attributes := #[] }, { accessFlags := 9, nameIndex := 90, descriptorIndex := 91, attributes := #[] }, { accessFlags := 9, nameIndex := 309, descriptorIndex := 261, attributes := #[] }, { accessFlags := 9, nameIndex := 196, descriptorIndex := 197, attributes := #[] }] 48 4 #[] #[{ accessFlags := 4120, nameIndex := 121, descriptorIndex := 122, attributes := #[] }])
  fields := #[{ name := "$assertionsDisabled", type := .boolean, accessFlags := 4120, slot := 0, constantValue := 0 }]
  methods := #[k9m0, k9m1, k9m2, k9m3, k9m4]
  instanceTypes := #[]
  staticTypes := #[.boolean]
  resolved := Array.replicate 395 none
  statics := none }

def pool10 : Array CpInfo := pool [(1, .class_ 2), (0, u "java/lang/Math"), (1, .class_ 6), (1, u "java/lang/Object"), (0, u "<init>"), (0, u "()V"), (89, .class_ 100), (1, u "java/lang/Math$RandomNumberGeneratorHolder"), (71, u "negativeZeroFloatBits"), (0, u "J"), (2, u "negativeZeroDoubleBits"), (24, u "min"), (43, u "$assertionsDisabled"), (0, u "Z"), (88, u "(II)I"), (2, u "twoToTheDoubleScaleDown"), (0, u "D"), (4, u "twoToTheDoubleScaleUp"), (9, u "E"), (3, u "PI"), (2, u "TAU"), (2, u "DEGREES_TO_RADIANS"), (0, u "RADIANS_TO_DEGREES")] 94

def k10m0 : Method := { name := "<init>", desc := "()V", sig := { parameters := [], returnType := none }, accessFlags := 2, code := none }
def k10c1 : Code := { maxStack := 2, maxLocals := 2, code := jdk_29_method_69_code, exceptionTable := #[], attributes := #[] }
def k10m1 : Method := { name := "min", desc := "(II)I", sig := { parameters := [.int, .int], returnType := some .int }, accessFlags := 9, code := some k10c1 }
/-- java/lang/Math -/
def k10 : Class := { plain "java/lang/Math" (some 0) with
  accessFlags := 49
  interfaces := #[]
  cf := some (fileOf pool10 1 #[.nestMembers #[98]] #[{ accessFlags := 2, nameIndex := 7, descriptorIndex := 8, attributes := #[] }, { accessFlags := 9, nameIndex := 201, descriptorIndex := 335, attributes := #[] }] 49 4 #[] #[{ accessFlags := 25, nameIndex := 354, descriptorIndex := 339, attributes := #[] }, { accessFlags := 25, nameIndex := 358, descriptorIndex := 339, attributes := #[] }, { accessFlags := 25, nameIndex := 361, descriptorIndex := 339, attributes := #[] }, { accessFlags := 26, nameIndex := 364, descriptorIndex := 339, attributes := #[] }, { accessFlags := 26, nameIndex := 365, descriptorIndex := 339, attributes := #[] }, { accessFlags := 26, nameIndex := 172, descriptorIndex := 173, attributes := #[] }, { accessFlags := 26, nameIndex := 176, descriptorIndex := 173, attributes := #[] }, { accessFlags := 8, nameIndex := 344, descriptorIndex := 339, attributes := #[] }, { accessFlags := 8, nameIndex := 338, descriptorIndex := 339, attributes := #[] }, { accessFlags := 4120, nameIndex := 245, descriptorIndex := 246, attributes := #[] }])
  fields := #[{ name := "E", type := .double, accessFlags := 25, slot := 0, constantValue := 0 }, { name := "PI", type := .double, accessFlags := 25, slot := 1, constantValue := 0 }, { name := "TAU", type := .double, accessFlags := 25, slot := 2, constantValue := 0 }, { name := "DEGREES_TO_RADIANS", type := .double, accessFlags := 26, slot := 3, constantValue := 0 }, { name := "RADIANS_TO_DEGREES", type := .double, accessFlags := 26, slot := 4, constantValue := 0 }, { name := "negativeZeroFloatBits", type := .long, accessFlags := 26, slot := 5, constantValue := 0 }, { name := "negativeZeroDoubleBits", type := .long, accessFlags := 26, slot := 6, constantValue := 0 }, { name := "twoToTheDoubleScaleUp", type := .double, accessFlags := 8, slot := 7, constantValue := 0 }, { name := "twoToTheDoubleScaleDown", type := .double, accessFlags := 8, slot := 8, constantValue := 0 }, { name := "$assertionsDisabled", type := .boolean, accessFlags := 4120, slot := 9, constantValue := 0 }]
  methods := #[k10m0, k10m1]
  instanceTypes := #[]
  staticTypes := #[.double, .double, .double, .double, .double, .long, .long, .double, .double, .boolean]
  resolved := Array.replicate 460 none
  statics := none }

def pool11 : Array CpInfo := pool [(2, .class_ 4), (1, u "java/lang/Object"), (0, u "<init>"), (0, u "()V"), (17, .class_ 26), (1, u "jdk/internal/util/Preconditions"), (6, u "checkIndex"), (13, u "checkFromToIndex"), (1, u "checkFromIndexSize"), (5, .class_ 56), (0, u "jdk/internal/util/Preconditions$4"), (57, .class_ 115), (0, u "jdk/internal/util/Preconditions$1"), (7, u "SIOOBE_FORMATTER"), (0, u "Ljava/util/function/BiFunction;"), (0, .class_ 126), (0, u "jdk/internal/util/Preconditions$2"), (3, u "AIOOBE_FORMATTER"), (0, .class_ 132), (0, u "jdk/internal/util/Preconditions$3"), (3, u "IOOBE_FORMATTER"), (41, u "(IILjava/util/function/BiFunction;)I"), (4, u "(IIILjava/util/function/BiFunction;)I")] 10

def k11m0 : Method := { name := "<init>", desc := "()V", sig := { parameters := [], returnType := none }, accessFlags := 1, code := none }
def k11c1 : Code := { maxStack := 3, maxLocals := 3, code := jdk_41_method_11_code, exceptionTable := #[], attributes := #[] }
def k11m1 : Method := { name := "checkIndex", desc := "(IILjava/util/function/BiFunction;)I", sig := { parameters := [.int, .int, (.object "java/util/function/BiFunction")], returnType := some .int }, accessFlags := 9, code := some k11c1 }
def k11c2 : Code := { maxStack := 4, maxLocals := 4, code := jdk_41_method_12_code, exceptionTable := #[], attributes := #[] }
def k11m2 : Method := { name := "checkFromToIndex", desc := "(IIILjava/util/function/BiFunction;)I", sig := { parameters := [.int, .int, .int, (.object "java/util/function/BiFunction")], returnType := some .int }, accessFlags := 9, code := some k11c2 }
def k11c3 : Code := { maxStack := 4, maxLocals := 4, code := jdk_41_method_13_code, exceptionTable := #[], attributes := #[] }
def k11m3 : Method := { name := "checkFromIndexSize", desc := "(IIILjava/util/function/BiFunction;)I", sig := { parameters := [.int, .int, .int, (.object "java/util/function/BiFunction")], returnType := some .int }, accessFlags := 9, code := some k11c3 }
/-- jdk/internal/util/Preconditions -/
def k11 : Class := { plain "jdk/internal/util/Preconditions" (some 0) with
  accessFlags := 33
  interfaces := #[]
  cf := some (fileOf pool11 24 #[.nestMembers #[55, 131, 125, 114]] #[{ accessFlags := 1, nameIndex := 5, descriptorIndex := 6, attributes := #[] }, { accessFlags := 9, nameIndex := 33, descriptorIndex := 178, attributes := #[] }, { accessFlags := 9, nameIndex := 47, descriptorIndex := 183, attributes := #[] }, { accessFlags := 9, nameIndex := 49, descriptorIndex := 183, attributes := #[] }] 33 2 #[] #[{ accessFlags := 25, nameIndex := 123, descriptorIndex := 124, attributes := #[] }, { accessFlags := 25, nameIndex := 130, descriptorIndex := 124, attributes := #[] }, { accessFlags := 25, nameIndex := 136, descriptorIndex := 124, attributes := #[] }])
  fields := #[{ name := "SIOOBE_FORMATTER", type := (.object "java/util/function/BiFunction"), accessFlags := 25, slot := 0, constantValue := 0 }, { name := "AIOOBE_FORMATTER", type := (.object "java/util/function/BiFunction"), accessFlags := 25, slot := 1, constantValue := 0 }, { name := "IOOBE_FORMATTER", type := (.object "java/util/function/BiFunction"), accessFlags := 25, slot := 2, constantValue := 0 }]
  methods := #[k11m0, k11m1, k11m2, k11m3]
  instanceTypes := #[]
  staticTypes := #[(.object "java/util/function/BiFunction"), (.object "java/util/function/BiFunction"), (.object "java/util/function/BiFunction")]
  resolved := Array.replicate 194 none
  statics := some 1 }

def pool12 : Array CpInfo := pool [(3, .class_ 4), (0, u "java/lang/String"), (1, .class_ 8), (1, u "java/lang/Object"), (0, u "<init>"), (0, u "()V"), (0, .methodref 12 13), (0, .class_ 14), (0, .nameAndType 15 16), (0, u "java/lang/StringUTF16"), (0, u "newBytesLength"), (0, u "(I)I"), (3, .integer 1073741823), (23, .fieldref 12 45), (0, .nameAndType 46 47), (0, u "$assertionsDisabled"), (0, u "Z"), (0, .methodref 12 49), (0, .nameAndType 50 51), (0, u "length"), (0, u "([B)I"), (7, .fieldref 12 60), (0, .nameAndType 61 62), (0, u "HI_BYTE_SHIFT"), (0, u "I"), (0, .fieldref 12 64), (0, .nameAndType 65 62), (0, u "LO_BYTE_SHIFT"), (1, .methodref 12 68), (0, .nameAndType 69 70), (0, u "checkIndex"), (0, u "(I[B)V"), (0, .methodref 12 72), (0, .nameAndType 73 74), (0, u "getChar"), (0, u "([BI)C"), (24, u "(II[B)V"), (7, .methodref 12 108), (0, .nameAndType 109 110), (0, u "newBytesFor"), (0, u "(I)[B"), (0, .methodref 12 112), (0, .nameAndType 113 114), (0, u "putChar"), (0, u "([BII)V"), (0, .methodref 12 116), (0, .nameAndType 117 118), (0, u "compress"), (0, u "([CI[BII)I"), (0, .methodref 12 120), (0, .nameAndType 121 122), (0, u "toBytes"), (0, u "([CII)[B"), (0, .methodref 12 124), (0, .nameAndType 117 125), (0, u "([BI[BII)I"), (0, .methodref 127 128), (0, .class_ 129), (0, .nameAndType 130 131), (0, u "java/util/Arrays"), (0, u "copyOfRange"), (0, u "([BII)[B"), (41, .methodref 12 174), (0, .nameAndType 175 99), (0, u "checkBoundsOffCount"), (7, .methodref 184 185), (0, .class_ 186), (0, .nameAndType 187 188), (0, u "java/lang/Math"), (0, u "min"), (0, u "(II)I"), (38, .integer 65536), (22, u "([BII)I"), (0, .fieldref 3 252), (0, .nameAndType 253 47), (0, u "COMPACT_STRINGS"), (3, .methodref 12 258), (0, .nameAndType 117 131), (0, .methodref 12 260), (0, .nameAndType 261 262), (0, u "coderFromArrayLen"), (0, u "([BI)B"), (0, .methodref 3 264), (0, .nameAndType 9 265), (0, u "([BB)V"), (15, u "(III)I"), (13, .string 296), (0, u ""), (30, u "newString"), (0, u "([BII)Ljava/lang/String;"), (40, .class_ 371), (1, u "java/lang/StringUTF16$LinesSpliterator"), (20, u "charAt"), (21, .methodref 3 415), (0, .nameAndType 69 416), (0, u "(II)V"), (2, .methodref 3 420), (0, .nameAndType 175 281), (9, u "MAX_LENGTH"), (90, u "lastIndexOf"), (105, .class_ 628), (0, u "java/lang/StringUTF16$CodePointsSpliterator"), (0, .class_ 630), (0, u "java/lang/StringUTF16$CharsSpliterator")] 4

def k12m0 : Method := { name := "<init>", desc := "()V", sig := { parameters := [], returnType := none }, accessFlags := 0, code := none }
def k12c1 : Code := { maxStack := 1, maxLocals := 1, code := jdk_52_method_2_code, exceptionTable := #[], attributes := #[] }
def k12m1 : Method := { name := "newBytesFor", desc := "(I)[B", sig := { parameters := [.int], returnType := some (.array .byte) }, accessFlags := 9, code := some k12c1 }
def k12c2 : Code := { maxStack := 4, maxLocals := 1, code := jdk_52_method_3_code, exceptionTable := #[], attributes := #[] }
def k12m2 : Method := { name := "newBytesLength", desc := "(I)I", sig := { parameters := [.int], returnType := some .int }, accessFlags := 9, code := some k12c2 }
def k12c3 : Code := { maxStack := 4, maxLocals := 3, code := jdk_52_method_4_code, exceptionTable := #[], attributes := #[] }
def k12m3 : Method := { name := "putChar", desc := "([BII)V", sig := { parameters := [(.array .byte), .int, .int], returnType := none }, accessFlags := 8, code := some k12c3 }
def k12c4 : Code := { maxStack := 3, maxLocals := 2, code := jdk_52_method_5_code, exceptionTable := #[], attributes := #[] }
def k12m4 : Method := { name := "getChar", desc := "([BI)C", sig := { parameters := [(.array .byte), .int], returnType := some .char }, accessFlags := 8, code := some k12c4 }
def k12c5 : Code := { maxStack := 2, maxLocals := 1, code := jdk_52_method_6_code, exceptionTable := #[], attributes := #[] }
def k12m5 : Method := { name := "length", desc := "([B)I", sig := { parameters := [(.array .byte)], returnType := some .int }, accessFlags := 9, code := some k12c5 }
def k12c6 : Code := { maxStack := 4, maxLocals := 5, code := jdk_52_method_14_code, exceptionTable := #[], attributes := #[] }
def k12m6 : Method := { name := "toBytes", desc := "([CII)[B", sig := { parameters := [(.array .char), .int, .int], returnType := some (.array .byte) }, accessFlags := 9, code := some k12c6 }
def k12c7 : Code := { maxStack := 2, maxLocals := 2, code := jdk_52_method_15_code, exceptionTable := #[], attributes := #[] }
def k12m7 : Method := { name := "coderFromArrayLen", desc := "([BI)B", sig := { parameters := [(.array .byte), .int], returnType := some .byte }, accessFlags := 8, code := some k12c7 }
def k12c8 : Code := { maxStack := 5, maxLocals := 6, code := jdk_52_method_16_code, exceptionTable := #[], attributes := #[] }
def k12m8 : Method := { name := "compress", desc := "([CII)[B", sig := { parameters := [(.array .char), .int, .int], returnType := some (.array .byte) }, accessFlags := 9, code := some k12c8 }
def k12c9 : Code := { maxStack := 5, maxLocals := 6, code := jdk_52_method_17_code, exceptionTable := #[], attributes := #[] }
def k12m9 : Method := { name := "compress", desc := "([BII)[B", sig := { parameters := [(.array .byte), .int, .int], returnType := some (.array .byte) }, accessFlags := 9, code := some k12c9 }
def k12c10 : Code := { maxStack := 3, maxLocals := 7, code := jdk_52_method_21_code, exceptionTable := #[], attributes := #[] }
def k12m10 : Method := { name := "compress", desc := "([CI[BII)I", sig := { parameters := [(.array .char), .int, (.array .byte), .int, .int], returnType := some .int }, accessFlags := 9, code := some k12c10 }
def k12c11 : Code := { maxStack := 3, maxLocals := 7, code := jdk_52_method_22_code, exceptionTable := #[], attributes := #[] }
def k12m11 : Method := { name := "compress", desc := "([BI[BII)I", sig := { parameters := [(.array .byte), .int, (.array .byte), .int, .int], returnType := some .int }, accessFlags := 9, code := some k12c11 }
def k12c12 : Code := { maxStack := 3, maxLocals := 4, code := jdk_52_method_51_code, exceptionTable := #[], attributes := #[] }
def k12m12 : Method := { name := "lastIndexOf", desc := "([BII)I", sig := { parameters := [(.array .byte), .int, .int], returnType := some .int }, accessFlags := 9, code := some k12c12 }
def k12c13 : Code := { maxStack := 6, maxLocals := 5, code := jdk_52_method_69_code, exceptionTable := #[], attributes := #[] }
def k12m13 : Method := { name := "newString", desc := "([BII)Ljava/lang/String;", sig := { parameters := [(.array .byte), .int, .int], returnType := some (.object "java/lang/String") }, accessFlags := 9, code := some k12c13 }
def k12c14 : Code := { maxStack := 2, maxLocals := 2, code := jdk_52_method_83_code, exceptionTable := #[], attributes := #[] }
def k12m14 : Method := { name := "charAt", desc := "([BI)C", sig := { parameters := [(.array .byte), .int], returnType := some .char }, accessFlags := 9, code := some k12c14 }
def k12c15 : Code := { maxStack := 2, maxLocals := 2, code := jdk_52_method_91_code, exceptionTable := #[], attributes := #[] }
def k12m15 : Method := { name := "checkIndex", desc := "(I[B)V", sig := { parameters := [.int, (.array .byte)], returnType := none }, accessFlags := 9, code := some k12c15 }
def k12c16 : Code := { maxStack := 3, maxLocals := 3, code := jdk_52_method_94_code, exceptionTable := #[], attributes := #[] }
def k12m16 : Method := { name := "checkBoundsOffCount", desc := "(II[B)V", sig := { parameters := [.int, .int, (.array .byte)], returnType := none }, accessFlags := 9, code := some k12c16 }
/-- java/lang/StringUTF16 -/
def k12 : Class := { plain "java/lang/StringUTF16" (some 0) with
  accessFlags := 48
  interfaces := #[]
  cf := some (fileOf pool12 12 #[.nestMembers #[627, 629, 369]] #[{ accessFlags := 0, nameIndex := 9, descriptorIndex := 10, attributes := #[] }, { accessFlags := 9, nameIndex := 109, descriptorIndex := 110, attributes := #[] }, { accessFlags := 9, nameIndex := 15, descriptorIndex := 16, attributes := #[] }, { accessFlags := 8, nameIndex := 113, descriptorIndex := 114, attributes := #[] }, { accessFlags := 8, nameIndex := 73, descriptorIndex := 74, attributes := #[] }, { accessFlags := 9, nameIndex := 50, descriptorIndex := 51, attributes := #[] }, { accessFlags := 9, nameIndex := 121, descriptorIndex := 122, attributes := #[] }, { accessFlags := 8, nameIndex := 261, descriptorIndex := 262, attributes := #[] }, { accessFlags := 9, nameIndex := 117, descriptorIndex := 122, attributes := #[] }, { accessFlags := 9, nameIndex := 117, descriptorIndex := 131, attributes := #[] }, { accessFlags := 9, nameIndex := 117, descriptorIndex := 118, attributes := #[] }, { accessFlags := 9, nameIndex := 117, descriptorIndex := 125, attributes := #[] }, { accessFlags := 9, nameIndex := 521, descriptorIndex := 250, attributes := #[] }, { accessFlags := 9, nameIndex := 327, descriptorIndex := 328, attributes := #[] }, { accessFlags := 9, nameIndex := 392, descriptorIndex := 74, attributes := #[] }, { accessFlags := 9, nameIndex := 69, descriptorIndex := 70, attributes := #[] }, { accessFlags := 9, nameIndex := 175, descriptorIndex := 99, attributes := #[] }] 48 6 #[] #[{ accessFlags := 26, nameIndex := 61, descriptorIndex := 62, attributes := #[] }, { accessFlags := 26, nameIndex := 65, descriptorIndex := 62, attributes := #[] }, { accessFlags := 24, nameIndex := 430, descriptorIndex := 62, attributes := #[] }, { accessFlags := 4120, nameIndex := 46, descriptorIndex := 47, attributes := #[] }])
  fields := #[{ name := "HI_BYTE_SHIFT", type := .int, accessFlags := 26, slot := 0, constantValue := 0 }, { name := "LO_BYTE_SHIFT", type := .int, accessFlags := 26, slot := 1, constantValue := 0 }, { name := "MAX_LENGTH", type := .int, accessFlags := 24, slot := 2, constantValue := 0 }, { name := "$assertionsDisabled", type := .boolean, accessFlags := 4120, slot := 3, constantValue := 0 }]
  methods := #[k12m0, k12m1, k12m2, k12m3, k12m4, k12m5, k12m6, k12m7, k12m8, k12m9, k12m10, k12m11, k12m12, k12m13, k12m14, k12m15, k12m16]
  instanceTypes := #[]
  staticTypes := #[.int, .int, .int, .boolean]
  resolved := Array.replicate 635 none
  statics := some 2 }

def pool13 : Array CpInfo := pool [(2, .class_ 4), (1, u "java/lang/Object"), (0, u "<init>"), (0, u "()V"), (7, .class_ 16), (1, u "java/util/Arrays"), (57, .class_ 76), (1, u "java/util/Arrays$NaturalOrder"), (36, .class_ 115), (1, u "java/util/Arrays$LegacyMergeSort"), (1, u "Z"), (21, u "copyOfRange"), (10, .methodref 151 152), (0, .class_ 153), (0, .nameAndType 154 155), (0, u "java/lang/System"), (0, u "arraycopy"), (0, u "(Ljava/lang/Object;ILjava/lang/Object;II)V"), (148, .methodref 305 306), (0, .class_ 307), (0, .nameAndType 308 309), (0, u "java/lang/Math"), (0, u "min"), (0, u "(II)I"), (29, .methodref 14 340), (0, .nameAndType 341 342), (0, u "copyOfRangeByte"), (0, u "([BII)[B"), (0, .methodref 14 344), (0, .nameAndType 345 346), (0, u "checkLength"), (0, u "(II)V"), (28, .class_ 376), (0, u "java/util/Arrays$ArrayList"), (68, u "$assertionsDisabled"), (269, u "MIN_ARRAY_SORT_GRAN"), (0, u "I"), (2, u "INSERTIONSORT_THRESHOLD"), (255, .class_ 976), (0, u "java/util/Arrays$ArrayItr")] 52

def k13m0 : Method := { name := "<init>", desc := "()V", sig := { parameters := [], returnType := none }, accessFlags := 2, code := none }
def k13c1 : Code := { maxStack := 4, maxLocals := 2, code := jdk_65_method_131_code, exceptionTable := #[], attributes := #[] }
def k13m1 : Method := { name := "checkLength", desc := "(II)V", sig := { parameters := [.int, .int], returnType := none }, accessFlags := 10, code := some k13c1 }
def k13c2 : Code := { maxStack := 3, maxLocals := 3, code := jdk_65_method_132_code, exceptionTable := #[], attributes := #[] }
def k13m2 : Method := { name := "copyOfRange", desc := "([BII)[B", sig := { parameters := [(.array .byte), .int, .int], returnType := some (.array .byte) }, accessFlags := 9, code := some k13c2 }
def k13c3 : Code := { maxStack := 6, maxLocals := 5, code := jdk_65_method_133_code, exceptionTable := #[], attributes := #[] }
def k13m3 : Method := { name := "copyOfRangeByte", desc := "([BII)[B", sig := { parameters := [(.array .byte), .int, .int], returnType := some (.array .byte) }, accessFlags := 10, code := some k13c3 }
/-- java/util/Arrays -/
def k13 : Class := { plain "java/util/Arrays" (some 0) with
  accessFlags := 49
  interfaces := #[]
  cf := some (fileOf pool13 14 #[.nestMembers #[975, 375, 113, 74]] #[{ accessFlags := 2, nameIndex := 5, descriptorIndex := 6, attributes := #[] }, { accessFlags := 10, nameIndex := 345, descriptorIndex := 346, attributes := #[] }, { accessFlags := 9, nameIndex := 139, descriptorIndex := 342, attributes := #[] }, { accessFlags := 10, nameIndex := 341, descriptorIndex := 342, attributes := #[] }] 49 2 #[] #[{ accessFlags := 26, nameIndex := 715, descriptorIndex := 716, attributes := #[] }, { accessFlags := 26, nameIndex := 719, descriptorIndex := 716, attributes := #[] }, { accessFlags := 4120, nameIndex := 445, descriptorIndex := 117, attributes := #[] }])
  fields := #[{ name := "MIN_ARRAY_SORT_GRAN", type := .int, accessFlags := 26, slot := 0, constantValue := 0 }, { name := "INSERTIONSORT_THRESHOLD", type := .int, accessFlags := 26, slot := 1, constantValue := 0 }, { name := "$assertionsDisabled", type := .boolean, accessFlags := 4120, slot := 2, constantValue := 0 }]
  methods := #[k13m0, k13m1, k13m2, k13m3]
  instanceTypes := #[]
  staticTypes := #[.int, .int, .boolean]
  resolved := Array.replicate 1029 none
  statics := none }

def pool14 : Array CpInfo := pool [(2, .class_ 4), (1, u "java/lang/Object"), (0, u "<init>"), (0, u "()V"), (1, .class_ 10), (1, u "java/lang/System"), (0, u "allowSecurityManager"), (0, u "I"), (16, u "cons"), (0, u "Ljava/io/Console;"), (77, .class_ 110), (1, u "java/lang/System$CallersHolder"), (43, u "initialErrStream"), (0, u "Ljava/io/PrintStream;"), (19, u "security"), (0, u "Ljava/lang/SecurityManager;"), (31, .class_ 209), (0, u "java/lang/System$1"), (7, u "props"), (0, u "Ljava/util/Properties;"), (2, u "lineSeparator"), (0, u "Ljava/lang/String;"), (96, .class_ 321), (1, u "java/lang/System$LoggerFinder"), (5, .class_ 328), (0, u "java/lang/System$Logger"), (67, u "err"), (2, u "out"), (91, u "notSupportedJnuEncoding"), (15, u "in"), (17, u "initialIn"), (0, u "Ljava/io/InputStream;"), (35, u "bootLayer"), (0, u "Ljava/lang/ModuleLayer;"), (99, .class_ 664), (0, u "java/lang/System$2"), (9, u "NEVER"), (2, u "MAYBE"), (49, u "arraycopy"), (0, u "(Ljava/lang/Object;ILjava/lang/Object;II)V"), (72, .class_ 802), (0, u "java/lang/System$Logger$Level")] 31

def k14m0 : Method := { name := "<init>", desc := "()V", sig := { parameters := [], returnType := none }, accessFlags := 2, code := none }
def k14m1 : Method := { name := "arraycopy", desc := "(Ljava/lang/Object;ILjava/lang/Object;II)V", sig := { parameters := [(.object "java/lang/Object"), .int, (.object "java/lang/Object"), .int, .int], returnType := none }, accessFlags := 265, code := none }
/-- java/lang/System -/
def k14 : Class := { plain "java/lang/System" (some 0) with
  accessFlags := 49
  interfaces := #[]
  cf := some (fileOf pool14 8 #[.nestMembers #[319, 327, 801, 108, 663, 208]] #[{ accessFlags := 2, nameIndex := 5, descriptorIndex := 6, attributes := #[] }, { accessFlags := 265, nameIndex := 727, descriptorIndex := 728, attributes := #[] }] 49 2 #[] #[{ accessFlags := 25, nameIndex := 507, descriptorIndex := 526, attributes := #[] }, { accessFlags := 25, nameIndex := 399, descriptorIndex := 155, attributes := #[] }, { accessFlags := 25, nameIndex := 396, descriptorIndex := 155, attributes := #[] }, { accessFlags := 10, nameIndex := 525, descriptorIndex := 526, attributes := #[] }, { accessFlags := 26, nameIndex := 674, descriptorIndex := 12, attributes := #[] }, { accessFlags := 26, nameIndex := 677, descriptorIndex := 12, attributes := #[] }, { accessFlags := 10, nameIndex := 11, descriptorIndex := 12, attributes := #[] }, { accessFlags := 74, nameIndex := 175, descriptorIndex := 176, attributes := #[] }, { accessFlags := 10, nameIndex := 491, descriptorIndex := 222, attributes := #[] }, { accessFlags := 74, nameIndex := 29, descriptorIndex := 30, attributes := #[] }, { accessFlags := 74, nameIndex := 154, descriptorIndex := 155, attributes := #[] }, { accessFlags := 10, nameIndex := 217, descriptorIndex := 218, attributes := #[] }, { accessFlags := 10, nameIndex := 221, descriptorIndex := 222, attributes := #[] }, { accessFlags := 8, nameIndex := 562, descriptorIndex := 563, attributes := #[] }])
  fields := #[{ name := "in", type := (.object "java/io/InputStream"), accessFlags := 25, slot := 0, constantValue := 0 }, { name := "out", type := (.object "java/io/PrintStream"), accessFlags := 25, slot := 1, constantValue := 0 }, { name := "err", type := (.object "java/io/PrintStream"), accessFlags := 25, slot := 2, constantValue := 0 }, { name := "initialIn", type := (.object "java/io/InputStream"), accessFlags := 10, slot := 3, constantValue := 0 }, { name := "NEVER", type := .int, accessFlags := 26, slot := 4, constantValue := 0 }, { name := "MAYBE", type := .int, accessFlags := 26, slot := 5, constantValue := 0 }, { name := "allowSecurityManager", type := .int, accessFlags := 10, slot := 6, constantValue := 0 }, { name := "security", type := (.object "java/lang/SecurityManager"), accessFlags := 74, slot := 7, constantValue := 0 }, { name := "notSupportedJnuEncoding", type := (.object "java/lang/String"), accessFlags := 10, slot := 8, constantValue := 0 }, { name := "cons", type := (.object "java/io/Console"), accessFlags := 74, slot := 9, constantValue := 0 }, { name := "initialErrStream", type := (.object "java/io/PrintStream"), accessFlags := 74, slot := 10, constantValue := 0 }, { name := "props", type := (.object "java/util/Properties"), accessFlags := 10, slot := 11, constantValue := 0 }, { name := "lineSeparator", type := (.object "java/lang/String"), accessFlags := 10, slot := 12, constantValue := 0 }, { name := "bootLayer", type := (.object "java/lang/ModuleLayer"), accessFlags := 8, slot := 13, constantValue := 0 }]
  methods := #[k14m0, k14m1]
  instanceTypes := #[]
  staticTypes := #[(.object "java/io/InputStream"), (.object "java/io/PrintStream"), (.object "java/io/PrintStream"), (.object "java/io/InputStream"), .int, .int, .int, (.object "java/lang/SecurityManager"), (.object "java/lang/String"), (.object "java/io/Console"), (.object "java/io/PrintStream"), (.object "java/util/Properties"), (.object "java/lang/String"), (.object "java/lang/ModuleLayer")]
  resolved := Array.replicate 834 none
  statics := none }

def pool15 : Array CpInfo := pool [(9, u "<init>"), (6, .class_ 18), (1, u "java/lang/Object"), (0, u "()V"), (1, .class_ 23), (1, u "jdk/internal/util/ArraysSupport"), (0, u "LOG2_ARRAY_LONG_INDEX_SCALE"), (0, u "I"), (2, u "U"), (0, u "Ljdk/internal/misc/Unsafe;"), (8, u "BIG_ENDIAN"), (0, u "Z"), (8, u "LOG2_BYTE_BIT_SIZE"), (4, u "LOG2_ARRAY_INT_INDEX_SCALE"), (54, u "JLA"), (0, u "Ljdk/internal/access/JavaLangAccess;"), (11, u "LOG2_ARRAY_BOOLEAN_INDEX_SCALE"), (9, u "LOG2_ARRAY_BYTE_INDEX_SCALE"), (5, u "LOG2_ARRAY_CHAR_INDEX_SCALE"), (5, u "LOG2_ARRAY_SHORT_INDEX_SCALE"), (18, u "LOG2_ARRAY_FLOAT_INDEX_SCALE"), (24, u "LOG2_ARRAY_DOUBLE_INDEX_SCALE"), (89, u "T_BOOLEAN"), (2, u "T_CHAR"), (1, u "T_FLOAT"), (1, u "T_DOUBLE"), (1, u "T_BYTE"), (1, u "T_SHORT"), (1, u "T_INT"), (1, u "T_LONG"), (1, u "SOFT_MAX_ARRAY_LENGTH")] 83

def k15m0 : Method := { name := "<init>", desc := "()V", sig := { parameters := [], returnType := none }, accessFlags := 2, code := none }
/-- jdk/internal/util/ArraysSupport -/
def k15 : Class := { plain "jdk/internal/util/ArraysSupport" (some 0) with
  accessFlags := 33
  interfaces := #[]
  cf := some (fileOf pool15 21 #[] #[{ accessFlags := 2, nameIndex := 9, descriptorIndex := 19, attributes := #[] }] 33 16 #[] #[{ accessFlags := 24, nameIndex := 28, descriptorIndex := 29, attributes := #[] }, { accessFlags := 26, nameIndex := 38, descriptorIndex := 39, attributes := #[] }, { accessFlags := 25, nameIndex := 121, descriptorIndex := 25, attributes := #[] }, { accessFlags := 25, nameIndex := 131, descriptorIndex := 25, attributes := #[] }, { accessFlags := 25, nameIndex := 137, descriptorIndex := 25, attributes := #[] }, { accessFlags := 25, nameIndex := 143, descriptorIndex := 25, attributes := #[] }, { accessFlags := 25, nameIndex := 53, descriptorIndex := 25, attributes := #[] }, { accessFlags := 25, nameIndex := 24, descriptorIndex := 25, attributes := #[] }, { accessFlags := 25, nameIndex := 162, descriptorIndex := 25, attributes := #[] }, { accessFlags := 25, nameIndex := 187, descriptorIndex := 25, attributes := #[] }, { accessFlags := 26, nameIndex := 48, descriptorIndex := 25, attributes := #[] }, { accessFlags := 25, nameIndex := 277, descriptorIndex := 25, attributes := #[] }, { accessFlags := 25, nameIndex := 280, descriptorIndex := 25, attributes := #[] }, { accessFlags := 25, nameIndex := 282, descriptorIndex := 25, attributes := #[] }, { accessFlags := 25, nameIndex := 284, descriptorIndex := 25, attributes := #[] }, { accessFlags := 25, nameIndex := 286, descriptorIndex := 25, attributes := #[] }, { accessFlags := 25, nameIndex := 288, descriptorIndex := 25, attributes := #[] }, { accessFlags := 25, nameIndex := 290, descriptorIndex := 25, attributes := #[] }, { accessFlags := 25, nameIndex := 292, descriptorIndex := 25, attributes := #[] }, { accessFlags := 26, nameIndex := 108, descriptorIndex := 109, attributes := #[] }, { accessFlags := 25, nameIndex := 294, descriptorIndex := 25, attributes := #[] }])
  fields := #[{ name := "U", type := (.object "jdk/internal/misc/Unsafe"), accessFlags := 24, slot := 0, constantValue := 0 }, { name := "BIG_ENDIAN", type := .boolean, accessFlags := 26, slot := 1, constantValue := 0 }, { name := "LOG2_ARRAY_BOOLEAN_INDEX_SCALE", type := .int, accessFlags := 25, slot := 2, constantValue := 0 }, { name := "LOG2_ARRAY_BYTE_INDEX_SCALE", type := .int, accessFlags := 25, slot := 3, constantValue := 0 }, { name := "LOG2_ARRAY_CHAR_INDEX_SCALE", type := .int, accessFlags := 25, slot := 4, constantValue := 0 }, { name := "LOG2_ARRAY_SHORT_INDEX_SCALE", type := .int, accessFlags := 25, slot := 5, constantValue := 0 }, { name := "LOG2_ARRAY_INT_INDEX_SCALE", type := .int, accessFlags := 25, slot := 6, constantValue := 0 }, { name := "LOG2_ARRAY_LONG_INDEX_SCALE", type := .int, accessFlags := 25, slot := 7, constantValue := 0 }, { name := "LOG2_ARRAY_FLOAT_INDEX_SCALE", type := .int, accessFlags := 25, slot := 8, constantValue := 0 }, { name := "LOG2_ARRAY_DOUBLE_INDEX_SCALE", type := .int, accessFlags := 25, slot := 9, constantValue := 0 }, { name := "LOG2_BYTE_BIT_SIZE", type := .int, accessFlags := 26, slot := 10, constantValue := 0 }, { name := "T_BOOLEAN", type := .int, accessFlags := 25, slot := 11, constantValue := 0 }, { name := "T_CHAR", type := .int, accessFlags := 25, slot := 12, constantValue := 0 }, { name := "T_FLOAT", type := .int, accessFlags := 25, slot := 13, constantValue := 0 }, { name := "T_DOUBLE", type := .int, accessFlags := 25, slot := 14, constantValue := 0 }, { name := "T_BYTE", type := .int, accessFlags := 25, slot := 15, constantValue := 0 }, { name := "T_SHORT", type := .int, accessFlags := 25, slot := 16, constantValue := 0 }, { name := "T_INT", type := .int, accessFlags := 25, slot := 17, constantValue := 0 }, { name := "T_LONG", type := .int, accessFlags := 25, slot := 18, constantValue := 0 }, { name := "JLA", type := (.object "jdk/internal/access/JavaLangAccess"), accessFlags := 26, slot := 19, constantValue := 0 }, { name := "SOFT_MAX_ARRAY_LENGTH", type := .int, accessFlags := 25, slot := 20, constantValue := 0 }]
  methods := #[k15m0]
  instanceTypes := #[]
  staticTypes := #[(.object "jdk/internal/misc/Unsafe"), .boolean, .int, .int, .int, .int, .int, .int, .int, .int, .int, .int, .int, .int, .int, .int, .int, .int, .int, (.object "jdk/internal/access/JavaLangAccess"), .int]
  resolved := Array.replicate 378 none
  statics := none }

def pool16 : Array CpInfo := pool [(1, u "java/lang/Cloneable"), (0, .class_ 1), (0, u "java/lang/Object"), (0, .class_ 3)] 3

/-- java/lang/Cloneable -/
def k16 : Class := { plain "java/lang/Cloneable" (some 0) with
  accessFlags := 1537
  interfaces := #[]
  cf := some (fileOf pool16 2 #[] #[] 1537 4 #[] #[])
  fields := #[]
  methods := #[]
  instanceTypes := #[]
  staticTypes := #[]
  resolved := Array.replicate 8 none
  statics := none }

/-- the primitive byte -/
def k17 : Class := { plain "byte" none with kind := .primitive 'B', accessFlags := 0x411 }
/-- [B -/
def k18 : Class := { plain "[B" (some 0) with kind := .array 17 .byte, interfaces := #[16, 2], accessFlags := 1041 }

/-- the primitive char -/
def k19 : Class := { plain "char" none with kind := .primitive 'C', accessFlags := 0x411 }
/-- [C -/
def k20 : Class := { plain "[C" (some 0) with kind := .array 19 .char, interfaces := #[16, 2], accessFlags := 1041 }

/-- the primitive int -/
def k21 : Class := { plain "int" none with kind := .primitive 'I', accessFlags := 0x411 }
/-- [I -/
def k22 : Class := { plain "[I" (some 0) with kind := .array 21 .int, interfaces := #[16, 2], accessFlags := 1041 }

def heap : Heap := #[{ cls := 7, slots := #[.long 0, .int 1, .null, .int 0, .null, .int 0, .int 0], vm := .statics 7 },
  { cls := 11, slots := #[.null, .null, .null], vm := .statics 11 },
  { cls := 12, slots := #[.int 0, .int 8, .int 0, .int 1], vm := .statics 12 }]
def classes : Array Class := #[k0, k1, k2, k3, k4, k5, k6, k7, k8, k9, k10, k11, k12, k13, k14, k15, k16, k17, k18, k19, k20, k21, k22]
def interned : List (Array UInt16 × Addr) := []
def slotsUsed : Nat := 14
def theMethod : MethodId := ⟨1, 3⟩
def args0 : Array Value := #[.int 5, .int 7, .int 9, .int 11, .int 13]
def aboutOver (below : List Frame) : State where
  vm := { classes := classes, interned := interned.toArray }
  heap := heap
  slotsUsed := slotsUsed
  threads := #[{ frames := .invoking theMethod args0 :: below }]
def below0 : List Frame := [.native { method := ⟨0, 0⟩, args := #[] }]
def about1 : State := aboutOver below0
def p0 : Program := .bare "" "" ""
def e0 : Env := launch0.env 0 0 0
theorem w_frames : about1.frames = Frame.invoking theMethod args0 :: below0 := rfl
set_option maxRecDepth 65536 in
theorem w_args : argsFit about1.vm theMethod args0 = true := by decide +kernel
set_option maxRecDepth 65536 in
theorem w_heap : heapFits about1 = true := by decide +kernel
set_option maxRecDepth 65536 in
theorem w_runnable : about1.curStatus? = some .runnable := by decide +kernel
set_option maxRecDepth 65536 in
theorem w_alone : about1.alone = true := by decide +kernel
set_option maxRecDepth 65536 in
theorem w_named : about1.methodNamed? x = some theMethod := by decide +kernel
set_option maxRecDepth 65536 in
theorem w_hears : about1.hears theMethod below0 = true := by decide +kernel
set_option maxRecDepth 65536 in
theorem w_ripe : about1.ripe theMethod args0 below0 = true := by decide +kernel
theorem w_running : about1.status = .running := rfl
set_option maxRecDepth 65536 in
theorem w_room : about1.hasRoom e0.platform room_1 = true :=
  launch0.hasRoom_least _ room_1 (by decide +kernel) (by decide +kernel) (by decide +kernel) (by decide +kernel) (by decide +kernel) (by decide +kernel)
theorem allAtoms_all (ts : List Jvm.Cond) (a : Array Jvm.Value) (st : Jvm.State) : (allAtoms ts).before a st = ts.all (fun c => c.before a st) := by
  induction ts with
  | nil => rfl
  | cons c t ih =>
    show (Jvm.Cond.and c (allAtoms t)).before a st = _
    rw [Jvm.Cond.before_and, ih, List.all_cons]
def words1 : List Jvm.Cond := Jvm.Cond.code x code maxLocals ret :: tables_1
/-- a 'code' word, met by the world's own term for the bytes: nothing is compared byte by byte -/
theorem code_word {y : MethodName} {bytes : ByteArray} {mx : Nat} {rt : Option FieldType} {a : Array Value} {s : State} {m : MethodId} {meth : Method} {c : Code} (h1 : s.methodNamed? y = some m) (h2 : s.vm.method? m = some meth) (h3 : meth.code = some c) (h4 : c.code = bytes)
    (h5 : (c.maxLocals == mx && c.exceptionTable.isEmpty && decide (c.maxStack ≤ mostOperands) && decide (meth.sig.returnType = rt) && !meth.locks && decide (parseMethodDescriptor y.desc = some meth.sig)) = true) : (Jvm.Cond.code y bytes mx rt).before a s = true := by
  simp only [Bool.and_eq_true, beq_iff_eq, Bool.not_eq_true', decide_eq_true_eq] at h5
  obtain ⟨⟨⟨⟨⟨g1, g2⟩, g3⟩, g4⟩, g5⟩, g6⟩ := h5
  simp [Cond.before, Cond.holds, Cond.value, h1, h2, h3, h4, g1, g2, g3, g4, g5, g6]
def isCode : Jvm.Cond → Bool
  | .code _ _ _ _ => true
  | _ => false
theorem all_split {L : List Jvm.Cond} {P : Jvm.Cond → Bool} (h1 : L.all (fun c => isCode c || P c) = true) (h2 : ∀ c ∈ L.filter isCode, P c = true) : L.all P = true := by
  refine List.all_eq_true.mpr fun c hc => ?_
  have h := List.all_eq_true.mp h1 c hc
  rcases Bool.eq_false_or_eq_true (isCode c) with hi | hi
  · exact h2 c (List.mem_filter.mpr ⟨hc, hi⟩)
  · simpa [hi] using h
set_option maxRecDepth 65536 in
theorem w_c0 : (Jvm.Cond.code x code maxLocals ret).before args0 about1 = true := code_word (m := ⟨1, 3⟩) (meth := k1m3) (c := k1c3) (by decide +kernel) rfl rfl rfl (by decide +kernel)
set_option maxRecDepth 65536 in
theorem w_c1 : (Jvm.Cond.code ({ cls := "com/example/wakeline/wakeline/QualifiedFileNameFileNamePinLaw", name := "draw", desc := "(I)C" } : Jvm.MethodName) method_2_code (1 : Nat) (Option.some Jvm.ClassFile.FieldType.char)).before args0 about1 = true := code_word (m := ⟨1, 1⟩) (meth := k1m1) (c := k1c1) (by decide +kernel) rfl rfl rfl (by decide +kernel)
set_option maxRecDepth 65536 in
theorem w_c2 : (Jvm.Cond.code ({ cls := "java/lang/String", name := "<init>", desc := "([C)V" } : Jvm.MethodName) jdk_42_method_3_code (2 : Nat) (Option.none : Option Jvm.ClassFile.FieldType)).before args0 about1 = true := code_word (m := ⟨7, 1⟩) (meth := k7m1) (c := k7c1) (by decide +kernel) rfl rfl rfl (by decide +kernel)
set_option maxRecDepth 65536 in
theorem w_c3 : (Jvm.Cond.code ({ cls := "java/lang/String", name := "<init>", desc := "([CIILjava/lang/Void;)V" } : Jvm.MethodName) jdk_42_method_149_code (6 : Nat) (Option.none : Option Jvm.ClassFile.FieldType)).before args0 about1 = true := code_word (m := ⟨7, 8⟩) (meth := k7m8) (c := k7c8) (by decide +kernel) rfl rfl rfl (by decide +kernel)
set_option maxRecDepth 65536 in
theorem w_c4 : (Jvm.Cond.code ({ cls := "java/lang/Object", name := "<init>", desc := "()V" } : Jvm.MethodName) object_method_1_code (1 : Nat) (Option.none : Option Jvm.ClassFile.FieldType)).before args0 about1 = true := code_word (m := ⟨0, 0⟩) (meth := k0m0) (c := k0c0) (by decide +kernel) rfl rfl rfl (by decide +kernel)
set_option maxRecDepth 65536 in
theorem w_c5 : (Jvm.Cond.code ({ cls := "com/example/wakeline/wakeline/QualifiedFileName", name := "fileName", desc := "(Ljava/lang/String;)Ljava/lang/String;" } : Jvm.MethodName) prog_12_method_3_code (1 : Nat) (Option.some (Jvm.ClassFile.FieldType.object "java/lang/String"))).before args0 about1 = true := code_word (m := ⟨8, 1⟩) (meth := k8m1) (c := k8c1) (by decide +kernel) rfl rfl rfl (by decide +kernel)
set_option maxRecDepth 65536 in
theorem w_c6 : (Jvm.Cond.code ({ cls := "java/lang/String", name := "lastIndexOf", desc := "(I)I" } : Jvm.MethodName) jdk_42_method_82_code (2 : Nat) (Option.some Jvm.ClassFile.FieldType.int)).before args0 about1 = true := code_word (m := ⟨7, 4⟩) (meth := k7m4) (c := k7c4) (by decide +kernel) rfl rfl rfl (by decide +kernel)
set_option maxRecDepth 65536 in
theorem w_c7 : (Jvm.Cond.code ({ cls := "java/lang/String", name := "length", desc := "()I" } : Jvm.MethodName) jdk_42_method_54_code (1 : Nat) (Option.some Jvm.ClassFile.FieldType.int)).before args0 about1 = true := code_word (m := ⟨7, 2⟩) (meth := k7m2) (c := k7c2) (by decide +kernel) rfl rfl rfl (by decide +kernel)
set_option maxRecDepth 65536 in
theorem w_c8 : (Jvm.Cond.code ({ cls := "java/lang/String", name := "coder", desc := "()B" } : Jvm.MethodName) jdk_42_method_152_code (1 : Nat) (Option.some Jvm.ClassFile.FieldType.byte)).before args0 about1 = true := code_word (m := ⟨7, 10⟩) (meth := k7m10) (c := k7c10) (by decide +kernel) rfl rfl rfl (by decide +kernel)
set_option maxRecDepth 65536 in
theorem w_c9 : (Jvm.Cond.code ({ cls := "java/lang/String", name := "lastIndexOf", desc := "(II)I" } : Jvm.MethodName) jdk_42_method_83_code (3 : Nat) (Option.some Jvm.ClassFile.FieldType.int)).before args0 about1 = true := code_word (m := ⟨7, 5⟩) (meth := k7m5) (c := k7c5) (by decide +kernel) rfl rfl rfl (by decide +kernel)
set_option maxRecDepth 65536 in
theorem w_c10 : (Jvm.Cond.code ({ cls := "java/lang/String", name := "isLatin1", desc := "()Z" } : Jvm.MethodName) jdk_42_method_154_code (1 : Nat) (Option.some Jvm.ClassFile.FieldType.boolean)).before args0 about1 = true := code_word (m := ⟨7, 11⟩) (meth := k7m11) (c := k7c11) (by decide +kernel) rfl rfl rfl (by decide +kernel)
set_option maxRecDepth 65536 in
theorem w_c11 : (Jvm.Cond.code ({ cls := "java/lang/StringLatin1", name := "lastIndexOf", desc := "([BII)I" } : Jvm.MethodName) jdk_43_method_27_code (4 : Nat) (Option.some Jvm.ClassFile.FieldType.int)).before args0 about1 = true := code_word (m := ⟨9, 3⟩) (meth := k9m3) (c := k9c3) (by decide +kernel) rfl rfl rfl (by decide +kernel)
set_option maxRecDepth 65536 in
theorem w_c12 : (Jvm.Cond.code ({ cls := "java/lang/StringLatin1", name := "canEncode", desc := "(I)Z" } : Jvm.MethodName) jdk_43_method_4_code (1 : Nat) (Option.some Jvm.ClassFile.FieldType.boolean)).before args0 about1 = true := code_word (m := ⟨9, 2⟩) (meth := k9m2) (c := k9c2) (by decide +kernel) rfl rfl rfl (by decide +kernel)
set_option maxRecDepth 65536 in
theorem w_c13 : (Jvm.Cond.code ({ cls := "java/lang/Math", name := "min", desc := "(II)I" } : Jvm.MethodName) jdk_29_method_69_code (2 : Nat) (Option.some Jvm.ClassFile.FieldType.int)).before args0 about1 = true := code_word (m := ⟨10, 1⟩) (meth := k10m1) (c := k10c1) (by decide +kernel) rfl rfl rfl (by decide +kernel)
set_option maxRecDepth 65536 in
theorem w_c14 : (Jvm.Cond.code ({ cls := "java/lang/String", name := "substring", desc := "(I)Ljava/lang/String;" } : Jvm.MethodName) jdk_42_method_91_code (2 : Nat) (Option.some (Jvm.ClassFile.FieldType.object "java/lang/String"))).before args0 about1 = true := code_word (m := ⟨7, 6⟩) (meth := k7m6) (c := k7c6) (by decide +kernel) rfl rfl rfl (by decide +kernel)
set_option maxRecDepth 65536 in
theorem w_c15 : (Jvm.Cond.code ({ cls := "java/lang/String", name := "substring", desc := "(II)Ljava/lang/String;" } : Jvm.MethodName) jdk_42_method_92_code (5 : Nat) (Option.some (Jvm.ClassFile.FieldType.object "java/lang/String"))).before args0 about1 = true := code_word (m := ⟨7, 7⟩) (meth := k7m7) (c := k7c7) (by decide +kernel) rfl rfl rfl (by decide +kernel)
set_option maxRecDepth 65536 in
theorem w_c16 : (Jvm.Cond.code ({ cls := "java/lang/String", name := "checkBoundsBeginEnd", desc := "(III)V" } : Jvm.MethodName) jdk_42_method_158_code (3 : Nat) (Option.none : Option Jvm.ClassFile.FieldType)).before args0 about1 = true := code_word (m := ⟨7, 14⟩) (meth := k7m14) (c := k7c14) (by decide +kernel) rfl rfl rfl (by decide +kernel)
set_option maxRecDepth 65536 in
theorem w_c17 : (Jvm.Cond.code ({ cls := "jdk/internal/util/Preconditions", name := "checkFromToIndex", desc := "(IIILjava/util/function/BiFunction;)I" } : Jvm.MethodName) jdk_41_method_12_code (4 : Nat) (Option.some Jvm.ClassFile.FieldType.int)).before args0 about1 = true := code_word (m := ⟨11, 2⟩) (meth := k11m2) (c := k11c2) (by decide +kernel) rfl rfl rfl (by decide +kernel)
set_option maxRecDepth 65536 in
theorem w_c18 : (Jvm.Cond.code ({ cls := "com/example/wakeline/wakeline/QualifiedFileNameFileNamePinLaw", name := "at", desc := "(Ljava/lang/String;[CII)Z" } : Jvm.MethodName) method_3_code (4 : Nat) (Option.some Jvm.ClassFile.FieldType.boolean)).before args0 about1 = true := code_word (m := ⟨1, 2⟩) (meth := k1m2) (c := k1c2) (by decide +kernel) rfl rfl rfl (by decide +kernel)
set_option maxRecDepth 65536 in
theorem w_c19 : (Jvm.Cond.code ({ cls := "java/lang/StringUTF16", name := "compress", desc := "([CII)[B" } : Jvm.MethodName) jdk_52_method_16_code (6 : Nat) (Option.some (Jvm.ClassFile.FieldType.array Jvm.ClassFile.FieldType.byte))).before args0 about1 = true := code_word (m := ⟨12, 8⟩) (meth := k12m8) (c := k12c8) (by decide +kernel) rfl rfl rfl (by decide +kernel)
set_option maxRecDepth 65536 in
theorem w_c20 : (Jvm.Cond.code ({ cls := "java/lang/StringUTF16", name := "compress", desc := "([CI[BII)I" } : Jvm.MethodName) jdk_52_method_21_code (7 : Nat) (Option.some Jvm.ClassFile.FieldType.int)).before args0 about1 = true := code_word (m := ⟨12, 10⟩) (meth := k12m10) (c := k12c10) (by decide +kernel) rfl rfl rfl (by decide +kernel)
set_option maxRecDepth 65536 in
theorem w_c21 : (Jvm.Cond.code ({ cls := "java/lang/StringUTF16", name := "coderFromArrayLen", desc := "([BI)B" } : Jvm.MethodName) jdk_52_method_15_code (2 : Nat) (Option.some Jvm.ClassFile.FieldType.byte)).before args0 about1 = true := code_word (m := ⟨12, 7⟩) (meth := k12m7) (c := k12c7) (by decide +kernel) rfl rfl rfl (by decide +kernel)
set_option maxRecDepth 65536 in
theorem w_c22 : (Jvm.Cond.code ({ cls := "java/lang/StringLatin1", name := "newString", desc := "([BII)Ljava/lang/String;" } : Jvm.MethodName) jdk_43_method_47_code (3 : Nat) (Option.some (Jvm.ClassFile.FieldType.object "java/lang/String"))).before args0 about1 = true := code_word (m := ⟨9, 4⟩) (meth := k9m4) (c := k9c4) (by decide +kernel) rfl rfl rfl (by decide +kernel)
set_option maxRecDepth 65536 in
theorem w_c23 : (Jvm.Cond.code ({ cls := "java/lang/StringUTF16", name := "toBytes", desc := "([CII)[B" } : Jvm.MethodName) jdk_52_method_14_code (5 : Nat) (Option.some (Jvm.ClassFile.FieldType.array Jvm.ClassFile.FieldType.byte))).before args0 about1 = true := code_word (m := ⟨12, 6⟩) (meth := k12m6) (c := k12c6) (by decide +kernel) rfl rfl rfl (by decide +kernel)
set_option maxRecDepth 65536 in
theorem w_c24 : (Jvm.Cond.code ({ cls := "java/lang/StringUTF16", name := "newBytesFor", desc := "(I)[B" } : Jvm.MethodName) jdk_52_method_2_code (1 : Nat) (Option.some (Jvm.ClassFile.FieldType.array Jvm.ClassFile.FieldType.byte))).before args0 about1 = true := code_word (m := ⟨12, 1⟩) (meth := k12m1) (c := k12c1) (by decide +kernel) rfl rfl rfl (by decide +kernel)
set_option maxRecDepth 65536 in
theorem w_c25 : (Jvm.Cond.code ({ cls := "java/lang/StringUTF16", name := "newBytesLength", desc := "(I)I" } : Jvm.MethodName) jdk_52_method_3_code (1 : Nat) (Option.some Jvm.ClassFile.FieldType.int)).before args0 about1 = true := code_word (m := ⟨12, 2⟩) (meth := k12m2) (c := k12c2) (by decide +kernel) rfl rfl rfl (by decide +kernel)
set_option maxRecDepth 65536 in
theorem w_c26 : (Jvm.Cond.code ({ cls := "java/lang/StringUTF16", name := "putChar", desc := "([BII)V" } : Jvm.MethodName) jdk_52_method_4_code (3 : Nat) (Option.none : Option Jvm.ClassFile.FieldType)).before args0 about1 = true := code_word (m := ⟨12, 3⟩) (meth := k12m3) (c := k12c3) (by decide +kernel) rfl rfl rfl (by decide +kernel)
set_option maxRecDepth 65536 in
theorem w_c27 : (Jvm.Cond.code ({ cls := "java/lang/StringUTF16", name := "getChar", desc := "([BI)C" } : Jvm.MethodName) jdk_52_method_5_code (2 : Nat) (Option.some Jvm.ClassFile.FieldType.char)).before args0 about1 = true := code_word (m := ⟨12, 4⟩) (meth := k12m4) (c := k12c4) (by decide +kernel) rfl rfl rfl (by decide +kernel)
set_option maxRecDepth 65536 in
theorem w_c28 : (Jvm.Cond.code ({ cls := "java/lang/StringUTF16", name := "lastIndexOf", desc := "([BII)I" } : Jvm.MethodName) jdk_52_method_51_code (4 : Nat) (Option.some Jvm.ClassFile.FieldType.int)).before args0 about1 = true := code_word (m := ⟨12, 12⟩) (meth := k12m12) (c := k12c12) (by decide +kernel) rfl rfl rfl (by decide +kernel)
set_option maxRecDepth 65536 in
theorem w_c29 : (Jvm.Cond.code ({ cls := "java/lang/StringUTF16", name := "newString", desc := "([BII)Ljava/lang/String;" } : Jvm.MethodName) jdk_52_method_69_code (5 : Nat) (Option.some (Jvm.ClassFile.FieldType.object "java/lang/String"))).before args0 about1 = true := code_word (m := ⟨12, 13⟩) (meth := k12m13) (c := k12c13) (by decide +kernel) rfl rfl rfl (by decide +kernel)
set_option maxRecDepth 65536 in
theorem w_c30 : (Jvm.Cond.code ({ cls := "java/lang/String", name := "charAt", desc := "(I)C" } : Jvm.MethodName) jdk_42_method_56_code (2 : Nat) (Option.some Jvm.ClassFile.FieldType.char)).before args0 about1 = true := code_word (m := ⟨7, 3⟩) (meth := k7m3) (c := k7c3) (by decide +kernel) rfl rfl rfl (by decide +kernel)
set_option maxRecDepth 65536 in
theorem w_c31 : (Jvm.Cond.code ({ cls := "java/lang/StringUTF16", name := "charAt", desc := "([BI)C" } : Jvm.MethodName) jdk_52_method_83_code (2 : Nat) (Option.some Jvm.ClassFile.FieldType.char)).before args0 about1 = true := code_word (m := ⟨12, 14⟩) (meth := k12m14) (c := k12c14) (by decide +kernel) rfl rfl rfl (by decide +kernel)
set_option maxRecDepth 65536 in
theorem w_c32 : (Jvm.Cond.code ({ cls := "java/lang/StringUTF16", name := "checkIndex", desc := "(I[B)V" } : Jvm.MethodName) jdk_52_method_91_code (2 : Nat) (Option.none : Option Jvm.ClassFile.FieldType)).before args0 about1 = true := code_word (m := ⟨12, 15⟩) (meth := k12m15) (c := k12c15) (by decide +kernel) rfl rfl rfl (by decide +kernel)
set_option maxRecDepth 65536 in
theorem w_c33 : (Jvm.Cond.code ({ cls := "java/lang/StringUTF16", name := "length", desc := "([B)I" } : Jvm.MethodName) jdk_52_method_6_code (1 : Nat) (Option.some Jvm.ClassFile.FieldType.int)).before args0 about1 = true := code_word (m := ⟨12, 5⟩) (meth := k12m5) (c := k12c5) (by decide +kernel) rfl rfl rfl (by decide +kernel)
set_option maxRecDepth 65536 in
theorem w_c34 : (Jvm.Cond.code ({ cls := "java/lang/String", name := "checkIndex", desc := "(II)V" } : Jvm.MethodName) jdk_42_method_155_code (2 : Nat) (Option.none : Option Jvm.ClassFile.FieldType)).before args0 about1 = true := code_word (m := ⟨7, 12⟩) (meth := k7m12) (c := k7c12) (by decide +kernel) rfl rfl rfl (by decide +kernel)
set_option maxRecDepth 65536 in
theorem w_c35 : (Jvm.Cond.code ({ cls := "jdk/internal/util/Preconditions", name := "checkIndex", desc := "(IILjava/util/function/BiFunction;)I" } : Jvm.MethodName) jdk_41_method_11_code (3 : Nat) (Option.some Jvm.ClassFile.FieldType.int)).before args0 about1 = true := code_word (m := ⟨11, 1⟩) (meth := k11m1) (c := k11c1) (by decide +kernel) rfl rfl rfl (by decide +kernel)
set_option maxRecDepth 65536 in
theorem w_c36 : (Jvm.Cond.code ({ cls := "java/lang/StringLatin1", name := "charAt", desc := "([BI)C" } : Jvm.MethodName) jdk_43_method_2_code (2 : Nat) (Option.some Jvm.ClassFile.FieldType.char)).before args0 about1 = true := code_word (m := ⟨9, 1⟩) (meth := k9m1) (c := k9c1) (by decide +kernel) rfl rfl rfl (by decide +kernel)
set_option maxRecDepth 65536 in
theorem w_c37 : (Jvm.Cond.code ({ cls := "java/lang/StringUTF16", name := "compress", desc := "([BII)[B" } : Jvm.MethodName) jdk_52_method_17_code (6 : Nat) (Option.some (Jvm.ClassFile.FieldType.array Jvm.ClassFile.FieldType.byte))).before args0 about1 = true := code_word (m := ⟨12, 9⟩) (meth := k12m9) (c := k12c9) (by decide +kernel) rfl rfl rfl (by decide +kernel)
set_option maxRecDepth 65536 in
theorem w_c38 : (Jvm.Cond.code ({ cls := "java/lang/StringUTF16", name := "compress", desc := "([BI[BII)I" } : Jvm.MethodName) jdk_52_method_22_code (7 : Nat) (Option.some Jvm.ClassFile.FieldType.int)).before args0 about1 = true := code_word (m := ⟨12, 11⟩) (meth := k12m11) (c := k12c11) (by decide +kernel) rfl rfl rfl (by decide +kernel)
set_option maxRecDepth 65536 in
theorem w_c39 : (Jvm.Cond.code ({ cls := "java/lang/StringUTF16", name := "checkBoundsOffCount", desc := "(II[B)V" } : Jvm.MethodName) jdk_52_method_94_code (3 : Nat) (Option.none : Option Jvm.ClassFile.FieldType)).before args0 about1 = true := code_word (m := ⟨12, 16⟩) (meth := k12m16) (c := k12c16) (by decide +kernel) rfl rfl rfl (by decide +kernel)
set_option maxRecDepth 65536 in
theorem w_c40 : (Jvm.Cond.code ({ cls := "java/lang/String", name := "checkBoundsOffCount", desc := "(III)I" } : Jvm.MethodName) jdk_42_method_157_code (3 : Nat) (Option.some Jvm.ClassFile.FieldType.int)).before args0 about1 = true := code_word (m := ⟨7, 13⟩) (meth := k7m13) (c := k7c13) (by decide +kernel) rfl rfl rfl (by decide +kernel)
set_option maxRecDepth 65536 in
theorem w_c41 : (Jvm.Cond.code ({ cls := "jdk/internal/util/Preconditions", name := "checkFromIndexSize", desc := "(IIILjava/util/function/BiFunction;)I" } : Jvm.MethodName) jdk_41_method_13_code (4 : Nat) (Option.some Jvm.ClassFile.FieldType.int)).before args0 about1 = true := code_word (m := ⟨11, 3⟩) (meth := k11m3) (c := k11c3) (by decide +kernel) rfl rfl rfl (by decide +kernel)
set_option maxRecDepth 65536 in
theorem w_c42 : (Jvm.Cond.code ({ cls := "java/util/Arrays", name := "copyOfRange", desc := "([BII)[B" } : Jvm.MethodName) jdk_65_method_132_code (3 : Nat) (Option.some (Jvm.ClassFile.FieldType.array Jvm.ClassFile.FieldType.byte))).before args0 about1 = true := code_word (m := ⟨13, 2⟩) (meth := k13m2) (c := k13c2) (by decide +kernel) rfl rfl rfl (by decide +kernel)
set_option maxRecDepth 65536 in
theorem w_c43 : (Jvm.Cond.code ({ cls := "java/util/Arrays", name := "copyOfRangeByte", desc := "([BII)[B" } : Jvm.MethodName) jdk_65_method_133_code (5 : Nat) (Option.some (Jvm.ClassFile.FieldType.array Jvm.ClassFile.FieldType.byte))).before args0 about1 = true := code_word (m := ⟨13, 3⟩) (meth := k13m3) (c := k13c3) (by decide +kernel) rfl rfl rfl (by decide +kernel)
set_option maxRecDepth 65536 in
theorem w_c44 : (Jvm.Cond.code ({ cls := "java/util/Arrays", name := "checkLength", desc := "(II)V" } : Jvm.MethodName) jdk_65_method_131_code (2 : Nat) (Option.none : Option Jvm.ClassFile.FieldType)).before args0 about1 = true := code_word (m := ⟨13, 1⟩) (meth := k13m1) (c := k13c1) (by decide +kernel) rfl rfl rfl (by decide +kernel)
set_option maxRecDepth 65536 in
theorem w_c45 : (Jvm.Cond.code ({ cls := "java/lang/String", name := "<init>", desc := "([BB)V" } : Jvm.MethodName) jdk_42_method_151_code (3 : Nat) (Option.none : Option Jvm.ClassFile.FieldType)).before args0 about1 = true := code_word (m := ⟨7, 9⟩) (meth := k7m9) (c := k7c9) (by decide +kernel) rfl rfl rfl (by decide +kernel)
def codes1 : List Jvm.Cond := [Jvm.Cond.code x code maxLocals ret, Jvm.Cond.code ({ cls := "com/example/wakeline/wakeline/QualifiedFileNameFileNamePinLaw", name := "draw", desc := "(I)C" } : Jvm.MethodName) method_2_code (1 : Nat) (Option.some Jvm.ClassFile.FieldType.char), Jvm.Cond.code ({ cls := "java/lang/String", name := "<init>", desc := "([C)V" } : Jvm.MethodName) jdk_42_method_3_code (2 : Nat) (Option.none : Option Jvm.ClassFile.FieldType), Jvm.Cond.code ({ cls := "java/lang/String", name := "<init>", desc := "([CIILjava/lang/Void;)V" } : Jvm.MethodName) jdk_42_method_149_code (6 : Nat) (Option.none : Option Jvm.ClassFile.FieldType), Jvm.Cond.code ({ cls := "java/lang/Object", name := "<init>", desc := "()V" } : Jvm.MethodName) object_method_1_code (1 : Nat) (Option.none : Option Jvm.ClassFile.FieldType), Jvm.Cond.code ({ cls := "com/example/wakeline/wakeline/QualifiedFileName", name := "fileName", desc := "(Ljava/lang/String;)Ljava/lang/String;" } : Jvm.MethodName) prog_12_method_3_code (1 : Nat) (Option.some (Jvm.ClassFile.FieldType.object "java/lang/String")), Jvm.Cond.code ({ cls := "java/lang/String", name := "lastIndexOf", desc := "(I)I" } : Jvm.MethodName) jdk_42_method_82_code (2 : Nat) (Option.some Jvm.ClassFile.FieldType.int), Jvm.Cond.code ({ cls := "java/lang/String", name := "length", desc := "()I" } : Jvm.MethodName) jdk_42_method_54_code (1 : Nat) (Option.some Jvm.ClassFile.FieldType.int), Jvm.Cond.code ({ cls := "java/lang/String", name := "coder", desc := "()B" } : Jvm.MethodName) jdk_42_method_152_code (1 : Nat) (Option.some Jvm.ClassFile.FieldType.byte), Jvm.Cond.code ({ cls := "java/lang/String", name := "lastIndexOf", desc := "(II)I" } : Jvm.MethodName) jdk_42_method_83_code (3 : Nat) (Option.some Jvm.ClassFile.FieldType.int), Jvm.Cond.code ({ cls := "java/lang/String", name := "isLatin1", desc := "()Z" } : Jvm.MethodName) jdk_42_method_154_code (1 : Nat) (Option.some Jvm.ClassFile.FieldType.boolean), Jvm.Cond.code ({ cls := "java/lang/StringLatin1", name := "lastIndexOf", desc := "([BII)I" } : Jvm.MethodName) jdk_43_method_27_code (4 : Nat) (Option.some Jvm.ClassFile.FieldType.int), Jvm.Cond.code ({ cls := "java/lang/StringLatin1", name := "canEncode", desc := "(I)Z" } : Jvm.MethodName) jdk_43_method_4_code (1 : Nat) (Option.some Jvm.ClassFile.FieldType.boolean), Jvm.Cond.code ({ cls := "java/lang/Math", name := "min", desc := "(II)I" } : Jvm.MethodName) jdk_29_method_69_code (2 : Nat) (Option.some Jvm.ClassFile.FieldType.int), Jvm.Cond.code ({ cls := "java/lang/String", name := "substring", desc := "(I)Ljava/lang/String;" } : Jvm.MethodName) jdk_42_method_91_code (2 : Nat) (Option.some (Jvm.ClassFile.FieldType.object "java/lang/String")), Jvm.Cond.code ({ cls := "java/lang/String", name := "substring", desc := "(II)Ljava/lang/String;" } : Jvm.MethodName) jdk_42_method_92_code (5 : Nat) (Option.some (Jvm.ClassFile.FieldType.object "java/lang/String")), Jvm.Cond.code ({ cls := "java/lang/String", name := "checkBoundsBeginEnd", desc := "(III)V" } : Jvm.MethodName) jdk_42_method_158_code (3 : Nat) (Option.none : Option Jvm.ClassFile.FieldType), Jvm.Cond.code ({ cls := "jdk/internal/util/Preconditions", name := "checkFromToIndex", desc := "(IIILjava/util/function/BiFunction;)I" } : Jvm.MethodName) jdk_41_method_12_code (4 : Nat) (Option.some Jvm.ClassFile.FieldType.int), Jvm.Cond.code ({ cls := "com/example/wakeline/wakeline/QualifiedFileNameFileNamePinLaw", name := "at", desc := "(Ljava/lang/String;[CII)Z" } : Jvm.MethodName) method_3_code (4 : Nat) (Option.some Jvm.ClassFile.FieldType.boolean), Jvm.Cond.code ({ cls := "java/lang/StringUTF16", name := "compress", desc := "([CII)[B" } : Jvm.MethodName) jdk_52_method_16_code (6 : Nat) (Option.some (Jvm.ClassFile.FieldType.array Jvm.ClassFile.FieldType.byte)), Jvm.Cond.code ({ cls := "java/lang/StringUTF16", name := "compress", desc := "([CI[BII)I" } : Jvm.MethodName) jdk_52_method_21_code (7 : Nat) (Option.some Jvm.ClassFile.FieldType.int), Jvm.Cond.code ({ cls := "java/lang/StringUTF16", name := "coderFromArrayLen", desc := "([BI)B" } : Jvm.MethodName) jdk_52_method_15_code (2 : Nat) (Option.some Jvm.ClassFile.FieldType.byte), Jvm.Cond.code ({ cls := "java/lang/StringLatin1", name := "newString", desc := "([BII)Ljava/lang/String;" } : Jvm.MethodName) jdk_43_method_47_code (3 : Nat) (Option.some (Jvm.ClassFile.FieldType.object "java/lang/String")), Jvm.Cond.code ({ cls := "java/lang/StringUTF16", name := "toBytes", desc := "([CII)[B" } : Jvm.MethodName) jdk_52_method_14_code (5 : Nat) (Option.some (Jvm.ClassFile.FieldType.array Jvm.ClassFile.FieldType.byte)), Jvm.Cond.code ({ cls := "java/lang/StringUTF16", name := "newBytesFor", desc := "(I)[B" } : Jvm.MethodName) jdk_52_method_2_code (1 : Nat) (Option.some (Jvm.ClassFile.FieldType.array Jvm.ClassFile.FieldType.byte)), Jvm.Cond.code ({ cls := "java/lang/StringUTF16", name := "newBytesLength", desc := "(I)I" } : Jvm.MethodName) jdk_52_method_3_code (1 : Nat) (Option.some Jvm.ClassFile.FieldType.int), Jvm.Cond.code ({ cls := "java/lang/StringUTF16", name := "putChar", desc := "([BII)V" } : Jvm.MethodName) jdk_52_method_4_code (3 : Nat) (Option.none : Option Jvm.ClassFile.FieldType), Jvm.Cond.code ({ cls := "java/lang/StringUTF16", name := "getChar", desc := "([BI)C" } : Jvm.MethodName) jdk_52_method_5_code (2 : Nat) (Option.some Jvm.ClassFile.FieldType.char), Jvm.Cond.code ({ cls := "java/lang/StringUTF16", name := "lastIndexOf", desc := "([BII)I" } : Jvm.MethodName) jdk_52_method_51_code (4 : Nat) (Option.some Jvm.ClassFile.FieldType.int), Jvm.Cond.code ({ cls := "java/lang/StringUTF16", name := "newString", desc := "([BII)Ljava/lang/String;" } : Jvm.MethodName) jdk_52_method_69_code (5 : Nat) (Option.some (Jvm.ClassFile.FieldType.object "java/lang/String")), Jvm.Cond.code ({ cls := "java/lang/String", name := "charAt", desc := "(I)C" } : Jvm.MethodName) jdk_42_method_56_code (2 : Nat) (Option.some Jvm.ClassFile.FieldType.char), Jvm.Cond.code ({ cls := "java/lang/StringUTF16", name := "charAt", desc := "([BI)C" } : Jvm.MethodName) jdk_52_method_83_code (2 : Nat) (Option.some Jvm.ClassFile.FieldType.char), Jvm.Cond.code ({ cls := "java/lang/StringUTF16", name := "checkIndex", desc := "(I[B)V" } : Jvm.MethodName) jdk_52_method_91_code (2 : Nat) (Option.none : Option Jvm.ClassFile.FieldType), Jvm.Cond.code ({ cls := "java/lang/StringUTF16", name := "length", desc := "([B)I" } : Jvm.MethodName) jdk_52_method_6_code (1 : Nat) (Option.some Jvm.ClassFile.FieldType.int), Jvm.Cond.code ({ cls := "java/lang/String", name := "checkIndex", desc := "(II)V" } : Jvm.MethodName) jdk_42_method_155_code (2 : Nat) (Option.none : Option Jvm.ClassFile.FieldType), Jvm.Cond.code ({ cls := "jdk/internal/util/Preconditions", name := "checkIndex", desc := "(IILjava/util/function/BiFunction;)I" } : Jvm.MethodName) jdk_41_method_11_code (3 : Nat) (Option.some Jvm.ClassFile.FieldType.int), Jvm.Cond.code ({ cls := "java/lang/StringLatin1", name := "charAt", desc := "([BI)C" } : Jvm.MethodName) jdk_43_method_2_code (2 : Nat) (Option.some Jvm.ClassFile.FieldType.char), Jvm.Cond.code ({ cls := "java/lang/StringUTF16", name := "compress", desc := "([BII)[B" } : Jvm.MethodName) jdk_52_method_17_code (6 : Nat) (Option.some (Jvm.ClassFile.FieldType.array Jvm.ClassFile.FieldType.byte)), Jvm.Cond.code ({ cls := "java/lang/StringUTF16", name := "compress", desc := "([BI[BII)I" } : Jvm.MethodName) jdk_52_method_22_code (7 : Nat) (Option.some Jvm.ClassFile.FieldType.int), Jvm.Cond.code ({ cls := "java/lang/StringUTF16", name := "checkBoundsOffCount", desc := "(II[B)V" } : Jvm.MethodName) jdk_52_method_94_code (3 : Nat) (Option.none : Option Jvm.ClassFile.FieldType), Jvm.Cond.code ({ cls := "java/lang/String", name := "checkBoundsOffCount", desc := "(III)I" } : Jvm.MethodName) jdk_42_method_157_code (3 : Nat) (Option.some Jvm.ClassFile.FieldType.int), Jvm.Cond.code ({ cls := "jdk/internal/util/Preconditions", name := "checkFromIndexSize", desc := "(IIILjava/util/function/BiFunction;)I" } : Jvm.MethodName) jdk_41_method_13_code (4 : Nat) (Option.some Jvm.ClassFile.FieldType.int), Jvm.Cond.code ({ cls := "java/util/Arrays", name := "copyOfRange", desc := "([BII)[B" } : Jvm.MethodName) jdk_65_method_132_code (3 : Nat) (Option.some (Jvm.ClassFile.FieldType.array Jvm.ClassFile.FieldType.byte)), Jvm.Cond.code ({ cls := "java/util/Arrays", name := "copyOfRangeByte", desc := "([BII)[B" } : Jvm.MethodName) jdk_65_method_133_code (5 : Nat) (Option.some (Jvm.ClassFile.FieldType.array Jvm.ClassFile.FieldType.byte)), Jvm.Cond.code ({ cls := "java/util/Arrays", name := "checkLength", desc := "(II)V" } : Jvm.MethodName) jdk_65_method_131_code (2 : Nat) (Option.none : Option Jvm.ClassFile.FieldType), Jvm.Cond.code ({ cls := "java/lang/String", name := "<init>", desc := "([BB)V" } : Jvm.MethodName) jdk_42_method_151_code (3 : Nat) (Option.none : Option Jvm.ClassFile.FieldType)]
set_option maxRecDepth 65536 in
theorem codes_eq : words1.filter isCode = codes1 := rfl
theorem w_codes : ∀ c ∈ words1.filter isCode, c.before args0 about1 = true := by
  rw [codes_eq]
  intro c hc
  simp only [codes1, List.mem_cons, List.not_mem_nil, or_false] at hc
  rcases hc with rfl | rfl | rfl | rfl | rfl | rfl | rfl | rfl | rfl | rfl | rfl | rfl | rfl | rfl | rfl | rfl | rfl | rfl | rfl | rfl | rfl | rfl | rfl | rfl | rfl | rfl | rfl | rfl | rfl | rfl | rfl | rfl | rfl | rfl | rfl | rfl | rfl | rfl | rfl | rfl | rfl | rfl | rfl | rfl | rfl | rfl
  · exact w_c0
  · exact w_c1
  · exact w_c2
  · exact w_c3
  · exact w_c4
  · exact w_c5
  · exact w_c6
  · exact w_c7
  · exact w_c8
  · exact w_c9
  · exact w_c10
  · exact w_c11
  · exact w_c12
  · exact w_c13
  · exact w_c14
  · exact w_c15
  · exact w_c16
  · exact w_c17
  · exact w_c18
  · exact w_c19
  · exact w_c20
  · exact w_c21
  · exact w_c22
  · exact w_c23
  · exact w_c24
  · exact w_c25
  · exact w_c26
  · exact w_c27
  · exact w_c28
  · exact w_c29
  · exact w_c30
  · exact w_c31
  · exact w_c32
  · exact w_c33
  · exact w_c34
  · exact w_c35
  · exact w_c36
  · exact w_c37
  · exact w_c38
  · exact w_c39
  · exact w_c40
  · exact w_c41
  · exact w_c42
  · exact w_c43
  · exact w_c44
  · exact w_c45
set_option maxRecDepth 65536 in
theorem w_t1 : (words1.take 24).all (fun c => isCode c || c.before args0 about1) = true := by decide +kernel
set_option maxRecDepth 65536 in
theorem w_t2 : ((words1.drop 24).take 24).all (fun c => isCode c || c.before args0 about1) = true := by decide +kernel
set_option maxRecDepth 65536 in
theorem w_t3 : (((words1.drop 24).drop 24).take 24).all (fun c => isCode c || c.before args0 about1) = true := by decide +kernel
set_option maxRecDepth 65536 in
theorem w_t4 : ((((words1.drop 24).drop 24).drop 24).take 24).all (fun c => isCode c || c.before args0 about1) = true := by decide +kernel
set_option maxRecDepth 65536 in
theorem w_t5 : (((((words1.drop 24).drop 24).drop 24).drop 24).take 24).all (fun c => isCode c || c.before args0 about1) = true := by decide +kernel
set_option maxRecDepth 65536 in
theorem w_t6 : ((((((words1.drop 24).drop 24).drop 24).drop 24).drop 24).take 24).all (fun c => isCode c || c.before args0 about1) = true := by decide +kernel
set_option maxRecDepth 65536 in
theorem w_t7 : (((((((words1.drop 24).drop 24).drop 24).drop 24).drop 24).drop 24).take 24).all (fun c => isCode c || c.before args0 about1) = true := by decide +kernel
set_option maxRecDepth 65536 in
theorem w_t8 : ((((((((words1.drop 24).drop 24).drop 24).drop 24).drop 24).drop 24).drop 24).take 24).all (fun c => isCode c || c.before args0 about1) = true := by decide +kernel
set_option maxRecDepth 65536 in
theorem w_t9 : ((((((((words1.drop 24).drop 24).drop 24).drop 24).drop 24).drop 24).drop 24).drop 24).all (fun c => isCode c || c.before args0 about1) = true := by decide +kernel
theorem w_tables : (allAtoms (Jvm.Cond.code x code maxLocals ret :: tables_1)).before args0 about1 = true := by
  rw [allAtoms_all]
  show words1.all (fun c => c.before args0 about1) = true
  refine all_split ?_ w_codes
  rw [← List.take_append_drop 24 words1, List.all_append, w_t1, ← List.take_append_drop 24 (words1.drop 24), List.all_append, w_t2, ← List.take_append_drop 24 ((words1.drop 24).drop 24), List.all_append, w_t3, ← List.take_append_drop 24 (((words1.drop 24).drop 24).drop 24), List.all_append, w_t4, ← List.take_append_drop 24 ((((words1.drop 24).drop 24).drop 24).drop 24), List.all_append, w_t5, ← List.take_append_drop 24 (((((words1.drop 24).drop 24).drop 24).drop 24).drop 24), List.all_append, w_t6, ← List.take_append_drop 24 ((((((words1.drop 24).drop 24).drop 24).drop 24).drop 24).drop 24), List.all_append, w_t7, ← List.take_append_drop 24 (((((((words1.drop 24).drop 24).drop 24).drop 24).drop 24).drop 24).drop 24), List.all_append, w_t8, w_t9]
  rfl
set_option maxRecDepth 65536 in
theorem w_rest : rest_1_c.before args0 about1 = true := by decide +kernel
set_option maxRecDepth 65536 in
theorem w_case : (Jvm.Cond.and given_1 narrow_1).before args0 about1 = true := by decide +kernel
set_option maxRecDepth 65536 in
theorem w_consts : constsHeld consts_1 about1 := Jvm.Lit.constsHeldB_iff.mp (by decide +kernel)
theorem w_applies : (headSpec (Jvm.Cond.code x code maxLocals ret :: tables_1) room_1).applies x e0.platform about1 = true :=
  (Spec.applies_iff w_frames).mpr ⟨w_running, w_runnable, w_alone, w_named, w_hears, w_ripe, w_room, w_tables⟩
theorem atStart : AtStart classFile x code maxLocals ret World_1 tables_1 room_1 Calls_1 rest_1 Pre_1 launch0 p0 e0 about1 theMethod args0 below0 :=
  ⟨lists_1, trivial, launch0.admits_env _ _ _, launch0.least_env, fairChoices_fair.cas, fairChoices_fair.clock, w_frames, w_args, w_heap, w_applies, ⟨w_consts, trivial⟩, w_rest, w_case⟩
end start1
theorem witness_1 : WitnessClaimed_1 := ⟨start1.p0, start1.e0, start1.about1, start1.theMethod, start1.args0, start1.below0, start1.atStart⟩
end Jvm.Pilot.@@N@@
