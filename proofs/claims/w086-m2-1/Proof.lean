import JvmDerived
import JvmDerived.Pilot.@@N@@Statement
import JvmDerived.Pilot.@@N@@Code
set_option linter.unusedVariables false
set_option linter.unusedSimpArgs false
namespace Jvm.Pilot.@@N@@
open Jvm Jvm.ClassFile Sem Op Lib Jvm.Free Jvm.Stand Jvm.LawKit Jvm.RoadKit Bundle Jvm.Pilot.@@N@@.Jvm.D
section Own
variable {p : Program} {l : Launch} {e : Env} {R : Room} {s : State} {m : MethodId} {args : Array Value} {below : List Frame} {meth : Method} {c : Code} {T : State} {locs : List Loc} {cells slots : Nat}
/-- the run from A ends, returns what Q says, and has made and written no more than told -/
def Dn (p : Program) (e : Env) (below : List Frame) (s : State) (Q : Option Value → Heap → List Loc → Prop) (rc rs : Nat) (A : State) : Prop :=
  ∃ s₂ o, Steps p.tables e below A s₂ ∧ s₂.status = .running ∧ Ended s₂ below o ∧ ∃ v L, o = .returned v ∧ Q v s₂.heap L ∧ FrameEnd s o s₂ L rc rs
theorem Dn.st {Q : Option Value → Heap → List Loc → Prop} {rc rs : Nat} {A B : State} (h : ∀ t, Steps p.tables e below B t → Steps p.tables e below A t) (k : Dn p e below s Q rc rs B) : Dn p e below s Q rc rs A := by
  obtain ⟨s2, o, h1, h2⟩ := k; exact ⟨s2, o, h _ h1, h2⟩
theorem Dn.tr {Q : Option Value → Heap → List Loc → Prop} {rc rs : Nat} {A B : State} (h : Steps p.tables e below A B) (k : Dn p e below s Q rc rs B) : Dn p e below s Q rc rs A := by
  obtain ⟨s2, o, h1, h2⟩ := k; exact ⟨s2, o, h.trans h1, h2⟩
theorem Dn.ret (X : Stand p l e R s m args below meth c T locs cells slots) (hlk : meth.locks = false) (hx : p.tables.exec = Jvm.exec) {pc : Nat} {Ls : Array Slot} {w : Value} {t : FieldType} {i : Instr} {rest : List Value} (hret : meth.sig.returnType = some t) (hn : narrow t w = w)
    (hi : (i = .ireturn ∧ (t = .int ∨ t = .boolean ∨ t = .byte ∨ t = .char ∨ t = .short) ∧ ∃ z, w = .int z) ∨ (i = .lreturn ∧ t = .long ∧ ∃ z, w = .long z) ∨ (i = .dreturn ∧ t = .double ∧ ∃ z, w = .double z) ∨ (i = .freturn ∧ t = .float ∧ ∃ z, w = .float z) ∨ (i = .areturn ∧ t.isReference = true ∧ w.isRef = true))
    (hd : decode c.code pc = .ok (i, 1)) {Q : Option Value → Heap → List Loc → Prop} {rc rs : Nat} (hq : Q (some w) T.heap locs) (hc : cells ≤ rc) (hs : slots ≤ rs) : Dn p e below s Q rc rs (T.setTop (mkF m pc Ls (w :: rest))) := by
  obtain ⟨fs, hr, hrun, hended, hW, hsame⟩ := X.leave (v := some w) (fun h => by rw [hret] at h; cases h) hlk
  exact ⟨_, _, retOut X hx hret hn hi hd hr, hrun, hended, _, _, rfl, hq, ⟨_, rfl⟩, hW, hsame.mono hc hs⟩
theorem Dn.ret0 (X : Stand p l e R s m args below meth c T locs cells slots) (hlk : meth.locks = false) (hx : p.tables.exec = Jvm.exec) {pc : Nat} {Ls : Array Slot} (hret : meth.sig.returnType = none)
    (hd : decode c.code pc = .ok (.return_, 1)) {Q : Option Value → Heap → List Loc → Prop} {rc rs : Nat} (hq : Q none T.heap locs) (hc : cells ≤ rc) (hs : slots ≤ rs) : Dn p e below s Q rc rs (T.setTop (mkF m pc Ls [])) := by
  obtain ⟨fs, hr, hrun, hended, hW, hsame⟩ := X.leave (v := none) (fun _ => rfl) hlk
  exact ⟨_, _, X.returnOut hx hret hd hr, hrun, hended, _, _, rfl, hq, ⟨_, rfl⟩, hW, hsame.mono hc hs⟩
theorem own_iincW {tb : Tables} [Ours tb] {target : State} {g : JFrame} (h : At T m c below) (hx : tb.exec = Jvm.exec) (hg : g.method = m) {k : Nat} {cst : Int} {x : Int32} {l' : Array Slot} (hd : decode c.code g.pc = .ok (.iinc k cst, 6)) (hl : g.locals[k]? = some (.val (.int x))) (hl' : storeLocals g.locals k (.int (x + Int32.ofInt cst)) = some l')
    (hr : Steps tb e below (T.setTop { g with pc := g.pc + 6, locals := l' }) target) : Steps tb e below (T.setTop g) target := by
  subst hg
  jvm_step h [h.top, hx, hd, hl, hl']
  exact hr
theorem own_dremS {tb : Tables} [Ours tb] {target : State} {g : JFrame} (h : At T m c below) (hx : tb.exec = Jvm.exec) (hg : g.method = m) {x y v : UInt64} {rest : List Value} (hd : decode c.code g.pc = .ok (.drem, 1)) (hs : g.stack = .double y :: .double x :: rest) (hn : Jvm.Free.Fl.NoNaN64 (FP.drem x y)) (hv : FP.drem x y = v)
    (hr : Steps tb e below (T.setTop { g with pc := g.pc + 1, stack := .double v :: rest }) target) : Steps tb e below (T.setTop g) target := by
  subst hg; subst hv
  obtain ⟨gm, gp, gl, gs, gk, ge, gr⟩ := g
  simp only at hs hd
  subst hs
  jvm_step h [h.top, hx, hd, Op.drem.at_number h.top hn]
  exact hr
end Own
section Dyad
open Jvm.FP Jvm.FP.Core Jvm.Free.Fl
/-- the datum with its exponent moved by k -/
def sft (k : Nat) : Datum → Datum
  | .nan => .nan
  | .inf s => .inf s
  | .fin s c q => .fin s c (q + (k : Int))
/-- x is the number i / 2^k -/
def DS (k : Nat) (i : Int) (x : UInt64) : Prop := Whole i (sft k (val64 x))
theorem sft_zero (d : Datum) : sft 0 d = d := by
  cases d with
  | nan => rfl
  | inf s => rfl
  | fin s c q => show Datum.fin s c (q + ((0 : Nat) : Int)) = _; rw [Int.natCast_zero, Int.add_zero]
theorem sft_sum (k : Nat) (x y : Datum) : exactSum (sft k x) (sft k y) = sft k (exactSum x y) := by
  cases x with
  | nan => rfl
  | inf s =>
    cases y with
    | nan => rfl
    | inf t => show (if s = t then Datum.inf s else .nan) = sft k (if s = t then Datum.inf s else .nan); split <;> rfl
    | fin t d r => rfl
  | fin s c q =>
    cases y with
    | nan => rfl
    | inf t => rfl
    | fin t d r =>
      have h : min (q + (k : Int)) (r + k) = min q r + k := by omega
      have h1 : q + (k : Int) - (min q r + k) = q - min q r := by omega
      have h2 : r + (k : Int) - (min q r + k) = r - min q r := by omega
      have hu : sumUnits s c (q + k) t d (r + k) (min (q + k) (r + k)) = sumUnits s c q t d r (min q r) := by
        show signed s (c * 2 ^ (q + (k : Int) - min (q + k) (r + k)).toNat) + signed t (d * 2 ^ (r + (k : Int) - min (q + k) (r + k)).toNat) = signed s (c * 2 ^ (q - min q r).toNat) + signed t (d * 2 ^ (r - min q r).toNat)
        rw [h, h1, h2]
      show Datum.fin (sumSign s t (sumUnits s c (q + k) t d (r + k) (min (q + k) (r + k)))) (sumUnits s c (q + k) t d (r + k) (min (q + k) (r + k))).natAbs (min (q + k) (r + k)) = Datum.fin (sumSign s t (sumUnits s c q t d r (min q r))) (sumUnits s c q t d r (min q r)).natAbs (min q r + k)
      rw [hu, h]
theorem sft_negate (k : Nat) (x : Datum) : negate (sft k x) = sft k (negate x) := by cases x <;> rfl
theorem sft_product (k m : Nat) (x y : Datum) : exactProduct (sft k x) (sft m y) = sft (k + m) (exactProduct x y) := by
  cases x with
  | nan => rfl
  | inf s =>
    cases y with
    | nan => rfl
    | inf t => rfl
    | fin t d r => show (if d = 0 then Datum.nan else .inf (s != t)) = sft (k + m) (if d = 0 then Datum.nan else .inf (s != t)); split <;> rfl
  | fin s c q =>
    cases y with
    | nan => rfl
    | inf t => show (if c = 0 then Datum.nan else .inf (s != t)) = sft (k + m) (if c = 0 then Datum.nan else .inf (s != t)); split <;> rfl
    | fin t d r =>
      show Datum.fin (s != t) (c * d) (q + k + (r + m)) = Datum.fin (s != t) (c * d) (q + r + ((k + m : Nat) : Int))
      congr 1; omega
theorem sft_order (k : Nat) (x y : Datum) : order (sft k x) (sft k y) = order x y := by
  cases x with
  | nan => rfl
  | inf s => cases y <;> rfl
  | fin s c q =>
    cases y with
    | nan => rfl
    | inf t => rfl
    | fin t d r =>
      have h : min (q + (k : Int)) (r + k) = min q r + k := by omega
      have h1 : q + (k : Int) - (min q r + k) = q - min q r := by omega
      have h2 : r + (k : Int) - (min q r + k) = r - min q r := by omega
      show some (compare (signed s (c * 2 ^ (q + (k : Int) - min (q + k) (r + k)).toNat)) (signed t (d * 2 ^ (r + (k : Int) - min (q + k) (r + k)).toNat))) = some (compare (signed s (c * 2 ^ (q - min q r).toNat)) (signed t (d * 2 ^ (r - min q r).toNat)))
      rw [h, h1, h2]
theorem b64_qmin : b64.qmin = -1074 := by decide +kernel
theorem b64_qmax : b64.qmax = 971 := by decide +kernel
theorem b64_tails : b64.tails = 4503599627370496 := by decide +kernel
theorem fits64 (s : Bool) (c : Nat) (q : Int) : Core.fits b64 (.fin s c q) ↔ c < 2 ^ 53 ∧ -1074 ≤ q ∧ q ≤ 971 ∧ (q = -1074 ∨ 4503599627370496 ≤ c) := by
  show (c < 2 ^ 53 ∧ b64.qmin ≤ q ∧ q ≤ b64.qmax ∧ (q = b64.qmin ∨ b64.tails ≤ c)) ↔ _
  rw [b64_qmin, b64_qmax, b64_tails]
/-- n / 2^k is a double, for n up to 2^53 and k up to 1022 -/
theorem natFitS (s : Bool) {n k : Nat} (hk : k ≤ 1022) (hn : n ≤ 2 ^ 53) :
    ∃ c q, Core.fits b64 (.fin s c q) ∧ n * 2 ^ (-(k : Int) - q).toNat = c * 1 * 2 ^ (q - -(k : Int)).toNat := by
  by_cases h0 : n = 0
  · subst h0
    exact ⟨0, b64.qmin, zero_fits good_b64 s, by simp⟩
  · obtain ⟨c, q, hf, hv⟩ := natFit good_b64 wide_b64 s (show n ≤ 2 ^ b64.p from hn)
    rw [fits64] at hf
    have hq : -52 ≤ q := by
      refine Int.not_lt.mp fun hlt => ?_
      have e1 : (q - 0).toNat = 0 := by omega
      have e2 : (0 - q).toNat = 53 + ((0 - q).toNat - 53) := by omega
      rw [e1, e2, Nat.pow_add] at hv
      have p := Nat.two_pow_pos ((0 - q).toNat - 53)
      have : 2 ^ 53 * 1 ≤ 2 ^ 53 * 2 ^ ((0 - q).toNat - 53) := Nat.mul_le_mul_left _ p
      have : 1 * (2 ^ 53 * 2 ^ ((0 - q).toNat - 53)) ≤ n * (2 ^ 53 * 2 ^ ((0 - q).toNat - 53)) := Nat.mul_le_mul_right _ (by omega)
      omega
    refine ⟨c, q - k, (fits64 _ _ _).mpr ⟨hf.1, by omega, by omega, Or.inr (hf.2.2.2.resolve_left (by omega))⟩, ?_⟩
    rw [show -(k : Int) - (q - k) = 0 - q by omega, show q - k - -(k : Int) = q - 0 by omega]
    exact hv
theorem whole_signed {i : Int} {s : Bool} {c : Nat} {q : Int} (h : Whole i (.fin s c q)) : signed s i.natAbs = i := by
  by_cases hi : i = 0
  · rw [hi]; exact signed_zero s
  · rw [whole_sign h hi]; unfold signed
    by_cases h : i < 0 <;> simp [h] <;> omega
theorem ds_round {k : Nat} {i : Int} {d : Datum} (hk : k ≤ 1022) (hi : i.natAbs ≤ 2 ^ 53) (h : Whole i (sft k d)) : Whole i (sft k (Core.round b64 d)) := by
  cases d with
  | nan => exact h.elim
  | inf s => exact h.elim
  | fin s c q =>
    have hs := whole_signed h
    have h1 := whole_natAbs h
    obtain ⟨c', q', hfit, hv⟩ := natFitS s hk hi
    have e1 : Core.round b64 (.fin s c q) = roundRatio b64 s i.natAbs 1 (-(k : Int)) := by
      refine roundRatio_congr (by decide) (by decide) ?_
      rw [show q - -(k : Int) = q + k by omega, show -(k : Int) - q = -(q + k) by omega]
      simpa using h1
    rw [e1, roundRatio_exact good_b64 (by decide) hfit hv]
    show signed s (c' * 2 ^ (q' + (k : Int)).toNat) = i * _
    rw [show -(k : Int) - q' = -(q' + k) by omega, show q' - -(k : Int) = q' + k by omega, Nat.mul_one] at hv
    rw [← hv, signed_mul, hs]
theorem DS.nn {k : Nat} {i : Int} {x : UInt64} (h : DS k i x) : NoNaN64 x := val64_no.mpr fun q => by
  unfold DS at h; rw [q] at h; exact h.elim
theorem DS.fin {k : Nat} {i : Int} {x : UInt64} (h : DS k i x) : ∃ s c q, val64 x = .fin s c q ∧ Whole i (.fin s c (q + (k : Int))) := by
  unfold DS at h
  cases e : val64 x with
  | nan => rw [e] at h; exact h.elim
  | inf s => rw [e] at h; exact h.elim
  | fin s c q => rw [e] at h; exact ⟨s, c, q, rfl, h⟩
theorem DS.lit {k : Nat} {i : Int} {x : UInt64} {s : Bool} {c : Nat} {q : Int} (hv : val64 x = .fin s c q) (he : signed s (c * 2 ^ (q + (k : Int)).toNat) = i * ((2 ^ (-(q + (k : Int))).toNat : Nat) : Int)) : DS k i x := by
  unfold DS; rw [hv]; exact he
theorem DS.i2d (v : Int32) : DS 0 v.toInt (FP.i2d v) := by unfold DS; rw [sft_zero]; exact i2d_int v
theorem DS.l2d {v : Int64} (h : v.toInt.natAbs ≤ 2 ^ 53) : DS 0 v.toInt (FP.l2d v) := by unfold DS; rw [sft_zero]; exact l2d_int h
theorem DS.dint {i : Int} {x : UInt64} (h : DS 0 i x) : DInt i x := by unfold DS at h; rw [sft_zero] at h; exact h
theorem DS.zero (k : Nat) : DS k 0 0 := DS.lit (s := false) (c := 0) (q := -1074) (by decide +kernel) (by rw [Nat.zero_mul, Int.zero_mul]; rfl)
theorem DS.add {k : Nat} {i j : Int} {x y : UInt64} (hx : DS k i x) (hy : DS k j y) (hb : (i + j).natAbs ≤ 2 ^ 53) (hk : k ≤ 1022) : DS k (i + j) (FP.dadd x y) := by
  show Whole _ (sft k (val64 (Core.dadd x y)))
  rw [val64_dadd]; refine ds_round hk hb ?_; rw [← sft_sum]; exact whole_sum hx hy
theorem DS.sub {k : Nat} {i j : Int} {x y : UInt64} (hx : DS k i x) (hy : DS k j y) (hb : (i - j).natAbs ≤ 2 ^ 53) (hk : k ≤ 1022) : DS k (i - j) (FP.dsub x y) := by
  show Whole _ (sft k (val64 (Core.dsub x y)))
  rw [val64_dsub]; refine ds_round hk hb ?_; rw [← sft_sum, ← sft_negate, Int.sub_eq_add_neg]; exact whole_sum hx (whole_negate hy)
theorem DS.mul {k m : Nat} {i j : Int} {x y : UInt64} (hx : DS k i x) (hy : DS m j y) (hb : (i * j).natAbs ≤ 2 ^ 53) (hk : k + m ≤ 1022) : DS (k + m) (i * j) (FP.dmul x y) := by
  show Whole _ (sft (k + m) (val64 (Core.dmul x y)))
  rw [val64_dmul]; refine ds_round hk hb ?_; rw [← sft_product]; exact whole_product hx hy
theorem DS.addc {k : Nat} {i j Q : Int} {x y : UInt64} (hx : DS k i x) (hy : DS k j y) (e : i + j = Q) (hb : Q.natAbs ≤ 2 ^ 53) (hk : k ≤ 1022) : DS k Q (FP.dadd x y) := by subst e; exact DS.add hx hy hb hk
theorem DS.subc {k : Nat} {i j Q : Int} {x y : UInt64} (hx : DS k i x) (hy : DS k j y) (e : i - j = Q) (hb : Q.natAbs ≤ 2 ^ 53) (hk : k ≤ 1022) : DS k Q (FP.dsub x y) := by subst e; exact DS.sub hx hy hb hk
theorem DS.cmp {k : Nat} {i j : Int} {x y : UInt64} (hx : DS k i x) (hy : DS k j y) : FP.dcmp x y = some (compare i j) := by
  show order (val64 x) (val64 y) = _
  rw [← sft_order k]; exact order_whole hx hy
/-- what dcmp pushes -/
def c3 (i j : Int) : Int32 := if i < j then -1 else if i = j then 0 else 1
theorem c3_lt (i j : Int) : c3 i j < 0 ↔ i < j := by unfold c3; split <;> (try split) <;> simp_all <;> first | decide | omega
theorem c3_gt (i j : Int) : 0 < c3 i j ↔ j < i := by unfold c3; split <;> (try split) <;> simp_all <;> first | decide | omega
theorem c3_eq (i j : Int) : c3 i j = 0 ↔ i = j := by unfold c3; split <;> (try split) <;> simp_all <;> first | decide | omega
theorem cmpV_int (i j : Int) (o : CmpOp) : cmpValue (some (compare i j)) o = c3 i j := by
  unfold c3
  by_cases h1 : i < j
  · have : compare i j = .lt := by simp [compare, compareOfLessAndEq, h1]
    rw [this, if_pos h1]; cases o <;> rfl
  · by_cases h2 : i = j
    · have : compare i j = .eq := by simp [compare, compareOfLessAndEq, h2]
      rw [this, if_neg h1, if_pos h2]; cases o <;> rfl
    · have : compare i j = .gt := by simp [compare, compareOfLessAndEq, h1, h2]
      rw [this, if_neg h1, if_neg h2]; cases o <;> rfl
theorem DS.cmpV {k : Nat} {i j : Int} {x y : UInt64} (hx : DS k i x) (hy : DS k j y) (o : CmpOp) : cmpValue (FP.dcmp x y) o = c3 i j := by rw [hx.cmp hy]; exact cmpV_int i j o
theorem whole_iff {i : Int} {s : Bool} {c : Nat} {q : Int} {N : Nat} (h : 0 ≤ q + N) : Whole i (.fin s c q) ↔ signed s c * ((2 ^ (q + N).toNat : Nat) : Int) = i * ((2 ^ N : Nat) : Int) := by
  show signed s (c * 2 ^ q.toNat) = i * ((2 ^ (-q).toNat : Nat) : Int) ↔ _
  rw [signed_mul]
  have e : q.toNat + N = (q + N).toNat + (-q).toNat := by omega
  have p1 : ((2 ^ N : Nat) : Int) ≠ 0 := by have := Nat.two_pow_pos N; omega
  have p2 : ((2 ^ (-q).toNat : Nat) : Int) ≠ 0 := by have := Nat.two_pow_pos (-q).toNat; omega
  have e1 : signed s c * ((2 ^ q.toNat : Nat) : Int) * ((2 ^ N : Nat) : Int) = signed s c * ((2 ^ (q + N).toNat : Nat) : Int) * ((2 ^ (-q).toNat : Nat) : Int) := by
    rw [Int.mul_assoc, Int.mul_assoc, ← Int.natCast_mul, ← Int.natCast_mul, ← Nat.pow_add, ← Nat.pow_add, e]
  constructor
  · intro hh
    refine Int.eq_of_mul_eq_mul_right p2 ?_
    rw [← e1, hh]; ac_rfl
  · intro hh
    refine Int.eq_of_mul_eq_mul_right p1 ?_
    rw [e1, hh]; ac_rfl
theorem DS.up {k : Nat} {i : Int} {x : UInt64} (h : DS k i x) (m : Nat) : DS (k + m) (i * ((2 ^ m : Nat) : Int)) x := by
  obtain ⟨s, c, q, e, hw⟩ := h.fin
  unfold DS; rw [e]
  show Whole _ (.fin s c (q + ((k + m : Nat) : Int)))
  rw [whole_iff (N := (-q).toNat) (by omega)]
  rw [whole_iff (N := (-q).toNat + m) (by omega)] at hw
  rw [show q + (k : Int) + (((-q).toNat + m : Nat) : Int) = q + ((k + m : Nat) : Int) + ((-q).toNat : Nat) by omega] at hw
  rw [hw, Nat.pow_add, Int.natCast_mul]; ac_rfl
theorem DS.cast {k k' : Nat} {i i' : Int} {x : UInt64} (h : DS k i x) (e1 : k = k') (e2 : i = i') : DS k' i' x := e1 ▸ e2 ▸ h
/-- the quotient, as the rounding of a ratio of whole numbers -/
theorem ds_quot {k m : Nat} {i j : Int} {x y : UInt64} (hx : DS k i x) (hy : DS m j y) (hj : j ≠ 0) :
    ∃ s t, signed s i.natAbs = i ∧ signed t j.natAbs = j ∧ val64 (FP.ddiv x y) = roundRatio b64 (s != t) i.natAbs j.natAbs ((m : Int) - k) := by
  obtain ⟨s, c, q, e, hw⟩ := hx.fin
  obtain ⟨t, d, r, e', hw'⟩ := hy.fin
  have hd : d ≠ 0 := fun z => hj ((whole_zero hw').mp z)
  have h1 := whole_natAbs hw
  have h2 := whole_natAbs hw'
  refine ⟨s, t, whole_signed hw, whole_signed hw', ?_⟩
  show val64 (Core.ddiv x y) = _
  rw [val64_ddiv, e, e']
  show (if d = 0 then _ else roundRatio b64 (s != t) c d (q - r)) = _
  rw [if_neg hd]
  have hj' : 0 < j.natAbs := by omega
  rw [roundRatio_congr (A' := i.natAbs) (B' := d) (e' := -(k : Int) - r) (by omega) (by omega) (by
    rw [show q - r - (-(k : Int) - r) = q + k by omega, show -(k : Int) - r - (q - r) = -(q + k) by omega, Nat.mul_right_comm, h1]; ac_rfl)]
  refine roundRatio_congr (by omega) hj' ?_
  rw [show -(k : Int) - r - ((m : Int) - k) = -(r + m) by omega, show (m : Int) - k - (-(k : Int) - r) = r + m by omega, Nat.mul_assoc, ← h2]; ac_rfl
theorem DS.div {k m n : Nat} {i j Q : Int} {x y : UInt64} (hx : DS k i x) (hy : DS m j y) (hj : j ≠ 0) (hQ : i * ((2 ^ (m + n) : Nat) : Int) = Q * j * ((2 ^ k : Nat) : Int)) (hb : Q.natAbs ≤ 2 ^ 53) (hn : n ≤ 1022) : DS n Q (FP.ddiv x y) := by
  obtain ⟨s, t, hs, ht, hv⟩ := ds_quot hx hy hj
  obtain ⟨c', q', hfit, hf⟩ := natFitS (s != t) hn hb
  have hj' : 0 < j.natAbs := by omega
  have hQn : i.natAbs * 2 ^ (m + n) = Q.natAbs * j.natAbs * 2 ^ k := by
    have := congrArg Int.natAbs hQ
    rwa [Int.natAbs_mul, Int.natAbs_mul, Int.natAbs_mul, Int.natAbs_natCast, Int.natAbs_natCast] at this
  have e1 : roundRatio b64 (s != t) i.natAbs j.natAbs ((m : Int) - k) = roundRatio b64 (s != t) Q.natAbs 1 (-(n : Int)) := by
    refine roundRatio_congr hj' (by decide) ?_
    rw [Nat.mul_one]
    have ea : m + n = ((m : Int) - k - -(n : Int)).toNat + min (m + n) k := by omega
    have eb : k = (-(n : Int) - ((m : Int) - k)).toNat + min (m + n) k := by omega
    generalize ((m : Int) - k - -(n : Int)).toNat = u at ea ⊢
    generalize (-(n : Int) - ((m : Int) - k)).toNat = w at eb ⊢
    have hQ2 : i.natAbs * 2 ^ (u + min (m + n) k) = Q.natAbs * j.natAbs * 2 ^ (w + min (m + n) k) := by rw [← ea, ← eb]; exact hQn
    rw [Nat.pow_add, Nat.pow_add, ← Nat.mul_assoc, ← Nat.mul_assoc] at hQ2
    exact Nat.eq_of_mul_eq_mul_right (Nat.two_pow_pos _) hQ2
  rw [e1, roundRatio_exact good_b64 (by decide) hfit hf] at hv
  unfold DS; rw [hv]
  show signed (s != t) (c' * 2 ^ (q' + (n : Int)).toNat) = Q * _
  rw [show -(n : Int) - q' = -(q' + n) by omega, show q' - -(n : Int) = q' + n by omega, Nat.mul_one] at hf
  rw [← hf, signed_mul]
  congr 1
  have hp : (0 : Int) < ((2 ^ (m + n) : Nat) : Int) := by have := Nat.two_pow_pos (m + n); omega
  have hp2 : (0 : Int) < ((2 ^ k : Nat) : Int) := by have := Nat.two_pow_pos k; omega
  generalize ((2 ^ (m + n) : Nat) : Int) = P1 at hQ hp
  generalize ((2 ^ k : Nat) : Int) = P2 at hQ hp2
  -- the sign of the quotient
  have key : signed (s != t) (Q.natAbs * (j.natAbs * j.natAbs)) = Q * (j.natAbs * j.natAbs : Nat) := by
    have e2 : signed (s != t) (i.natAbs * j.natAbs) = i * j := by rw [signed_xor, hs, ht]
    have e3 : i.natAbs * P1.natAbs = Q.natAbs * j.natAbs * P2.natAbs := by
      have := congrArg Int.natAbs hQ
      rwa [Int.natAbs_mul, Int.natAbs_mul, Int.natAbs_mul] at this
    have e4 : signed (s != t) (Q.natAbs * (j.natAbs * j.natAbs)) * P2 = Q * (j.natAbs * j.natAbs : Nat) * P2 := by
      have p2 : P2 = (P2.natAbs : Int) := by omega
      have p1 : P1 = (P1.natAbs : Int) := by omega
      calc signed (s != t) (Q.natAbs * (j.natAbs * j.natAbs)) * P2
          = signed (s != t) (Q.natAbs * (j.natAbs * j.natAbs) * P2.natAbs) := by rw [signed_mul _ (Q.natAbs * (j.natAbs * j.natAbs)), ← p2]
        _ = signed (s != t) (i.natAbs * j.natAbs * P1.natAbs) := by
            congr 1
            calc Q.natAbs * (j.natAbs * j.natAbs) * P2.natAbs = (Q.natAbs * j.natAbs * P2.natAbs) * j.natAbs := by ac_rfl
              _ = i.natAbs * j.natAbs * P1.natAbs := by rw [← e3]; ac_rfl
        _ = i * j * P1 := by rw [signed_mul, e2, ← p1]
        _ = (i * P1) * j := by ac_rfl
        _ = Q * (j * j) * P2 := by rw [hQ]; ac_rfl
        _ = Q * (j.natAbs * j.natAbs : Nat) * P2 := by rw [Int.natCast_mul, Int.natAbs_mul_self' j]
    exact Int.eq_of_mul_eq_mul_right (by omega) e4
  rw [signed_mul] at key
  exact Int.eq_of_mul_eq_mul_right (by have : 0 < j.natAbs * j.natAbs := Nat.mul_pos hj' hj'; omega) key
/-- by a power of two -/
theorem DS.divp {k t : Nat} {i : Int} {x y : UInt64} (hx : DS k i x) (hy : DS 0 ((2 ^ t : Nat) : Int) y) (hb : i.natAbs ≤ 2 ^ 53) (hn : k + t ≤ 1022) : DS (k + t) i (FP.ddiv x y) :=
  DS.div hx hy (by have := Nat.two_pow_pos t; omega) (by rw [Nat.zero_add, Nat.pow_add, Int.natCast_mul]; ac_rfl) hb hn
theorem sft_rem (k : Nat) (x y : Datum) : exactRemainder (sft k x) (sft k y) = sft k (exactRemainder x y) := by
  cases x with
  | nan => rfl
  | inf s => rfl
  | fin s c q =>
    cases y with
    | nan => rfl
    | inf t => rfl
    | fin t d r =>
      have h : min (q + (k : Int)) (r + k) = min q r + k := by omega
      have h1 : q + (k : Int) - (min q r + k) = q - min q r := by omega
      have h2 : r + (k : Int) - (min q r + k) = r - min q r := by omega
      show (if d = 0 then Datum.nan else .fin s (c * 2 ^ (q + (k : Int) - min (q + k) (r + k)).toNat % (d * 2 ^ (r + (k : Int) - min (q + k) (r + k)).toNat)) (min (q + k) (r + k))) = sft k (if d = 0 then Datum.nan else .fin s (c * 2 ^ (q - min q r).toNat % (d * 2 ^ (r - min q r).toNat)) (min q r))
      rw [h, h1, h2]; split <;> rfl
theorem signed_tmod {s : Bool} {i : Int} (hs : signed s i.natAbs = i) (j : Int) : signed s (i.natAbs % j.natAbs) = i.tmod j := by
  cases i with
  | ofNat a =>
    have e : Int.tmod (Int.ofNat a) j = ((a % j.natAbs : Nat) : Int) := by cases j <;> rfl
    rw [e]; show signed s (a % j.natAbs) = _
    have hs' : signed s a = (a : Int) := hs
    cases s with
    | false => rfl
    | true =>
      have h0 : a = 0 := by
        have : -(a : Int) = (a : Int) := hs'
        omega
      subst h0; rw [Nat.zero_mod]; rfl
  | negSucc a =>
    have e : Int.tmod (Int.negSucc a) j = -(((a + 1) % j.natAbs : Nat) : Int) := by cases j <;> rfl
    rw [e]; show signed s ((a + 1) % j.natAbs) = _
    cases s with
    | true => rfl
    | false =>
      have : ((a + 1 : Nat) : Int) = Int.negSucc a := hs
      omega
theorem whole_rem {i j : Int} {x y : Datum} (hx : Whole i x) (hy : Whole j y) (hj : j ≠ 0) : Whole (i.tmod j) (exactRemainder x y) := by
  cases x with
  | nan => exact hx.elim
  | inf => exact hx.elim
  | fin s c q =>
  cases y with
  | nan => exact hy.elim
  | inf => exact hy.elim
  | fin t d r =>
    have hd : d ≠ 0 := fun z => hj ((whole_zero hy).mp z)
    have h1 := congrArg Int.natAbs (whole_units hx (e := min q r) (by omega))
    have h2 := congrArg Int.natAbs (whole_units hy (e := min q r) (by omega))
    rw [Int.natAbs_mul, Int.natAbs_mul, Int.natAbs_natCast, Int.natAbs_natCast, natAbs_signed] at h1 h2
    show Whole _ (if d = 0 then _ else Datum.fin s (inUnits c q (min q r) % inUnits d r (min q r)) (min q r))
    rw [if_neg hd]
    show signed s (inUnits c q (min q r) % inUnits d r (min q r) * 2 ^ (min q r).toNat) = i.tmod j * ((2 ^ (-(min q r)).toNat : Nat) : Int)
    rw [← Nat.mul_mod_mul_right, h1, h2, Nat.mul_mod_mul_right, signed_mul, signed_tmod (whole_signed hx)]
theorem DS.rem {k : Nat} {i j : Int} {x y : UInt64} (hx : DS k i x) (hy : DS k j y) (hj : j ≠ 0) (hb : (i.tmod j).natAbs ≤ 2 ^ 53) (hk : k ≤ 1022) : DS k (i.tmod j) (FP.drem x y) := by
  show Whole _ (sft k (val64 (Core.drem x y)))
  rw [val64_drem]; refine ds_round hk hb ?_; rw [← sft_rem]; exact whole_rem hx hy hj
end Dyad
section Between
open Jvm.FP Jvm.FP.Core Jvm.Free.Fl
/-- the value in units of 2^-1074 -/
def zv (x : UInt64) : Int := zval b64 (val64 x)
def UU (k : Nat) : Int := ((2 ^ (1074 - k) : Nat) : Int)
theorem UU_pos (k : Nat) : 0 < UU k := by unfold UU; have := Nat.two_pow_pos (1074 - k); omega
/-- x is a number from lo / 2^k to hi / 2^k -/
def DI (k : Nat) (lo hi : Int) (x : UInt64) : Prop := DFin x ∧ lo * UU k ≤ zv x ∧ zv x ≤ hi * UU k
theorem whole_zvk {i : Int} {s : Bool} {c : Nat} {q : Int} {k : Nat} (hq : -1074 ≤ q) (hk : k ≤ 1074) (h : Whole i (.fin s c (q + (k : Int)))) : zval b64 (.fin s c q) = i * UU k := by
  rw [whole_iff (N := 1074 - k) (by omega)] at h
  unfold UU; rw [← h]
  show signed s (c * 2 ^ (q - b64.qmin).toNat) = _
  rw [b64_qmin, signed_mul, show q - -1074 = q + (k : Int) + ((1074 - k : Nat) : Int) by omega]
theorem DS.zeq {k : Nat} {i : Int} {x : UInt64} (h : DS k i x) (hk : k ≤ 1074) : zv x = i * UU k := by
  obtain ⟨s, c, q, e, hw⟩ := h.fin
  have hf := val64_fits x
  unfold zv; rw [e] at hf ⊢
  exact whole_zvk ((fits64 s c q).mp hf).2.1 hk hw
theorem DS.dfin {k : Nat} {i : Int} {x : UInt64} (h : DS k i x) : DFin x := by
  obtain ⟨s, c, q, e, -⟩ := h.fin; exact ⟨s, c, q, e⟩
theorem DS.di {k : Nat} {i : Int} {x : UInt64} (h : DS k i x) (hk : k ≤ 1074) : DI k i i x := ⟨h.dfin, Int.le_of_eq (h.zeq hk).symm, Int.le_of_eq (h.zeq hk)⟩
theorem DI.mono {k : Nat} {a b a' b' : Int} {x : UInt64} (h : DI k a b x) (h1 : a' ≤ a) (h2 : b ≤ b') : DI k a' b' x :=
  ⟨h.1, Int.le_trans (Int.mul_le_mul_of_nonneg_right h1 (Int.le_of_lt (UU_pos k))) h.2.1, Int.le_trans h.2.2 (Int.mul_le_mul_of_nonneg_right h2 (Int.le_of_lt (UU_pos k)))⟩
theorem DI.nn {k : Nat} {a b : Int} {x : UInt64} (h : DI k a b x) : NoNaN64 x := val64_no.mpr fun q => by
  obtain ⟨s, c, e, w⟩ := h.1; rw [w] at q; cases q
/-- i / 2^k is a double -/
def Rep (k : Nat) (i : Int) : Prop := ∃ s c q, Core.fits b64 (.fin s c q) ∧ zval b64 (.fin s c q) = i * UU k
theorem rep_of {k : Nat} {i : Int} (hk : k ≤ 1022) (hi : i.natAbs ≤ 2 ^ 53) : Rep k i := by
  obtain ⟨c, q, hf, hv⟩ := natFitS (decide (i < 0)) hk hi
  refine ⟨_, c, q, hf, whole_zvk ((fits64 _ c q).mp hf).2.1 (by omega) ?_⟩
  rw [show -(k : Int) - q = -(q + k) by omega, show q - -(k : Int) = q + k by omega, Nat.mul_one] at hv
  show signed (decide (i < 0)) (c * 2 ^ (q + (k : Int)).toNat) = i * _
  rw [← hv, signed_mul]; congr 1
  unfold signed
  by_cases h : i < 0 <;> simp [h] <;> omega
theorem rep_two {k : Nat} {i : Int} (h : Rep k i) (hs : i.natAbs ≤ 2 ^ 60) : Rep k (2 * i) := by
  obtain ⟨s, c, q, hf, hz⟩ := h
  have hU := UU_pos k
  rw [fits64] at hf
  by_cases h0 : c < 4503599627370496
  · have hq : q = -1074 := hf.2.2.2.resolve_right (by omega)
    refine ⟨s, 2 * c, q, (fits64 _ _ _).mpr ⟨by omega, by omega, by omega, Or.inl hq⟩, ?_⟩
    show signed s (2 * c * 2 ^ (q - b64.qmin).toNat) = _
    have hz' : signed s (c * 2 ^ (q - b64.qmin).toNat) = i * UU k := hz
    rw [show 2 * c * 2 ^ (q - b64.qmin).toNat = c * 2 ^ (q - b64.qmin).toNat * 2 by ac_rfl, signed_mul, hz']
    show i * UU k * 2 = 2 * i * UU k
    ac_rfl
  · have hz' : signed s (c * 2 ^ (q - b64.qmin).toNat) = i * UU k := hz
    have hq : q < 971 := by
      refine Int.not_le.mp fun hle => ?_
      have e1 : (c * 2 ^ (q - b64.qmin).toNat : Nat) = i.natAbs * (UU k).natAbs := by
        have := congrArg Int.natAbs hz'; rwa [natAbs_signed, Int.natAbs_mul] at this
      have e2 : (UU k).natAbs ≤ 2 ^ 1074 := by unfold UU; rw [Int.natAbs_natCast]; exact Nat.pow_le_pow_right (by decide) (by omega)
      have e3 : i.natAbs * (UU k).natAbs ≤ 2 ^ 60 * 2 ^ 1074 := Nat.mul_le_mul hs e2
      have e4 : 4503599627370496 * 2 ^ 2045 ≤ c * 2 ^ (q - b64.qmin).toNat := Nat.mul_le_mul (by omega) (Nat.pow_le_pow_right (by decide) (by rw [b64_qmin]; omega))
      have e5 : (2 : Nat) ^ 60 * 2 ^ 1074 < 4503599627370496 * 2 ^ 2045 := by rw [show (4503599627370496 : Nat) = 2 ^ 52 by decide, ← Nat.pow_add, ← Nat.pow_add]; exact Nat.pow_lt_pow_right (by decide) (by decide)
      generalize (2 : Nat) ^ 60 * 2 ^ 1074 = X1 at e3 e5
      generalize 4503599627370496 * (2 : Nat) ^ 2045 = X2 at e4 e5
      omega
    refine ⟨s, c, q + 1, (fits64 _ _ _).mpr ⟨hf.1, by omega, by omega, Or.inr (by omega)⟩, ?_⟩
    show signed s (c * 2 ^ (q + 1 - b64.qmin).toNat) = _
    rw [show (q + 1 - b64.qmin).toNat = (q - b64.qmin).toNat + 1 by rw [b64_qmin]; omega, Nat.pow_succ, ← Nat.mul_assoc, signed_mul, hz']
    show i * UU k * 2 = 2 * i * UU k
    ac_rfl
/-- a rounded datum between two numbers is a number -/
theorem fin_between {d V W : Datum} (hd : d ≠ .nan) (fV : Core.fits b64 V) (fW : Core.fits b64 W) (hV : ∃ s c q, V = .fin s c q) (hW : ∃ s c q, W = .fin s c q) (h1 : zval b64 V ≤ zval b64 d) (h2 : zval b64 d ≤ zval b64 W) : ∃ s c q, d = .fin s c q := by
  cases d with
  | nan => exact absurd rfl hd
  | fin s c q => exact ⟨s, c, q, rfl⟩
  | inf s =>
    exfalso
    obtain ⟨sv, cv, qv, rfl⟩ := hV
    obtain ⟨sw, cw, qw, rfl⟩ := hW
    have l1 : zmag b64 (.fin sv cv qv) < b64.tails * 2 ^ (b64.exps - 2) := zmag_lt_top good_b64 fV
    have l2 : zmag b64 (.fin sw cw qw) < b64.tails * 2 ^ (b64.exps - 2) := zmag_lt_top good_b64 fW
    have a1 : -(zmag b64 (.fin sv cv qv) : Int) ≤ zval b64 (.fin sv cv qv) := by unfold zval signed; split <;> omega
    have a2 : zval b64 (.fin sw cw qw) ≤ (zmag b64 (.fin sw cw qw) : Int) := by unfold zval signed; split <;> omega
    cases s with
    | false =>
      have : zval b64 (.inf false) = ((b64.tails * 2 ^ (b64.exps - 2) : Nat) : Int) := rfl
      omega
    | true =>
      have : zval b64 (.inf true) = -((b64.tails * 2 ^ (b64.exps - 2) : Nat) : Int) := rfl
      omega
theorem round_not_nan {x y : UInt64} (hx : DFin x) (hy : DFin y) : val64 (FP.dadd x y) ≠ .nan := by
  obtain ⟨s, c, q, e⟩ := hx; obtain ⟨t, d, r, e'⟩ := hy
  show val64 (Core.dadd x y) ≠ .nan
  rw [val64_dadd, e, e']
  intro h
  have := roundRatio_cases b64 (sumSign s t (sumUnits s c q t d r (min q r))) (sumUnits s c q t d r (min q r)).natAbs 1 (min q r)
  have h' : roundRatio b64 (sumSign s t (sumUnits s c q t d r (min q r))) (sumUnits s c q t d r (min q r)).natAbs 1 (min q r) = .nan := h
  rcases this with ⟨c', q', w⟩ | w <;> rw [w] at h' <;> cases h'
theorem DI.addR {k : Nat} {a b c d A B : Int} {x y : UInt64} (hx : DI k a b x) (hy : DI k c d y) (hA : A ≤ a + c) (hB : b + d ≤ B) (rA : Rep k A) (rB : Rep k B) : DI k A B (FP.dadd x y) := by
  have hn := round_not_nan hx.1 hy.1
  have hU := UU_pos k
  obtain ⟨s1, c1, q1, f1, z1⟩ := rA
  obtain ⟨s2, c2, q2, f2, z2⟩ := rB
  have e : val64 (FP.dadd x y) = Core.round b64 (exactSum (val64 x) (val64 y)) := val64_dadd x y
  have hs1 : A * UU k ≤ zv x + zv y := by
    have : A * UU k ≤ (a + c) * UU k := Int.mul_le_mul_of_nonneg_right hA (Int.le_of_lt hU)
    rw [Int.add_mul] at this; have := hx.2.1; have := hy.2.1; omega
  have hs2 : zv x + zv y ≤ B * UU k := by
    have : (b + d) * UU k ≤ B * UU k := Int.mul_le_mul_of_nonneg_right hB (Int.le_of_lt hU)
    rw [Int.add_mul] at this; have := hx.2.2; have := hy.2.2; omega
  have g1 : zval b64 (.fin s1 c1 q1) ≤ zval b64 (val64 (FP.dadd x y)) := by
    rw [e]; exact sum_ge good_b64 hx.1 hy.1 (val64_fits x) (val64_fits y) f1 (by simp) (by rw [z1]; exact hs1)
  have g2 : zval b64 (val64 (FP.dadd x y)) ≤ zval b64 (.fin s2 c2 q2) := by
    rw [e]; exact sum_le good_b64 hx.1 hy.1 (val64_fits x) (val64_fits y) f2 (by simp) (by rw [z2]; exact hs2)
  refine ⟨fin_between hn f1 f2 ⟨_, _, _, rfl⟩ ⟨_, _, _, rfl⟩ g1 g2, ?_, ?_⟩
  · rw [← z1]; exact g1
  · rw [← z2]; exact g2
theorem DI.add {k : Nat} {a b c d : Int} {x y : UInt64} (hx : DI k a b x) (hy : DI k c d y) (hk : k ≤ 1022) (h1 : (a + c).natAbs ≤ 2 ^ 53) (h2 : (b + d).natAbs ≤ 2 ^ 53) : DI k (a + c) (b + d) (FP.dadd x y) :=
  hx.addR hy (Int.le_refl _) (Int.le_refl _) (rep_of hk h1) (rep_of hk h2)
theorem DI.sub {k : Nat} {a b c d : Int} {x y : UInt64} (hx : DI k a b x) (hy : DI k c d y) (hk : k ≤ 1022) (h1 : (a - d).natAbs ≤ 2 ^ 53) (h2 : (b - c).natAbs ≤ 2 ^ 53) : DI k (a - d) (b - c) (FP.dsub x y) := by
  have e : FP.dsub x y = FP.dadd x (Core.dneg y) := Core.dsub_eq x y
  have hz : zv (Core.dneg y) = -zv y := by unfold zv; rw [Core.val64_dneg, zval_negate]
  have hf : DFin (Core.dneg y) := by obtain ⟨s, c, q, w⟩ := hy.1; exact ⟨!s, c, q, by rw [Core.val64_dneg, w]; rfl⟩
  have hy' : DI k (-d) (-c) (Core.dneg y) := ⟨hf, by rw [hz, Int.neg_mul]; have := hy.2.2; omega, by rw [hz, Int.neg_mul]; have := hy.2.1; omega⟩
  rw [e, Int.sub_eq_add_neg, Int.sub_eq_add_neg]
  exact hx.add hy' hk (by rw [← Int.sub_eq_add_neg]; exact h1) (by rw [← Int.sub_eq_add_neg]; exact h2)
/-- by a whole number above nought -/
theorem DI.div {k : Nat} {a b A B j : Int} {x y : UInt64} (hx : DI k a b x) (hy : DS 0 j y) (hj : 0 < j) (hA : A * j ≤ a) (hB : b ≤ B * j) (rA : Rep k A) (rB : Rep k B) : DI k A B (FP.ddiv x y) := by
  have hU := UU_pos k
  obtain ⟨s, c, q, e⟩ := hx.1
  obtain ⟨t, d, r, e', hw'⟩ := hy.fin
  have hr0 : r + ((0 : Nat) : Int) = r := by simp
  rw [hr0] at hw'
  have hd : d ≠ 0 := fun z => by have := (whole_zero hw').mp z; omega
  have ht : t = false := by rw [whole_sign hw' (by omega)]; simp; omega
  have h2 := whole_natAbs hw'
  have hfx := val64_fits x
  rw [e] at hfx
  have hq := ((fits64 s c q).mp hfx).2.1
  generalize hN : zmag b64 (.fin s c q) = N
  have hN' : N = c * 2 ^ (q + 1074).toNat := by
    rw [← hN]; show c * 2 ^ (q - b64.qmin).toNat = _; rw [b64_qmin, show q - -1074 = q + 1074 by omega]
  have hzx : zv x = signed s N := by unfold zv; rw [e]; show signed s _ = _; rw [hN]
  have hj' : 0 < j.natAbs := by omega
  have ev : val64 (FP.ddiv x y) = roundRatio b64 s N j.natAbs b64.qmin := by
    show val64 (Core.ddiv x y) = _
    rw [val64_ddiv, e, e', ht]
    show (if d = 0 then _ else roundRatio b64 (s != false) c d (q - r)) = _
    rw [if_neg hd, show (s != false) = s by cases s <;> rfl]
    rw [roundRatio_congr (A' := N) (B' := d) (e' := -1074 - r) (by omega) (by omega) (by
      rw [show q - r - (-1074 - r) = q + 1074 by omega, show (-1074 - r - (q - r)).toNat = 0 by omega, hN', Nat.pow_zero, Nat.mul_one]; ac_rfl)]
    rw [b64_qmin]
    refine roundRatio_congr (by omega) hj' ?_
    rw [show -1074 - r - -1074 = -r by omega, show -1074 - (-1074 - r) = r by omega, Nat.mul_assoc, ← h2]; ac_rfl
  obtain ⟨s1, c1, q1, f1, z1⟩ := rA
  obtain ⟨s2, c2, q2, f2, z2⟩ := rB
  have hle : ∀ {sv : Bool} {cv : Nat} {qv : Int}, Core.fits b64 (.fin sv cv qv) → N ≤ zmag b64 (.fin sv cv qv) * j.natAbs → zmag b64 (roundRatio b64 s N j.natAbs b64.qmin) ≤ zmag b64 (.fin sv cv qv) := fun fv h =>
    zmag_roundRatio_le good_b64 hj' fv (by simp) (Int.le_refl _) (Int.le_refl _) (by
      rw [Int.sub_self]; show N * 2 ^ (b64.qmin - b64.qmin).toNat ≤ _; rw [Int.sub_self]; simpa using h)
  have hge : ∀ {sv : Bool} {cv : Nat} {qv : Int}, Core.fits b64 (.fin sv cv qv) → zmag b64 (.fin sv cv qv) * j.natAbs ≤ N → zmag b64 (.fin sv cv qv) ≤ zmag b64 (roundRatio b64 s N j.natAbs b64.qmin) := fun fv h =>
    zmag_roundRatio_ge good_b64 hj' fv (Int.le_refl _) (Int.le_refl _) (by
      rw [Int.sub_self]; show _ ≤ N * 2 ^ (b64.qmin - b64.qmin).toNat; rw [Int.sub_self]; simpa using h)
  have hsg : sgn (roundRatio b64 s N j.natAbs b64.qmin) = s := sgn_roundRatio ..
  have hzr : zval b64 (val64 (FP.ddiv x y)) = signed s (zmag b64 (roundRatio b64 s N j.natAbs b64.qmin)) := by rw [ev]; unfold zval; rw [hsg]
  have hjj : (j.natAbs : Int) = j := by omega
  have x1 := hx.2.1; have x2 := hx.2.2
  rw [hzx] at x1 x2
  -- A*U*j ≤ signed s N ≤ B*U*j
  have y1 : A * UU k * j ≤ signed s N := by
    have : A * j * UU k ≤ a * UU k := Int.mul_le_mul_of_nonneg_right hA (Int.le_of_lt hU)
    rw [show A * UU k * j = A * j * UU k by ac_rfl]; omega
  have y2 : signed s N ≤ B * UU k * j := by
    have : b * UU k ≤ B * j * UU k := Int.mul_le_mul_of_nonneg_right hB (Int.le_of_lt hU)
    rw [show B * UU k * j = B * j * UU k by ac_rfl]; omega
  have zm1 : (zmag b64 (.fin s1 c1 q1) : Int) = (A * UU k).natAbs := by
    have := congrArg Int.natAbs z1; unfold zval at this; rw [natAbs_signed] at this; omega
  have zm2 : (zmag b64 (.fin s2 c2 q2) : Int) = (B * UU k).natAbs := by
    have := congrArg Int.natAbs z2; unfold zval at this; rw [natAbs_signed] at this; omega
  show DFin (FP.ddiv x y) ∧ A * UU k ≤ zv (FP.ddiv x y) ∧ zv (FP.ddiv x y) ≤ B * UU k
  generalize A * UU k = P at z1 y1 zm1 ⊢
  generalize B * UU k = Q at z2 y2 zm2 ⊢
  have conv : ∀ (u : Int) (z : Nat), (z : Int) = u.natAbs → ((z * j.natAbs : Nat) : Int) = (if 0 ≤ u then u * j else -(u * j)) := by
    intro u z hz
    rw [Int.natCast_mul, hz, hjj]
    split
    · rw [Int.natAbs_of_nonneg (by omega)]
    · rw [show (u.natAbs : Int) = -u by omega, Int.neg_mul]
  have cP := conv P _ zm1
  have cQ := conv Q _ zm2
  have pj : ∀ u : Int, (0 ≤ u → 0 ≤ u * j) ∧ (u < 0 → u * j < 0) := fun u => ⟨fun h => Int.mul_nonneg h (by omega), fun h => Int.mul_neg_of_neg_of_pos h hj⟩
  have pP := pj P; have pQ := pj Q
  have L1 : P ≤ zval b64 (val64 (FP.ddiv x y)) := by
    rw [hzr]
    cases s with
    | false =>
      have y1' : P * j ≤ (N : Int) := y1
      show P ≤ ((zmag b64 (roundRatio b64 false N j.natAbs b64.qmin) : Nat) : Int)
      by_cases h0 : 0 ≤ P
      · rw [if_pos h0] at cP
        have := hge f1 (by omega)
        omega
      · omega
    | true =>
      have y1' : P * j ≤ -(N : Int) := y1
      show P ≤ -((zmag b64 (roundRatio b64 true N j.natAbs b64.qmin) : Nat) : Int)
      by_cases h0 : 0 ≤ P
      · have hN0 : N = 0 := by have := pP.1 h0; omega
        rw [if_pos h0] at cP
        have hP0 : P * j = 0 := by have := pP.1 h0; omega
        have hPz : P = 0 := by rcases Int.mul_eq_zero.mp hP0 with h | h <;> omega
        have := hle f1 (by omega)
        omega
      · rw [if_neg h0] at cP
        have := hle f1 (by omega)
        omega
  have L2 : zval b64 (val64 (FP.ddiv x y)) ≤ Q := by
    rw [hzr]
    cases s with
    | false =>
      have y2' : (N : Int) ≤ Q * j := y2
      show ((zmag b64 (roundRatio b64 false N j.natAbs b64.qmin) : Nat) : Int) ≤ Q
      by_cases h0 : 0 ≤ Q
      · rw [if_pos h0] at cQ
        have := hle f2 (by omega)
        omega
      · have := pQ.2 (by omega); omega
    | true =>
      have y2' : -(N : Int) ≤ Q * j := y2
      show -((zmag b64 (roundRatio b64 true N j.natAbs b64.qmin) : Nat) : Int) ≤ Q
      by_cases h0 : 0 ≤ Q
      · omega
      · rw [if_neg h0] at cQ
        have := hge f2 (by omega)
        omega
  have hn : val64 (FP.ddiv x y) ≠ .nan := by
    rw [ev]; intro h
    rcases roundRatio_cases b64 s N j.natAbs b64.qmin with ⟨c', q', w⟩ | w <;> rw [w] at h <;> cases h
  exact ⟨fin_between hn f1 f2 ⟨_, _, _, rfl⟩ ⟨_, _, _, rfl⟩ (by rw [z1]; exact L1) (by rw [z2]; exact L2), L1, L2⟩
theorem cmp_zv {x y : UInt64} (hx : DFin x) (hy : DFin y) : FP.dcmp x y = some (compare (zv x) (zv y)) := by
  obtain ⟨s, c, q, e⟩ := hx; obtain ⟨t, d, r, e'⟩ := hy
  have hx' : val64 x ≠ .nan := by rw [e]; simp
  have hy' : val64 y ≠ .nan := by rw [e']; simp
  exact order_zval good_b64 (val64_fits x) (val64_fits y) hx' hy'
theorem DI.cmpV {k : Nat} {a b c d : Int} {x y : UInt64} (hx : DI k a b x) (hy : DI k c d y) (h : b < c) (o : CmpOp) : cmpValue (FP.dcmp x y) o = -1 := by
  have hU := UU_pos k
  have : b * UU k < c * UU k := Int.mul_lt_mul_of_pos_right h hU
  rw [cmp_zv hx.1 hy.1, cmpV_int]; unfold c3; rw [if_pos (by have := hx.2.2; have := hy.2.1; omega)]
theorem UU_succ (k : Nat) (hk : k + 1 ≤ 1074) : UU k = 2 * UU (k + 1) := by
  unfold UU
  rw [show 1074 - k = (1074 - (k + 1)) + 1 by omega, Nat.pow_succ, Int.natCast_mul, Int.mul_comm]; rfl
theorem UU_two : UU 0 = 2 * UU 1 := UU_succ 0 (by decide)
/-- a double of 2^51 or more is a whole number of halves -/
theorem di_half {lo hi : Int} {x : UInt64} (h : DI 0 lo hi x) (hb : (2251799813685248 : Int) ≤ lo ∨ hi ≤ -2251799813685248) : ∃ i, DS 1 i x ∧ lo * 2 ≤ i ∧ i ≤ hi * 2 := by
  obtain ⟨s, c, q, e⟩ := h.1
  have hf := val64_fits x
  rw [e, fits64] at hf
  have hz : zv x = signed s (c * 2 ^ (q + 1074).toNat) := by
    unfold zv; rw [e]; show signed s (c * 2 ^ (q - b64.qmin).toNat) = _; rw [b64_qmin, show q - -1074 = q + 1074 by omega]
  obtain ⟨P, hP⟩ : ∃ P, P = (2 : Nat) ^ (1074 - 2) := ⟨_, rfl⟩
  have hp0 : 0 < P := by rw [hP]; exact Nat.two_pow_pos _
  obtain ⟨PP, hPP⟩ : ∃ PP, PP = UU 0 := ⟨_, rfl⟩
  have hu : PP = (P : Int) * 4 := by
    have u1 : UU 0 = 2 * UU 1 := UU_succ 0 (by decide)
    have u2 : UU 1 = 2 * UU 2 := UU_succ 1 (by decide)
    have u3 : UU 2 = (P : Int) := by rw [hP]; rfl
    omega
  have hq : -1 ≤ q := by
    refine Int.not_lt.mp fun hlt => ?_
    have e1 : (q + 1074).toNat ≤ 1074 - 2 := by omega
    have e2 : c * 2 ^ (q + 1074).toNat ≤ 9007199254740991 * P := by rw [hP]; exact Nat.mul_le_mul (by omega) (Nat.pow_le_pow_right (by decide) e1)
    have h1 := h.2.1; have h2 := h.2.2
    rw [hz, ← hPP] at h1 h2
    generalize c * 2 ^ (q + 1074).toNat = W at e2 h1 h2
    have a1 : signed s W ≤ (W : Int) := by unfold signed; split <;> omega
    have a2 : -(W : Int) ≤ signed s W := by unfold signed; split <;> omega
    rcases hb with hb | hb
    · have : 2251799813685248 * PP ≤ lo * PP := Int.mul_le_mul_of_nonneg_right hb (by omega)
      omega
    · have : hi * PP ≤ -2251799813685248 * PP := Int.mul_le_mul_of_nonneg_right hb (by omega)
      omega
  have hd : DS 1 (signed s (c * 2 ^ (q + 1).toNat)) x := by
    unfold DS; rw [e]
    show signed s (c * 2 ^ (q + ((1 : Nat) : Int)).toNat) = _
    rw [show (-(q + ((1 : Nat) : Int))).toNat = 0 by omega]; simp
  refine ⟨_, hd, ?_, ?_⟩
  · have h1 := h.2.1
    rw [hd.zeq (by decide), UU_two, ← Int.mul_assoc] at h1
    exact Int.le_of_mul_le_mul_right h1 (UU_pos 1)
  · have h1 := h.2.2
    rw [hd.zeq (by decide), UU_two, ← Int.mul_assoc] at h1
    exact Int.le_of_mul_le_mul_right h1 (UU_pos 1)
/-- a sum that is a whole number of the coarser scale -/
theorem DS.add_half {k : Nat} {i j Q : Int} {x y : UInt64} (hx : DS (k + 1) i x) (hy : DS (k + 1) j y) (e : i + j = Q * 2) (hb : Q.natAbs ≤ 2 ^ 53) (hk : k ≤ 1022) : DS k Q (FP.dadd x y) := by
  show Whole _ (sft k (val64 (Core.dadd x y)))
  rw [val64_dadd]; refine ds_round hk hb ?_
  have h := whole_sum hx hy
  rw [sft_sum, e] at h
  generalize exactSum (val64 x) (val64 y) = d at h ⊢
  cases d with
  | nan => exact h.elim
  | inf s => exact h.elim
  | fin s c q =>
    have h' : Whole (Q * 2) (.fin s c (q + ((k + 1 : Nat) : Int))) := h
    show Whole Q (.fin s c (q + (k : Int)))
    rw [whole_iff (N := (-q).toNat) (by omega)] at h'
    rw [whole_iff (N := (-q).toNat + 1) (by omega)]
    rw [show q + (k : Int) + (((-q).toNat + 1 : Nat) : Int) = q + ((k + 1 : Nat) : Int) + ((-q).toNat : Nat) by omega, h', Nat.pow_succ, Int.natCast_mul]
    show Q * 2 * _ = Q * (_ * 2)
    ac_rfl
end Between

section OwnW
variable {p : Program} {l : Launch} {e : Env} {R : Room} {s : State} {m : MethodId} {args : Array Value} {below : List Frame} {meth : Method} {c : Code} {T : State} {locs : List Loc} {cells slots : Nat}
/-- as Dn, where String constants may have been interned on the way -/
def Dw (p : Program) (e : Env) (below : List Frame) (s : State) (Q : Option Value → Heap → List Loc → Prop) (rc rs : Nat) (A : State) : Prop :=
  ∃ s₂ o, Steps p.tables e below A s₂ ∧ s₂.status = .running ∧ Ended s₂ below o ∧ ∃ v L, o = .returned v ∧ Q v s₂.heap L ∧ ReturnedEndW s o s₂ L rc rs
theorem Dw.st {Q : Option Value → Heap → List Loc → Prop} {rc rs : Nat} {A B : State} (h : ∀ t, Steps p.tables e below B t → Steps p.tables e below A t) (k : Dw p e below s Q rc rs B) : Dw p e below s Q rc rs A := by
  obtain ⟨s2, o, h1, h2⟩ := k; exact ⟨s2, o, h _ h1, h2⟩
theorem Dw.tr {Q : Option Value → Heap → List Loc → Prop} {rc rs : Nat} {A B : State} (h : Steps p.tables e below A B) (k : Dw p e below s Q rc rs B) : Dw p e below s Q rc rs A := by
  obtain ⟨s2, o, h1, h2⟩ := k; exact ⟨s2, o, h.trans h1, h2⟩
theorem Dw.of {Q : Option Value → Heap → List Loc → Prop} {rc rs : Nat} {A : State} {vm1 : Vm} {n : Nat} (hS : s.Since vm1 n) (k : Dn p e below (s.setVm vm1) (fun v h L => Q v h L ∧ n ≤ h.size) rc rs A) : Dw p e below s Q rc rs A := by
  obtain ⟨s2, o, h1, h2, h3, v, L, rfl, ⟨hq, hn⟩, hr, hW, hs⟩ := k
  obtain ⟨a, b, c'⟩ := hS.ended hW hn hs
  exact ⟨s2, _, h1, h2, h3, v, L, rfl, hq, hr, a, b, c'⟩
end OwnW
theorem own_wS {Z : State} {a0 : Array Value} (hw : ∀ d ∈ tables_1, d.before a0 Z = true) : ∀ d ∈ Bundle.stringAtoms, d.before a0 Z = true := by
  intro d hd
  simp only [Bundle.stringAtoms, List.mem_cons, List.not_mem_nil, or_false] at hd
  rcases hd with rfl | rfl | rfl | rfl | rfl | rfl | rfl
  · exact (hw _ (List.mem_of_getElem? (i := 5) rfl))
  · exact (hw _ (List.mem_of_getElem? (i := 6) rfl))
  · exact (hw _ (List.mem_of_getElem? (i := 7) rfl))
  · exact (hw _ (List.mem_of_getElem? (i := 8) rfl))
  · exact (hw _ (List.mem_of_getElem? (i := 9) rfl))
  · exact (hw _ (List.mem_of_getElem? (i := 10) rfl))
  · exact (hw _ (List.mem_of_getElem? (i := 11) rfl))
theorem own_kd {k d : Int} (h1 : -8388608 ≤ k) (h2 : k ≤ 8388607) (d1 : 1 ≤ d) (d2 : d ≤ 256) : -2147483648 ≤ k * d ∧ k * d + d ≤ 2147483648 := by
  have e1 : -8388608 * d ≤ k * d := Int.mul_le_mul_of_nonneg_right h1 (by omega)
  have e2 : (k + 1) * d ≤ 8388608 * d := Int.mul_le_mul_of_nonneg_right (by omega) (by omega)
  rw [Int.add_mul, Int.one_mul] at e2
  omega
/-- the quotient lies strictly between k and k + 1 -/
theorem own_between {k d r g : Int} {x y : UInt64} (hx : DS 0 g x) (hy : DS 0 d y) (e : g = k * d + r) (h1 : -8388608 ≤ k) (h2 : k ≤ 8388607) (d1 : 1 ≤ d) (d2 : d ≤ 256) (r1 : 1 ≤ r) (r2 : r < d) : DI 10 (k * 1024 + 1) (k * 1024 + 1023) (FP.ddiv x y) := by
  have e1 : (k * 1024 + 1) * d = k * d * 1024 + d := by rw [Int.add_mul, Int.one_mul, Int.mul_right_comm]
  have e2 : (k * 1024 + 1023) * d = k * d * 1024 + 1023 * d := by rw [Int.add_mul, Int.mul_right_comm]
  exact DI.div ((hx.up 10).di (by decide)) hy (by omega) (by rw [e1, e]; show _ ≤ (k * d + r) * 1024; omega) (by rw [e2, e]; show (k * d + r) * 1024 ≤ _; omega) (rep_of (by decide) (by omega)) (rep_of (by decide) (by omega))
theorem own_nn {d g : Int} {x y : UInt64} (hx : DS 0 g x) (hy : DS 0 d y) (g1 : -2147483648 ≤ g) (g2 : g ≤ 2147483647) (d1 : 1 ≤ d) : Jvm.Free.Fl.NoNaN64 (FP.ddiv x y) :=
  (DI.div (A := -2147483648) (B := 2147483648) (hx.di (by decide)) hy (by omega) (by omega) (by omega) (rep_of (by decide) (by decide)) (rep_of (by decide) (by decide))).nn

theorem d1_0 : decode prog_20_method_1_code 0 = .ok (.aload_n 0, 1) := by decide +kernel
theorem d1_1 : decode prog_20_method_1_code 1 = .ok (.invokespecial 1, 3) := by decide +kernel
theorem d1_4 : decode prog_20_method_1_code 4 = .ok (.aload_n 0, 1) := by decide +kernel
theorem d1_5 : decode prog_20_method_1_code 5 = .ok (.aload_n 1, 1) := by decide +kernel
theorem d1_6 : decode prog_20_method_1_code 6 = .ok (.putfield 7, 3) := by decide +kernel
theorem d1_9 : decode prog_20_method_1_code 9 = .ok (.aload_n 0, 1) := by decide +kernel
theorem d1_10 : decode prog_20_method_1_code 10 = .ok (.aload_n 2, 1) := by decide +kernel
theorem d1_11 : decode prog_20_method_1_code 11 = .ok (.putfield 13, 3) := by decide +kernel
theorem d1_14 : decode prog_20_method_1_code 14 = .ok (.aload_n 0, 1) := by decide +kernel
theorem d1_15 : decode prog_20_method_1_code 15 = .ok (.aload_n 3, 1) := by decide +kernel
theorem d1_16 : decode prog_20_method_1_code 16 = .ok (.putfield 16, 3) := by decide +kernel
theorem d1_19 : decode prog_20_method_1_code 19 = .ok (.aload_n 0, 1) := by decide +kernel
theorem d1_20 : decode prog_20_method_1_code 20 = .ok (.iload 4, 2) := by decide +kernel
theorem d1_22 : decode prog_20_method_1_code 22 = .ok (.putfield 19, 3) := by decide +kernel
theorem d1_25 : decode prog_20_method_1_code 25 = .ok (.aload_n 0, 1) := by decide +kernel
theorem d1_26 : decode prog_20_method_1_code 26 = .ok (.dload 5, 2) := by decide +kernel
theorem d1_28 : decode prog_20_method_1_code 28 = .ok (.putfield 23, 3) := by decide +kernel
theorem d1_31 : decode prog_20_method_1_code 31 = .ok (.return_, 1) := by decide +kernel
theorem pn0 : plainName "com/example/nudo/nudo/control/priority/PriorityRequest" = true := by first | (simp [plainName, overriddenIn]; done) | decide +kernel
theorem ef1_rm1 (m : MethodId) (x0 : Addr) (x1 : Addr) (x2 : Addr) (x3 : Addr) (x4 : Int32) (x5 : UInt64) : entryFrame m #[(.ref x0), (.ref x1), (.ref x2), (.ref x3), (.int x4), (.double x5)] 7 = mkF m 0 #[.val (.ref x0), .val (.ref x1), .val (.ref x2), .val (.ref x3), .val (.int x4), .val (.double x5), .second] [] := by first | (simp [entryFrame, mkF, argsToLocals, Value.category]; done) | rfl
def Q1 (Z : State) (a : Addr) (x1 : Addr) (x2 : Addr) (x3 : Addr) (dg : Int32) (ds : UInt64) (h0 : Heap) (n0 : Nat) (v : Option Value) (h : Heap) (L : List Loc) : Prop := v = none ∧ Fr n0 L ∧ Keep h0 h [a] ∧ Exa Z h a "com/example/nudo/nudo/control/priority/PriorityRequest" ∧ (Fld Z h a "com/example/nudo/nudo/control/priority/PriorityRequest" "responder" "Ljava/lang/String;" (.ref x1)) ∧ (Fld Z h a "com/example/nudo/nudo/control/priority/PriorityRequest" "approach" "Ljava/lang/String;" (.ref x2)) ∧ (Fld Z h a "com/example/nudo/nudo/control/priority/PriorityRequest" "exit" "Ljava/lang/String;" (.ref x3)) ∧ (Fld Z h a "com/example/nudo/nudo/control/priority/PriorityRequest" "degree" "I" (.int dg)) ∧ (Fld Z h a "com/example/nudo/nudo/control/priority/PriorityRequest" "distance" "D" (.double ds))
set_option maxRecDepth 65536 in
set_option maxHeartbeats 40000000 in
theorem rm1 (l : Launch) (Z : State) (a0 : Array Value) (hw : ∀ d ∈ tables_1, d.before a0 Z = true) (ws : List Jvm.Cond) (a : Addr) (x1 : Addr) (x2 : Addr) (x3 : Addr) (dg : Int32) (ds : UInt64) (h0 : Heap) (n0 : Nat) (Z0 : n0 ≤ h0.size) (ga : n0 ≤ a) (Ea : Exa Z h0 a "com/example/nudo/nudo/control/priority/PriorityRequest") (F0 : Fld Z h0 a "com/example/nudo/nudo/control/priority/PriorityRequest" "responder" "Ljava/lang/String;" .null) (F1 : Fld Z h0 a "com/example/nudo/nudo/control/priority/PriorityRequest" "approach" "Ljava/lang/String;" .null) (F2 : Fld Z h0 a "com/example/nudo/nudo/control/priority/PriorityRequest" "exit" "Ljava/lang/String;" .null) (F3 : Fld Z h0 a "com/example/nudo/nudo/control/priority/PriorityRequest" "degree" "I" (.int 0)) (F4 : Fld Z h0 a "com/example/nudo/nudo/control/priority/PriorityRequest" "distance" "D" (.double 0)) :
    MetFree l (⟨"com/example/nudo/nudo/control/priority/PriorityRequest", "<init>", "(Ljava/lang/String;Ljava/lang/String;Ljava/lang/String;ID)V"⟩ : MethodName) (head1 (Jvm.Cond.code (⟨"com/example/nudo/nudo/control/priority/PriorityRequest", "<init>", "(Ljava/lang/String;Ljava/lang/String;Ljava/lang/String;ID)V"⟩ : MethodName) prog_20_method_1_code 7 none :: ws) ({ frames := 1, cells := 0, slots := 0, locals := 12 } : Room)) (fun aa UU => aa = #[(.ref a), (.ref x1), (.ref x2), (.ref x3), (.int dg), (.double ds)] ∧ Z.Warmed39 UU.vm ∧ UU.heap = h0) (fun _ _ _ _ _ => True) (fun _ UU oo UU' => ∃ vv LL, oo = .returned vv ∧ Q1 Z a x1 x2 x3 dg ds h0 n0 vv UU'.heap LL ∧ FrameEnd UU oo UU' LL ({ frames := 1, cells := 0, slots := 0, locals := 12 } : Room).cells ({ frames := 1, cells := 0, slots := 0, locals := 12 } : Room).slots) := by
  refine MetFree.of_bodySF (plainFor_of_name pn0) hisR ?_
  intro p e s m args below meth c s₁ Bd hml0 hP hK
  obtain ⟨rfl, hZ, hh⟩ := hP
  have hx := Bd.exec
  have hby := Bd.bytes
  have hlk : meth.locks = false := BodyLoose.notSynchronized Bd
  have hret := Bd.returns
  have hml : c.maxLocals = 7 := hml0
  have hown : s.vm.findClass "com/example/nudo/nudo/control/priority/PriorityRequest" = some m.cls := findClass_of_methodNamed Bd.named
  have hnm := (name_of_methodNamed Bd.named Bd.method).1
  have X0 : Stand p l e ({ frames := 1, cells := 0, slots := 0, locals := 12 } : Room) s m #[(.ref a), (.ref x1), (.ref x2), (.ref x3), (.int dg), (.double ds)] below meth c s₁ [] 0 0 := Stand.of_body Bd
  have e0 : s₁.heap = h0 := by rw [← hh, Bd.state]; rfl
  have N0 := Fr.nil n0
  show Dn p e below s (Q1 Z a x1 x2 x3 dg ds h0 n0) ({ frames := 1, cells := 0, slots := 0, locals := 12 } : Room).cells ({ frames := 1, cells := 0, slots := 0, locals := 12 } : Room).slots (s₁.setTop (entryFrame m #[(.ref a), (.ref x1), (.ref x2), (.ref x3), (.int dg), (.double ds)] 7))
  refine Dn.st (fun _ kk => castTop (ef1_rm1 m a x1 x2 x3 dg ds) kk) ?_
  show Dn p e below s _ _ _ (s₁.setTop (mkF m 0 #[.val (.ref a), .val (.ref x1), .val (.ref x2), .val (.ref x3), .val (.int dg), .val (.double ds), .second] []))
  refine Dn.st (fun _ kk => XS.aloadN X0.here hx rfl (hb hby d1_0) rfl rfl (kk)) ?_
  show Dn p e below s _ _ _ (s₁.setTop (mkF m 1 #[.val (.ref a), .val (.ref x1), .val (.ref x2), .val (.ref x3), .val (.int dg), .val (.double ds), .second] [(.ref a)]))
  obtain ⟨T1, X1, e1, st1⟩ := initO X0 hx hZ hown (hw _ (List.mem_of_getElem? (i := 17) rfl)) (hw _ (List.mem_of_getElem? (i := 18) rfl)) (hw _ (List.mem_of_getElem? (i := 19) rfl)) e0 (g := (mkF m 1 #[.val (.ref a), .val (.ref x1), .val (.ref x2), .val (.ref x3), .val (.int dg), .val (.double ds), .second] [(.ref a)])) rfl (by rw [hml]; rfl) rfl (hb hby d1_1) (by decide) (W := 0) (by show 2 * 0 + _ ≤ _; exact Nat.le_of_eq rfl) (by decide)
  refine Dn.st st1 ?_
  show Dn p e below s _ _ _ (T1.setTop (mkF m 4 #[.val (.ref a), .val (.ref x1), .val (.ref x2), .val (.ref x3), .val (.int dg), .val (.double ds), .second] []))
  refine Dn.st (fun _ kk => XS.aloadN X1.here hx rfl (hb hby d1_4) rfl rfl (XS.aloadN X1.here hx rfl (hb hby d1_5) rfl rfl (kk))) ?_
  show Dn p e below s _ _ _ (T1.setTop (mkF m 6 #[.val (.ref a), .val (.ref x1), .val (.ref x2), .val (.ref x3), .val (.int dg), .val (.double ds), .second] [(.ref x1), (.ref a)]))
  obtain ⟨T6, h6, X6, e6, W6, st6⟩ := putF X1 hx hZ hown (host := "") (Or.inl (hw _ (List.mem_of_getElem? (i := 20) rfl))) Via.refl e1 F0 Ea (Or.inr ⟨(hw _ (List.mem_of_getElem? (i := 21) rfl)), rfl, hnm⟩) (hw _ (List.mem_of_getElem? (i := 2) rfl)) (ty := (.object "java/lang/String")) (by decide) rfl rfl (g := (mkF m 6 #[.val (.ref a), .val (.ref x1), .val (.ref x2), .val (.ref x3), .val (.int dg), .val (.double ds), .second] [(.ref x1), (.ref a)])) rfl rfl (hb hby d1_6)
  have E_a_6 := Ea.wr W6
  have F_a_approach_6 := F1.other W6 (Or.inr (slot_ne (Or.inr (hw _ (List.mem_of_getElem? (i := 23) rfl))) (Or.inr (hw _ (List.mem_of_getElem? (i := 21) rfl))) (by decide) (t := (.object "java/lang/String")) (t' := (.object "java/lang/String")) (by decide) (by decide)))
  have F_a_exit_6 := F2.other W6 (Or.inr (slot_ne (Or.inr (hw _ (List.mem_of_getElem? (i := 25) rfl))) (Or.inr (hw _ (List.mem_of_getElem? (i := 21) rfl))) (by decide) (t := (.object "java/lang/String")) (t' := (.object "java/lang/String")) (by decide) (by decide)))
  have F_a_degree_6 := F3.other W6 (Or.inr (slot_ne (Or.inr (hw _ (List.mem_of_getElem? (i := 27) rfl))) (Or.inr (hw _ (List.mem_of_getElem? (i := 21) rfl))) (by decide) (t := .int) (t' := (.object "java/lang/String")) (by decide) (by decide)))
  have F_a_distance_6 := F4.other W6 (Or.inr (slot_ne (Or.inr (hw _ (List.mem_of_getElem? (i := 29) rfl))) (Or.inr (hw _ (List.mem_of_getElem? (i := 21) rfl))) (by decide) (t := .double) (t' := (.object "java/lang/String")) (by decide) (by decide)))
  have F_a_responder_6 := F0.same W6
  have K6 := (Keep.refl h0 [a]).wr W6 (Or.inl (List.mem_of_getElem? (i := 0) rfl))
  have N6 := Fr.snoc X6 N0 ga
  have Z6 : n0 ≤ h6.size := Nat.le_trans Z0 (Keep.of_wr W6).1
  refine Dn.st st6 ?_
  show Dn p e below s _ _ _ (T6.setTop (mkF m 9 #[.val (.ref a), .val (.ref x1), .val (.ref x2), .val (.ref x3), .val (.int dg), .val (.double ds), .second] []))
  refine Dn.st (fun _ kk => XS.aloadN X6.here hx rfl (hb hby d1_9) rfl rfl (XS.aloadN X6.here hx rfl (hb hby d1_10) rfl rfl (kk))) ?_
  show Dn p e below s _ _ _ (T6.setTop (mkF m 11 #[.val (.ref a), .val (.ref x1), .val (.ref x2), .val (.ref x3), .val (.int dg), .val (.double ds), .second] [(.ref x2), (.ref a)]))
  obtain ⟨T11, h11, X11, e11, W11, st11⟩ := putF X6 hx hZ hown (host := "") (Or.inl (hw _ (List.mem_of_getElem? (i := 22) rfl))) Via.refl e6 F_a_approach_6 E_a_6 (Or.inr ⟨(hw _ (List.mem_of_getElem? (i := 23) rfl)), rfl, hnm⟩) (hw _ (List.mem_of_getElem? (i := 2) rfl)) (ty := (.object "java/lang/String")) (by decide) rfl rfl (g := (mkF m 11 #[.val (.ref a), .val (.ref x1), .val (.ref x2), .val (.ref x3), .val (.int dg), .val (.double ds), .second] [(.ref x2), (.ref a)])) rfl rfl (hb hby d1_11)
  have E_a_11 := E_a_6.wr W11
  have F_a_responder_11 := F_a_responder_6.other W11 (Or.inr (slot_ne (Or.inr (hw _ (List.mem_of_getElem? (i := 21) rfl))) (Or.inr (hw _ (List.mem_of_getElem? (i := 23) rfl))) (by decide) (t := (.object "java/lang/String")) (t' := (.object "java/lang/String")) (by decide) (by decide)))
  have F_a_exit_11 := F_a_exit_6.other W11 (Or.inr (slot_ne (Or.inr (hw _ (List.mem_of_getElem? (i := 25) rfl))) (Or.inr (hw _ (List.mem_of_getElem? (i := 23) rfl))) (by decide) (t := (.object "java/lang/String")) (t' := (.object "java/lang/String")) (by decide) (by decide)))
  have F_a_degree_11 := F_a_degree_6.other W11 (Or.inr (slot_ne (Or.inr (hw _ (List.mem_of_getElem? (i := 27) rfl))) (Or.inr (hw _ (List.mem_of_getElem? (i := 23) rfl))) (by decide) (t := .int) (t' := (.object "java/lang/String")) (by decide) (by decide)))
  have F_a_distance_11 := F_a_distance_6.other W11 (Or.inr (slot_ne (Or.inr (hw _ (List.mem_of_getElem? (i := 29) rfl))) (Or.inr (hw _ (List.mem_of_getElem? (i := 23) rfl))) (by decide) (t := .double) (t' := (.object "java/lang/String")) (by decide) (by decide)))
  have F_a_approach_11 := F_a_approach_6.same W11
  have K11 := K6.wr W11 (Or.inl (List.mem_of_getElem? (i := 0) rfl))
  have N11 := Fr.snoc X11 N6 ga
  have Z11 : n0 ≤ h11.size := Nat.le_trans Z6 (Keep.of_wr W11).1
  refine Dn.st st11 ?_
  show Dn p e below s _ _ _ (T11.setTop (mkF m 14 #[.val (.ref a), .val (.ref x1), .val (.ref x2), .val (.ref x3), .val (.int dg), .val (.double ds), .second] []))
  refine Dn.st (fun _ kk => XS.aloadN X11.here hx rfl (hb hby d1_14) rfl rfl (XS.aloadN X11.here hx rfl (hb hby d1_15) rfl rfl (kk))) ?_
  show Dn p e below s _ _ _ (T11.setTop (mkF m 16 #[.val (.ref a), .val (.ref x1), .val (.ref x2), .val (.ref x3), .val (.int dg), .val (.double ds), .second] [(.ref x3), (.ref a)]))
  obtain ⟨T16, h16, X16, e16, W16, st16⟩ := putF X11 hx hZ hown (host := "") (Or.inl (hw _ (List.mem_of_getElem? (i := 24) rfl))) Via.refl e11 F_a_exit_11 E_a_11 (Or.inr ⟨(hw _ (List.mem_of_getElem? (i := 25) rfl)), rfl, hnm⟩) (hw _ (List.mem_of_getElem? (i := 2) rfl)) (ty := (.object "java/lang/String")) (by decide) rfl rfl (g := (mkF m 16 #[.val (.ref a), .val (.ref x1), .val (.ref x2), .val (.ref x3), .val (.int dg), .val (.double ds), .second] [(.ref x3), (.ref a)])) rfl rfl (hb hby d1_16)
  have E_a_16 := E_a_11.wr W16
  have F_a_responder_16 := F_a_responder_11.other W16 (Or.inr (slot_ne (Or.inr (hw _ (List.mem_of_getElem? (i := 21) rfl))) (Or.inr (hw _ (List.mem_of_getElem? (i := 25) rfl))) (by decide) (t := (.object "java/lang/String")) (t' := (.object "java/lang/String")) (by decide) (by decide)))
  have F_a_approach_16 := F_a_approach_11.other W16 (Or.inr (slot_ne (Or.inr (hw _ (List.mem_of_getElem? (i := 23) rfl))) (Or.inr (hw _ (List.mem_of_getElem? (i := 25) rfl))) (by decide) (t := (.object "java/lang/String")) (t' := (.object "java/lang/String")) (by decide) (by decide)))
  have F_a_degree_16 := F_a_degree_11.other W16 (Or.inr (slot_ne (Or.inr (hw _ (List.mem_of_getElem? (i := 27) rfl))) (Or.inr (hw _ (List.mem_of_getElem? (i := 25) rfl))) (by decide) (t := .int) (t' := (.object "java/lang/String")) (by decide) (by decide)))
  have F_a_distance_16 := F_a_distance_11.other W16 (Or.inr (slot_ne (Or.inr (hw _ (List.mem_of_getElem? (i := 29) rfl))) (Or.inr (hw _ (List.mem_of_getElem? (i := 25) rfl))) (by decide) (t := .double) (t' := (.object "java/lang/String")) (by decide) (by decide)))
  have F_a_exit_16 := F_a_exit_11.same W16
  have K16 := K11.wr W16 (Or.inl (List.mem_of_getElem? (i := 0) rfl))
  have N16 := Fr.snoc X16 N11 ga
  have Z16 : n0 ≤ h16.size := Nat.le_trans Z11 (Keep.of_wr W16).1
  refine Dn.st st16 ?_
  show Dn p e below s _ _ _ (T16.setTop (mkF m 19 #[.val (.ref a), .val (.ref x1), .val (.ref x2), .val (.ref x3), .val (.int dg), .val (.double ds), .second] []))
  refine Dn.st (fun _ kk => XS.aloadN X16.here hx rfl (hb hby d1_19) rfl rfl (XS.iload X16.here hx rfl (hb hby d1_20) rfl  (kk))) ?_
  show Dn p e below s _ _ _ (T16.setTop (mkF m 22 #[.val (.ref a), .val (.ref x1), .val (.ref x2), .val (.ref x3), .val (.int dg), .val (.double ds), .second] [(.int dg), (.ref a)]))
  obtain ⟨T22, h22, X22, e22, W22, st22⟩ := putF X16 hx hZ hown (host := "") (Or.inl (hw _ (List.mem_of_getElem? (i := 26) rfl))) Via.refl e16 F_a_degree_16 E_a_16 (Or.inr ⟨(hw _ (List.mem_of_getElem? (i := 27) rfl)), rfl, hnm⟩) (hw _ (List.mem_of_getElem? (i := 2) rfl)) (ty := .int) (by decide) rfl rfl (g := (mkF m 22 #[.val (.ref a), .val (.ref x1), .val (.ref x2), .val (.ref x3), .val (.int dg), .val (.double ds), .second] [(.int dg), (.ref a)])) rfl rfl (hb hby d1_22)
  have E_a_22 := E_a_16.wr W22
  have F_a_responder_22 := F_a_responder_16.other W22 (Or.inr (slot_ne (Or.inr (hw _ (List.mem_of_getElem? (i := 21) rfl))) (Or.inr (hw _ (List.mem_of_getElem? (i := 27) rfl))) (by decide) (t := (.object "java/lang/String")) (t' := .int) (by decide) (by decide)))
  have F_a_approach_22 := F_a_approach_16.other W22 (Or.inr (slot_ne (Or.inr (hw _ (List.mem_of_getElem? (i := 23) rfl))) (Or.inr (hw _ (List.mem_of_getElem? (i := 27) rfl))) (by decide) (t := (.object "java/lang/String")) (t' := .int) (by decide) (by decide)))
  have F_a_exit_22 := F_a_exit_16.other W22 (Or.inr (slot_ne (Or.inr (hw _ (List.mem_of_getElem? (i := 25) rfl))) (Or.inr (hw _ (List.mem_of_getElem? (i := 27) rfl))) (by decide) (t := (.object "java/lang/String")) (t' := .int) (by decide) (by decide)))
  have F_a_distance_22 := F_a_distance_16.other W22 (Or.inr (slot_ne (Or.inr (hw _ (List.mem_of_getElem? (i := 29) rfl))) (Or.inr (hw _ (List.mem_of_getElem? (i := 27) rfl))) (by decide) (t := .double) (t' := .int) (by decide) (by decide)))
  have F_a_degree_22 := F_a_degree_16.same W22
  have K22 := K16.wr W22 (Or.inl (List.mem_of_getElem? (i := 0) rfl))
  have N22 := Fr.snoc X22 N16 ga
  have Z22 : n0 ≤ h22.size := Nat.le_trans Z16 (Keep.of_wr W22).1
  refine Dn.st st22 ?_
  show Dn p e below s _ _ _ (T22.setTop (mkF m 25 #[.val (.ref a), .val (.ref x1), .val (.ref x2), .val (.ref x3), .val (.int dg), .val (.double ds), .second] []))
  refine Dn.st (fun _ kk => XS.aloadN X22.here hx rfl (hb hby d1_25) rfl rfl (XS.dload X22.here hx rfl (hb hby d1_26) rfl  (kk))) ?_
  show Dn p e below s _ _ _ (T22.setTop (mkF m 28 #[.val (.ref a), .val (.ref x1), .val (.ref x2), .val (.ref x3), .val (.int dg), .val (.double ds), .second] [(.double ds), (.ref a)]))
  obtain ⟨T28, h28, X28, e28, W28, st28⟩ := putF X22 hx hZ hown (host := "") (Or.inl (hw _ (List.mem_of_getElem? (i := 28) rfl))) Via.refl e22 F_a_distance_22 E_a_22 (Or.inr ⟨(hw _ (List.mem_of_getElem? (i := 29) rfl)), rfl, hnm⟩) (hw _ (List.mem_of_getElem? (i := 2) rfl)) (ty := .double) (by decide) rfl rfl (g := (mkF m 28 #[.val (.ref a), .val (.ref x1), .val (.ref x2), .val (.ref x3), .val (.int dg), .val (.double ds), .second] [(.double ds), (.ref a)])) rfl rfl (hb hby d1_28)
  have E_a_28 := E_a_22.wr W28
  have F_a_responder_28 := F_a_responder_22.other W28 (Or.inr (slot_ne (Or.inr (hw _ (List.mem_of_getElem? (i := 21) rfl))) (Or.inr (hw _ (List.mem_of_getElem? (i := 29) rfl))) (by decide) (t := (.object "java/lang/String")) (t' := .double) (by decide) (by decide)))
  have F_a_approach_28 := F_a_approach_22.other W28 (Or.inr (slot_ne (Or.inr (hw _ (List.mem_of_getElem? (i := 23) rfl))) (Or.inr (hw _ (List.mem_of_getElem? (i := 29) rfl))) (by decide) (t := (.object "java/lang/String")) (t' := .double) (by decide) (by decide)))
  have F_a_exit_28 := F_a_exit_22.other W28 (Or.inr (slot_ne (Or.inr (hw _ (List.mem_of_getElem? (i := 25) rfl))) (Or.inr (hw _ (List.mem_of_getElem? (i := 29) rfl))) (by decide) (t := (.object "java/lang/String")) (t' := .double) (by decide) (by decide)))
  have F_a_degree_28 := F_a_degree_22.other W28 (Or.inr (slot_ne (Or.inr (hw _ (List.mem_of_getElem? (i := 27) rfl))) (Or.inr (hw _ (List.mem_of_getElem? (i := 29) rfl))) (by decide) (t := .int) (t' := .double) (by decide) (by decide)))
  have F_a_distance_28 := F_a_distance_22.same W28
  have K28 := K22.wr W28 (Or.inl (List.mem_of_getElem? (i := 0) rfl))
  have N28 := Fr.snoc X28 N22 ga
  have Z28 : n0 ≤ h28.size := Nat.le_trans Z22 (Keep.of_wr W28).1
  refine Dn.st st28 ?_
  show Dn p e below s _ _ _ (T28.setTop (mkF m 31 #[.val (.ref a), .val (.ref x1), .val (.ref x2), .val (.ref x3), .val (.int dg), .val (.double ds), .second] []))
  exact Dn.ret0 X28 hlk hx hret (hb hby d1_31) (by rw [e28]; exact ⟨rfl, N28, K28, E_a_28, F_a_responder_28, F_a_approach_28, F_a_exit_28, F_a_degree_28, F_a_distance_28⟩) (by decide) (by decide)

theorem d3_0 : decode prog_20_method_7_code 0 = .ok (.aload_n 0, 1) := by decide +kernel
theorem d3_1 : decode prog_20_method_7_code 1 = .ok (.getfield 23, 3) := by decide +kernel
theorem d3_4 : decode prog_20_method_7_code 4 = .ok (.dload_n 1, 1) := by decide +kernel
theorem d3_5 : decode prog_20_method_7_code 5 = .ok (.dcmp .g, 1) := by decide +kernel
theorem d3_6 : decode prog_20_method_7_code 6 = .ok (.ifCond .gt 11, 3) := by decide +kernel
theorem d3_9 : decode prog_20_method_7_code 9 = .ok (.aload_n 0, 1) := by decide +kernel
theorem d3_10 : decode prog_20_method_7_code 10 = .ok (.getfield 19, 3) := by decide +kernel
theorem d3_13 : decode prog_20_method_7_code 13 = .ok (.i2d, 1) := by decide +kernel
theorem d3_14 : decode prog_20_method_7_code 14 = .ok (.goto 13, 3) := by decide +kernel
theorem d3_17 : decode prog_20_method_7_code 17 = .ok (.aload_n 0, 1) := by decide +kernel
theorem d3_18 : decode prog_20_method_7_code 18 = .ok (.getfield 19, 3) := by decide +kernel
theorem d3_21 : decode prog_20_method_7_code 21 = .ok (.i2d, 1) := by decide +kernel
theorem d3_22 : decode prog_20_method_7_code 22 = .ok (.aload_n 0, 1) := by decide +kernel
theorem d3_23 : decode prog_20_method_7_code 23 = .ok (.getfield 23, 3) := by decide +kernel
theorem d3_26 : decode prog_20_method_7_code 26 = .ok (.ddiv, 1) := by decide +kernel
theorem d3_27 : decode prog_20_method_7_code 27 = .ok (.dreturn, 1) := by decide +kernel
theorem ef3_rm3 (m : MethodId) (x0 : Addr) (x1 : UInt64) : entryFrame m #[(.ref x0), (.double x1)] 3 = mkF m 0 #[.val (.ref x0), .val (.double x1), .second] [] := by first | (simp [entryFrame, mkF, argsToLocals, Value.category]; done) | rfl
def Q3 (Z : State) (a : Addr) (nr : UInt64) (dg : Int32) (ds : UInt64) (dI nI : Int) (h0 : Heap) (n0 : Nat) (v : Option Value) (h : Heap) (L : List Loc) : Prop := ∃ z : UInt64, v = some (.double z) ∧ (dI ≤ nI → z = FP.i2d dg) ∧ (nI < dI → z = FP.ddiv (FP.i2d dg) ds) ∧ Fr n0 L ∧ h = h0
set_option maxRecDepth 65536 in
set_option maxHeartbeats 40000000 in
theorem rm3 (l : Launch) (Z : State) (a0 : Array Value) (hw : ∀ d ∈ tables_1, d.before a0 Z = true) (ws : List Jvm.Cond) (a : Addr) (nr : UInt64) (dg : Int32) (ds : UInt64) (dI nI : Int) (h0 : Heap) (n0 : Nat) (Z0 : n0 ≤ h0.size) (hd : DS 0 dI ds) (hn : DS 0 nI nr) (hnn : Jvm.Free.Fl.NoNaN64 (FP.ddiv (FP.i2d dg) ds)) (Fg : Fld Z h0 a "com/example/nudo/nudo/control/priority/PriorityRequest" "degree" "I" (.int dg)) (Fd : Fld Z h0 a "com/example/nudo/nudo/control/priority/PriorityRequest" "distance" "D" (.double ds)) :
    MetFree l (⟨"com/example/nudo/nudo/control/priority/PriorityRequest", "coefficient", "(D)D"⟩ : MethodName) (head1 (Jvm.Cond.code (⟨"com/example/nudo/nudo/control/priority/PriorityRequest", "coefficient", "(D)D"⟩ : MethodName) prog_20_method_7_code 3 (some .double) :: ws) ({ frames := 0, cells := 0, slots := 0, locals := 0 } : Room)) (fun aa UU => aa = #[(.ref a), (.double nr)] ∧ Z.Warmed39 UU.vm ∧ UU.heap = h0) (fun _ _ _ _ _ => True) (fun _ UU oo UU' => ∃ vv LL, oo = .returned vv ∧ Q3 Z a nr dg ds dI nI h0 n0 vv UU'.heap LL ∧ FrameEnd UU oo UU' LL ({ frames := 0, cells := 0, slots := 0, locals := 0 } : Room).cells ({ frames := 0, cells := 0, slots := 0, locals := 0 } : Room).slots) := by
  refine MetFree.of_bodySF (plainFor_of_name pn0) hisR ?_
  intro p e s m args below meth c s₁ Bd hml0 hP hK
  obtain ⟨rfl, hZ, hh⟩ := hP
  have hx := Bd.exec
  have hby := Bd.bytes
  have hlk : meth.locks = false := BodyLoose.notSynchronized Bd
  have hret := Bd.returns
  have hml : c.maxLocals = 3 := hml0
  have hown : s.vm.findClass "com/example/nudo/nudo/control/priority/PriorityRequest" = some m.cls := findClass_of_methodNamed Bd.named
  have hnm := (name_of_methodNamed Bd.named Bd.method).1
  have X0 : Stand p l e ({ frames := 0, cells := 0, slots := 0, locals := 0 } : Room) s m #[(.ref a), (.double nr)] below meth c s₁ [] 0 0 := Stand.of_body Bd
  have e0 : s₁.heap = h0 := by rw [← hh, Bd.state]; rfl
  have N0 := Fr.nil n0
  show Dn p e below s (Q3 Z a nr dg ds dI nI h0 n0) ({ frames := 0, cells := 0, slots := 0, locals := 0 } : Room).cells ({ frames := 0, cells := 0, slots := 0, locals := 0 } : Room).slots (s₁.setTop (entryFrame m #[(.ref a), (.double nr)] 3))
  refine Dn.st (fun _ kk => castTop (ef3_rm3 m a nr) kk) ?_
  show Dn p e below s _ _ _ (s₁.setTop (mkF m 0 #[.val (.ref a), .val (.double nr), .second] []))
  refine Dn.st (fun _ kk => XS.aloadN X0.here hx rfl (hb hby d3_0) rfl rfl (kk)) ?_
  show Dn p e below s _ _ _ (s₁.setTop (mkF m 1 #[.val (.ref a), .val (.double nr), .second] [(.ref a)]))
  obtain ⟨T1, X1, e1, st1⟩ := getF X0 hx hZ hown (host := "") (Or.inl (hw _ (List.mem_of_getElem? (i := 28) rfl))) Via.refl e0 Fd (g := (mkF m 1 #[.val (.ref a), .val (.double nr), .second] [(.ref a)])) rfl rfl (hb hby d3_1)
  refine Dn.st st1 ?_
  show Dn p e below s _ _ _ (T1.setTop (mkF m 4 #[.val (.ref a), .val (.double nr), .second] [(.double ds)]))
  refine Dn.st (fun _ kk => XS.dloadN X1.here hx rfl (hb hby d3_4) rfl  (XS.dcmpS X1.here hx rfl (hb hby d3_5) rfl (DS.cmpV hd hn _) (kk))) ?_
  show Dn p e below s _ _ _ (T1.setTop (mkF m 6 #[.val (.ref a), .val (.double nr), .second] [(.int (c3 dI nI))]))
  by_cases hc6 : (0 : Int32) < (c3 dI nI)
  · have hi6 := (c3_gt _ _).mp hc6
    refine Dn.st (fun _ kk => XS.ifYes X1.here hx rfl (pc0 := 6) (pc' := 17) rfl (hb hby d3_6) rfl ((if0 _ _).trans (tlt hc6).2.2.1) (by decide) (by decide) (XS.aloadN X1.here hx rfl (hb hby d3_17) rfl rfl (kk))) ?_
    show Dn p e below s _ _ _ (T1.setTop (mkF m 18 #[.val (.ref a), .val (.double nr), .second] [(.ref a)]))
    obtain ⟨T18, X18, e18, st18⟩ := getF X1 hx hZ hown (host := "") (Or.inl (hw _ (List.mem_of_getElem? (i := 26) rfl))) Via.refl e1 Fg (g := (mkF m 18 #[.val (.ref a), .val (.double nr), .second] [(.ref a)])) rfl rfl (hb hby d3_18)
    refine Dn.st st18 ?_
    show Dn p e below s _ _ _ (T18.setTop (mkF m 21 #[.val (.ref a), .val (.double nr), .second] [(.int dg)]))
    refine Dn.st (fun _ kk => XS.i2dS X18.here hx rfl (hb hby d3_21) rfl rfl (XS.aloadN X18.here hx rfl (hb hby d3_22) rfl rfl (kk))) ?_
    show Dn p e below s _ _ _ (T18.setTop (mkF m 23 #[.val (.ref a), .val (.double nr), .second] [(.ref a), (.double (FP.i2d dg))]))
    obtain ⟨T23, X23, e23, st23⟩ := getF X18 hx hZ hown (host := "") (Or.inl (hw _ (List.mem_of_getElem? (i := 28) rfl))) Via.refl e18 Fd (g := (mkF m 23 #[.val (.ref a), .val (.double nr), .second] [(.ref a), (.double (FP.i2d dg))])) rfl rfl (hb hby d3_23)
    refine Dn.st st23 ?_
    show Dn p e below s _ _ _ (T23.setTop (mkF m 26 #[.val (.ref a), .val (.double nr), .second] [(.double ds), (.double (FP.i2d dg))]))
    refine Dn.st (fun _ kk => XS.ddivS X23.here hx rfl (hb hby d3_26) rfl hnn rfl (kk)) ?_
    show Dn p e below s _ _ _ (T23.setTop (mkF m 27 #[.val (.ref a), .val (.double nr), .second] [(.double (FP.ddiv (FP.i2d dg) ds))]))
    exact Dn.ret X23 hlk hx hret rfl (Or.inr (Or.inr (Or.inl ⟨rfl, rfl, _, rfl⟩))) (hb hby d3_27) (by rw [e23]; exact ⟨_, rfl, fun hq => absurd hq (by omega), fun _ => rfl, N0, rfl⟩) (by decide) (by decide)
  · have hi6 := mt (c3_gt _ _).mpr hc6
    refine Dn.st (fun _ kk => XS.ifNo X1.here hx rfl (hb hby d3_6) rfl ((if0 _ _).trans (flt hc6).2.2.1) (XS.aloadN X1.here hx rfl (hb hby d3_9) rfl rfl (kk))) ?_
    show Dn p e below s _ _ _ (T1.setTop (mkF m 10 #[.val (.ref a), .val (.double nr), .second] [(.ref a)]))
    obtain ⟨T10, X10, e10, st10⟩ := getF X1 hx hZ hown (host := "") (Or.inl (hw _ (List.mem_of_getElem? (i := 26) rfl))) Via.refl e1 Fg (g := (mkF m 10 #[.val (.ref a), .val (.double nr), .second] [(.ref a)])) rfl rfl (hb hby d3_10)
    refine Dn.st st10 ?_
    show Dn p e below s _ _ _ (T10.setTop (mkF m 13 #[.val (.ref a), .val (.double nr), .second] [(.int dg)]))
    refine Dn.st (fun _ kk => XS.i2dS X10.here hx rfl (hb hby d3_13) rfl rfl (XS.goto X10.here hx rfl (pc0 := 14) (pc' := 27) rfl (hb hby d3_14) (by decide) (by decide) (kk))) ?_
    show Dn p e below s _ _ _ (T10.setTop (mkF m 27 #[.val (.ref a), .val (.double nr), .second] [(.double (FP.i2d dg))]))
    exact Dn.ret X10 hlk hx hret rfl (Or.inr (Or.inr (Or.inl ⟨rfl, rfl, _, rfl⟩))) (hb hby d3_27) (by rw [e10]; exact ⟨_, rfl, fun _ => rfl, fun hq => absurd hq (by omega), N0, rfl⟩) (by decide) (by decide)

theorem pd0 : parseMethodDescriptor "(Ljava/lang/String;Ljava/lang/String;Ljava/lang/String;ID)V" = some ⟨[(.object "java/lang/String"), (.object "java/lang/String"), (.object "java/lang/String"), .int, .double], none⟩ := by decide +kernel
theorem pd1 : parseMethodDescriptor "(D)D" = some ⟨[.double], some .double⟩ := by decide +kernel
theorem pn1 : plainName "com/example/nudo/nudo/control/priority/PriorityRequestCoefficientPinLaw" = true := by first | (simp [plainName, overriddenIn]; done) | decide +kernel
theorem ef0_rm0 (m : MethodId) (x0 : Int32) (x1 : Int32) (x2 : Int32) (x3 : Int32) : entryFrame m #[(.int x0), (.int x1), (.int x2), (.int x3)] maxLocals = mkF m 0 #[.val (.int x0), .val (.int x1), .val (.int x2), .val (.int x3), .unset, .unset, .unset, .unset, .unset, .unset, .unset, .unset] [] := by first | (simp [entryFrame, mkF, argsToLocals, Value.category, maxLocals]; done) | rfl
def Q0 (Z : State) (pa : Int32) (pb : Int32) (pc : Int32) (pe : Int32) (h0 : Heap) (n0 : Nat) (v : Option Value) (h : Heap) (L : List Loc) : Prop := v = some (.int 1) ∧ Fr n0 L
set_option maxRecDepth 65536 in
set_option maxHeartbeats 40000000 in
theorem rm0 (l : Launch) (Z : State) (a0 : Array Value) (hw : ∀ d ∈ tables_1, d.before a0 Z = true) (ws : List Jvm.Cond) (pa : Int32) (pb : Int32) (pc : Int32) (pe : Int32) (h0 : Heap) (n0 : Nat) (Z0 : n0 ≤ h0.size) :
    MetFree l x (head1 (Jvm.Cond.code x code maxLocals ret :: ws) room_1) (fun aa UU => aa = #[(.int pa), (.int pb), (.int pc), (.int pe)] ∧ Z.Warmed39 UU.vm ∧ UU.heap = h0) (fun _ _ _ _ _ => True) (fun _ UU oo UU' => ∃ vv LL, oo = .returned vv ∧ Q0 Z pa pb pc pe h0 n0 vv UU'.heap LL ∧ ReturnedEndW UU oo UU' LL 16 3200) := by
  refine MetFree.of_bodySF (plainFor_of_name pn1) hisR ?_
  intro p e s m args below meth c s₁ Bd hml0 hP hK
  obtain ⟨rfl, hZ, hh⟩ := hP
  have hx := Bd.exec
  have hby := Bd.bytes
  have hlk : meth.locks = false := BodyLoose.notSynchronized Bd
  have hret := Bd.returns
  have hml : c.maxLocals = 12 := hml0
  have hown : s.vm.findClass "com/example/nudo/nudo/control/priority/PriorityRequestCoefficientPinLaw" = some m.cls := findClass_of_methodNamed Bd.named
  have hnm := (name_of_methodNamed Bd.named Bd.method).1
  have X0 : Stand p l e room_1 s m #[(.int pa), (.int pb), (.int pc), (.int pe)] below meth c s₁ [] 0 0 := Stand.of_body Bd
  have e0 : s₁.heap = h0 := by rw [← hh, Bd.state]; rfl
  have N0 := Fr.nil n0
  have r_pa := rng32 pa
  have r_pb := rng32 pb
  have r_pc := rng32 pc
  have r_pe := rng32 pe
  show Dw p e below s (Q0 Z pa pb pc pe h0 n0) 16 3200 (s₁.setTop (entryFrame m #[(.int pa), (.int pb), (.int pc), (.int pe)] maxLocals))
  refine Dw.st (fun _ kk => castTop (ef0_rm0 m pa pb pc pe) kk) ?_
  show Dw p e below s _ _ _ (s₁.setTop (mkF m 0 #[.val (.int pa), .val (.int pb), .val (.int pc), .val (.int pe), .unset, .unset, .unset, .unset, .unset, .unset, .unset, .unset] []))
  refine Dw.st (fun _ kk => XS.iloadN X0.here hx rfl (hb hby at_0) rfl  (XS.sipush X0.here hx rfl (hb hby at_1) (XS.iand X0.here hx rfl (hb hby at_4) rfl (kk)))) ?_
  show Dw p e below s _ _ _ (s₁.setTop (mkF m 5 #[.val (.int pa), .val (.int pb), .val (.int pc), .val (.int pe), .unset, .unset, .unset, .unset, .unset, .unset, .unset, .unset] [(.int (pa &&& (255 : Int32)))]))
  generalize hv4 : ((pa &&& (255 : Int32)) : Int32) = v4
  have q4 : v4.toInt = pa.toInt % 256 := by have qq := c_mask pa (255 : Int32) 8 (by decide) (by decide); rw [hv4] at qq; exact qq
  have r4 := rng32 v4
  show Dw p e below s _ _ _ (s₁.setTop (mkF m 5 #[.val (.int pa), .val (.int pb), .val (.int pc), .val (.int pe), .unset, .unset, .unset, .unset, .unset, .unset, .unset, .unset] [(.int v4)]))
  refine Dw.st (fun _ kk => XS.iconst X0.here hx rfl (hb hby at_5) (XS.iadd X0.here hx rfl (hb hby at_6) rfl (kk))) ?_
  show Dw p e below s _ _ _ (s₁.setTop (mkF m 7 #[.val (.int pa), .val (.int pb), .val (.int pc), .val (.int pe), .unset, .unset, .unset, .unset, .unset, .unset, .unset, .unset] [(.int (v4 + (1 : Int32)))]))
  generalize hv6 : ((v4 + (1 : Int32)) : Int32) = v6
  have q6 : (v6.toInt - (v4.toInt + 1)) % 4294967296 = 0 := by have qq := c_iadd v4 (1 : Int32); rw [hv6] at qq; exact qq
  have r6 := rng32 v6
  show Dw p e below s _ _ _ (s₁.setTop (mkF m 7 #[.val (.int pa), .val (.int pb), .val (.int pc), .val (.int pe), .unset, .unset, .unset, .unset, .unset, .unset, .unset, .unset] [(.int v6)]))
  refine Dw.st (fun _ kk => XS.istore X0.here hx rfl (hb hby at_7) rfl (l' := #[.val (.int pa), .val (.int pb), .val (.int pc), .val (.int pe), .val (.int v6), .unset, .unset, .unset, .unset, .unset, .unset, .unset]) rfl (XS.iloadN X0.here hx rfl (hb hby at_9) rfl  (XS.bipush X0.here hx rfl (hb hby at_10) (XS.ishr X0.here hx rfl (hb hby at_12) rfl (kk))))) ?_
  show Dw p e below s _ _ _ (s₁.setTop (mkF m 13 #[.val (.int pa), .val (.int pb), .val (.int pc), .val (.int pe), .val (.int v6), .unset, .unset, .unset, .unset, .unset, .unset, .unset] [(.int (pb >>> ((8 : Int32) &&& 31)))]))
  generalize hv12 : ((pb >>> ((8 : Int32) &&& 31)) : Int32) = v12
  have q12 : v12.toInt = pb.toInt / 256 := by have qq := c_ishr pb (8 : Int32) 8 (by decide); rw [hv12] at qq; exact qq
  have r12 := rng32 v12
  show Dw p e below s _ _ _ (s₁.setTop (mkF m 13 #[.val (.int pa), .val (.int pb), .val (.int pc), .val (.int pe), .val (.int v6), .unset, .unset, .unset, .unset, .unset, .unset, .unset] [(.int v12)]))
  refine Dw.st (fun _ kk => XS.istore X0.here hx rfl (hb hby at_13) rfl (l' := #[.val (.int pa), .val (.int pb), .val (.int pc), .val (.int pe), .val (.int v6), .val (.int v12), .unset, .unset, .unset, .unset, .unset, .unset]) rfl (XS.iloadN X0.here hx rfl (hb hby at_15) rfl  (X0.ldcInt hx hown (mvT hZ (hw _ (List.mem_of_getElem? (i := 0) rfl))) (g := (mkF m 16 #[.val (.int pa), .val (.int pb), .val (.int pc), .val (.int pe), .val (.int v6), .val (.int v12), .unset, .unset, .unset, .unset, .unset, .unset] [(.int pc)])) rfl (hb hby at_16) _ (XS.iand X0.here hx rfl (hb hby at_18) rfl (kk))))) ?_
  show Dw p e below s _ _ _ (s₁.setTop (mkF m 19 #[.val (.int pa), .val (.int pb), .val (.int pc), .val (.int pe), .val (.int v6), .val (.int v12), .unset, .unset, .unset, .unset, .unset, .unset] [(.int (pc &&& (2147483647 : Int32)))]))
  generalize hv18 : ((pc &&& (2147483647 : Int32)) : Int32) = v18
  have q18 : v18.toInt = pc.toInt % 2147483648 := by have qq := c_mask pc (2147483647 : Int32) 31 (by decide) (by decide); rw [hv18] at qq; exact qq
  have r18 := rng32 v18
  show Dw p e below s _ _ _ (s₁.setTop (mkF m 19 #[.val (.int pa), .val (.int pb), .val (.int pc), .val (.int pe), .val (.int v6), .val (.int v12), .unset, .unset, .unset, .unset, .unset, .unset] [(.int v18)]))
  refine Dw.st (fun _ kk => XS.iload X0.here hx rfl (hb hby at_19) rfl  (iremM X0 hx rfl (hb hby at_21) rfl (by intro hz; have hz' := congrArg Int32.toInt hz; have : (0 : Int32).toInt = 0 := rfl; omega) (kk))) ?_
  show Dw p e below s _ _ _ (s₁.setTop (mkF m 22 #[.val (.int pa), .val (.int pb), .val (.int pc), .val (.int pe), .val (.int v6), .val (.int v12), .unset, .unset, .unset, .unset, .unset, .unset] [(.int (v18 % v6))]))
  generalize hv21 : ((v18 % v6) : Int32) = v21
  have q21 := c_iremV v18 v6
  rw [hv21] at q21
  have r21 := rng32 v21
  show Dw p e below s _ _ _ (s₁.setTop (mkF m 22 #[.val (.int pa), .val (.int pb), .val (.int pc), .val (.int pe), .val (.int v6), .val (.int v12), .unset, .unset, .unset, .unset, .unset, .unset] [(.int v21)]))
  refine Dw.st (fun _ kk => XS.istore X0.here hx rfl (hb hby at_22) rfl (l' := #[.val (.int pa), .val (.int pb), .val (.int pc), .val (.int pe), .val (.int v6), .val (.int v12), .val (.int v21), .unset, .unset, .unset, .unset, .unset]) rfl (XS.iload X0.here hx rfl (hb hby at_24) rfl  (XS.iload X0.here hx rfl (hb hby at_26) rfl  (XS.imul X0.here hx rfl (hb hby at_28) rfl (kk))))) ?_
  show Dw p e below s _ _ _ (s₁.setTop (mkF m 29 #[.val (.int pa), .val (.int pb), .val (.int pc), .val (.int pe), .val (.int v6), .val (.int v12), .val (.int v21), .unset, .unset, .unset, .unset, .unset] [(.int (v12 * v6))]))
  generalize hv28 : ((v12 * v6) : Int32) = v28
  have q28 : (v28.toInt - (v12.toInt * v6.toInt)) % 4294967296 = 0 := by have qq := c_imul v12 v6; rw [hv28] at qq; exact qq
  have r28 := rng32 v28
  have kd := own_kd (k := v12.toInt) (d := v6.toInt) (by omega) (by omega) (by omega) (by omega)
  obtain ⟨kd', hkd⟩ : ∃ z, z = v12.toInt * v6.toInt := ⟨_, rfl⟩
  rw [← hkd] at q28 kd
  have eq28 : v28.toInt = kd' := by omega
  show Dw p e below s _ _ _ (s₁.setTop (mkF m 29 #[.val (.int pa), .val (.int pb), .val (.int pc), .val (.int pe), .val (.int v6), .val (.int v12), .val (.int v21), .unset, .unset, .unset, .unset, .unset] [(.int v28)]))
  refine Dw.st (fun _ kk => XS.iload X0.here hx rfl (hb hby at_29) rfl  (XS.iadd X0.here hx rfl (hb hby at_31) rfl (kk))) ?_
  show Dw p e below s _ _ _ (s₁.setTop (mkF m 32 #[.val (.int pa), .val (.int pb), .val (.int pc), .val (.int pe), .val (.int v6), .val (.int v12), .val (.int v21), .unset, .unset, .unset, .unset, .unset] [(.int (v28 + v21))]))
  generalize hv31 : ((v28 + v21) : Int32) = v31
  have q31 : (v31.toInt - (v28.toInt + v21.toInt)) % 4294967296 = 0 := by have qq := c_iadd v28 v21; rw [hv31] at qq; exact qq
  have r31 := rng32 v31
  show Dw p e below s _ _ _ (s₁.setTop (mkF m 32 #[.val (.int pa), .val (.int pb), .val (.int pc), .val (.int pe), .val (.int v6), .val (.int v12), .val (.int v21), .unset, .unset, .unset, .unset, .unset] [(.int v31)]))
  refine Dw.st (fun _ kk => XS.istore X0.here hx rfl (hb hby at_32) rfl (l' := #[.val (.int pa), .val (.int pb), .val (.int pc), .val (.int pe), .val (.int v6), .val (.int v12), .val (.int v21), .val (.int v31), .unset, .unset, .unset, .unset]) rfl (XS.iload X0.here hx rfl (hb hby at_34) rfl  (XS.iloadN X0.here hx rfl (hb hby at_36) rfl  (XS.bipush X0.here hx rfl (hb hby at_37) (XS.iand X0.here hx rfl (hb hby at_39) rfl (kk)))))) ?_
  show Dw p e below s _ _ _ (s₁.setTop (mkF m 40 #[.val (.int pa), .val (.int pb), .val (.int pc), .val (.int pe), .val (.int v6), .val (.int v12), .val (.int v21), .val (.int v31), .unset, .unset, .unset, .unset] [(.int (pe &&& (7 : Int32))), (.int v6)]))
  generalize hv39 : ((pe &&& (7 : Int32)) : Int32) = v39
  have q39 : v39.toInt = pe.toInt % 8 := by have qq := c_mask pe (7 : Int32) 3 (by decide) (by decide); rw [hv39] at qq; exact qq
  have r39 := rng32 v39
  show Dw p e below s _ _ _ (s₁.setTop (mkF m 40 #[.val (.int pa), .val (.int pb), .val (.int pc), .val (.int pe), .val (.int v6), .val (.int v12), .val (.int v21), .val (.int v31), .unset, .unset, .unset, .unset] [(.int v39), (.int v6)]))
  refine Dw.st (fun _ kk => XS.iconst X0.here hx rfl (hb hby at_40) (XS.isub X0.here hx rfl (hb hby at_41) rfl (kk))) ?_
  show Dw p e below s _ _ _ (s₁.setTop (mkF m 42 #[.val (.int pa), .val (.int pb), .val (.int pc), .val (.int pe), .val (.int v6), .val (.int v12), .val (.int v21), .val (.int v31), .unset, .unset, .unset, .unset] [(.int (v39 - (4 : Int32))), (.int v6)]))
  generalize hv41 : ((v39 - (4 : Int32)) : Int32) = v41
  have q41 : (v41.toInt - (v39.toInt - 4)) % 4294967296 = 0 := by have qq := c_isub v39 (4 : Int32); rw [hv41] at qq; exact qq
  have r41 := rng32 v41
  show Dw p e below s _ _ _ (s₁.setTop (mkF m 42 #[.val (.int pa), .val (.int pb), .val (.int pc), .val (.int pe), .val (.int v6), .val (.int v12), .val (.int v21), .val (.int v31), .unset, .unset, .unset, .unset] [(.int v41), (.int v6)]))
  refine Dw.st (fun _ kk => XS.iadd X0.here hx rfl (hb hby at_42) rfl (kk)) ?_
  show Dw p e below s _ _ _ (s₁.setTop (mkF m 43 #[.val (.int pa), .val (.int pb), .val (.int pc), .val (.int pe), .val (.int v6), .val (.int v12), .val (.int v21), .val (.int v31), .unset, .unset, .unset, .unset] [(.int (v6 + v41))]))
  generalize hv42 : ((v6 + v41) : Int32) = v42
  have q42 : (v42.toInt - (v6.toInt + v41.toInt)) % 4294967296 = 0 := by have qq := c_iadd v6 v41; rw [hv42] at qq; exact qq
  have r42 := rng32 v42
  show Dw p e below s _ _ _ (s₁.setTop (mkF m 43 #[.val (.int pa), .val (.int pb), .val (.int pc), .val (.int pe), .val (.int v6), .val (.int v12), .val (.int v21), .val (.int v31), .unset, .unset, .unset, .unset] [(.int v42)]))
  refine Dw.st (fun _ kk => XS.istore X0.here hx rfl (hb hby at_43) rfl (l' := #[.val (.int pa), .val (.int pb), .val (.int pc), .val (.int pe), .val (.int v6), .val (.int v12), .val (.int v21), .val (.int v31), .val (.int v42), .unset, .unset, .unset]) rfl (kk)) ?_
  show Dw p e below s _ _ _ (s₁.setTop (mkF m 45 #[.val (.int pa), .val (.int pb), .val (.int pc), .val (.int pe), .val (.int v6), .val (.int v12), .val (.int v21), .val (.int v31), .val (.int v42), .unset, .unset, .unset] []))
  obtain ⟨T45, h45, X45, e45, E45, A45, D45, -, st45⟩ := newO X0 hx hZ hown (hw _ (List.mem_of_getElem? (i := 1) rfl)) (hw _ (List.mem_of_getElem? (i := 2) rfl)) (hw _ (List.mem_of_getElem? (i := 3) rfl)) e0 (g := (mkF m 45 #[.val (.int pa), .val (.int pb), .val (.int pc), .val (.int pe), .val (.int v6), .val (.int v12), .val (.int v21), .val (.int v31), .val (.int v42), .unset, .unset, .unset] [])) rfl (hb hby at_45) (by decide) (by decide)
  obtain ⟨b45, g45⟩ : ∃ z, z = h0.size := ⟨_, rfl⟩
  rw [← g45] at A45 D45 st45
  have gn_b45 : n0 ≤ b45 := Nat.le_trans Z0 (Nat.le_of_eq g45.symm)
  have Z45 : n0 ≤ h45.size := Nat.le_trans Z0 E45.1
  have F_b45_responder : Fld Z h45 b45 "com/example/nudo/nudo/control/priority/PriorityRequest" "responder" "Ljava/lang/String;" .null := D45 (Or.inr (hw _ (List.mem_of_getElem? (i := 21) rfl))) (ty := (.object "java/lang/String")) (by decide)
  have F_b45_approach : Fld Z h45 b45 "com/example/nudo/nudo/control/priority/PriorityRequest" "approach" "Ljava/lang/String;" .null := D45 (Or.inr (hw _ (List.mem_of_getElem? (i := 23) rfl))) (ty := (.object "java/lang/String")) (by decide)
  have F_b45_exit : Fld Z h45 b45 "com/example/nudo/nudo/control/priority/PriorityRequest" "exit" "Ljava/lang/String;" .null := D45 (Or.inr (hw _ (List.mem_of_getElem? (i := 25) rfl))) (ty := (.object "java/lang/String")) (by decide)
  have F_b45_degree : Fld Z h45 b45 "com/example/nudo/nudo/control/priority/PriorityRequest" "degree" "I" (.int (0 : Int32)) := D45 (Or.inr (hw _ (List.mem_of_getElem? (i := 27) rfl))) (ty := .int) (by decide)
  have F_b45_distance : Fld Z h45 b45 "com/example/nudo/nudo/control/priority/PriorityRequest" "distance" "D" (.double (0 : UInt64)) := D45 (Or.inr (hw _ (List.mem_of_getElem? (i := 29) rfl))) (ty := .double) (by decide)
  refine Dw.st st45 ?_
  show Dw p e below s _ _ _ (T45.setTop (mkF m 48 #[.val (.int pa), .val (.int pb), .val (.int pc), .val (.int pe), .val (.int v6), .val (.int v12), .val (.int v21), .val (.int v31), .val (.int v42), .unset, .unset, .unset] [(.ref b45)]))
  refine Dw.st (fun _ kk => XS.dup X45.here hx rfl (hb hby at_48) rfl rfl (kk)) ?_
  show Dw p e below s _ _ _ (T45.setTop (mkF m 49 #[.val (.int pa), .val (.int pb), .val (.int pc), .val (.int pe), .val (.int v6), .val (.int v12), .val (.int v21), .val (.int v31), .val (.int v42), .unset, .unset, .unset] [(.ref b45), (.ref b45)]))
  have hSw := (State.WarmedH.refl s).since (n := h0.size)
  have hkw : h0.size ≤ h45.size := E45.1
  have wS := own_wS hw
  obtain ⟨b49, T49, h49, k49, X49, e49, E49, hSw, hkw, hZ, hown, st49⟩ := ldcS (s := s) (vm0 := s.vm) X45 hx hZ (text := "r") hown (hw _ (List.mem_of_getElem? (i := 4) rfl)) wS e45 hSw hkw (g := (mkF m 49 #[.val (.int pa), .val (.int pb), .val (.int pc), .val (.int pe), .val (.int v6), .val (.int v12), .val (.int v21), .val (.int v31), .val (.int v42), .unset, .unset, .unset] [(.ref b45), (.ref b45)])) rfl (hb hby at_49) (n := 4) (by decide) (by decide) (by decide) (by decide)
  have E_b45_49 := A45.ext E49
  have F_b45_responder_49 := F_b45_responder.ext E49
  have F_b45_approach_49 := F_b45_approach.ext E49
  have F_b45_exit_49 := F_b45_exit.ext E49
  have F_b45_degree_49 := F_b45_degree.ext E49
  have F_b45_distance_49 := F_b45_distance.ext E49
  have Z49 : n0 ≤ h49.size := Nat.le_trans Z45 E49.1
  refine Dw.st st49 ?_
  show Dw p e below s _ _ _ (T49.setTop (mkF m 51 #[.val (.int pa), .val (.int pb), .val (.int pc), .val (.int pe), .val (.int v6), .val (.int v12), .val (.int v21), .val (.int v31), .val (.int v42), .unset, .unset, .unset] [(.ref b49), (.ref b45), (.ref b45)]))
  obtain ⟨b51, T51, h51, k51, X51, e51, E51, hSw, hkw, hZ, hown, st51⟩ := ldcS X49 hx hZ (text := "a") hown (hw _ (List.mem_of_getElem? (i := 12) rfl)) wS e49 hSw hkw (g := (mkF m 51 #[.val (.int pa), .val (.int pb), .val (.int pc), .val (.int pe), .val (.int v6), .val (.int v12), .val (.int v21), .val (.int v31), .val (.int v42), .unset, .unset, .unset] [(.ref b49), (.ref b45), (.ref b45)])) rfl (hb hby at_51) (n := 4) (by decide) (by decide) (by decide) (by decide)
  have E_b45_51 := E_b45_49.ext E51
  have F_b45_responder_51 := F_b45_responder_49.ext E51
  have F_b45_approach_51 := F_b45_approach_49.ext E51
  have F_b45_exit_51 := F_b45_exit_49.ext E51
  have F_b45_degree_51 := F_b45_degree_49.ext E51
  have F_b45_distance_51 := F_b45_distance_49.ext E51
  have Z51 : n0 ≤ h51.size := Nat.le_trans Z49 E51.1
  refine Dw.st st51 ?_
  show Dw p e below s _ _ _ (T51.setTop (mkF m 53 #[.val (.int pa), .val (.int pb), .val (.int pc), .val (.int pe), .val (.int v6), .val (.int v12), .val (.int v21), .val (.int v31), .val (.int v42), .unset, .unset, .unset] [(.ref b51), (.ref b49), (.ref b45), (.ref b45)]))
  obtain ⟨b53, T53, h53, k53, X53, e53, E53, hSw, hkw, hZ, hown, st53⟩ := ldcS X51 hx hZ (text := "x") hown (hw _ (List.mem_of_getElem? (i := 13) rfl)) wS e51 hSw hkw (g := (mkF m 53 #[.val (.int pa), .val (.int pb), .val (.int pc), .val (.int pe), .val (.int v6), .val (.int v12), .val (.int v21), .val (.int v31), .val (.int v42), .unset, .unset, .unset] [(.ref b51), (.ref b49), (.ref b45), (.ref b45)])) rfl (hb hby at_53) (n := 4) (by decide) (by decide) (by decide) (by decide)
  have E_b45_53 := E_b45_51.ext E53
  have F_b45_responder_53 := F_b45_responder_51.ext E53
  have F_b45_approach_53 := F_b45_approach_51.ext E53
  have F_b45_exit_53 := F_b45_exit_51.ext E53
  have F_b45_degree_53 := F_b45_degree_51.ext E53
  have F_b45_distance_53 := F_b45_distance_51.ext E53
  have Z53 : n0 ≤ h53.size := Nat.le_trans Z51 E53.1
  refine Dw.st st53 ?_
  refine Dw.of hSw ?_
  show Dn p e below _ _ _ _ (T53.setTop (mkF m 55 #[.val (.int pa), .val (.int pb), .val (.int pc), .val (.int pe), .val (.int v6), .val (.int v12), .val (.int v21), .val (.int v31), .val (.int v42), .unset, .unset, .unset] [(.ref b53), (.ref b51), (.ref b49), (.ref b45), (.ref b45)]))
  refine Dn.st (fun _ kk => XS.iload X53.here hx rfl (hb hby at_55) rfl  (XS.iload X53.here hx rfl (hb hby at_57) rfl  (kk))) ?_
  show Dn p e below _ _ _ _ (T53.setTop (mkF m 59 #[.val (.int pa), .val (.int pb), .val (.int pc), .val (.int pe), .val (.int v6), .val (.int v12), .val (.int v21), .val (.int v31), .val (.int v42), .unset, .unset, .unset] [(.int v6), (.int v31), (.ref b53), (.ref b51), (.ref b49), (.ref b45), (.ref b45)]))
  have nn59 := own_nn (DS.i2d v31) (DS.i2d v6) (by omega) (by omega) (by omega)
  refine Dn.st (fun _ kk => XS.i2dS X53.here hx rfl (hb hby at_59) rfl rfl (kk)) ?_
  show Dn p e below _ _ _ _ (T53.setTop (mkF m 60 #[.val (.int pa), .val (.int pb), .val (.int pc), .val (.int pe), .val (.int v6), .val (.int v12), .val (.int v21), .val (.int v31), .val (.int v42), .unset, .unset, .unset] [(.double (FP.i2d v6)), (.int v31), (.ref b53), (.ref b51), (.ref b49), (.ref b45), (.ref b45)]))
  obtain ⟨_, _, ⟨T60, L60, k60, n60⟩, -, X60, ⟨Lc60, hQ60, l60, y60, z60⟩, st60⟩ := X53.specialBack hx (y := (⟨"com/example/nudo/nudo/control/priority/PriorityRequest", "<init>", "(Ljava/lang/String;Ljava/lang/String;Ljava/lang/String;ID)V"⟩ : MethodName)) rfl hown (mvT hZ (hw _ (List.mem_of_getElem? (i := 14) rfl))) (mvT hZ (hw _ (List.mem_of_getElem? (i := 15) rfl))) (mvT hZ (hw _ (List.mem_of_getElem? (i := 16) rfl))) (by decide) (backOf (W := 1) (rm1 l Z a0 hw [] b45 b49 b51 b53 v31 (FP.i2d v6)  h53 n0 Z53 gn_b45 E_b45_53 F_b45_responder_53 F_b45_approach_53 F_b45_exit_53 F_b45_degree_53 F_b45_distance_53 ) hZ (hw _ (List.mem_of_getElem? (i := 16) rfl)) (hw _ (List.mem_of_getElem? (i := 3) rfl)) (by decide) (by decide)) (g := (mkF m 60 #[.val (.int pa), .val (.int pb), .val (.int pc), .val (.int pe), .val (.int v6), .val (.int v12), .val (.int v21), .val (.int v31), .val (.int v42), .unset, .unset, .unset] [(.double (FP.i2d v6)), (.int v31), (.ref b53), (.ref b51), (.ref b49), (.ref b45), (.ref b45)])) rfl (by rw [hml]; rfl) (Steps.refl _) (a := b45) (argsL := [(.ref b49), (.ref b51), (.ref b53), (.int v31), (.double (FP.i2d v6))]) (rest := [(.ref b45)]) (lenOf pd0 rfl) rfl (by show 2 * 0 + _ ≤ _; exact Nat.le_of_eq rfl) (hb hby at_60) (fun _ _ => ⟨rfl, e53, (by decide : 7 + 0 ≤ _), (by decide : 29 + 0 ≤ _)⟩)
  dsimp only [Pt.U, Pt.locs, Pt.cells, Pt.slots] at X60 l60 y60 z60 st60 hQ60
  subst l60 y60 z60
  obtain ⟨rfl, Nq60, K60, E_b45_60, F_b45_responder_60, F_b45_approach_60, F_b45_exit_60, F_b45_degree_60, F_b45_distance_60⟩ := hQ60
  have N60 := Fr.app N0 Nq60
  refine Dn.tr st60 ?_
  have Z60 : n0 ≤ T60.heap.size := Nat.le_trans Z53 K60.1
  show Dn p e below _ _ _ _ (T60.setTop (mkF m 63 #[.val (.int pa), .val (.int pb), .val (.int pc), .val (.int pe), .val (.int v6), .val (.int v12), .val (.int v21), .val (.int v31), .val (.int v42), .unset, .unset, .unset] [(.ref b45)]))
  refine Dn.st (fun _ kk => XS.astore X60.here hx rfl (hb hby at_63) rfl rfl (l' := #[.val (.int pa), .val (.int pb), .val (.int pc), .val (.int pe), .val (.int v6), .val (.int v12), .val (.int v21), .val (.int v31), .val (.int v42), .val (.ref b45), .unset, .unset]) rfl (XS.aload X60.here hx rfl (hb hby at_65) rfl rfl (XS.iload X60.here hx rfl (hb hby at_67) rfl  (XS.i2dS X60.here hx rfl (hb hby at_69) rfl rfl (kk))))) ?_
  show Dn p e below _ _ _ _ (T60.setTop (mkF m 70 #[.val (.int pa), .val (.int pb), .val (.int pc), .val (.int pe), .val (.int v6), .val (.int v12), .val (.int v21), .val (.int v31), .val (.int v42), .val (.ref b45), .unset, .unset] [(.double (FP.i2d v42)), (.ref b45)]))
  obtain ⟨cq70, kq70, q70a, q70b, q70c⟩ := isOf hZ rfl E_b45_60
  obtain ⟨_, _, ⟨T70, L70, k70, n70⟩, -, X70, ⟨Lc70, hQ70, l70, y70, z70⟩, st70⟩ := X60.virtualBack hx (y := (⟨"com/example/nudo/nudo/control/priority/PriorityRequest", "coefficient", "(D)D"⟩ : MethodName)) (z := (⟨"com/example/nudo/nudo/control/priority/PriorityRequest", "coefficient", "(D)D"⟩ : MethodName)) hown (mvT hZ (hw _ (List.mem_of_getElem? (i := 30) rfl))) (mvT hZ (hw _ (List.mem_of_getElem? (i := 31) rfl))) (notFace_of_selects (args := #[]) (mvT hZ (hw _ (List.mem_of_getElem? (i := 33) rfl)))) (mvT hZ (hw _ (List.mem_of_getElem? (i := 33) rfl))) (mvT hZ (hw _ (List.mem_of_getElem? (i := 32) rfl))) (by decide) (backOf (W := 0) (rm3 l Z a0 hw [] b45 (FP.i2d v42) v31 (FP.i2d v6) v6.toInt v42.toInt T60.heap n0 Z60 (DS.i2d v6) (DS.i2d v42) nn59 F_b45_degree_60 F_b45_distance_60) hZ (hw _ (List.mem_of_getElem? (i := 34) rfl)) (hw _ (List.mem_of_getElem? (i := 3) rfl)) (by decide) (by decide)) q70a q70c (g := (mkF m 70 #[.val (.int pa), .val (.int pb), .val (.int pc), .val (.int pe), .val (.int v6), .val (.int v12), .val (.int v21), .val (.int v31), .val (.int v42), .val (.ref b45), .unset, .unset] [(.double (FP.i2d v42)), (.ref b45)])) rfl (by rw [hml]; rfl) (Steps.refl _) (argsL := [(.double (FP.i2d v42))]) (rest := []) (lenOf pd1 rfl) rfl (by show 2 * 0 + _ ≤ _; exact Nat.le_of_eq rfl) (hb hby at_70) (fun _ _ => ⟨rfl, rfl, (by decide : 7 + 0 ≤ _), (by decide : 29 + 0 ≤ _)⟩)
  dsimp only [Pt.U, Pt.locs, Pt.cells, Pt.slots] at X70 l70 y70 z70 st70 hQ70
  subst l70 y70 z70
  obtain ⟨gt, rfl, g1, g2, Nq70, hh70⟩ := hQ70
  have N70 := Fr.app N60 Nq70
  refine Dn.tr st70 ?_
  show Dn p e below _ _ _ _ (T70.setTop (mkF m 73 #[.val (.int pa), .val (.int pb), .val (.int pc), .val (.int pe), .val (.int v6), .val (.int v12), .val (.int v21), .val (.int v31), .val (.int v42), .val (.ref b45), .unset, .unset] [(.double gt)]))
  refine Dn.st (fun _ kk => XS.dstore X70.here hx rfl (hb hby at_73) rfl (l' := #[.val (.int pa), .val (.int pb), .val (.int pc), .val (.int pe), .val (.int v6), .val (.int v12), .val (.int v21), .val (.int v31), .val (.int v42), .val (.ref b45), .val (.double gt), .second]) rfl (XS.iload X70.here hx rfl (hb hby at_75) rfl  (XS.iload X70.here hx rfl (hb hby at_77) rfl  (kk)))) ?_
  show Dn p e below _ _ _ _ (T70.setTop (mkF m 79 #[.val (.int pa), .val (.int pb), .val (.int pc), .val (.int pe), .val (.int v6), .val (.int v12), .val (.int v21), .val (.int v31), .val (.int v42), .val (.ref b45), .val (.double gt), .second] [(.int v42), (.int v6)]))
  by_cases hc79 : v42 < v6
  · have hi79 : v42.toInt < v6.toInt := Int32.lt_iff_toInt_lt.mp hc79
    refine Dn.st (fun _ kk => XS.icmpYes X70.here hx rfl (pc0 := 79) (pc' := 97) rfl (hb hby at_79) rfl (tlt hc79).2.2.1 (by decide) (by decide) (XS.iload X70.here hx rfl (hb hby at_97) rfl  (kk))) ?_
    show Dn p e below _ _ _ _ (T70.setTop (mkF m 99 #[.val (.int pa), .val (.int pb), .val (.int pc), .val (.int pe), .val (.int v6), .val (.int v12), .val (.int v21), .val (.int v31), .val (.int v42), .val (.ref b45), .val (.double gt), .second] [(.int v21)]))
    by_cases hc99 : v21 = (0 : Int32)
    · have hi99 : v21.toInt = 0 := congrArg Int32.toInt hc99
      refine Dn.st (fun _ kk => XS.ifNo X70.here hx rfl (hb hby at_99) rfl ((if0 _ _).trans (teq hc99).2) (XS.dload X70.here hx rfl (hb hby at_102) rfl  (XS.iload X70.here hx rfl (hb hby at_104) rfl  (XS.i2dS X70.here hx rfl (hb hby at_106) rfl rfl (XS.dcmpS X70.here hx rfl (hb hby at_107) rfl (show cmpValue (FP.dcmp gt (FP.i2d v12)) .l = (0 : Int32) from (by rw [g2 (by omega)]; exact (DS.cmpV (DS.div (n := 0) (Q := v12.toInt) (DS.i2d v31) (DS.i2d v6) (by omega) (by show v31.toInt * 1 = v12.toInt * v6.toInt * 1; rw [← hkd]; omega) (by omega) (by decide)) (DS.i2d v12) _).trans ((c3_eq _ _).mpr rfl))) (kk)))))) ?_
      show Dn p e below _ _ _ _ (T70.setTop (mkF m 108 #[.val (.int pa), .val (.int pb), .val (.int pc), .val (.int pe), .val (.int v6), .val (.int v12), .val (.int v21), .val (.int v31), .val (.int v42), .val (.ref b45), .val (.double gt), .second] [(.int (0 : Int32))]))
      have hc108 : (0 : Int32) = (0 : Int32) := by decide
      refine Dn.st (fun _ kk => XS.ifNo X70.here hx rfl (hb hby at_108) rfl ((if0 _ _).trans (teq hc108).2) (XS.iconst X70.here hx rfl (hb hby at_111) (XS.goto X70.here hx rfl (pc0 := 112) (pc' := 116) rfl (hb hby at_112) (by decide) (by decide) (kk)))) ?_
      show Dn p e below _ _ _ _ (T70.setTop (mkF m 116 #[.val (.int pa), .val (.int pb), .val (.int pc), .val (.int pe), .val (.int v6), .val (.int v12), .val (.int v21), .val (.int v31), .val (.int v42), .val (.ref b45), .val (.double gt), .second] [(.int (1 : Int32))]))
      exact Dn.ret X70 hlk hx hret rfl (Or.inl ⟨rfl, Or.inr (Or.inl rfl), _, rfl⟩) (hb hby at_116) (by rw [hh70]; exact ⟨⟨rfl, N70⟩, Nat.le_trans hkw K60.1⟩) (by decide) (by decide)
    · have hi99 : ¬ v21.toInt = 0 := fun qq => hc99 (Int32.toInt_inj.mp qq)
      refine Dn.st (fun _ kk => XS.ifYes X70.here hx rfl (pc0 := 99) (pc' := 117) rfl (hb hby at_99) rfl ((if0 _ _).trans (feq hc99).2) (by decide) (by decide) (XS.iload X70.here hx rfl (hb hby at_117) rfl  (XS.i2dS X70.here hx rfl (hb hby at_119) rfl rfl (XS.dload X70.here hx rfl (hb hby at_120) rfl  (XS.dcmpS X70.here hx rfl (hb hby at_122) rfl (show cmpValue (FP.dcmp (FP.i2d v12) gt) .g = (-1 : Int32) from (by rw [g2 (by omega)]; exact DI.cmpV (((DS.i2d v12).up 10).di (by decide)) (own_between (k := v12.toInt) (r := v21.toInt) (DS.i2d v31) (DS.i2d v6) (by rw [← hkd]; omega) (by omega) (by omega) (by omega) (by omega) (by omega) (by omega)) (by show v12.toInt * 1024 < _; omega) _)) (kk)))))) ?_
      show Dn p e below _ _ _ _ (T70.setTop (mkF m 123 #[.val (.int pa), .val (.int pb), .val (.int pc), .val (.int pe), .val (.int v6), .val (.int v12), .val (.int v21), .val (.int v31), .val (.int v42), .val (.ref b45), .val (.double gt), .second] [(.int (-1 : Int32))]))
      have hc123 : (-1 : Int32) < (0 : Int32) := by decide
      refine Dn.st (fun _ kk => XS.ifNo X70.here hx rfl (hb hby at_123) rfl ((if0 _ _).trans (tlt hc123).2.1) (XS.dload X70.here hx rfl (hb hby at_126) rfl  (XS.iload X70.here hx rfl (hb hby at_128) rfl  (XS.iconst X70.here hx rfl (hb hby at_130) (XS.iadd X70.here hx rfl (hb hby at_131) rfl (kk)))))) ?_
      show Dn p e below _ _ _ _ (T70.setTop (mkF m 132 #[.val (.int pa), .val (.int pb), .val (.int pc), .val (.int pe), .val (.int v6), .val (.int v12), .val (.int v21), .val (.int v31), .val (.int v42), .val (.ref b45), .val (.double gt), .second] [(.int (v12 + (1 : Int32))), (.double gt)]))
      generalize hv131 : ((v12 + (1 : Int32)) : Int32) = v131
      have q131 : (v131.toInt - (v12.toInt + 1)) % 4294967296 = 0 := by have qq := c_iadd v12 (1 : Int32); rw [hv131] at qq; exact qq
      have r131 := rng32 v131
      show Dn p e below _ _ _ _ (T70.setTop (mkF m 132 #[.val (.int pa), .val (.int pb), .val (.int pc), .val (.int pe), .val (.int v6), .val (.int v12), .val (.int v21), .val (.int v31), .val (.int v42), .val (.ref b45), .val (.double gt), .second] [(.int v131), (.double gt)]))
      refine Dn.st (fun _ kk => XS.i2dS X70.here hx rfl (hb hby at_132) rfl rfl (XS.dcmpS X70.here hx rfl (hb hby at_133) rfl (show cmpValue (FP.dcmp gt (FP.i2d v131)) .g = (-1 : Int32) from (by rw [g2 (by omega)]; exact DI.cmpV (own_between (k := v12.toInt) (r := v21.toInt) (DS.i2d v31) (DS.i2d v6) (by rw [← hkd]; omega) (by omega) (by omega) (by omega) (by omega) (by omega) (by omega)) (((DS.i2d v131).up 10).di (by decide)) (by show _ < v131.toInt * 1024; omega) _)) (kk))) ?_
      show Dn p e below _ _ _ _ (T70.setTop (mkF m 134 #[.val (.int pa), .val (.int pb), .val (.int pc), .val (.int pe), .val (.int v6), .val (.int v12), .val (.int v21), .val (.int v31), .val (.int v42), .val (.ref b45), .val (.double gt), .second] [(.int (-1 : Int32))]))
      have hc134 : (-1 : Int32) < (0 : Int32) := by decide
      refine Dn.st (fun _ kk => XS.ifNo X70.here hx rfl (hb hby at_134) rfl ((if0 _ _).trans (tlt hc134).2.1) (XS.iconst X70.here hx rfl (hb hby at_137) (XS.goto X70.here hx rfl (pc0 := 138) (pc' := 142) rfl (hb hby at_138) (by decide) (by decide) (kk)))) ?_
      show Dn p e below _ _ _ _ (T70.setTop (mkF m 142 #[.val (.int pa), .val (.int pb), .val (.int pc), .val (.int pe), .val (.int v6), .val (.int v12), .val (.int v21), .val (.int v31), .val (.int v42), .val (.ref b45), .val (.double gt), .second] [(.int (1 : Int32))]))
      exact Dn.ret X70 hlk hx hret rfl (Or.inl ⟨rfl, Or.inr (Or.inl rfl), _, rfl⟩) (hb hby at_142) (by rw [hh70]; exact ⟨⟨rfl, N70⟩, Nat.le_trans hkw K60.1⟩) (by decide) (by decide)
  · have hi79 : ¬ v42.toInt < v6.toInt := fun qq => hc79 (Int32.lt_iff_toInt_lt.mpr qq)
    refine Dn.st (fun _ kk => XS.icmpNo X70.here hx rfl (hb hby at_79) rfl (flt hc79).2.2.1 (XS.dload X70.here hx rfl (hb hby at_82) rfl  (XS.iload X70.here hx rfl (hb hby at_84) rfl  (XS.i2dS X70.here hx rfl (hb hby at_86) rfl rfl (XS.dcmpS X70.here hx rfl (hb hby at_87) rfl (show cmpValue (FP.dcmp gt (FP.i2d v31)) .l = (0 : Int32) from (by rw [g1 (by omega)]; exact (DS.cmpV (DS.i2d v31) (DS.i2d v31) _).trans ((c3_eq _ _).mpr rfl))) (kk)))))) ?_
    show Dn p e below _ _ _ _ (T70.setTop (mkF m 88 #[.val (.int pa), .val (.int pb), .val (.int pc), .val (.int pe), .val (.int v6), .val (.int v12), .val (.int v21), .val (.int v31), .val (.int v42), .val (.ref b45), .val (.double gt), .second] [(.int (0 : Int32))]))
    have hc88 : (0 : Int32) = (0 : Int32) := by decide
    refine Dn.st (fun _ kk => XS.ifNo X70.here hx rfl (hb hby at_88) rfl ((if0 _ _).trans (teq hc88).2) (XS.iconst X70.here hx rfl (hb hby at_91) (XS.goto X70.here hx rfl (pc0 := 92) (pc' := 96) rfl (hb hby at_92) (by decide) (by decide) (kk)))) ?_
    show Dn p e below _ _ _ _ (T70.setTop (mkF m 96 #[.val (.int pa), .val (.int pb), .val (.int pc), .val (.int pe), .val (.int v6), .val (.int v12), .val (.int v21), .val (.int v31), .val (.int v42), .val (.ref b45), .val (.double gt), .second] [(.int (1 : Int32))]))
    exact Dn.ret X70 hlk hx hret rfl (Or.inl ⟨rfl, Or.inr (Or.inl rfl), _, rfl⟩) (hb hby at_96) (by rw [hh70]; exact ⟨⟨rfl, N70⟩, Nat.le_trans hkw K60.1⟩) (by decide) (by decide)

set_option maxRecDepth 65536 in
set_option maxHeartbeats 40000000 in
theorem comes_1 {Post : Tables → Env → Array Value → State → Outcome → State → Prop} (hpost : ∀ tb e args s v u, (limb_1_1.after args s (.returned v) u = true ∧ limb_1_2.after args s (.returned v) u = true ∧ True) → ReturnedEndW s (.returned v) u (Jvm.fieldLocs frame_1_writes args s ++ Jvm.arrayLocs frame_1_arrays args s ++ Jvm.staticLocs frame_1_statics s) 16 3200 → Post tb e args s (.returned v) u) :
    ArmFor flags0 classFile x code maxLocals ret World_1 tables_1 room_1 Calls_1 rest_1 Pre_1 Post := by
  intro l hfl _ _ p e ha hc hk s m args below hf hA hF happ hP
  obtain ⟨hcalls, hrest, hpre⟩ := hP
  obtain ⟨-, -, -, hnamed, -, -, -, hat⟩ := (Spec.applies_iff hf).mp happ
  obtain ⟨hg, hn⟩ := and_e (Cond.before_iff.mp (show (Jvm.Cond.and given_1 narrow_1).before args s = true from hpre))
  obtain ⟨g1a, g1b⟩ := and_e hg
  obtain ⟨g2a, g2b⟩ := and_e g1b
  obtain ⟨g3a, g3b⟩ := and_e g2b
  obtain ⟨g4a, g4b⟩ := and_e g3b
  obtain ⟨w0, w1, w2, w3, rfl⟩ : ∃ w0 w1 w2 w3 : Value, args = #[w0, w1, w2, w3] := by
    have hs : args.size = 4 := by simpa [Cond.value, given_1] using g1a
    obtain ⟨L⟩ := args
    match L, hs with
    | [w0, w1, w2, w3], _ => exact ⟨w0, w1, w2, w3, rfl⟩
  have hw := fun d (hd : d ∈ tables_1) => atoms_spec (ws := Jvm.Cond.code x code maxLocals ret :: tables_1) hat d (List.mem_cons_of_mem _ hd)
  have hfit : Fit s := fun {y c} hc i hi => by
    obtain ⟨ha, rfl⟩ := Array.getElem?_eq_some_iff.mp hc
    have q := List.all_eq_true.mp ((Array.all_eq_true_iff_forall_mem.mp hF) _ (Array.getElem_mem ha)) i (List.mem_range.mpr hi)
    simpa [Array.getElem?_eq_getElem hi] using q
  obtain ⟨i0, ei0⟩ := is_v g2a
  obtain rfl : w0 = (.int i0) := Option.some.inj ei0
  obtain ⟨i1, ei1⟩ := is_v g3a
  obtain rfl : w1 = (.int i1) := Option.some.inj ei1
  obtain ⟨i2, ei2⟩ := is_v g4a
  obtain rfl : w2 = (.int i2) := Option.some.inj ei2
  obtain ⟨i3, ei3⟩ := is_v g4b
  obtain rfl : w3 = (.int i3) := Option.some.inj ei3
  obtain ⟨n, o, h1, h2, h3, _, L, rfl, ⟨rfl, N⟩, hq⟩ := rm0 l s _ hw tables_1 i0 i1 i2 i3  s.heap s.heap.size (Nat.le_refl _)  p e ha hc hk s m _ below hf ((Spec.applies_iff_loose hf).mp happ).1 ⟨rfl, State.Warmed39.refl s, rfl⟩ trivial
  refine ⟨n, _, h1, h2, h3, hpost _ _ _ _ _ _ ⟨Cond.after_iff.mpr rfl, Cond.after_iff.mpr (eq_i res_at (Term.int_eval (1)) rfl), trivial⟩ ⟨hq.1, hq.2.1, hq.2.2.1, (hq.2.2.2.sift fun y hy => Or.inr (N y hy)).mono (by decide) (by decide)⟩⟩
theorem main_1_1 : Claimed_1_1 := comes_1 fun _ _ _ _ _ _ h hF => ⟨h.1, hF⟩
theorem main_1_2 : Claimed_1_2 := comes_1 fun _ _ _ _ _ _ h hF => ⟨h.2.1, hF⟩
end Jvm.Pilot.@@N@@
namespace Jvm.Pilot.@@N@@
open Jvm Jvm.ClassFile Sem Op Lib Jvm.Free Jvm.Stand Jvm.Pilot.@@N@@.Jvm.D
/-! MADE BY PROGRAM (witnessworld.py) out of the Statement's table words and the real class files: 15 classes; the members and pool entries that the words name. The judged class is class 1, her method 1. -/
namespace start1
open Jvm.ClassFile
def u (s : String) : CpInfo := .utf8 (stringToUtf16 s)
/-- a pool by its gaps: so many unusable entries, then the entry; so many at the end -/
def gap : Nat → List CpInfo → List CpInfo
  | 0, r => r
  | n + 1, r => .unusable :: gap n r
def poolList (es : List (Nat × CpInfo)) (last : Nat) : List CpInfo := es.foldr (fun e r => gap e.1 (e.2 :: r)) (gap last [])
def pool (es : List (Nat × CpInfo)) (last : Nat) : Array CpInfo := ⟨poolList es last⟩
def fileOf (pool : Array CpInfo) (this : Nat) (attrs : Array Attribute := #[]) (ms : Array MethodInfo := #[]) (fl : Nat := 33) (sup : Nat := 0) (ifs : Array Nat := #[]) (fds : Array FieldInfo := #[]) : ClassFile where
  minorVersion := 0
  majorVersion := 65
  constantPool := pool
  accessFlags := fl
  thisClass := this
  superClass := sup
  interfaces := ifs
  fields := fds
  methods := ms
  attributes := attrs
def plain (name : String) (sup : Option ClassId) : Class where
  name := name
  kind := .ordinary
  loader := none
  accessFlags := 33
  super := sup
  interfaces := #[]
  cf := none
  fields := #[]
  methods := #[]
  instanceTypes := #[]
  staticTypes := #[]
  resolved := #[]
  callSites := []
  init := .initialized
  statics := none
  mirror := none

def pool0 : Array CpInfo := pool [(5, u "<init>"), (0, u "()V"), (1, .class_ 10), (1, u "java/lang/Object")] 113

def k0c0 : Code := { maxStack := 0, maxLocals := 1, code := object_method_1_code, exceptionTable := #[], attributes := #[] }
def k0m0 : Method := { name := "<init>", desc := "()V", sig := { parameters := [], returnType := none }, accessFlags := 1, code := some k0c0 }
/-- java/lang/Object -/
def k0 : Class := { plain "java/lang/Object" none with
  accessFlags := 33
  interfaces := #[]
  cf := some (fileOf pool0 8 #[] #[{ accessFlags := 1, nameIndex := 5, descriptorIndex := 6, attributes := #[] }] 33 0 #[] #[])
  fields := #[]
  methods := #[k0m0]
  instanceTypes := #[]
  staticTypes := #[]
  resolved := Array.replicate 124 none
  statics := none }

def pool1 : Array CpInfo := pool [(2, .class_ 4), (1, u "java/lang/Object"), (0, u "<init>"), (0, u "()V"), (0, .integer 2147483647), (0, .class_ 9), (0, u "com/example/nudo/nudo/control/priority/PriorityRequest"), (0, .string 11), (0, u "r"), (0, .string 13), (0, u "a"), (0, .string 15), (0, u "x"), (0, .methodref 8 17), (0, .nameAndType 5 18), (0, u "(Ljava/lang/String;Ljava/lang/String;Ljava/lang/String;ID)V"), (0, .methodref 8 20), (0, .nameAndType 21 22), (0, u "coefficient"), (0, u "(D)D"), (0, .class_ 24), (0, u "com/example/nudo/nudo/control/priority/PriorityRequestCoefficientPinLaw"), (2, u "law"), (0, u "(IIII)Z")] 3

def k1m0 : Method := { name := "<init>", desc := "()V", sig := { parameters := [], returnType := none }, accessFlags := 1, code := none }
def k1c1 : Code := { maxStack := 8, maxLocals := 12, code := code, exceptionTable := #[], attributes := #[] }
def k1m1 : Method := { name := "law", desc := "(IIII)Z", sig := { parameters := [.int, .int, .int, .int], returnType := some .boolean }, accessFlags := 9, code := some k1c1 }
/-- com/example/nudo/nudo/control/priority/PriorityRequestCoefficientPinLaw -/
def k1 : Class := { plain "com/example/nudo/nudo/control/priority/PriorityRequestCoefficientPinLaw" (some 0) with
  accessFlags := 49
  interfaces := #[]
  cf := some (fileOf pool1 23 #[] #[{ accessFlags := 1, nameIndex := 5, descriptorIndex := 6, attributes := #[] }, { accessFlags := 9, nameIndex := 27, descriptorIndex := 28, attributes := #[] }] 49 2 #[] #[])
  fields := #[]
  methods := #[k1m0, k1m1]
  instanceTypes := #[]
  staticTypes := #[]
  resolved := Array.replicate 32 none
  statics := none }

def pool2 : Array CpInfo := pool [(1, .class_ 2), (0, u "com/example/nudo/nudo/core/agent/Message"), (0, .class_ 4), (0, u "java/lang/Object")] 2

/-- com/example/nudo/nudo/core/agent/Message -/
def k2 : Class := { plain "com/example/nudo/nudo/core/agent/Message" (some 0) with
  accessFlags := 1537
  interfaces := #[]
  cf := some (fileOf pool2 1 #[] #[] 1537 3 #[] #[])
  fields := #[]
  methods := #[]
  instanceTypes := #[]
  staticTypes := #[]
  resolved := Array.replicate 7 none
  statics := none }

def pool3 : Array CpInfo := pool [(1, .methodref 2 3), (0, .class_ 4), (0, .nameAndType 5 6), (0, u "java/lang/Object"), (0, u "<init>"), (0, u "()V"), (0, .fieldref 8 9), (0, .class_ 10), (0, .nameAndType 11 12), (0, u "com/example/nudo/nudo/control/priority/PriorityRequest"), (0, u "responder"), (0, u "Ljava/lang/String;"), (0, .fieldref 8 14), (0, .nameAndType 15 12), (0, u "approach"), (0, .fieldref 8 17), (0, .nameAndType 18 12), (0, u "exit"), (0, .fieldref 8 20), (0, .nameAndType 21 22), (0, u "degree"), (0, u "I"), (0, .fieldref 8 24), (0, .nameAndType 25 26), (0, u "distance"), (0, u "D"), (0, .class_ 28), (0, u "com/example/nudo/nudo/core/agent/Message"), (0, u "(Ljava/lang/String;Ljava/lang/String;Ljava/lang/String;ID)V"), (10, u "coefficient"), (0, u "(D)D")] 3

def k3c0 : Code := { maxStack := 3, maxLocals := 7, code := prog_20_method_1_code, exceptionTable := #[], attributes := #[] }
def k3m0 : Method := { name := "<init>", desc := "(Ljava/lang/String;Ljava/lang/String;Ljava/lang/String;ID)V", sig := { parameters := [(.object "java/lang/String"), (.object "java/lang/String"), (.object "java/lang/String"), .int, .double], returnType := none }, accessFlags := 1, code := some k3c0 }
def k3c1 : Code := { maxStack := 4, maxLocals := 3, code := prog_20_method_7_code, exceptionTable := #[], attributes := #[] }
def k3m1 : Method := { name := "coefficient", desc := "(D)D", sig := { parameters := [.double], returnType := some .double }, accessFlags := 1, code := some k3c1 }
/-- com/example/nudo/nudo/control/priority/PriorityRequest -/
def k3 : Class := { plain "com/example/nudo/nudo/control/priority/PriorityRequest" (some 0) with
  accessFlags := 33
  interfaces := #[2]
  cf := some (fileOf pool3 8 #[] #[{ accessFlags := 1, nameIndex := 5, descriptorIndex := 29, attributes := #[] }, { accessFlags := 1, nameIndex := 40, descriptorIndex := 41, attributes := #[] }] 33 2 #[27] #[{ accessFlags := 18, nameIndex := 11, descriptorIndex := 12, attributes := #[] }, { accessFlags := 18, nameIndex := 15, descriptorIndex := 12, attributes := #[] }, { accessFlags := 18, nameIndex := 18, descriptorIndex := 12, attributes := #[] }, { accessFlags := 18, nameIndex := 21, descriptorIndex := 22, attributes := #[] }, { accessFlags := 18, nameIndex := 25, descriptorIndex := 26, attributes := #[] }])
  fields := #[{ name := "responder", type := (.object "java/lang/String"), accessFlags := 18, slot := 0, constantValue := 0 }, { name := "approach", type := (.object "java/lang/String"), accessFlags := 18, slot := 1, constantValue := 0 }, { name := "exit", type := (.object "java/lang/String"), accessFlags := 18, slot := 2, constantValue := 0 }, { name := "degree", type := .int, accessFlags := 18, slot := 3, constantValue := 0 }, { name := "distance", type := .double, accessFlags := 18, slot := 4, constantValue := 0 }]
  methods := #[k3m0, k3m1]
  instanceTypes := #[(.object "java/lang/String"), (.object "java/lang/String"), (.object "java/lang/String"), .int, .double]
  staticTypes := #[]
  resolved := Array.replicate 45 none
  statics := none }

def pool4 : Array CpInfo := pool [(1, .class_ 2), (0, u "java/io/Serializable"), (0, .class_ 4), (0, u "java/lang/Object")] 2

/-- java/io/Serializable -/
def k4 : Class := { plain "java/io/Serializable" (some 0) with
  accessFlags := 1537
  interfaces := #[]
  cf := some (fileOf pool4 1 #[] #[] 1537 3 #[] #[])
  fields := #[]
  methods := #[]
  instanceTypes := #[]
  staticTypes := #[]
  resolved := Array.replicate 7 none
  statics := none }

def pool5 : Array CpInfo := pool [(1, .class_ 2), (0, u "java/lang/Comparable"), (0, .class_ 4), (0, u "java/lang/Object")] 7

/-- java/lang/Comparable -/
def k5 : Class := { plain "java/lang/Comparable" (some 0) with
  accessFlags := 1537
  interfaces := #[]
  cf := some (fileOf pool5 1 #[] #[] 1537 3 #[] #[])
  fields := #[]
  methods := #[]
  instanceTypes := #[]
  staticTypes := #[]
  resolved := Array.replicate 12 none
  statics := none }

def pool6 : Array CpInfo := pool [(2, .class_ 4), (1, u "java/lang/CharSequence"), (42, .class_ 48), (0, u "java/lang/CharSequence$1CodePointIterator"), (10, .class_ 60), (0, u "java/lang/CharSequence$1CharIterator"), (5, .class_ 67), (0, u "java/lang/Object")] 63

/-- java/lang/CharSequence -/
def k6 : Class := { plain "java/lang/CharSequence" (some 0) with
  accessFlags := 1537
  interfaces := #[]
  cf := some (fileOf pool6 2 #[.nestMembers #[47, 59]] #[] 1537 66 #[] #[])
  fields := #[]
  methods := #[]
  instanceTypes := #[]
  staticTypes := #[]
  resolved := Array.replicate 131 none
  statics := none }

def pool7 : Array CpInfo := pool [(1, .class_ 2), (0, u "java/lang/constant/Constable"), (0, .class_ 4), (0, u "java/lang/Object")] 6

/-- java/lang/constant/Constable -/
def k7 : Class := { plain "java/lang/constant/Constable" (some 0) with
  accessFlags := 1537
  interfaces := #[]
  cf := some (fileOf pool7 1 #[] #[] 1537 3 #[] #[])
  fields := #[]
  methods := #[]
  instanceTypes := #[]
  staticTypes := #[]
  resolved := Array.replicate 11 none
  statics := none }

def pool8 : Array CpInfo := pool [(1, .class_ 2), (0, u "java/lang/constant/ConstantDesc"), (0, .class_ 4), (0, u "java/lang/Object")] 32

/-- java/lang/constant/ConstantDesc -/
def k8 : Class := { plain "java/lang/constant/ConstantDesc" (some 0) with
  accessFlags := 1537
  interfaces := #[]
  cf := some (fileOf pool8 1 #[] #[] 1537 3 #[] #[])
  fields := #[]
  methods := #[]
  instanceTypes := #[]
  staticTypes := #[]
  resolved := Array.replicate 37 none
  statics := none }

def pool9 : Array CpInfo := pool [(2, .class_ 4), (1, u "java/lang/Object"), (0, u "<init>"), (0, u "()V"), (3, .class_ 12), (1, u "java/lang/String"), (0, u "value"), (0, u "[B"), (2, u "coder"), (0, u "B"), (2, u "hash"), (0, u "I"), (2, u "hashIsZero"), (0, u "Z"), (13, u "COMPACT_STRINGS"), (534, .class_ 576), (0, u "java/lang/CharSequence"), (22, u "CASE_INSENSITIVE_ORDER"), (0, u "Ljava/util/Comparator;"), (500, u "serialPersistentFields"), (0, u "[Ljava/io/ObjectStreamField;"), (0, .class_ 1104), (0, u "java/lang/String$CaseInsensitiveComparator"), (1, .class_ 1107), (0, u "java/io/Serializable"), (0, .class_ 1109), (0, u "java/lang/Comparable"), (0, .class_ 1111), (0, u "java/lang/constant/Constable"), (0, .class_ 1113), (0, u "java/lang/constant/ConstantDesc"), (2, u "serialVersionUID"), (0, u "J"), (3, u "REPL"), (0, u "C"), (2, u "LATIN1"), (1, u "UTF16")] 323

def k9m0 : Method := { name := "<init>", desc := "()V", sig := { parameters := [], returnType := none }, accessFlags := 1, code := none }
/-- java/lang/String -/
def k9 : Class := { plain "java/lang/String" (some 0) with
  accessFlags := 49
  interfaces := #[4, 5, 6, 7, 8]
  cf := some (fileOf pool9 10 #[.nestMembers #[1103]] #[{ accessFlags := 1, nameIndex := 5, descriptorIndex := 6, attributes := #[] }] 49 2 #[1106, 1108, 575, 1110, 1112] #[{ accessFlags := 18, nameIndex := 13, descriptorIndex := 14, attributes := #[] }, { accessFlags := 18, nameIndex := 17, descriptorIndex := 18, attributes := #[] }, { accessFlags := 2, nameIndex := 21, descriptorIndex := 22, attributes := #[] }, { accessFlags := 2, nameIndex := 25, descriptorIndex := 26, attributes := #[] }, { accessFlags := 26, nameIndex := 1116, descriptorIndex := 1117, attributes := #[] }, { accessFlags := 24, nameIndex := 40, descriptorIndex := 26, attributes := #[] }, { accessFlags := 26, nameIndex := 1101, descriptorIndex := 1102, attributes := #[] }, { accessFlags := 26, nameIndex := 1121, descriptorIndex := 1122, attributes := #[] }, { accessFlags := 25, nameIndex := 599, descriptorIndex := 600, attributes := #[] }, { accessFlags := 24, nameIndex := 1125, descriptorIndex := 18, attributes := #[] }, { accessFlags := 24, nameIndex := 1127, descriptorIndex := 18, attributes := #[] }])
  fields := #[{ name := "value", type := (.array .byte), accessFlags := 18, slot := 0, constantValue := 0 }, { name := "coder", type := .byte, accessFlags := 18, slot := 1, constantValue := 0 }, { name := "hash", type := .int, accessFlags := 2, slot := 2, constantValue := 0 }, { name := "hashIsZero", type := .boolean, accessFlags := 2, slot := 3, constantValue := 0 }, { name := "serialVersionUID", type := .long, accessFlags := 26, slot := 0, constantValue := 0 }, { name := "COMPACT_STRINGS", type := .boolean, accessFlags := 24, slot := 1, constantValue := 0 }, { name := "serialPersistentFields", type := (.array (.object "java/io/ObjectStreamField")), accessFlags := 26, slot := 2, constantValue := 0 }, { name := "REPL", type := .char, accessFlags := 26, slot := 3, constantValue := 0 }, { name := "CASE_INSENSITIVE_ORDER", type := (.object "java/util/Comparator"), accessFlags := 25, slot := 4, constantValue := 0 }, { name := "LATIN1", type := .byte, accessFlags := 24, slot := 5, constantValue := 0 }, { name := "UTF16", type := .byte, accessFlags := 24, slot := 6, constantValue := 0 }]
  methods := #[k9m0]
  instanceTypes := #[(.array .byte), .byte, .int, .boolean]
  staticTypes := #[.long, .boolean, (.array (.object "java/io/ObjectStreamField")), .char, (.object "java/util/Comparator"), .byte, .byte]
  resolved := Array.replicate 1451 none
  statics := none }

def pool10 : Array CpInfo := pool [(1, u "java/lang/Cloneable"), (0, .class_ 1), (0, u "java/lang/Object"), (0, .class_ 3)] 3

/-- java/lang/Cloneable -/
def k10 : Class := { plain "java/lang/Cloneable" (some 0) with
  accessFlags := 1537
  interfaces := #[]
  cf := some (fileOf pool10 2 #[] #[] 1537 4 #[] #[])
  fields := #[]
  methods := #[]
  instanceTypes := #[]
  staticTypes := #[]
  resolved := Array.replicate 8 none
  statics := none }

/-- the primitive byte -/
def k11 : Class := { plain "byte" none with kind := .primitive 'B', accessFlags := 0x411 }
/-- [B -/
def k12 : Class := { plain "[B" (some 0) with kind := .array 11 .byte, interfaces := #[10, 4], accessFlags := 1041 }

/-- the primitive int -/
def k13 : Class := { plain "int" none with kind := .primitive 'I', accessFlags := 0x411 }
/-- [I -/
def k14 : Class := { plain "[I" (some 0) with kind := .array 13 .int, interfaces := #[10, 4], accessFlags := 1041 }

def heap : Heap := #[]
def classes : Array Class := #[k0, k1, k2, k3, k4, k5, k6, k7, k8, k9, k10, k11, k12, k13, k14]
def interned : List (Array UInt16 × Addr) := []
def slotsUsed : Nat := 0
def theMethod : MethodId := ⟨1, 1⟩
def args0 : Array Value := #[.int 5, .int 6, .int 7, .int 8]
def aboutOver (below : List Frame) : State where
  vm := { classes := classes, interned := interned.toArray }
  heap := heap
  slotsUsed := slotsUsed
  threads := #[{ frames := .invoking theMethod args0 :: below }]
def below0 : List Frame := [.native { method := ⟨0, 0⟩, args := #[] }]
def about1 : State := aboutOver below0
def p0 : Program := .bare "" "" ""
def e0 : Env := launch0.env 0 0 0
theorem w_frames : about1.frames = Frame.invoking theMethod args0 :: below0 := rfl
set_option maxRecDepth 65536 in
theorem w_args : argsFit about1.vm theMethod args0 = true := by decide +kernel
set_option maxRecDepth 65536 in
theorem w_heap : heapFits about1 = true := by decide +kernel
set_option maxRecDepth 65536 in
theorem w_runnable : about1.curStatus? = some .runnable := by decide +kernel
set_option maxRecDepth 65536 in
theorem w_alone : about1.alone = true := by decide +kernel
set_option maxRecDepth 65536 in
theorem w_named : about1.methodNamed? x = some theMethod := by decide +kernel
set_option maxRecDepth 65536 in
theorem w_hears : about1.hears theMethod below0 = true := by decide +kernel
set_option maxRecDepth 65536 in
theorem w_ripe : about1.ripe theMethod args0 below0 = true := by decide +kernel
theorem w_running : about1.status = .running := rfl
set_option maxRecDepth 65536 in
theorem w_room : about1.hasRoom e0.platform room_1 = true :=
  launch0.hasRoom_least _ room_1 (by decide +kernel) (by decide +kernel) (by decide +kernel) (by decide +kernel) (by decide +kernel) (by decide +kernel)
theorem allAtoms_all (ts : List Jvm.Cond) (a : Array Jvm.Value) (st : Jvm.State) : (allAtoms ts).before a st = ts.all (fun c => c.before a st) := by
  induction ts with
  | nil => rfl
  | cons c t ih =>
    show (Jvm.Cond.and c (allAtoms t)).before a st = _
    rw [Jvm.Cond.before_and, ih, List.all_cons]
def words1 : List Jvm.Cond := Jvm.Cond.code x code maxLocals ret :: tables_1
/-- a 'code' word, met by the world's own term for the bytes: nothing is compared byte by byte -/
theorem code_word {y : MethodName} {bytes : ByteArray} {mx : Nat} {rt : Option FieldType} {a : Array Value} {s : State} {m : MethodId} {meth : Method} {c : Code} (h1 : s.methodNamed? y = some m) (h2 : s.vm.method? m = some meth) (h3 : meth.code = some c) (h4 : c.code = bytes)
    (h5 : (c.maxLocals == mx && c.exceptionTable.isEmpty && decide (c.maxStack ≤ mostOperands) && decide (meth.sig.returnType = rt) && !meth.locks && decide (parseMethodDescriptor y.desc = some meth.sig)) = true) : (Jvm.Cond.code y bytes mx rt).before a s = true := by
  simp only [Bool.and_eq_true, beq_iff_eq, Bool.not_eq_true', decide_eq_true_eq] at h5
  obtain ⟨⟨⟨⟨⟨g1, g2⟩, g3⟩, g4⟩, g5⟩, g6⟩ := h5
  simp [Cond.before, Cond.holds, Cond.value, h1, h2, h3, h4, g1, g2, g3, g4, g5, g6]
def isCode : Jvm.Cond → Bool
  | .code _ _ _ _ => true
  | _ => false
theorem all_split {L : List Jvm.Cond} {P : Jvm.Cond → Bool} (h1 : L.all (fun c => isCode c || P c) = true) (h2 : ∀ c ∈ L.filter isCode, P c = true) : L.all P = true := by
  refine List.all_eq_true.mpr fun c hc => ?_
  have h := List.all_eq_true.mp h1 c hc
  rcases Bool.eq_false_or_eq_true (isCode c) with hi | hi
  · exact h2 c (List.mem_filter.mpr ⟨hc, hi⟩)
  · simpa [hi] using h
set_option maxRecDepth 65536 in
theorem w_c0 : (Jvm.Cond.code x code maxLocals ret).before args0 about1 = true := code_word (m := ⟨1, 1⟩) (meth := k1m1) (c := k1c1) (by decide +kernel) rfl rfl rfl (by decide +kernel)
set_option maxRecDepth 65536 in
theorem w_c1 : (Jvm.Cond.code ({ cls := "com/example/nudo/nudo/control/priority/PriorityRequest", name := "<init>", desc := "(Ljava/lang/String;Ljava/lang/String;Ljava/lang/String;ID)V" } : Jvm.MethodName) prog_20_method_1_code (7 : Nat) (Option.none : Option Jvm.ClassFile.FieldType)).before args0 about1 = true := code_word (m := ⟨3, 0⟩) (meth := k3m0) (c := k3c0) (by decide +kernel) rfl rfl rfl (by decide +kernel)
set_option maxRecDepth 65536 in
theorem w_c2 : (Jvm.Cond.code ({ cls := "java/lang/Object", name := "<init>", desc := "()V" } : Jvm.MethodName) object_method_1_code (1 : Nat) (Option.none : Option Jvm.ClassFile.FieldType)).before args0 about1 = true := code_word (m := ⟨0, 0⟩) (meth := k0m0) (c := k0c0) (by decide +kernel) rfl rfl rfl (by decide +kernel)
set_option maxRecDepth 65536 in
theorem w_c3 : (Jvm.Cond.code ({ cls := "com/example/nudo/nudo/control/priority/PriorityRequest", name := "coefficient", desc := "(D)D" } : Jvm.MethodName) prog_20_method_7_code (3 : Nat) (Option.some Jvm.ClassFile.FieldType.double)).before args0 about1 = true := code_word (m := ⟨3, 1⟩) (meth := k3m1) (c := k3c1) (by decide +kernel) rfl rfl rfl (by decide +kernel)
def codes1 : List Jvm.Cond := [Jvm.Cond.code x code maxLocals ret, Jvm.Cond.code ({ cls := "com/example/nudo/nudo/control/priority/PriorityRequest", name := "<init>", desc := "(Ljava/lang/String;Ljava/lang/String;Ljava/lang/String;ID)V" } : Jvm.MethodName) prog_20_method_1_code (7 : Nat) (Option.none : Option Jvm.ClassFile.FieldType), Jvm.Cond.code ({ cls := "java/lang/Object", name := "<init>", desc := "()V" } : Jvm.MethodName) object_method_1_code (1 : Nat) (Option.none : Option Jvm.ClassFile.FieldType), Jvm.Cond.code ({ cls := "com/example/nudo/nudo/control/priority/PriorityRequest", name := "coefficient", desc := "(D)D" } : Jvm.MethodName) prog_20_method_7_code (3 : Nat) (Option.some Jvm.ClassFile.FieldType.double)]
set_option maxRecDepth 65536 in
theorem codes_eq : words1.filter isCode = codes1 := rfl
theorem w_codes : ∀ c ∈ words1.filter isCode, c.before args0 about1 = true := by
  rw [codes_eq]
  intro c hc
  simp only [codes1, List.mem_cons, List.not_mem_nil, or_false] at hc
  rcases hc with rfl | rfl | rfl | rfl
  · exact w_c0
  · exact w_c1
  · exact w_c2
  · exact w_c3
set_option maxRecDepth 65536 in
theorem w_t1 : (words1.take 24).all (fun c => isCode c || c.before args0 about1) = true := by decide +kernel
set_option maxRecDepth 65536 in
theorem w_t2 : (words1.drop 24).all (fun c => isCode c || c.before args0 about1) = true := by decide +kernel
theorem w_tables : (allAtoms (Jvm.Cond.code x code maxLocals ret :: tables_1)).before args0 about1 = true := by
  rw [allAtoms_all]
  show words1.all (fun c => c.before args0 about1) = true
  refine all_split ?_ w_codes
  rw [← List.take_append_drop 24 words1, List.all_append, w_t1, w_t2]
  rfl
set_option maxRecDepth 65536 in
theorem w_case : (Jvm.Cond.and given_1 narrow_1).before args0 about1 = true := by decide +kernel
theorem w_applies : (headSpec (Jvm.Cond.code x code maxLocals ret :: tables_1) room_1).applies x e0.platform about1 = true :=
  (Spec.applies_iff w_frames).mpr ⟨w_running, w_runnable, w_alone, w_named, w_hears, w_ripe, w_room, w_tables⟩
theorem atStart : AtStart classFile x code maxLocals ret World_1 tables_1 room_1 Calls_1 rest_1 Pre_1 launch0 p0 e0 about1 theMethod args0 below0 :=
  ⟨lists_1, trivial, launch0.admits_env _ _ _, launch0.least_env, fairChoices_fair.cas, fairChoices_fair.clock, w_frames, w_args, w_heap, w_applies, trivial, trivial, w_case⟩
end start1
theorem witness_1 : WitnessClaimed_1 := ⟨start1.p0, start1.e0, start1.about1, start1.theMethod, start1.args0, start1.below0, start1.atStart⟩
end Jvm.Pilot.@@N@@
