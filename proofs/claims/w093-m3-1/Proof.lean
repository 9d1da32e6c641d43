import JvmDerived
import JvmDerived.Pilot.@@N@@Statement
import JvmDerived.Pilot.@@N@@Code
set_option linter.unusedVariables false
set_option linter.unusedSimpArgs false
namespace Jvm.Pilot.@@N@@
open Jvm Jvm.ClassFile Sem Op Lib Jvm.Free Jvm.Stand Jvm.LawKit Jvm.RoadKit Bundle Jvm.Pilot.@@N@@.Jvm.D
section Own
variable {p : Program} {l : Launch} {e : Env} {R : Room} {s : State} {m : MethodId} {args : Array Value} {below : List Frame} {meth : Method} {c : Code} {T : State} {locs : List Loc} {cells slots : Nat}
/-- the run from A ends, returns what Q says, and has made and written no more than told -/
def Dn (p : Program) (e : Env) (below : List Frame) (s : State) (Q : Option Value → Heap → List Loc → Prop) (rc rs : Nat) (A : State) : Prop :=
  ∃ s₂ o, Steps p.tables e below A s₂ ∧ s₂.status = .running ∧ Ended s₂ below o ∧ ∃ v L, o = .returned v ∧ Q v s₂.heap L ∧ FrameEnd s o s₂ L rc rs
theorem Dn.st {Q : Option Value → Heap → List Loc → Prop} {rc rs : Nat} {A B : State} (h : ∀ t, Steps p.tables e below B t → Steps p.tables e below A t) (k : Dn p e below s Q rc rs B) : Dn p e below s Q rc rs A := by
  obtain ⟨s2, o, h1, h2⟩ := k; exact ⟨s2, o, h _ h1, h2⟩
theorem Dn.tr {Q : Option Value → Heap → List Loc → Prop} {rc rs : Nat} {A B : State} (h : Steps p.tables e below A B) (k : Dn p e below s Q rc rs B) : Dn p e below s Q rc rs A := by
  obtain ⟨s2, o, h1, h2⟩ := k; exact ⟨s2, o, h.trans h1, h2⟩
theorem Dn.ret (X : Stand p l e R s m args below meth c T locs cells slots) (hlk : meth.locks = false) (hx : p.tables.exec = Jvm.exec) {pc : Nat} {Ls : Array Slot} {w : Value} {t : FieldType} {i : Instr} {rest : List Value} (hret : meth.sig.returnType = some t) (hn : narrow t w = w)
    (hi : (i = .ireturn ∧ (t = .int ∨ t = .boolean ∨ t = .byte ∨ t = .char ∨ t = .short) ∧ ∃ z, w = .int z) ∨ (i = .lreturn ∧ t = .long ∧ ∃ z, w = .long z) ∨ (i = .dreturn ∧ t = .double ∧ ∃ z, w = .double z) ∨ (i = .freturn ∧ t = .float ∧ ∃ z, w = .float z) ∨ (i = .areturn ∧ t.isReference = true ∧ w.isRef = true))
    (hd : decode c.code pc = .ok (i, 1)) {Q : Option Value → Heap → List Loc → Prop} {rc rs : Nat} (hq : Q (some w) T.heap locs) (hc : cells ≤ rc) (hs : slots ≤ rs) : Dn p e below s Q rc rs (T.setTop (mkF m pc Ls (w :: rest))) := by
  obtain ⟨fs, hr, hrun, hended, hW, hsame⟩ := X.leave (v := some w) (fun h => by rw [hret] at h; cases h) hlk
  exact ⟨_, _, retOut X hx hret hn hi hd hr, hrun, hended, _, _, rfl, hq, ⟨_, rfl⟩, hW, hsame.mono hc hs⟩
theorem Dn.ret0 (X : Stand p l e R s m args below meth c T locs cells slots) (hlk : meth.locks = false) (hx : p.tables.exec = Jvm.exec) {pc : Nat} {Ls : Array Slot} (hret : meth.sig.returnType = none)
    (hd : decode c.code pc = .ok (.return_, 1)) {Q : Option Value → Heap → List Loc → Prop} {rc rs : Nat} (hq : Q none T.heap locs) (hc : cells ≤ rc) (hs : slots ≤ rs) : Dn p e below s Q rc rs (T.setTop (mkF m pc Ls [])) := by
  obtain ⟨fs, hr, hrun, hended, hW, hsame⟩ := X.leave (v := none) (fun _ => rfl) hlk
  exact ⟨_, _, X.returnOut hx hret hd hr, hrun, hended, _, _, rfl, hq, ⟨_, rfl⟩, hW, hsame.mono hc hs⟩
theorem own_iincW {tb : Tables} [Ours tb] {target : State} {g : JFrame} (h : At T m c below) (hx : tb.exec = Jvm.exec) (hg : g.method = m) {k : Nat} {cst : Int} {x : Int32} {l' : Array Slot} (hd : decode c.code g.pc = .ok (.iinc k cst, 6)) (hl : g.locals[k]? = some (.val (.int x))) (hl' : storeLocals g.locals k (.int (x + Int32.ofInt cst)) = some l')
    (hr : Steps tb e below (T.setTop { g with pc := g.pc + 6, locals := l' }) target) : Steps tb e below (T.setTop g) target := by
  subst hg
  jvm_step h [h.top, hx, hd, hl, hl']
  exact hr
theorem own_dremS {tb : Tables} [Ours tb] {target : State} {g : JFrame} (h : At T m c below) (hx : tb.exec = Jvm.exec) (hg : g.method = m) {x y v : UInt64} {rest : List Value} (hd : decode c.code g.pc = .ok (.drem, 1)) (hs : g.stack = .double y :: .double x :: rest) (hn : Jvm.Free.Fl.NoNaN64 (FP.drem x y)) (hv : FP.drem x y = v)
    (hr : Steps tb e below (T.setTop { g with pc := g.pc + 1, stack := .double v :: rest }) target) : Steps tb e below (T.setTop g) target := by
  subst hg; subst hv
  obtain ⟨gm, gp, gl, gs, gk, ge, gr⟩ := g
  simp only at hs hd
  subst hs
  jvm_step h [h.top, hx, hd, Op.drem.at_number h.top hn]
  exact hr
end Own
section Dyad
open Jvm.FP Jvm.FP.Core Jvm.Free.Fl
/-- the datum with its exponent moved by k -/
def sft (k : Nat) : Datum → Datum
  | .nan => .nan
  | .inf s => .inf s
  | .fin s c q => .fin s c (q + (k : Int))
/-- x is the number i / 2^k -/
def DS (k : Nat) (i : Int) (x : UInt64) : Prop := Whole i (sft k (val64 x))
theorem sft_zero (d : Datum) : sft 0 d = d := by
  cases d with
  | nan => rfl
  | inf s => rfl
  | fin s c q => show Datum.fin s c (q + ((0 : Nat) : Int)) = _; rw [Int.natCast_zero, Int.add_zero]
theorem sft_sum (k : Nat) (x y : Datum) : exactSum (sft k x) (sft k y) = sft k (exactSum x y) := by
  cases x with
  | nan => rfl
  | inf s =>
    cases y with
    | nan => rfl
    | inf t => show (if s = t then Datum.inf s else .nan) = sft k (if s = t then Datum.inf s else .nan); split <;> rfl
    | fin t d r => rfl
  | fin s c q =>
    cases y with
    | nan => rfl
    | inf t => rfl
    | fin t d r =>
      have h : min (q + (k : Int)) (r + k) = min q r + k := by omega
      have h1 : q + (k : Int) - (min q r + k) = q - min q r := by omega
      have h2 : r + (k : Int) - (min q r + k) = r - min q r := by omega
      have hu : sumUnits s c (q + k) t d (r + k) (min (q + k) (r + k)) = sumUnits s c q t d r (min q r) := by
        show signed s (c * 2 ^ (q + (k : Int) - min (q + k) (r + k)).toNat) + signed t (d * 2 ^ (r + (k : Int) - min (q + k) (r + k)).toNat) = signed s (c * 2 ^ (q - min q r).toNat) + signed t (d * 2 ^ (r - min q r).toNat)
        rw [h, h1, h2]
      show Datum.fin (sumSign s t (sumUnits s c (q + k) t d (r + k) (min (q + k) (r + k)))) (sumUnits s c (q + k) t d (r + k) (min (q + k) (r + k))).natAbs (min (q + k) (r + k)) = Datum.fin (sumSign s t (sumUnits s c q t d r (min q r))) (sumUnits s c q t d r (min q r)).natAbs (min q r + k)
      rw [hu, h]
theorem sft_negate (k : Nat) (x : Datum) : negate (sft k x) = sft k (negate x) := by cases x <;> rfl
theorem sft_product (k m : Nat) (x y : Datum) : exactProduct (sft k x) (sft m y) = sft (k + m) (exactProduct x y) := by
  cases x with
  | nan => rfl
  | inf s =>
    cases y with
    | nan => rfl
    | inf t => rfl
    | fin t d r => show (if d = 0 then Datum.nan else .inf (s != t)) = sft (k + m) (if d = 0 then Datum.nan else .inf (s != t)); split <;> rfl
  | fin s c q =>
    cases y with
    | nan => rfl
    | inf t => show (if c = 0 then Datum.nan else .inf (s != t)) = sft (k + m) (if c = 0 then Datum.nan else .inf (s != t)); split <;> rfl
    | fin t d r =>
      show Datum.fin (s != t) (c * d) (q + k + (r + m)) = Datum.fin (s != t) (c * d) (q + r + ((k + m : Nat) : Int))
      congr 1; omega
theorem sft_order (k : Nat) (x y : Datum) : order (sft k x) (sft k y) = order x y := by
  cases x with
  | nan => rfl
  | inf s => cases y <;> rfl
  | fin s c q =>
    cases y with
    | nan => rfl
    | inf t => rfl
    | fin t d r =>
      have h : min (q + (k : Int)) (r + k) = min q r + k := by omega
      have h1 : q + (k : Int) - (min q r + k) = q - min q r := by omega
      have h2 : r + (k : Int) - (min q r + k) = r - min q r := by omega
      show some (compare (signed s (c * 2 ^ (q + (k : Int) - min (q + k) (r + k)).toNat)) (signed t (d * 2 ^ (r + (k : Int) - min (q + k) (r + k)).toNat))) = some (compare (signed s (c * 2 ^ (q - min q r).toNat)) (signed t (d * 2 ^ (r - min q r).toNat)))
      rw [h, h1, h2]
theorem b64_qmin : b64.qmin = -1074 := by decide +kernel
theorem b64_qmax : b64.qmax = 971 := by decide +kernel
theorem b64_tails : b64.tails = 4503599627370496 := by decide +kernel
theorem fits64 (s : Bool) (c : Nat) (q : Int) : Core.fits b64 (.fin s c q) ↔ c < 2 ^ 53 ∧ -1074 ≤ q ∧ q ≤ 971 ∧ (q = -1074 ∨ 4503599627370496 ≤ c) := by
  show (c < 2 ^ 53 ∧ b64.qmin ≤ q ∧ q ≤ b64.qmax ∧ (q = b64.qmin ∨ b64.tails ≤ c)) ↔ _
  rw [b64_qmin, b64_qmax, b64_tails]
/-- n / 2^k is a double, for n up to 2^53 and k up to 1022 -/
theorem natFitS (s : Bool) {n k : Nat} (hk : k ≤ 1022) (hn : n ≤ 2 ^ 53) :
    ∃ c q, Core.fits b64 (.fin s c q) ∧ n * 2 ^ (-(k : Int) - q).toNat = c * 1 * 2 ^ (q - -(k : Int)).toNat := by
  by_cases h0 : n = 0
  · subst h0
    exact ⟨0, b64.qmin, zero_fits good_b64 s, by simp⟩
  · obtain ⟨c, q, hf, hv⟩ := natFit good_b64 wide_b64 s (show n ≤ 2 ^ b64.p from hn)
    rw [fits64] at hf
    have hq : -52 ≤ q := by
      refine Int.not_lt.mp fun hlt => ?_
      have e1 : (q - 0).toNat = 0 := by omega
      have e2 : (0 - q).toNat = 53 + ((0 - q).toNat - 53) := by omega
      rw [e1, e2, Nat.pow_add] at hv
      have p := Nat.two_pow_pos ((0 - q).toNat - 53)
      have : 2 ^ 53 * 1 ≤ 2 ^ 53 * 2 ^ ((0 - q).toNat - 53) := Nat.mul_le_mul_left _ p
      have : 1 * (2 ^ 53 * 2 ^ ((0 - q).toNat - 53)) ≤ n * (2 ^ 53 * 2 ^ ((0 - q).toNat - 53)) := Nat.mul_le_mul_right _ (by omega)
      omega
    refine ⟨c, q - k, (fits64 _ _ _).mpr ⟨hf.1, by omega, by omega, Or.inr (hf.2.2.2.resolve_left (by omega))⟩, ?_⟩
    rw [show -(k : Int) - (q - k) = 0 - q by omega, show q - k - -(k : Int) = q - 0 by omega]
    exact hv
theorem whole_signed {i : Int} {s : Bool} {c : Nat} {q : Int} (h : Whole i (.fin s c q)) : signed s i.natAbs = i := by
  by_cases hi : i = 0
  · rw [hi]; exact signed_zero s
  · rw [whole_sign h hi]; unfold signed
    by_cases h : i < 0 <;> simp [h] <;> omega
theorem ds_round {k : Nat} {i : Int} {d : Datum} (hk : k ≤ 1022) (hi : i.natAbs ≤ 2 ^ 53) (h : Whole i (sft k d)) : Whole i (sft k (Core.round b64 d)) := by
  cases d with
  | nan => exact h.elim
  | inf s => exact h.elim
  | fin s c q =>
    have hs := whole_signed h
    have h1 := whole_natAbs h
    obtain ⟨c', q', hfit, hv⟩ := natFitS s hk hi
    have e1 : Core.round b64 (.fin s c q) = roundRatio b64 s i.natAbs 1 (-(k : Int)) := by
      refine roundRatio_congr (by decide) (by decide) ?_
      rw [show q - -(k : Int) = q + k by omega, show -(k : Int) - q = -(q + k) by omega]
      simpa using h1
    rw [e1, roundRatio_exact good_b64 (by decide) hfit hv]
    show signed s (c' * 2 ^ (q' + (k : Int)).toNat) = i * _
    rw [show -(k : Int) - q' = -(q' + k) by omega, show q' - -(k : Int) = q' + k by omega, Nat.mul_one] at hv
    rw [← hv, signed_mul, hs]
theorem DS.nn {k : Nat} {i : Int} {x : UInt64} (h : DS k i x) : NoNaN64 x := val64_no.mpr fun q => by
  unfold DS at h; rw [q] at h; exact h.elim
theorem DS.fin {k : Nat} {i : Int} {x : UInt64} (h : DS k i x) : ∃ s c q, val64 x = .fin s c q ∧ Whole i (.fin s c (q + (k : Int))) := by
  unfold DS at h
  cases e : val64 x with
  | nan => rw [e] at h; exact h.elim
  | inf s => rw [e] at h; exact h.elim
  | fin s c q => rw [e] at h; exact ⟨s, c, q, rfl, h⟩
theorem DS.lit {k : Nat} {i : Int} {x : UInt64} {s : Bool} {c : Nat} {q : Int} (hv : val64 x = .fin s c q) (he : signed s (c * 2 ^ (q + (k : Int)).toNat) = i * ((2 ^ (-(q + (k : Int))).toNat : Nat) : Int)) : DS k i x := by
  unfold DS; rw [hv]; exact he
theorem DS.i2d (v : Int32) : DS 0 v.toInt (FP.i2d v) := by unfold DS; rw [sft_zero]; exact i2d_int v
theorem DS.l2d {v : Int64} (h : v.toInt.natAbs ≤ 2 ^ 53) : DS 0 v.toInt (FP.l2d v) := by unfold DS; rw [sft_zero]; exact l2d_int h
theorem DS.dint {i : Int} {x : UInt64} (h : DS 0 i x) : DInt i x := by unfold DS at h; rw [sft_zero] at h; exact h
theorem DS.zero (k : Nat) : DS k 0 0 := DS.lit (s := false) (c := 0) (q := -1074) (by decide +kernel) (by rw [Nat.zero_mul, Int.zero_mul]; rfl)
theorem DS.add {k : Nat} {i j : Int} {x y : UInt64} (hx : DS k i x) (hy : DS k j y) (hb : (i + j).natAbs ≤ 2 ^ 53) (hk : k ≤ 1022) : DS k (i + j) (FP.dadd x y) := by
  show Whole _ (sft k (val64 (Core.dadd x y)))
  rw [val64_dadd]; refine ds_round hk hb ?_; rw [← sft_sum]; exact whole_sum hx hy
theorem DS.sub {k : Nat} {i j : Int} {x y : UInt64} (hx : DS k i x) (hy : DS k j y) (hb : (i - j).natAbs ≤ 2 ^ 53) (hk : k ≤ 1022) : DS k (i - j) (FP.dsub x y) := by
  show Whole _ (sft k (val64 (Core.dsub x y)))
  rw [val64_dsub]; refine ds_round hk hb ?_; rw [← sft_sum, ← sft_negate, Int.sub_eq_add_neg]; exact whole_sum hx (whole_negate hy)
theorem DS.mul {k m : Nat} {i j : Int} {x y : UInt64} (hx : DS k i x) (hy : DS m j y) (hb : (i * j).natAbs ≤ 2 ^ 53) (hk : k + m ≤ 1022) : DS (k + m) (i * j) (FP.dmul x y) := by
  show Whole _ (sft (k + m) (val64 (Core.dmul x y)))
  rw [val64_dmul]; refine ds_round hk hb ?_; rw [← sft_product]; exact whole_product hx hy
theorem DS.cmp {k : Nat} {i j : Int} {x y : UInt64} (hx : DS k i x) (hy : DS k j y) : FP.dcmp x y = some (compare i j) := by
  show order (val64 x) (val64 y) = _
  rw [← sft_order k]; exact order_whole hx hy
/-- what dcmp pushes -/
def c3 (i j : Int) : Int32 := if i < j then -1 else if i = j then 0 else 1
theorem c3_lt (i j : Int) : c3 i j < 0 ↔ i < j := by unfold c3; split <;> (try split) <;> simp_all <;> first | decide | omega
theorem c3_gt (i j : Int) : 0 < c3 i j ↔ j < i := by unfold c3; split <;> (try split) <;> simp_all <;> first | decide | omega
theorem c3_eq (i j : Int) : c3 i j = 0 ↔ i = j := by unfold c3; split <;> (try split) <;> simp_all <;> first | decide | omega
theorem cmpV_int (i j : Int) (o : CmpOp) : cmpValue (some (compare i j)) o = c3 i j := by
  unfold c3
  by_cases h1 : i < j
  · have : compare i j = .lt := by simp [compare, compareOfLessAndEq, h1]
    rw [this, if_pos h1]; cases o <;> rfl
  · by_cases h2 : i = j
    · have : compare i j = .eq := by simp [compare, compareOfLessAndEq, h2]
      rw [this, if_neg h1, if_pos h2]; cases o <;> rfl
    · have : compare i j = .gt := by simp [compare, compareOfLessAndEq, h1, h2]
      rw [this, if_neg h1, if_neg h2]; cases o <;> rfl
theorem DS.cmpV {k : Nat} {i j : Int} {x y : UInt64} (hx : DS k i x) (hy : DS k j y) (o : CmpOp) : cmpValue (FP.dcmp x y) o = c3 i j := by rw [hx.cmp hy]; exact cmpV_int i j o
theorem whole_iff {i : Int} {s : Bool} {c : Nat} {q : Int} {N : Nat} (h : 0 ≤ q + N) : Whole i (.fin s c q) ↔ signed s c * ((2 ^ (q + N).toNat : Nat) : Int) = i * ((2 ^ N : Nat) : Int) := by
  show signed s (c * 2 ^ q.toNat) = i * ((2 ^ (-q).toNat : Nat) : Int) ↔ _
  rw [signed_mul]
  have e : q.toNat + N = (q + N).toNat + (-q).toNat := by omega
  have p1 : ((2 ^ N : Nat) : Int) ≠ 0 := by have := Nat.two_pow_pos N; omega
  have p2 : ((2 ^ (-q).toNat : Nat) : Int) ≠ 0 := by have := Nat.two_pow_pos (-q).toNat; omega
  have e1 : signed s c * ((2 ^ q.toNat : Nat) : Int) * ((2 ^ N : Nat) : Int) = signed s c * ((2 ^ (q + N).toNat : Nat) : Int) * ((2 ^ (-q).toNat : Nat) : Int) := by
    rw [Int.mul_assoc, Int.mul_assoc, ← Int.natCast_mul, ← Int.natCast_mul, ← Nat.pow_add, ← Nat.pow_add, e]
  constructor
  · intro hh
    refine Int.eq_of_mul_eq_mul_right p2 ?_
    rw [← e1, hh]; ac_rfl
  · intro hh
    refine Int.eq_of_mul_eq_mul_right p1 ?_
    rw [e1, hh]; ac_rfl
theorem DS.up {k : Nat} {i : Int} {x : UInt64} (h : DS k i x) (m : Nat) : DS (k + m) (i * ((2 ^ m : Nat) : Int)) x := by
  obtain ⟨s, c, q, e, hw⟩ := h.fin
  unfold DS; rw [e]
  show Whole _ (.fin s c (q + ((k + m : Nat) : Int)))
  rw [whole_iff (N := (-q).toNat) (by omega)]
  rw [whole_iff (N := (-q).toNat + m) (by omega)] at hw
  rw [show q + (k : Int) + (((-q).toNat + m : Nat) : Int) = q + ((k + m : Nat) : Int) + ((-q).toNat : Nat) by omega] at hw
  rw [hw, Nat.pow_add, Int.natCast_mul]; ac_rfl
theorem DS.cast {k k' : Nat} {i i' : Int} {x : UInt64} (h : DS k i x) (e1 : k = k') (e2 : i = i') : DS k' i' x := e1 ▸ e2 ▸ h
/-- the quotient, as the rounding of a ratio of whole numbers -/
theorem ds_quot {k m : Nat} {i j : Int} {x y : UInt64} (hx : DS k i x) (hy : DS m j y) (hj : j ≠ 0) :
    ∃ s t, signed s i.natAbs = i ∧ signed t j.natAbs = j ∧ val64 (FP.ddiv x y) = roundRatio b64 (s != t) i.natAbs j.natAbs ((m : Int) - k) := by
  obtain ⟨s, c, q, e, hw⟩ := hx.fin
  obtain ⟨t, d, r, e', hw'⟩ := hy.fin
  have hd : d ≠ 0 := fun z => hj ((whole_zero hw').mp z)
  have h1 := whole_natAbs hw
  have h2 := whole_natAbs hw'
  refine ⟨s, t, whole_signed hw, whole_signed hw', ?_⟩
  show val64 (Core.ddiv x y) = _
  rw [val64_ddiv, e, e']
  show (if d = 0 then _ else roundRatio b64 (s != t) c d (q - r)) = _
  rw [if_neg hd]
  have hj' : 0 < j.natAbs := by omega
  rw [roundRatio_congr (A' := i.natAbs) (B' := d) (e' := -(k : Int) - r) (by omega) (by omega) (by
    rw [show q - r - (-(k : Int) - r) = q + k by omega, show -(k : Int) - r - (q - r) = -(q + k) by omega, Nat.mul_right_comm, h1]; ac_rfl)]
  refine roundRatio_congr (by omega) hj' ?_
  rw [show -(k : Int) - r - ((m : Int) - k) = -(r + m) by omega, show (m : Int) - k - (-(k : Int) - r) = r + m by omega, Nat.mul_assoc, ← h2]; ac_rfl
theorem DS.div {k m n : Nat} {i j Q : Int} {x y : UInt64} (hx : DS k i x) (hy : DS m j y) (hj : j ≠ 0) (hQ : i * ((2 ^ (m + n) : Nat) : Int) = Q * j * ((2 ^ k : Nat) : Int)) (hb : Q.natAbs ≤ 2 ^ 53) (hn : n ≤ 1022) : DS n Q (FP.ddiv x y) := by
  obtain ⟨s, t, hs, ht, hv⟩ := ds_quot hx hy hj
  obtain ⟨c', q', hfit, hf⟩ := natFitS (s != t) hn hb
  have hj' : 0 < j.natAbs := by omega
  have hQn : i.natAbs * 2 ^ (m + n) = Q.natAbs * j.natAbs * 2 ^ k := by
    have := congrArg Int.natAbs hQ
    rwa [Int.natAbs_mul, Int.natAbs_mul, Int.natAbs_mul, Int.natAbs_natCast, Int.natAbs_natCast] at this
  have e1 : roundRatio b64 (s != t) i.natAbs j.natAbs ((m : Int) - k) = roundRatio b64 (s != t) Q.natAbs 1 (-(n : Int)) := by
    refine roundRatio_congr hj' (by decide) ?_
    rw [Nat.mul_one]
    have ea : m + n = ((m : Int) - k - -(n : Int)).toNat + min (m + n) k := by omega
    have eb : k = (-(n : Int) - ((m : Int) - k)).toNat + min (m + n) k := by omega
    generalize ((m : Int) - k - -(n : Int)).toNat = u at ea ⊢
    generalize (-(n : Int) - ((m : Int) - k)).toNat = w at eb ⊢
    have hQ2 : i.natAbs * 2 ^ (u + min (m + n) k) = Q.natAbs * j.natAbs * 2 ^ (w + min (m + n) k) := by rw [← ea, ← eb]; exact hQn
    rw [Nat.pow_add, Nat.pow_add, ← Nat.mul_assoc, ← Nat.mul_assoc] at hQ2
    exact Nat.eq_of_mul_eq_mul_right (Nat.two_pow_pos _) hQ2
  rw [e1, roundRatio_exact good_b64 (by decide) hfit hf] at hv
  unfold DS; rw [hv]
  show signed (s != t) (c' * 2 ^ (q' + (n : Int)).toNat) = Q * _
  rw [show -(n : Int) - q' = -(q' + n) by omega, show q' - -(n : Int) = q' + n by omega, Nat.mul_one] at hf
  rw [← hf, signed_mul]
  congr 1
  have hp : (0 : Int) < ((2 ^ (m + n) : Nat) : Int) := by have := Nat.two_pow_pos (m + n); omega
  have hp2 : (0 : Int) < ((2 ^ k : Nat) : Int) := by have := Nat.two_pow_pos k; omega
  generalize ((2 ^ (m + n) : Nat) : Int) = P1 at hQ hp
  generalize ((2 ^ k : Nat) : Int) = P2 at hQ hp2
  -- the sign of the quotient
  have key : signed (s != t) (Q.natAbs * (j.natAbs * j.natAbs)) = Q * (j.natAbs * j.natAbs : Nat) := by
    have e2 : signed (s != t) (i.natAbs * j.natAbs) = i * j := by rw [signed_xor, hs, ht]
    have e3 : i.natAbs * P1.natAbs = Q.natAbs * j.natAbs * P2.natAbs := by
      have := congrArg Int.natAbs hQ
      rwa [Int.natAbs_mul, Int.natAbs_mul, Int.natAbs_mul] at this
    have e4 : signed (s != t) (Q.natAbs * (j.natAbs * j.natAbs)) * P2 = Q * (j.natAbs * j.natAbs : Nat) * P2 := by
      have p2 : P2 = (P2.natAbs : Int) := by omega
      have p1 : P1 = (P1.natAbs : Int) := by omega
      calc signed (s != t) (Q.natAbs * (j.natAbs * j.natAbs)) * P2
          = signed (s != t) (Q.natAbs * (j.natAbs * j.natAbs) * P2.natAbs) := by rw [signed_mul _ (Q.natAbs * (j.natAbs * j.natAbs)), ← p2]
        _ = signed (s != t) (i.natAbs * j.natAbs * P1.natAbs) := by
            congr 1
            calc Q.natAbs * (j.natAbs * j.natAbs) * P2.natAbs = (Q.natAbs * j.natAbs * P2.natAbs) * j.natAbs := by ac_rfl
              _ = i.natAbs * j.natAbs * P1.natAbs := by rw [← e3]; ac_rfl
        _ = i * j * P1 := by rw [signed_mul, e2, ← p1]
        _ = (i * P1) * j := by ac_rfl
        _ = Q * (j * j) * P2 := by rw [hQ]; ac_rfl
        _ = Q * (j.natAbs * j.natAbs : Nat) * P2 := by rw [Int.natCast_mul, Int.natAbs_mul_self' j]
    exact Int.eq_of_mul_eq_mul_right (by omega) e4
  rw [signed_mul] at key
  exact Int.eq_of_mul_eq_mul_right (by have : 0 < j.natAbs * j.natAbs := Nat.mul_pos hj' hj'; omega) key
/-- by a power of two -/
theorem DS.divp {k t : Nat} {i : Int} {x y : UInt64} (hx : DS k i x) (hy : DS 0 ((2 ^ t : Nat) : Int) y) (hb : i.natAbs ≤ 2 ^ 53) (hn : k + t ≤ 1022) : DS (k + t) i (FP.ddiv x y) :=
  DS.div hx hy (by have := Nat.two_pow_pos t; omega) (by rw [Nat.zero_add, Nat.pow_add, Int.natCast_mul]; ac_rfl) hb hn
theorem sft_rem (k : Nat) (x y : Datum) : exactRemainder (sft k x) (sft k y) = sft k (exactRemainder x y) := by
  cases x with
  | nan => rfl
  | inf s => rfl
  | fin s c q =>
    cases y with
    | nan => rfl
    | inf t => rfl
    | fin t d r =>
      have h : min (q + (k : Int)) (r + k) = min q r + k := by omega
      have h1 : q + (k : Int) - (min q r + k) = q - min q r := by omega
      have h2 : r + (k : Int) - (min q r + k) = r - min q r := by omega
      show (if d = 0 then Datum.nan else .fin s (c * 2 ^ (q + (k : Int) - min (q + k) (r + k)).toNat % (d * 2 ^ (r + (k : Int) - min (q + k) (r + k)).toNat)) (min (q + k) (r + k))) = sft k (if d = 0 then Datum.nan else .fin s (c * 2 ^ (q - min q r).toNat % (d * 2 ^ (r - min q r).toNat)) (min q r))
      rw [h, h1, h2]; split <;> rfl
theorem signed_tmod {s : Bool} {i : Int} (hs : signed s i.natAbs = i) (j : Int) : signed s (i.natAbs % j.natAbs) = i.tmod j := by
  cases i with
  | ofNat a =>
    have e : Int.tmod (Int.ofNat a) j = ((a % j.natAbs : Nat) : Int) := by cases j <;> rfl
    rw [e]; show signed s (a % j.natAbs) = _
    have hs' : signed s a = (a : Int) := hs
    cases s with
    | false => rfl
    | true =>
      have h0 : a = 0 := by
        have : -(a : Int) = (a : Int) := hs'
        omega
      subst h0; rw [Nat.zero_mod]; rfl
  | negSucc a =>
    have e : Int.tmod (Int.negSucc a) j = -(((a + 1) % j.natAbs : Nat) : Int) := by cases j <;> rfl
    rw [e]; show signed s ((a + 1) % j.natAbs) = _
    cases s with
    | true => rfl
    | false =>
      have : ((a + 1 : Nat) : Int) = Int.negSucc a := hs
      omega
theorem whole_rem {i j : Int} {x y : Datum} (hx : Whole i x) (hy : Whole j y) (hj : j ≠ 0) : Whole (i.tmod j) (exactRemainder x y) := by
  cases x with
  | nan => exact hx.elim
  | inf => exact hx.elim
  | fin s c q =>
  cases y with
  | nan => exact hy.elim
  | inf => exact hy.elim
  | fin t d r =>
    have hd : d ≠ 0 := fun z => hj ((whole_zero hy).mp z)
    have h1 := congrArg Int.natAbs (whole_units hx (e := min q r) (by omega))
    have h2 := congrArg Int.natAbs (whole_units hy (e := min q r) (by omega))
    rw [Int.natAbs_mul, Int.natAbs_mul, Int.natAbs_natCast, Int.natAbs_natCast, natAbs_signed] at h1 h2
    show Whole _ (if d = 0 then _ else Datum.fin s (inUnits c q (min q r) % inUnits d r (min q r)) (min q r))
    rw [if_neg hd]
    show signed s (inUnits c q (min q r) % inUnits d r (min q r) * 2 ^ (min q r).toNat) = i.tmod j * ((2 ^ (-(min q r)).toNat : Nat) : Int)
    rw [← Nat.mul_mod_mul_right, h1, h2, Nat.mul_mod_mul_right, signed_mul, signed_tmod (whole_signed hx)]
theorem DS.rem {k : Nat} {i j : Int} {x y : UInt64} (hx : DS k i x) (hy : DS k j y) (hj : j ≠ 0) (hb : (i.tmod j).natAbs ≤ 2 ^ 53) (hk : k ≤ 1022) : DS k (i.tmod j) (FP.drem x y) := by
  show Whole _ (sft k (val64 (Core.drem x y)))
  rw [val64_drem]; refine ds_round hk hb ?_; rw [← sft_rem]; exact whole_rem hx hy hj
end Dyad
theorem own_mul {a b A B : Int} (h1 : -A ≤ a) (h2 : a ≤ A) (h3 : -B ≤ b) (h4 : b ≤ B) : -(A * B) ≤ a * b ∧ a * b ≤ A * B := by
  have e : (a * b).natAbs ≤ A.natAbs * B.natAbs := by rw [Int.natAbs_mul]; exact Nat.mul_le_mul (by omega) (by omega)
  have hA : 0 ≤ A := by omega
  have hB : 0 ≤ B := by omega
  have e2 : ((A.natAbs * B.natAbs : Nat) : Int) = A * B := by rw [Int.natCast_mul, Int.natAbs_of_nonneg hA, Int.natAbs_of_nonneg hB]
  omega

theorem d1_0 : decode prog_22_method_3_code 0 = .ok (.aload_n 0, 1) := by decide +kernel
theorem d1_1 : decode prog_22_method_3_code 1 = .ok (.arraylength, 1) := by decide +kernel
theorem d1_2 : decode prog_22_method_3_code 2 = .ok (.newarray .double, 2) := by decide +kernel
theorem d1_4 : decode prog_22_method_3_code 4 = .ok (.astore_n 3, 1) := by decide +kernel
theorem d1_5 : decode prog_22_method_3_code 5 = .ok (.iconst 0, 1) := by decide +kernel
theorem d1_6 : decode prog_22_method_3_code 6 = .ok (.istore 4, 2) := by decide +kernel
theorem d1_8 : decode prog_22_method_3_code 8 = .ok (.iload 4, 2) := by decide +kernel
theorem d1_10 : decode prog_22_method_3_code 10 = .ok (.aload_n 0, 1) := by decide +kernel
theorem d1_11 : decode prog_22_method_3_code 11 = .ok (.arraylength, 1) := by decide +kernel
theorem d1_12 : decode prog_22_method_3_code 12 = .ok (.if_icmp .ge 19, 3) := by decide +kernel
theorem d1_15 : decode prog_22_method_3_code 15 = .ok (.aload_n 3, 1) := by decide +kernel
theorem d1_16 : decode prog_22_method_3_code 16 = .ok (.iload 4, 2) := by decide +kernel
theorem d1_18 : decode prog_22_method_3_code 18 = .ok (.aload_n 0, 1) := by decide +kernel
theorem d1_19 : decode prog_22_method_3_code 19 = .ok (.iload 4, 2) := by decide +kernel
theorem d1_21 : decode prog_22_method_3_code 21 = .ok (.daload, 1) := by decide +kernel
theorem d1_22 : decode prog_22_method_3_code 22 = .ok (.dload_n 1, 1) := by decide +kernel
theorem d1_23 : decode prog_22_method_3_code 23 = .ok (.ddiv, 1) := by decide +kernel
theorem d1_24 : decode prog_22_method_3_code 24 = .ok (.dastore, 1) := by decide +kernel
theorem d1_25 : decode prog_22_method_3_code 25 = .ok (.iinc 4 1, 3) := by decide +kernel
theorem d1_28 : decode prog_22_method_3_code 28 = .ok (.goto (-20), 3) := by decide +kernel
theorem d1_31 : decode prog_22_method_3_code 31 = .ok (.aload_n 3, 1) := by decide +kernel
theorem d1_32 : decode prog_22_method_3_code 32 = .ok (.areturn, 1) := by decide +kernel
theorem pn0 : plainName "com/example/tieline/tieline/series/Amplitude" = true := by first | (simp [plainName, overriddenIn]; done) | decide +kernel
theorem ef1_rm1 (m : MethodId) (x0 : Addr) (x1 : UInt64) : entryFrame m #[(.ref x0), (.double x1)] 5 = mkF m 0 #[.val (.ref x0), .val (.double x1), .second, .unset, .unset] [] := by first | (simp [entryFrame, mkF, argsToLocals, Value.category]; done) | rfl
def Qrm1 (Z : State) (a : Addr) (sc : UInt64) (ka : ClassId) (z0 z1 z2 : UInt64) (kq0 kq1 kq2 : Int) (js : Int) (h0 : Heap) (n0 : Nat) (v : Option Value) (h : Heap) (L : List Loc) : Prop := ∃ (b : Addr) (kb : ClassId) (w0 w1 w2 : UInt64), v = some (.ref b) ∧ h0.size ≤ b ∧ Fr n0 L ∧ Keep h0 h [] ∧ Arv Z h b kb .double 3 [(.double w0), (.double w1), (.double w2)] (.double 0) ∧ DS 0 kq0 w0 ∧ DS 0 kq1 w1 ∧ DS 0 kq2 w2
set_option maxRecDepth 65536 in
set_option maxHeartbeats 40000000 in
theorem rm1 (l : Launch) (Z : State) (a0 : Array Value) (hw : ∀ d ∈ tables_1, d.before a0 Z = true) (ws : List Jvm.Cond) (a : Addr) (sc : UInt64) (ka : ClassId) (z0 z1 z2 : UInt64) (kq0 kq1 kq2 : Int) (js : Int) (h0 : Heap) (n0 : Nat) (Z0 : n0 ≤ h0.size) (Va : Arv Z h0 a ka .double 3 [(.double z0), (.double z1), (.double z2)] (.double 0)) (dsc : DS 0 js sc) (hj : js ≠ 0) (dz0 : DS 0 (kq0 * js) z0) (dz1 : DS 0 (kq1 * js) z1) (dz2 : DS 0 (kq2 * js) z2) (hb0 : kq0.natAbs ≤ 2 ^ 53) (hb1 : kq1.natAbs ≤ 2 ^ 53) (hb2 : kq2.natAbs ≤ 2 ^ 53) :
    MetFree l (⟨"com/example/tieline/tieline/series/Amplitude", "scaled", "([DD)[D"⟩ : MethodName) (head1 (Jvm.Cond.code (⟨"com/example/tieline/tieline/series/Amplitude", "scaled", "([DD)[D"⟩ : MethodName) prog_22_method_3_code 5 (some (.array .double)) :: ws) ({ frames := 0, cells := 1, slots := 3, locals := 0 } : Room)) (fun aa UU => aa = #[(.ref a), (.double sc)] ∧ Z.Warmed39 UU.vm ∧ UU.heap = h0) (fun _ _ _ _ _ => True) (fun _ UU oo UU' => ∃ vv LL, oo = .returned vv ∧ Qrm1 Z a sc ka z0 z1 z2 kq0 kq1 kq2 js h0 n0 vv UU'.heap LL ∧ FrameEnd UU oo UU' LL ({ frames := 0, cells := 1, slots := 3, locals := 0 } : Room).cells ({ frames := 0, cells := 1, slots := 3, locals := 0 } : Room).slots) := by
  refine MetFree.of_bodySF (plainFor_of_name pn0) hisR ?_
  intro p e s m args below meth c s₁ Bd hml0 hP hK
  obtain ⟨rfl, hZ, hh⟩ := hP
  have hx := Bd.exec
  have hby := Bd.bytes
  have hlk : meth.locks = false := BodyLoose.notSynchronized Bd
  have hret := Bd.returns
  have hml : c.maxLocals = 5 := hml0
  have hown : s.vm.findClass "com/example/tieline/tieline/series/Amplitude" = some m.cls := findClass_of_methodNamed Bd.named
  have hnm := (name_of_methodNamed Bd.named Bd.method).1
  have X0 : Stand p l e ({ frames := 0, cells := 1, slots := 3, locals := 0 } : Room) s m #[(.ref a), (.double sc)] below meth c s₁ [] 0 0 := Stand.of_body Bd
  have e0 : s₁.heap = h0 := by rw [← hh, Bd.state]; rfl
  have N0 := Fr.nil n0
  show Dn p e below s (Qrm1 Z a sc ka z0 z1 z2 kq0 kq1 kq2 js h0 n0) ({ frames := 0, cells := 1, slots := 3, locals := 0 } : Room).cells ({ frames := 0, cells := 1, slots := 3, locals := 0 } : Room).slots (s₁.setTop (entryFrame m #[(.ref a), (.double sc)] 5))
  refine Dn.st (fun _ kk => castTop (ef1_rm1 m a sc) kk) ?_
  show Dn p e below s _ _ _ (s₁.setTop (mkF m 0 #[.val (.ref a), .val (.double sc), .second, .unset, .unset] []))
  refine Dn.st (fun _ kk => XS.aloadN X0.here hx rfl (hb hby d1_0) rfl rfl (kk)) ?_
  show Dn p e below s _ _ _ (s₁.setTop (mkF m 1 #[.val (.ref a), .val (.double sc), .second, .unset, .unset] [(.ref a)]))
  have Vc_a_1 := Va
  obtain ⟨cl_a_1, Ar_a_1, q_a_1, S_a_1, N_a_1, H_a_1, G_a_1⟩ := Vc_a_1
  refine Dn.st (fun _ kk => X0.arraylength hx (by rw [e0]; exact Ar_a_1.1) (State.isArrayOf_alike hZ.alike Ar_a_1.2.1) (g := (mkF m 1 #[.val (.ref a), .val (.double sc), .second, .unset, .unset] [(.ref a)])) rfl rfl (hb hby d1_1) _ (kk)) ?_
  show Dn p e below s _ _ _ (s₁.setTop (mkF m 2 #[.val (.ref a), .val (.double sc), .second, .unset, .unset] [(.int cl_a_1.slots.size.toInt32)]))
  rw [len_of S_a_1 N_a_1]
  show Dn p e below s _ _ _ (s₁.setTop (mkF m 2 #[.val (.ref a), .val (.double sc), .second, .unset, .unset] [(.int (3 : Int32))]))
  obtain ⟨T2, h2, k2, X2, e2, E2, A2, st2⟩ := newP X0 hx hZ (hw _ (List.mem_of_getElem? (i := 1) rfl)) e0 (g := (mkF m 2 #[.val (.ref a), .val (.double sc), .second, .unset, .unset] [(.int (3 : Int32))])) rfl (hb hby d1_2) rfl (by decide) (cap := 3) (by decide) (by decide) (by decide) (by decide)
  obtain ⟨b2, g2⟩ : ∃ z, z = h0.size := ⟨_, rfl⟩
  rw [← g2] at A2 st2
  have ne_a_b2 : a ≠ b2 := Nat.ne_of_lt (Nat.lt_of_lt_of_le Va.lt (Nat.le_of_eq g2.symm))
  have gz_b2 : h0.size ≤ b2 := Nat.le_trans (Keep.refl h0 []).1 (Nat.le_of_eq g2.symm)
  have V_a_2 := Va.ext E2
  have K2 := (Keep.refl h0 []).ext E2
  have gn_b2 : n0 ≤ b2 := Nat.le_trans Z0 (Nat.le_of_eq g2.symm)
  have Z2 : n0 ≤ h2.size := Nat.le_trans Z0 E2.1
  have V_b2 : Arv Z h2 b2 k2 .double (3 : Int32) [(.double (0 : UInt64)), (.double (0 : UInt64)), (.double (0 : UInt64))] (.double (0 : UInt64)) := (Arv.new A2 (by decide)).pad (pad_rep [] (.double (0 : UInt64)) 3)
  refine Dn.st st2 ?_
  show Dn p e below s _ _ _ (T2.setTop (mkF m 4 #[.val (.ref a), .val (.double sc), .second, .unset, .unset] [(.ref b2)]))
  refine Dn.st (fun _ kk => XS.astoreN X2.here hx rfl (hb hby d1_4) rfl rfl (l' := #[.val (.ref a), .val (.double sc), .second, .val (.ref b2), .unset]) rfl (XS.iconst X2.here hx rfl (hb hby d1_5) (XS.istore X2.here hx rfl (hb hby d1_6) rfl (l' := #[.val (.ref a), .val (.double sc), .second, .val (.ref b2), .val (.int (0 : Int32))]) rfl (XS.iload X2.here hx rfl (hb hby d1_8) rfl  (XS.aloadN X2.here hx rfl (hb hby d1_10) rfl rfl (kk)))))) ?_
  show Dn p e below s _ _ _ (T2.setTop (mkF m 11 #[.val (.ref a), .val (.double sc), .second, .val (.ref b2), .val (.int (0 : Int32))] [(.ref a), (.int (0 : Int32))]))
  have Vc_a_11 := V_a_2
  obtain ⟨cl_a_11, Ar_a_11, q_a_11, S_a_11, N_a_11, H_a_11, G_a_11⟩ := Vc_a_11
  refine Dn.st (fun _ kk => X2.arraylength hx (by rw [e2]; exact Ar_a_11.1) (State.isArrayOf_alike hZ.alike Ar_a_11.2.1) (g := (mkF m 11 #[.val (.ref a), .val (.double sc), .second, .val (.ref b2), .val (.int (0 : Int32))] [(.ref a), (.int (0 : Int32))])) rfl rfl (hb hby d1_11) _ (kk)) ?_
  show Dn p e below s _ _ _ (T2.setTop (mkF m 12 #[.val (.ref a), .val (.double sc), .second, .val (.ref b2), .val (.int (0 : Int32))] [(.int cl_a_11.slots.size.toInt32), (.int (0 : Int32))]))
  rw [len_of S_a_11 N_a_11]
  show Dn p e below s _ _ _ (T2.setTop (mkF m 12 #[.val (.ref a), .val (.double sc), .second, .val (.ref b2), .val (.int (0 : Int32))] [(.int (3 : Int32)), (.int (0 : Int32))]))
  have hc12 : (0 : Int32) < (3 : Int32) := by decide
  refine Dn.st (fun _ kk => XS.icmpNo X2.here hx rfl (hb hby d1_12) rfl (tlt hc12).2.1 (XS.aloadN X2.here hx rfl (hb hby d1_15) rfl rfl (XS.iload X2.here hx rfl (hb hby d1_16) rfl  (XS.aloadN X2.here hx rfl (hb hby d1_18) rfl rfl (XS.iload X2.here hx rfl (hb hby d1_19) rfl  (kk)))))) ?_
  show Dn p e below s _ _ _ (T2.setTop (mkF m 21 #[.val (.ref a), .val (.double sc), .second, .val (.ref b2), .val (.int (0 : Int32))] [(.int (0 : Int32)), (.ref a), (.int (0 : Int32)), (.ref b2)]))
  have Vc_a_21 := V_a_2
  obtain ⟨cl_a_21, Ar_a_21, q_a_21, S_a_21, N_a_21, H_a_21, G_a_21⟩ := Vc_a_21
  have hin21 : ¬ ((0 : Int32) < 0 ∨ cl_a_21.slots.size ≤ ((0 : Int32)).toNatClampNeg) := inb_of S_a_21 ⟨by decide, by decide⟩
  have hat21 : cl_a_21.slots[((0 : Int32)).toNatClampNeg]? = some (.double z0) := H_a_21.at hin21 rfl
  refine Dn.st (fun _ kk => X2.daload hx (j := (0 : Int32)) (v := (.double z0)) (by rw [e2]; exact Ar_a_21.1) (State.isArrayOf_alike hZ.alike Ar_a_21.2.1) Ar_a_21.2.2 hin21 hat21 (g := (mkF m 21 #[.val (.ref a), .val (.double sc), .second, .val (.ref b2), .val (.int (0 : Int32))] [(.int (0 : Int32)), (.ref a), (.int (0 : Int32)), (.ref b2)])) rfl rfl (hb hby d1_21) _ (XS.dloadN X2.here hx rfl (hb hby d1_22) rfl  (kk))) ?_
  show Dn p e below s _ _ _ (T2.setTop (mkF m 23 #[.val (.ref a), .val (.double sc), .second, .val (.ref b2), .val (.int (0 : Int32))] [(.double sc), (.double z0), (.int (0 : Int32)), (.ref b2)]))
  have d23 : DS 0 kq0 (FP.ddiv z0 sc) := DS.div (n := 0) dz0 dsc hj rfl hb0 (by decide)
  refine Dn.st (fun _ kk => XS.ddivS X2.here hx rfl (hb hby d1_23) rfl d23.nn rfl (kk)) ?_
  show Dn p e below s _ _ _ (T2.setTop (mkF m 24 #[.val (.ref a), .val (.double sc), .second, .val (.ref b2), .val (.int (0 : Int32))] [(.double (FP.ddiv z0 sc)), (.int (0 : Int32)), (.ref b2)]))
  generalize hv23 : ((FP.ddiv z0 sc) : UInt64) = v23 at d23 ⊢
  show Dn p e below s _ _ _ (T2.setTop (mkF m 24 #[.val (.ref a), .val (.double sc), .second, .val (.ref b2), .val (.int (0 : Int32))] [(.double v23), (.int (0 : Int32)), (.ref b2)]))
  have Vc_b2_24 := V_b2
  obtain ⟨cl_b2_24, Ar_b2_24, q_b2_24, S_b2_24, N_b2_24, H_b2_24, G_b2_24⟩ := Vc_b2_24
  have hin24 : ¬ ((0 : Int32) < 0 ∨ cl_b2_24.slots.size ≤ ((0 : Int32)).toNatClampNeg) := inb_of S_b2_24 ⟨by decide, by decide⟩
  obtain ⟨T24, h24, X24, e24, W24, st24⟩ := stD X2 hx hZ e2 Ar_b2_24 (j := (0 : Int32)) hin24 (g := (mkF m 24 #[.val (.ref a), .val (.double sc), .second, .val (.ref b2), .val (.int (0 : Int32))] [(.double v23), (.int (0 : Int32)), (.ref b2)])) rfl rfl (hb hby d1_24)
  have V_a_24 := V_a_2.other W24 ne_a_b2
  have V_b2_24 := Arv.set Ar_b2_24 q_b2_24 S_b2_24 N_b2_24 H_b2_24 G_b2_24 rfl W24 0 rfl (Nat.le_of_ble_eq_true rfl)
  have K24 := K2.wr W24 (Or.inr gz_b2)
  have N24 := Fr.snoc X24 N0 gn_b2
  have Z24 : n0 ≤ h24.size := Nat.le_trans Z2 (Keep.of_wr W24).1
  refine Dn.st st24 ?_
  show Dn p e below s _ _ _ (T24.setTop (mkF m 25 #[.val (.ref a), .val (.double sc), .second, .val (.ref b2), .val (.int (0 : Int32))] []))
  refine Dn.st (fun _ kk => XS.iinc X24.here hx rfl (hb hby d1_25) rfl (l' := #[.val (.ref a), .val (.double sc), .second, .val (.ref b2), .val (.int (1 : Int32))]) rfl (XS.goto X24.here hx rfl (pc0 := 28) (pc' := 8) rfl (hb hby d1_28) (by decide) (by decide) (XS.iload X24.here hx rfl (hb hby d1_8) rfl  (XS.aloadN X24.here hx rfl (hb hby d1_10) rfl rfl (kk))))) ?_
  show Dn p e below s _ _ _ (T24.setTop (mkF m 11 #[.val (.ref a), .val (.double sc), .second, .val (.ref b2), .val (.int (1 : Int32))] [(.ref a), (.int (1 : Int32))]))
  have Vc_a_11_2 := V_a_24
  obtain ⟨cl_a_11_2, Ar_a_11_2, q_a_11_2, S_a_11_2, N_a_11_2, H_a_11_2, G_a_11_2⟩ := Vc_a_11_2
  refine Dn.st (fun _ kk => X24.arraylength hx (by rw [e24]; exact Ar_a_11_2.1) (State.isArrayOf_alike hZ.alike Ar_a_11_2.2.1) (g := (mkF m 11 #[.val (.ref a), .val (.double sc), .second, .val (.ref b2), .val (.int (1 : Int32))] [(.ref a), (.int (1 : Int32))])) rfl rfl (hb hby d1_11) _ (kk)) ?_
  show Dn p e below s _ _ _ (T24.setTop (mkF m 12 #[.val (.ref a), .val (.double sc), .second, .val (.ref b2), .val (.int (1 : Int32))] [(.int cl_a_11_2.slots.size.toInt32), (.int (1 : Int32))]))
  rw [len_of S_a_11_2 N_a_11_2]
  show Dn p e below s _ _ _ (T24.setTop (mkF m 12 #[.val (.ref a), .val (.double sc), .second, .val (.ref b2), .val (.int (1 : Int32))] [(.int (3 : Int32)), (.int (1 : Int32))]))
  have hc12_2 : (1 : Int32) < (3 : Int32) := by decide
  refine Dn.st (fun _ kk => XS.icmpNo X24.here hx rfl (hb hby d1_12) rfl (tlt hc12_2).2.1 (XS.aloadN X24.here hx rfl (hb hby d1_15) rfl rfl (XS.iload X24.here hx rfl (hb hby d1_16) rfl  (XS.aloadN X24.here hx rfl (hb hby d1_18) rfl rfl (XS.iload X24.here hx rfl (hb hby d1_19) rfl  (kk)))))) ?_
  show Dn p e below s _ _ _ (T24.setTop (mkF m 21 #[.val (.ref a), .val (.double sc), .second, .val (.ref b2), .val (.int (1 : Int32))] [(.int (1 : Int32)), (.ref a), (.int (1 : Int32)), (.ref b2)]))
  have Vc_a_21_2 := V_a_24
  obtain ⟨cl_a_21_2, Ar_a_21_2, q_a_21_2, S_a_21_2, N_a_21_2, H_a_21_2, G_a_21_2⟩ := Vc_a_21_2
  have hin21_2 : ¬ ((1 : Int32) < 0 ∨ cl_a_21_2.slots.size ≤ ((1 : Int32)).toNatClampNeg) := inb_of S_a_21_2 ⟨by decide, by decide⟩
  have hat21_2 : cl_a_21_2.slots[((1 : Int32)).toNatClampNeg]? = some (.double z1) := H_a_21_2.at hin21_2 rfl
  refine Dn.st (fun _ kk => X24.daload hx (j := (1 : Int32)) (v := (.double z1)) (by rw [e24]; exact Ar_a_21_2.1) (State.isArrayOf_alike hZ.alike Ar_a_21_2.2.1) Ar_a_21_2.2.2 hin21_2 hat21_2 (g := (mkF m 21 #[.val (.ref a), .val (.double sc), .second, .val (.ref b2), .val (.int (1 : Int32))] [(.int (1 : Int32)), (.ref a), (.int (1 : Int32)), (.ref b2)])) rfl rfl (hb hby d1_21) _ (XS.dloadN X24.here hx rfl (hb hby d1_22) rfl  (kk))) ?_
  show Dn p e below s _ _ _ (T24.setTop (mkF m 23 #[.val (.ref a), .val (.double sc), .second, .val (.ref b2), .val (.int (1 : Int32))] [(.double sc), (.double z1), (.int (1 : Int32)), (.ref b2)]))
  have d23_2 : DS 0 kq1 (FP.ddiv z1 sc) := DS.div (n := 0) dz1 dsc hj rfl hb1 (by decide)
  refine Dn.st (fun _ kk => XS.ddivS X24.here hx rfl (hb hby d1_23) rfl d23_2.nn rfl (kk)) ?_
  show Dn p e below s _ _ _ (T24.setTop (mkF m 24 #[.val (.ref a), .val (.double sc), .second, .val (.ref b2), .val (.int (1 : Int32))] [(.double (FP.ddiv z1 sc)), (.int (1 : Int32)), (.ref b2)]))
  generalize hv23_2 : ((FP.ddiv z1 sc) : UInt64) = v23_2 at d23_2 ⊢
  show Dn p e below s _ _ _ (T24.setTop (mkF m 24 #[.val (.ref a), .val (.double sc), .second, .val (.ref b2), .val (.int (1 : Int32))] [(.double v23_2), (.int (1 : Int32)), (.ref b2)]))
  have Vc_b2_24_2 := V_b2_24
  obtain ⟨cl_b2_24_2, Ar_b2_24_2, q_b2_24_2, S_b2_24_2, N_b2_24_2, H_b2_24_2, G_b2_24_2⟩ := Vc_b2_24_2
  have hin24_2 : ¬ ((1 : Int32) < 0 ∨ cl_b2_24_2.slots.size ≤ ((1 : Int32)).toNatClampNeg) := inb_of S_b2_24_2 ⟨by decide, by decide⟩
  obtain ⟨T24_2, h24_2, X24_2, e24_2, W24_2, st24_2⟩ := stD X24 hx hZ e24 Ar_b2_24_2 (j := (1 : Int32)) hin24_2 (g := (mkF m 24 #[.val (.ref a), .val (.double sc), .second, .val (.ref b2), .val (.int (1 : Int32))] [(.double v23_2), (.int (1 : Int32)), (.ref b2)])) rfl rfl (hb hby d1_24)
  have V_a_24_2 := V_a_24.other W24_2 ne_a_b2
  have V_b2_24_2 := Arv.set Ar_b2_24_2 q_b2_24_2 S_b2_24_2 N_b2_24_2 H_b2_24_2 G_b2_24_2 rfl W24_2 1 rfl (Nat.le_of_ble_eq_true rfl)
  have K24_2 := K24.wr W24_2 (Or.inr gz_b2)
  have N24_2 := Fr.snoc X24_2 N24 gn_b2
  have Z24_2 : n0 ≤ h24_2.size := Nat.le_trans Z24 (Keep.of_wr W24_2).1
  refine Dn.st st24_2 ?_
  show Dn p e below s _ _ _ (T24_2.setTop (mkF m 25 #[.val (.ref a), .val (.double sc), .second, .val (.ref b2), .val (.int (1 : Int32))] []))
  refine Dn.st (fun _ kk => XS.iinc X24_2.here hx rfl (hb hby d1_25) rfl (l' := #[.val (.ref a), .val (.double sc), .second, .val (.ref b2), .val (.int (2 : Int32))]) rfl (XS.goto X24_2.here hx rfl (pc0 := 28) (pc' := 8) rfl (hb hby d1_28) (by decide) (by decide) (XS.iload X24_2.here hx rfl (hb hby d1_8) rfl  (XS.aloadN X24_2.here hx rfl (hb hby d1_10) rfl rfl (kk))))) ?_
  show Dn p e below s _ _ _ (T24_2.setTop (mkF m 11 #[.val (.ref a), .val (.double sc), .second, .val (.ref b2), .val (.int (2 : Int32))] [(.ref a), (.int (2 : Int32))]))
  have Vc_a_11_3 := V_a_24_2
  obtain ⟨cl_a_11_3, Ar_a_11_3, q_a_11_3, S_a_11_3, N_a_11_3, H_a_11_3, G_a_11_3⟩ := Vc_a_11_3
  refine Dn.st (fun _ kk => X24_2.arraylength hx (by rw [e24_2]; exact Ar_a_11_3.1) (State.isArrayOf_alike hZ.alike Ar_a_11_3.2.1) (g := (mkF m 11 #[.val (.ref a), .val (.double sc), .second, .val (.ref b2), .val (.int (2 : Int32))] [(.ref a), (.int (2 : Int32))])) rfl rfl (hb hby d1_11) _ (kk)) ?_
  show Dn p e below s _ _ _ (T24_2.setTop (mkF m 12 #[.val (.ref a), .val (.double sc), .second, .val (.ref b2), .val (.int (2 : Int32))] [(.int cl_a_11_3.slots.size.toInt32), (.int (2 : Int32))]))
  rw [len_of S_a_11_3 N_a_11_3]
  show Dn p e below s _ _ _ (T24_2.setTop (mkF m 12 #[.val (.ref a), .val (.double sc), .second, .val (.ref b2), .val (.int (2 : Int32))] [(.int (3 : Int32)), (.int (2 : Int32))]))
  have hc12_3 : (2 : Int32) < (3 : Int32) := by decide
  refine Dn.st (fun _ kk => XS.icmpNo X24_2.here hx rfl (hb hby d1_12) rfl (tlt hc12_3).2.1 (XS.aloadN X24_2.here hx rfl (hb hby d1_15) rfl rfl (XS.iload X24_2.here hx rfl (hb hby d1_16) rfl  (XS.aloadN X24_2.here hx rfl (hb hby d1_18) rfl rfl (XS.iload X24_2.here hx rfl (hb hby d1_19) rfl  (kk)))))) ?_
  show Dn p e below s _ _ _ (T24_2.setTop (mkF m 21 #[.val (.ref a), .val (.double sc), .second, .val (.ref b2), .val (.int (2 : Int32))] [(.int (2 : Int32)), (.ref a), (.int (2 : Int32)), (.ref b2)]))
  have Vc_a_21_3 := V_a_24_2
  obtain ⟨cl_a_21_3, Ar_a_21_3, q_a_21_3, S_a_21_3, N_a_21_3, H_a_21_3, G_a_21_3⟩ := Vc_a_21_3
  have hin21_3 : ¬ ((2 : Int32) < 0 ∨ cl_a_21_3.slots.size ≤ ((2 : Int32)).toNatClampNeg) := inb_of S_a_21_3 ⟨by decide, by decide⟩
  have hat21_3 : cl_a_21_3.slots[((2 : Int32)).toNatClampNeg]? = some (.double z2) := H_a_21_3.at hin21_3 rfl
  refine Dn.st (fun _ kk => X24_2.daload hx (j := (2 : Int32)) (v := (.double z2)) (by rw [e24_2]; exact Ar_a_21_3.1) (State.isArrayOf_alike hZ.alike Ar_a_21_3.2.1) Ar_a_21_3.2.2 hin21_3 hat21_3 (g := (mkF m 21 #[.val (.ref a), .val (.double sc), .second, .val (.ref b2), .val (.int (2 : Int32))] [(.int (2 : Int32)), (.ref a), (.int (2 : Int32)), (.ref b2)])) rfl rfl (hb hby d1_21) _ (XS.dloadN X24_2.here hx rfl (hb hby d1_22) rfl  (kk))) ?_
  show Dn p e below s _ _ _ (T24_2.setTop (mkF m 23 #[.val (.ref a), .val (.double sc), .second, .val (.ref b2), .val (.int (2 : Int32))] [(.double sc), (.double z2), (.int (2 : Int32)), (.ref b2)]))
  have d23_3 : DS 0 kq2 (FP.ddiv z2 sc) := DS.div (n := 0) dz2 dsc hj rfl hb2 (by decide)
  refine Dn.st (fun _ kk => XS.ddivS X24_2.here hx rfl (hb hby d1_23) rfl d23_3.nn rfl (kk)) ?_
  show Dn p e below s _ _ _ (T24_2.setTop (mkF m 24 #[.val (.ref a), .val (.double sc), .second, .val (.ref b2), .val (.int (2 : Int32))] [(.double (FP.ddiv z2 sc)), (.int (2 : Int32)), (.ref b2)]))
  generalize hv23_3 : ((FP.ddiv z2 sc) : UInt64) = v23_3 at d23_3 ⊢
  show Dn p e below s _ _ _ (T24_2.setTop (mkF m 24 #[.val (.ref a), .val (.double sc), .second, .val (.ref b2), .val (.int (2 : Int32))] [(.double v23_3), (.int (2 : Int32)), (.ref b2)]))
  have Vc_b2_24_3 := V_b2_24_2
  obtain ⟨cl_b2_24_3, Ar_b2_24_3, q_b2_24_3, S_b2_24_3, N_b2_24_3, H_b2_24_3, G_b2_24_3⟩ := Vc_b2_24_3
  have hin24_3 : ¬ ((2 : Int32) < 0 ∨ cl_b2_24_3.slots.size ≤ ((2 : Int32)).toNatClampNeg) := inb_of S_b2_24_3 ⟨by decide, by decide⟩
  obtain ⟨T24_3, h24_3, X24_3, e24_3, W24_3, st24_3⟩ := stD X24_2 hx hZ e24_2 Ar_b2_24_3 (j := (2 : Int32)) hin24_3 (g := (mkF m 24 #[.val (.ref a), .val (.double sc), .second, .val (.ref b2), .val (.int (2 : Int32))] [(.double v23_3), (.int (2 : Int32)), (.ref b2)])) rfl rfl (hb hby d1_24)
  have V_a_24_3 := V_a_24_2.other W24_3 ne_a_b2
  have V_b2_24_3 := Arv.set Ar_b2_24_3 q_b2_24_3 S_b2_24_3 N_b2_24_3 H_b2_24_3 G_b2_24_3 rfl W24_3 2 rfl (Nat.le_of_ble_eq_true rfl)
  have K24_3 := K24_2.wr W24_3 (Or.inr gz_b2)
  have N24_3 := Fr.snoc X24_3 N24_2 gn_b2
  have Z24_3 : n0 ≤ h24_3.size := Nat.le_trans Z24_2 (Keep.of_wr W24_3).1
  refine Dn.st st24_3 ?_
  show Dn p e below s _ _ _ (T24_3.setTop (mkF m 25 #[.val (.ref a), .val (.double sc), .second, .val (.ref b2), .val (.int (2 : Int32))] []))
  refine Dn.st (fun _ kk => XS.iinc X24_3.here hx rfl (hb hby d1_25) rfl (l' := #[.val (.ref a), .val (.double sc), .second, .val (.ref b2), .val (.int (3 : Int32))]) rfl (XS.goto X24_3.here hx rfl (pc0 := 28) (pc' := 8) rfl (hb hby d1_28) (by decide) (by decide) (XS.iload X24_3.here hx rfl (hb hby d1_8) rfl  (XS.aloadN X24_3.here hx rfl (hb hby d1_10) rfl rfl (kk))))) ?_
  show Dn p e below s _ _ _ (T24_3.setTop (mkF m 11 #[.val (.ref a), .val (.double sc), .second, .val (.ref b2), .val (.int (3 : Int32))] [(.ref a), (.int (3 : Int32))]))
  have Vc_a_11_4 := V_a_24_3
  obtain ⟨cl_a_11_4, Ar_a_11_4, q_a_11_4, S_a_11_4, N_a_11_4, H_a_11_4, G_a_11_4⟩ := Vc_a_11_4
  refine Dn.st (fun _ kk => X24_3.arraylength hx (by rw [e24_3]; exact Ar_a_11_4.1) (State.isArrayOf_alike hZ.alike Ar_a_11_4.2.1) (g := (mkF m 11 #[.val (.ref a), .val (.double sc), .second, .val (.ref b2), .val (.int (3 : Int32))] [(.ref a), (.int (3 : Int32))])) rfl rfl (hb hby d1_11) _ (kk)) ?_
  show Dn p e below s _ _ _ (T24_3.setTop (mkF m 12 #[.val (.ref a), .val (.double sc), .second, .val (.ref b2), .val (.int (3 : Int32))] [(.int cl_a_11_4.slots.size.toInt32), (.int (3 : Int32))]))
  rw [len_of S_a_11_4 N_a_11_4]
  show Dn p e below s _ _ _ (T24_3.setTop (mkF m 12 #[.val (.ref a), .val (.double sc), .second, .val (.ref b2), .val (.int (3 : Int32))] [(.int (3 : Int32)), (.int (3 : Int32))]))
  have hc12_4 : ¬ ((3 : Int32) < (3 : Int32)) := by decide
  refine Dn.st (fun _ kk => XS.icmpYes X24_3.here hx rfl (pc0 := 12) (pc' := 31) rfl (hb hby d1_12) rfl (flt hc12_4).2.1 (by decide) (by decide) (XS.aloadN X24_3.here hx rfl (hb hby d1_31) rfl rfl (kk))) ?_
  show Dn p e below s _ _ _ (T24_3.setTop (mkF m 32 #[.val (.ref a), .val (.double sc), .second, .val (.ref b2), .val (.int (3 : Int32))] [(.ref b2)]))
  exact Dn.ret X24_3 hlk hx hret rfl (Or.inr (Or.inr (Or.inr (Or.inr ⟨rfl, rfl, rfl⟩)))) (hb hby d1_32) (by rw [e24_3]; exact ⟨b2, k2, v23, v23_2, v23_3, rfl, gz_b2, N24_3, K24_3, V_b2_24_3, d23, d23_2, d23_3⟩) (by decide) (by decide)

theorem ef1_rm1E (m : MethodId) (x0 : Addr) (x1 : UInt64) : entryFrame m #[(.ref x0), (.double x1)] 5 = mkF m 0 #[.val (.ref x0), .val (.double x1), .second, .unset, .unset] [] := by first | (simp [entryFrame, mkF, argsToLocals, Value.category]; done) | rfl
def Qrm1E (Z : State) (a : Addr) (sc : UInt64) (ka : ClassId)  (js : Int) (h0 : Heap) (n0 : Nat) (v : Option Value) (h : Heap) (L : List Loc) : Prop := ∃ (b : Addr) (kb : ClassId) (_ : Unit), v = some (.ref b) ∧ h0.size ≤ b ∧ Fr n0 L ∧ Keep h0 h [] ∧ Arv Z h b kb .double 0 [] (.double 0)
set_option maxRecDepth 65536 in
set_option maxHeartbeats 40000000 in
theorem rm1E (l : Launch) (Z : State) (a0 : Array Value) (hw : ∀ d ∈ tables_1, d.before a0 Z = true) (ws : List Jvm.Cond) (a : Addr) (sc : UInt64) (ka : ClassId)  (js : Int) (h0 : Heap) (n0 : Nat) (Z0 : n0 ≤ h0.size) (Va : Arv Z h0 a ka .double 0 [] (.double 0)) (dsc : DS 0 js sc) (hj : js ≠ 0) :
    MetFree l (⟨"com/example/tieline/tieline/series/Amplitude", "scaled", "([DD)[D"⟩ : MethodName) (head1 (Jvm.Cond.code (⟨"com/example/tieline/tieline/series/Amplitude", "scaled", "([DD)[D"⟩ : MethodName) prog_22_method_3_code 5 (some (.array .double)) :: ws) ({ frames := 0, cells := 1, slots := 0, locals := 0 } : Room)) (fun aa UU => aa = #[(.ref a), (.double sc)] ∧ Z.Warmed39 UU.vm ∧ UU.heap = h0) (fun _ _ _ _ _ => True) (fun _ UU oo UU' => ∃ vv LL, oo = .returned vv ∧ Qrm1E Z a sc ka   js h0 n0 vv UU'.heap LL ∧ FrameEnd UU oo UU' LL ({ frames := 0, cells := 1, slots := 0, locals := 0 } : Room).cells ({ frames := 0, cells := 1, slots := 0, locals := 0 } : Room).slots) := by
  refine MetFree.of_bodySF (plainFor_of_name pn0) hisR ?_
  intro p e s m args below meth c s₁ Bd hml0 hP hK
  obtain ⟨rfl, hZ, hh⟩ := hP
  have hx := Bd.exec
  have hby := Bd.bytes
  have hlk : meth.locks = false := BodyLoose.notSynchronized Bd
  have hret := Bd.returns
  have hml : c.maxLocals = 5 := hml0
  have hown : s.vm.findClass "com/example/tieline/tieline/series/Amplitude" = some m.cls := findClass_of_methodNamed Bd.named
  have hnm := (name_of_methodNamed Bd.named Bd.method).1
  have X0 : Stand p l e ({ frames := 0, cells := 1, slots := 0, locals := 0 } : Room) s m #[(.ref a), (.double sc)] below meth c s₁ [] 0 0 := Stand.of_body Bd
  have e0 : s₁.heap = h0 := by rw [← hh, Bd.state]; rfl
  have N0 := Fr.nil n0
  show Dn p e below s (Qrm1E Z a sc ka   js h0 n0) ({ frames := 0, cells := 1, slots := 0, locals := 0 } : Room).cells ({ frames := 0, cells := 1, slots := 0, locals := 0 } : Room).slots (s₁.setTop (entryFrame m #[(.ref a), (.double sc)] 5))
  refine Dn.st (fun _ kk => castTop (ef1_rm1E m a sc) kk) ?_
  show Dn p e below s _ _ _ (s₁.setTop (mkF m 0 #[.val (.ref a), .val (.double sc), .second, .unset, .unset] []))
  refine Dn.st (fun _ kk => XS.aloadN X0.here hx rfl (hb hby d1_0) rfl rfl (kk)) ?_
  show Dn p e below s _ _ _ (s₁.setTop (mkF m 1 #[.val (.ref a), .val (.double sc), .second, .unset, .unset] [(.ref a)]))
  have Vc_a_1 := Va
  obtain ⟨cl_a_1, Ar_a_1, q_a_1, S_a_1, N_a_1, H_a_1, G_a_1⟩ := Vc_a_1
  refine Dn.st (fun _ kk => X0.arraylength hx (by rw [e0]; exact Ar_a_1.1) (State.isArrayOf_alike hZ.alike Ar_a_1.2.1) (g := (mkF m 1 #[.val (.ref a), .val (.double sc), .second, .unset, .unset] [(.ref a)])) rfl rfl (hb hby d1_1) _ (kk)) ?_
  show Dn p e below s _ _ _ (s₁.setTop (mkF m 2 #[.val (.ref a), .val (.double sc), .second, .unset, .unset] [(.int cl_a_1.slots.size.toInt32)]))
  rw [len_of S_a_1 N_a_1]
  show Dn p e below s _ _ _ (s₁.setTop (mkF m 2 #[.val (.ref a), .val (.double sc), .second, .unset, .unset] [(.int (0 : Int32))]))
  obtain ⟨T2, h2, k2, X2, e2, E2, A2, st2⟩ := newP X0 hx hZ (hw _ (List.mem_of_getElem? (i := 1) rfl)) e0 (g := (mkF m 2 #[.val (.ref a), .val (.double sc), .second, .unset, .unset] [(.int (0 : Int32))])) rfl (hb hby d1_2) rfl (by decide) (cap := 0) (by decide) (by decide) (by decide) (by decide)
  obtain ⟨b2, g2⟩ : ∃ z, z = h0.size := ⟨_, rfl⟩
  rw [← g2] at A2 st2
  have ne_a_b2 : a ≠ b2 := Nat.ne_of_lt (Nat.lt_of_lt_of_le Va.lt (Nat.le_of_eq g2.symm))
  have gz_b2 : h0.size ≤ b2 := Nat.le_trans (Keep.refl h0 []).1 (Nat.le_of_eq g2.symm)
  have V_a_2 := Va.ext E2
  have K2 := (Keep.refl h0 []).ext E2
  have gn_b2 : n0 ≤ b2 := Nat.le_trans Z0 (Nat.le_of_eq g2.symm)
  have Z2 : n0 ≤ h2.size := Nat.le_trans Z0 E2.1
  have V_b2 : Arv Z h2 b2 k2 .double (0 : Int32) [] (.double (0 : UInt64)) := (Arv.new A2 (by decide)).pad (pad_rep [] (.double (0 : UInt64)) 0)
  refine Dn.st st2 ?_
  show Dn p e below s _ _ _ (T2.setTop (mkF m 4 #[.val (.ref a), .val (.double sc), .second, .unset, .unset] [(.ref b2)]))
  refine Dn.st (fun _ kk => XS.astoreN X2.here hx rfl (hb hby d1_4) rfl rfl (l' := #[.val (.ref a), .val (.double sc), .second, .val (.ref b2), .unset]) rfl (XS.iconst X2.here hx rfl (hb hby d1_5) (XS.istore X2.here hx rfl (hb hby d1_6) rfl (l' := #[.val (.ref a), .val (.double sc), .second, .val (.ref b2), .val (.int (0 : Int32))]) rfl (XS.iload X2.here hx rfl (hb hby d1_8) rfl  (XS.aloadN X2.here hx rfl (hb hby d1_10) rfl rfl (kk)))))) ?_
  show Dn p e below s _ _ _ (T2.setTop (mkF m 11 #[.val (.ref a), .val (.double sc), .second, .val (.ref b2), .val (.int (0 : Int32))] [(.ref a), (.int (0 : Int32))]))
  have Vc_a_11 := V_a_2
  obtain ⟨cl_a_11, Ar_a_11, q_a_11, S_a_11, N_a_11, H_a_11, G_a_11⟩ := Vc_a_11
  refine Dn.st (fun _ kk => X2.arraylength hx (by rw [e2]; exact Ar_a_11.1) (State.isArrayOf_alike hZ.alike Ar_a_11.2.1) (g := (mkF m 11 #[.val (.ref a), .val (.double sc), .second, .val (.ref b2), .val (.int (0 : Int32))] [(.ref a), (.int (0 : Int32))])) rfl rfl (hb hby d1_11) _ (kk)) ?_
  show Dn p e below s _ _ _ (T2.setTop (mkF m 12 #[.val (.ref a), .val (.double sc), .second, .val (.ref b2), .val (.int (0 : Int32))] [(.int cl_a_11.slots.size.toInt32), (.int (0 : Int32))]))
  rw [len_of S_a_11 N_a_11]
  show Dn p e below s _ _ _ (T2.setTop (mkF m 12 #[.val (.ref a), .val (.double sc), .second, .val (.ref b2), .val (.int (0 : Int32))] [(.int (0 : Int32)), (.int (0 : Int32))]))
  have hc12 : ¬ ((0 : Int32) < (0 : Int32)) := by decide
  refine Dn.st (fun _ kk => XS.icmpYes X2.here hx rfl (pc0 := 12) (pc' := 31) rfl (hb hby d1_12) rfl (flt hc12).2.1 (by decide) (by decide) (XS.aloadN X2.here hx rfl (hb hby d1_31) rfl rfl (kk))) ?_
  show Dn p e below s _ _ _ (T2.setTop (mkF m 32 #[.val (.ref a), .val (.double sc), .second, .val (.ref b2), .val (.int (0 : Int32))] [(.ref b2)]))
  exact Dn.ret X2 hlk hx hret rfl (Or.inr (Or.inr (Or.inr (Or.inr ⟨rfl, rfl, rfl⟩)))) (hb hby d1_32) (by rw [e2]; exact ⟨b2, k2, (), rfl, gz_b2, N0, K2, V_b2⟩) (by decide) (by decide)

theorem pd0 : parseMethodDescriptor "([DD)[D" = some ⟨[(.array .double), .double], some (.array .double)⟩ := by decide +kernel
theorem pn1 : plainName "com/example/tieline/tieline/series/AmplitudeScaledPinLaw" = true := by first | (simp [plainName, overriddenIn]; done) | decide +kernel
theorem ef0_rm0 (m : MethodId) (x0 : Int32) (x1 : Int32) (x2 : Int32) (x3 : Int32) : entryFrame m #[(.int x0), (.int x1), (.int x2), (.int x3)] maxLocals = mkF m 0 #[.val (.int x0), .val (.int x1), .val (.int x2), .val (.int x3), .unset, .unset, .unset, .unset, .unset, .unset, .unset, .unset, .unset, .unset, .unset, .unset, .unset, .unset, .unset, .unset, .unset, .unset, .unset, .unset, .unset, .unset] [] := by first | (simp [entryFrame, mkF, argsToLocals, Value.category, maxLocals]; done) | rfl
def Q0 (Z : State) (p0 : Int32) (p1 : Int32) (p2 : Int32) (p3 : Int32) (h0 : Heap) (n0 : Nat) (v : Option Value) (h : Heap) (L : List Loc) : Prop := v = some (.int 1) ∧ Fr n0 L
set_option maxRecDepth 65536 in
set_option maxHeartbeats 40000000 in
theorem rm0 (l : Launch) (Z : State) (a0 : Array Value) (hw : ∀ d ∈ tables_1, d.before a0 Z = true) (ws : List Jvm.Cond) (p0 : Int32) (p1 : Int32) (p2 : Int32) (p3 : Int32) (h0 : Heap) (n0 : Nat) (Z0 : n0 ≤ h0.size) :
    MetFree l x (head1 (Jvm.Cond.code x code maxLocals ret :: ws) room_1) (fun aa UU => aa = #[(.int p0), (.int p1), (.int p2), (.int p3)] ∧ Z.Warmed39 UU.vm ∧ UU.heap = h0) (fun _ _ _ _ _ => True) (fun _ UU oo UU' => ∃ vv LL, oo = .returned vv ∧ Q0 Z p0 p1 p2 p3 h0 n0 vv UU'.heap LL ∧ FrameEnd UU oo UU' LL 16 128) := by
  refine MetFree.of_bodySF (plainFor_of_name pn1) hisR ?_
  intro p e s m args below meth c s₁ Bd hml0 hP hK
  obtain ⟨rfl, hZ, hh⟩ := hP
  have hx := Bd.exec
  have hby := Bd.bytes
  have hlk : meth.locks = false := BodyLoose.notSynchronized Bd
  have hret := Bd.returns
  have hml : c.maxLocals = 26 := hml0
  have hown : s.vm.findClass "com/example/tieline/tieline/series/AmplitudeScaledPinLaw" = some m.cls := findClass_of_methodNamed Bd.named
  have hnm := (name_of_methodNamed Bd.named Bd.method).1
  have X0 : Stand p l e room_1 s m #[(.int p0), (.int p1), (.int p2), (.int p3)] below meth c s₁ [] 0 0 := Stand.of_body Bd
  have e0 : s₁.heap = h0 := by rw [← hh, Bd.state]; rfl
  have N0 := Fr.nil n0
  have r_p0 := rng32 p0
  have r_p1 := rng32 p1
  have r_p2 := rng32 p2
  have r_p3 := rng32 p3
  show Dn p e below s (Q0 Z p0 p1 p2 p3 h0 n0) 16 128 (s₁.setTop (entryFrame m #[(.int p0), (.int p1), (.int p2), (.int p3)] maxLocals))
  refine Dn.st (fun _ kk => castTop (ef0_rm0 m p0 p1 p2 p3) kk) ?_
  show Dn p e below s _ _ _ (s₁.setTop (mkF m 0 #[.val (.int p0), .val (.int p1), .val (.int p2), .val (.int p3), .unset, .unset, .unset, .unset, .unset, .unset, .unset, .unset, .unset, .unset, .unset, .unset, .unset, .unset, .unset, .unset, .unset, .unset, .unset, .unset, .unset, .unset] []))
  refine Dn.st (fun _ kk => XS.iloadN X0.here hx rfl (hb hby at_0) rfl  (XS.bipush X0.here hx rfl (hb hby at_1) (XS.ishr X0.here hx rfl (hb hby at_3) rfl (kk)))) ?_
  show Dn p e below s _ _ _ (s₁.setTop (mkF m 4 #[.val (.int p0), .val (.int p1), .val (.int p2), .val (.int p3), .unset, .unset, .unset, .unset, .unset, .unset, .unset, .unset, .unset, .unset, .unset, .unset, .unset, .unset, .unset, .unset, .unset, .unset, .unset, .unset, .unset, .unset] [(.int (p0 >>> ((11 : Int32) &&& 31)))]))
  generalize hv3 : ((p0 >>> ((11 : Int32) &&& 31)) : Int32) = v3
  have q3 : v3.toInt = p0.toInt / 2048 := by have qq := c_ishr p0 (11 : Int32) 11 (by decide); rw [hv3] at qq; exact qq
  have r3 := rng32 v3
  show Dn p e below s _ _ _ (s₁.setTop (mkF m 4 #[.val (.int p0), .val (.int p1), .val (.int p2), .val (.int p3), .unset, .unset, .unset, .unset, .unset, .unset, .unset, .unset, .unset, .unset, .unset, .unset, .unset, .unset, .unset, .unset, .unset, .unset, .unset, .unset, .unset, .unset] [(.int v3)]))
  refine Dn.st (fun _ kk => XS.i2l X0.here hx rfl (hb hby at_4) rfl (kk)) ?_
  show Dn p e below s _ _ _ (s₁.setTop (mkF m 5 #[.val (.int p0), .val (.int p1), .val (.int p2), .val (.int p3), .unset, .unset, .unset, .unset, .unset, .unset, .unset, .unset, .unset, .unset, .unset, .unset, .unset, .unset, .unset, .unset, .unset, .unset, .unset, .unset, .unset, .unset] [(.long (v3.toInt64))]))
  generalize hv4 : ((v3.toInt64) : Int64) = v4
  have q4 : v4.toInt = v3.toInt := by have qq := c_i2l v3; rw [hv4] at qq; exact qq
  have r4 := rng64 v4
  show Dn p e below s _ _ _ (s₁.setTop (mkF m 5 #[.val (.int p0), .val (.int p1), .val (.int p2), .val (.int p3), .unset, .unset, .unset, .unset, .unset, .unset, .unset, .unset, .unset, .unset, .unset, .unset, .unset, .unset, .unset, .unset, .unset, .unset, .unset, .unset, .unset, .unset] [(.long v4)]))
  refine Dn.st (fun _ kk => XS.lstore X0.here hx rfl (hb hby at_5) rfl (l' := #[.val (.int p0), .val (.int p1), .val (.int p2), .val (.int p3), .val (.long v4), .second, .unset, .unset, .unset, .unset, .unset, .unset, .unset, .unset, .unset, .unset, .unset, .unset, .unset, .unset, .unset, .unset, .unset, .unset, .unset, .unset]) rfl (XS.iloadN X0.here hx rfl (hb hby at_7) rfl  (XS.bipush X0.here hx rfl (hb hby at_8) (XS.ishr X0.here hx rfl (hb hby at_10) rfl (kk))))) ?_
  show Dn p e below s _ _ _ (s₁.setTop (mkF m 11 #[.val (.int p0), .val (.int p1), .val (.int p2), .val (.int p3), .val (.long v4), .second, .unset, .unset, .unset, .unset, .unset, .unset, .unset, .unset, .unset, .unset, .unset, .unset, .unset, .unset, .unset, .unset, .unset, .unset, .unset, .unset] [(.int (p1 >>> ((11 : Int32) &&& 31)))]))
  generalize hv10 : ((p1 >>> ((11 : Int32) &&& 31)) : Int32) = v10
  have q10 : v10.toInt = p1.toInt / 2048 := by have qq := c_ishr p1 (11 : Int32) 11 (by decide); rw [hv10] at qq; exact qq
  have r10 := rng32 v10
  show Dn p e below s _ _ _ (s₁.setTop (mkF m 11 #[.val (.int p0), .val (.int p1), .val (.int p2), .val (.int p3), .val (.long v4), .second, .unset, .unset, .unset, .unset, .unset, .unset, .unset, .unset, .unset, .unset, .unset, .unset, .unset, .unset, .unset, .unset, .unset, .unset, .unset, .unset] [(.int v10)]))
  refine Dn.st (fun _ kk => XS.i2l X0.here hx rfl (hb hby at_11) rfl (kk)) ?_
  show Dn p e below s _ _ _ (s₁.setTop (mkF m 12 #[.val (.int p0), .val (.int p1), .val (.int p2), .val (.int p3), .val (.long v4), .second, .unset, .unset, .unset, .unset, .unset, .unset, .unset, .unset, .unset, .unset, .unset, .unset, .unset, .unset, .unset, .unset, .unset, .unset, .unset, .unset] [(.long (v10.toInt64))]))
  generalize hv11 : ((v10.toInt64) : Int64) = v11
  have q11 : v11.toInt = v10.toInt := by have qq := c_i2l v10; rw [hv11] at qq; exact qq
  have r11 := rng64 v11
  show Dn p e below s _ _ _ (s₁.setTop (mkF m 12 #[.val (.int p0), .val (.int p1), .val (.int p2), .val (.int p3), .val (.long v4), .second, .unset, .unset, .unset, .unset, .unset, .unset, .unset, .unset, .unset, .unset, .unset, .unset, .unset, .unset, .unset, .unset, .unset, .unset, .unset, .unset] [(.long v11)]))
  refine Dn.st (fun _ kk => XS.lstore X0.here hx rfl (hb hby at_12) rfl (l' := #[.val (.int p0), .val (.int p1), .val (.int p2), .val (.int p3), .val (.long v4), .second, .val (.long v11), .second, .unset, .unset, .unset, .unset, .unset, .unset, .unset, .unset, .unset, .unset, .unset, .unset, .unset, .unset, .unset, .unset, .unset, .unset]) rfl (XS.iloadN X0.here hx rfl (hb hby at_14) rfl  (XS.bipush X0.here hx rfl (hb hby at_15) (XS.ishr X0.here hx rfl (hb hby at_17) rfl (kk))))) ?_
  show Dn p e below s _ _ _ (s₁.setTop (mkF m 18 #[.val (.int p0), .val (.int p1), .val (.int p2), .val (.int p3), .val (.long v4), .second, .val (.long v11), .second, .unset, .unset, .unset, .unset, .unset, .unset, .unset, .unset, .unset, .unset, .unset, .unset, .unset, .unset, .unset, .unset, .unset, .unset] [(.int (p2 >>> ((11 : Int32) &&& 31)))]))
  generalize hv17 : ((p2 >>> ((11 : Int32) &&& 31)) : Int32) = v17
  have q17 : v17.toInt = p2.toInt / 2048 := by have qq := c_ishr p2 (11 : Int32) 11 (by decide); rw [hv17] at qq; exact qq
  have r17 := rng32 v17
  show Dn p e below s _ _ _ (s₁.setTop (mkF m 18 #[.val (.int p0), .val (.int p1), .val (.int p2), .val (.int p3), .val (.long v4), .second, .val (.long v11), .second, .unset, .unset, .unset, .unset, .unset, .unset, .unset, .unset, .unset, .unset, .unset, .unset, .unset, .unset, .unset, .unset, .unset, .unset] [(.int v17)]))
  refine Dn.st (fun _ kk => XS.i2l X0.here hx rfl (hb hby at_18) rfl (kk)) ?_
  show Dn p e below s _ _ _ (s₁.setTop (mkF m 19 #[.val (.int p0), .val (.int p1), .val (.int p2), .val (.int p3), .val (.long v4), .second, .val (.long v11), .second, .unset, .unset, .unset, .unset, .unset, .unset, .unset, .unset, .unset, .unset, .unset, .unset, .unset, .unset, .unset, .unset, .unset, .unset] [(.long (v17.toInt64))]))
  generalize hv18 : ((v17.toInt64) : Int64) = v18
  have q18 : v18.toInt = v17.toInt := by have qq := c_i2l v17; rw [hv18] at qq; exact qq
  have r18 := rng64 v18
  show Dn p e below s _ _ _ (s₁.setTop (mkF m 19 #[.val (.int p0), .val (.int p1), .val (.int p2), .val (.int p3), .val (.long v4), .second, .val (.long v11), .second, .unset, .unset, .unset, .unset, .unset, .unset, .unset, .unset, .unset, .unset, .unset, .unset, .unset, .unset, .unset, .unset, .unset, .unset] [(.long v18)]))
  refine Dn.st (fun _ kk => XS.lstore X0.here hx rfl (hb hby at_19) rfl (l' := #[.val (.int p0), .val (.int p1), .val (.int p2), .val (.int p3), .val (.long v4), .second, .val (.long v11), .second, .val (.long v18), .second, .unset, .unset, .unset, .unset, .unset, .unset, .unset, .unset, .unset, .unset, .unset, .unset, .unset, .unset, .unset, .unset]) rfl (XS.iloadN X0.here hx rfl (hb hby at_21) rfl  (X0.ldcInt hx hown (mvT hZ (hw _ (List.mem_of_getElem? (i := 0) rfl))) (g := (mkF m 22 #[.val (.int p0), .val (.int p1), .val (.int p2), .val (.int p3), .val (.long v4), .second, .val (.long v11), .second, .val (.long v18), .second, .unset, .unset, .unset, .unset, .unset, .unset, .unset, .unset, .unset, .unset, .unset, .unset, .unset, .unset, .unset, .unset] [(.int p3)])) rfl (hb hby at_22) _ (XS.iand X0.here hx rfl (hb hby at_24) rfl (kk))))) ?_
  show Dn p e below s _ _ _ (s₁.setTop (mkF m 25 #[.val (.int p0), .val (.int p1), .val (.int p2), .val (.int p3), .val (.long v4), .second, .val (.long v11), .second, .val (.long v18), .second, .unset, .unset, .unset, .unset, .unset, .unset, .unset, .unset, .unset, .unset, .unset, .unset, .unset, .unset, .unset, .unset] [(.int (p3 &&& (524287 : Int32)))]))
  generalize hv24 : ((p3 &&& (524287 : Int32)) : Int32) = v24
  have q24 : v24.toInt = p3.toInt % 524288 := by have qq := c_mask p3 (524287 : Int32) 19 (by decide) (by decide); rw [hv24] at qq; exact qq
  have r24 := rng32 v24
  show Dn p e below s _ _ _ (s₁.setTop (mkF m 25 #[.val (.int p0), .val (.int p1), .val (.int p2), .val (.int p3), .val (.long v4), .second, .val (.long v11), .second, .val (.long v18), .second, .unset, .unset, .unset, .unset, .unset, .unset, .unset, .unset, .unset, .unset, .unset, .unset, .unset, .unset, .unset, .unset] [(.int v24)]))
  refine Dn.st (fun _ kk => XS.iconst X0.here hx rfl (hb hby at_25) (XS.iadd X0.here hx rfl (hb hby at_26) rfl (kk))) ?_
  show Dn p e below s _ _ _ (s₁.setTop (mkF m 27 #[.val (.int p0), .val (.int p1), .val (.int p2), .val (.int p3), .val (.long v4), .second, .val (.long v11), .second, .val (.long v18), .second, .unset, .unset, .unset, .unset, .unset, .unset, .unset, .unset, .unset, .unset, .unset, .unset, .unset, .unset, .unset, .unset] [(.int (v24 + (1 : Int32)))]))
  generalize hv26 : ((v24 + (1 : Int32)) : Int32) = v26
  have q26 : (v26.toInt - (v24.toInt + 1)) % 4294967296 = 0 := by have qq := c_iadd v24 (1 : Int32); rw [hv26] at qq; exact qq
  have r26 := rng32 v26
  show Dn p e below s _ _ _ (s₁.setTop (mkF m 27 #[.val (.int p0), .val (.int p1), .val (.int p2), .val (.int p3), .val (.long v4), .second, .val (.long v11), .second, .val (.long v18), .second, .unset, .unset, .unset, .unset, .unset, .unset, .unset, .unset, .unset, .unset, .unset, .unset, .unset, .unset, .unset, .unset] [(.int v26)]))
  refine Dn.st (fun _ kk => XS.i2l X0.here hx rfl (hb hby at_27) rfl (kk)) ?_
  show Dn p e below s _ _ _ (s₁.setTop (mkF m 28 #[.val (.int p0), .val (.int p1), .val (.int p2), .val (.int p3), .val (.long v4), .second, .val (.long v11), .second, .val (.long v18), .second, .unset, .unset, .unset, .unset, .unset, .unset, .unset, .unset, .unset, .unset, .unset, .unset, .unset, .unset, .unset, .unset] [(.long (v26.toInt64))]))
  generalize hv27 : ((v26.toInt64) : Int64) = v27
  have q27 : v27.toInt = v26.toInt := by have qq := c_i2l v26; rw [hv27] at qq; exact qq
  have r27 := rng64 v27
  show Dn p e below s _ _ _ (s₁.setTop (mkF m 28 #[.val (.int p0), .val (.int p1), .val (.int p2), .val (.int p3), .val (.long v4), .second, .val (.long v11), .second, .val (.long v18), .second, .unset, .unset, .unset, .unset, .unset, .unset, .unset, .unset, .unset, .unset, .unset, .unset, .unset, .unset, .unset, .unset] [(.long v27)]))
  refine Dn.st (fun _ kk => XS.lstore X0.here hx rfl (hb hby at_28) rfl (l' := #[.val (.int p0), .val (.int p1), .val (.int p2), .val (.int p3), .val (.long v4), .second, .val (.long v11), .second, .val (.long v18), .second, .val (.long v27), .second, .unset, .unset, .unset, .unset, .unset, .unset, .unset, .unset, .unset, .unset, .unset, .unset, .unset, .unset]) rfl (XS.iloadN X0.here hx rfl (hb hby at_30) rfl  (kk))) ?_
  show Dn p e below s _ _ _ (s₁.setTop (mkF m 31 #[.val (.int p0), .val (.int p1), .val (.int p2), .val (.int p3), .val (.long v4), .second, .val (.long v11), .second, .val (.long v18), .second, .val (.long v27), .second, .unset, .unset, .unset, .unset, .unset, .unset, .unset, .unset, .unset, .unset, .unset, .unset, .unset, .unset] [(.int p3)]))
  by_cases hc31 : p3 < (0 : Int32)
  · have hi31 : p3.toInt < 0 := Int32.lt_iff_toInt_lt.mp hc31
    refine Dn.st (fun _ kk => XS.ifNo X0.here hx rfl (hb hby at_31) rfl ((if0 _ _).trans (tlt hc31).2.1) (XS.lload X0.here hx rfl (hb hby at_34) rfl  (XS.lneg X0.here hx rfl (hb hby at_36) rfl (kk)))) ?_
    show Dn p e below s _ _ _ (s₁.setTop (mkF m 37 #[.val (.int p0), .val (.int p1), .val (.int p2), .val (.int p3), .val (.long v4), .second, .val (.long v11), .second, .val (.long v18), .second, .val (.long v27), .second, .unset, .unset, .unset, .unset, .unset, .unset, .unset, .unset, .unset, .unset, .unset, .unset, .unset, .unset] [(.long (-v27))]))
    generalize hv36 : ((-v27) : Int64) = v36
    have q36 : (v36.toInt - (-v27.toInt)) % 18446744073709551616 = 0 := by have qq := c_lneg v27; rw [hv36] at qq; exact qq
    have r36 := rng64 v36
    show Dn p e below s _ _ _ (s₁.setTop (mkF m 37 #[.val (.int p0), .val (.int p1), .val (.int p2), .val (.int p3), .val (.long v4), .second, .val (.long v11), .second, .val (.long v18), .second, .val (.long v27), .second, .unset, .unset, .unset, .unset, .unset, .unset, .unset, .unset, .unset, .unset, .unset, .unset, .unset, .unset] [(.long v36)]))
    refine Dn.st (fun _ kk => XS.goto X0.here hx rfl (pc0 := 37) (pc' := 42) rfl (hb hby at_37) (by decide) (by decide) (XS.lstore X0.here hx rfl (hb hby at_42) rfl (l' := #[.val (.int p0), .val (.int p1), .val (.int p2), .val (.int p3), .val (.long v4), .second, .val (.long v11), .second, .val (.long v18), .second, .val (.long v27), .second, .val (.long v36), .second, .unset, .unset, .unset, .unset, .unset, .unset, .unset, .unset, .unset, .unset, .unset, .unset]) rfl (XS.lload X0.here hx rfl (hb hby at_44) rfl  (kk)))) ?_
    show Dn p e below s _ _ _ (s₁.setTop (mkF m 46 #[.val (.int p0), .val (.int p1), .val (.int p2), .val (.int p3), .val (.long v4), .second, .val (.long v11), .second, .val (.long v18), .second, .val (.long v27), .second, .val (.long v36), .second, .unset, .unset, .unset, .unset, .unset, .unset, .unset, .unset, .unset, .unset, .unset, .unset] [(.long v36)]))
    have d46 := DS.l2d (v := v36) (by omega)
    refine Dn.st (fun _ kk => XS.l2dS X0.here hx rfl (hb hby at_46) rfl rfl (kk)) ?_
    show Dn p e below s _ _ _ (s₁.setTop (mkF m 47 #[.val (.int p0), .val (.int p1), .val (.int p2), .val (.int p3), .val (.long v4), .second, .val (.long v11), .second, .val (.long v18), .second, .val (.long v27), .second, .val (.long v36), .second, .unset, .unset, .unset, .unset, .unset, .unset, .unset, .unset, .unset, .unset, .unset, .unset] [(.double (FP.l2d v36))]))
    generalize hv46 : ((FP.l2d v36) : UInt64) = v46 at d46 ⊢
    show Dn p e below s _ _ _ (s₁.setTop (mkF m 47 #[.val (.int p0), .val (.int p1), .val (.int p2), .val (.int p3), .val (.long v4), .second, .val (.long v11), .second, .val (.long v18), .second, .val (.long v27), .second, .val (.long v36), .second, .unset, .unset, .unset, .unset, .unset, .unset, .unset, .unset, .unset, .unset, .unset, .unset] [(.double v46)]))
    refine Dn.st (fun _ kk => XS.dstore X0.here hx rfl (hb hby at_47) rfl (l' := #[.val (.int p0), .val (.int p1), .val (.int p2), .val (.int p3), .val (.long v4), .second, .val (.long v11), .second, .val (.long v18), .second, .val (.long v27), .second, .val (.long v36), .second, .val (.double v46), .second, .unset, .unset, .unset, .unset, .unset, .unset, .unset, .unset, .unset, .unset]) rfl (XS.lload X0.here hx rfl (hb hby at_49) rfl  (XS.lload X0.here hx rfl (hb hby at_51) rfl  (kk)))) ?_
    show Dn p e below s _ _ _ (s₁.setTop (mkF m 53 #[.val (.int p0), .val (.int p1), .val (.int p2), .val (.int p3), .val (.long v4), .second, .val (.long v11), .second, .val (.long v18), .second, .val (.long v27), .second, .val (.long v36), .second, .val (.double v46), .second, .unset, .unset, .unset, .unset, .unset, .unset, .unset, .unset, .unset, .unset] [(.long v36), (.long v4)]))
    have mm53 := own_mul (a := v4.toInt) (b := v36.toInt) (A := 1048576) (B := 524288) (by omega) (by omega) (by omega) (by omega)
    refine Dn.st (fun _ kk => XS.lmul X0.here hx rfl (hb hby at_53) rfl (kk)) ?_
    show Dn p e below s _ _ _ (s₁.setTop (mkF m 54 #[.val (.int p0), .val (.int p1), .val (.int p2), .val (.int p3), .val (.long v4), .second, .val (.long v11), .second, .val (.long v18), .second, .val (.long v27), .second, .val (.long v36), .second, .val (.double v46), .second, .unset, .unset, .unset, .unset, .unset, .unset, .unset, .unset, .unset, .unset] [(.long (v4 * v36))]))
    generalize hv53 : ((v4 * v36) : Int64) = v53
    have q53 : (v53.toInt - (v4.toInt * v36.toInt)) % 18446744073709551616 = 0 := by have qq := c_lmul v4 v36; rw [hv53] at qq; exact qq
    have r53 := rng64 v53
    show Dn p e below s _ _ _ (s₁.setTop (mkF m 54 #[.val (.int p0), .val (.int p1), .val (.int p2), .val (.int p3), .val (.long v4), .second, .val (.long v11), .second, .val (.long v18), .second, .val (.long v27), .second, .val (.long v36), .second, .val (.double v46), .second, .unset, .unset, .unset, .unset, .unset, .unset, .unset, .unset, .unset, .unset] [(.long v53)]))
    have d54 := DS.l2d (v := v53) (by omega)
    refine Dn.st (fun _ kk => XS.l2dS X0.here hx rfl (hb hby at_54) rfl rfl (kk)) ?_
    show Dn p e below s _ _ _ (s₁.setTop (mkF m 55 #[.val (.int p0), .val (.int p1), .val (.int p2), .val (.int p3), .val (.long v4), .second, .val (.long v11), .second, .val (.long v18), .second, .val (.long v27), .second, .val (.long v36), .second, .val (.double v46), .second, .unset, .unset, .unset, .unset, .unset, .unset, .unset, .unset, .unset, .unset] [(.double (FP.l2d v53))]))
    generalize hv54 : ((FP.l2d v53) : UInt64) = v54 at d54 ⊢
    show Dn p e below s _ _ _ (s₁.setTop (mkF m 55 #[.val (.int p0), .val (.int p1), .val (.int p2), .val (.int p3), .val (.long v4), .second, .val (.long v11), .second, .val (.long v18), .second, .val (.long v27), .second, .val (.long v36), .second, .val (.double v46), .second, .unset, .unset, .unset, .unset, .unset, .unset, .unset, .unset, .unset, .unset] [(.double v54)]))
    refine Dn.st (fun _ kk => XS.dstore X0.here hx rfl (hb hby at_55) rfl (l' := #[.val (.int p0), .val (.int p1), .val (.int p2), .val (.int p3), .val (.long v4), .second, .val (.long v11), .second, .val (.long v18), .second, .val (.long v27), .second, .val (.long v36), .second, .val (.double v46), .second, .val (.double v54), .second, .unset, .unset, .unset, .unset, .unset, .unset, .unset, .unset]) rfl (XS.lload X0.here hx rfl (hb hby at_57) rfl  (XS.lload X0.here hx rfl (hb hby at_59) rfl  (kk)))) ?_
    show Dn p e below s _ _ _ (s₁.setTop (mkF m 61 #[.val (.int p0), .val (.int p1), .val (.int p2), .val (.int p3), .val (.long v4), .second, .val (.long v11), .second, .val (.long v18), .second, .val (.long v27), .second, .val (.long v36), .second, .val (.double v46), .second, .val (.double v54), .second, .unset, .unset, .unset, .unset, .unset, .unset, .unset, .unset] [(.long v36), (.long v11)]))
    have mm61 := own_mul (a := v11.toInt) (b := v36.toInt) (A := 1048576) (B := 524288) (by omega) (by omega) (by omega) (by omega)
    refine Dn.st (fun _ kk => XS.lmul X0.here hx rfl (hb hby at_61) rfl (kk)) ?_
    show Dn p e below s _ _ _ (s₁.setTop (mkF m 62 #[.val (.int p0), .val (.int p1), .val (.int p2), .val (.int p3), .val (.long v4), .second, .val (.long v11), .second, .val (.long v18), .second, .val (.long v27), .second, .val (.long v36), .second, .val (.double v46), .second, .val (.double v54), .second, .unset, .unset, .unset, .unset, .unset, .unset, .unset, .unset] [(.long (v11 * v36))]))
    generalize hv61 : ((v11 * v36) : Int64) = v61
    have q61 : (v61.toInt - (v11.toInt * v36.toInt)) % 18446744073709551616 = 0 := by have qq := c_lmul v11 v36; rw [hv61] at qq; exact qq
    have r61 := rng64 v61
    show Dn p e below s _ _ _ (s₁.setTop (mkF m 62 #[.val (.int p0), .val (.int p1), .val (.int p2), .val (.int p3), .val (.long v4), .second, .val (.long v11), .second, .val (.long v18), .second, .val (.long v27), .second, .val (.long v36), .second, .val (.double v46), .second, .val (.double v54), .second, .unset, .unset, .unset, .unset, .unset, .unset, .unset, .unset] [(.long v61)]))
    have d62 := DS.l2d (v := v61) (by omega)
    refine Dn.st (fun _ kk => XS.l2dS X0.here hx rfl (hb hby at_62) rfl rfl (kk)) ?_
    show Dn p e below s _ _ _ (s₁.setTop (mkF m 63 #[.val (.int p0), .val (.int p1), .val (.int p2), .val (.int p3), .val (.long v4), .second, .val (.long v11), .second, .val (.long v18), .second, .val (.long v27), .second, .val (.long v36), .second, .val (.double v46), .second, .val (.double v54), .second, .unset, .unset, .unset, .unset, .unset, .unset, .unset, .unset] [(.double (FP.l2d v61))]))
    generalize hv62 : ((FP.l2d v61) : UInt64) = v62 at d62 ⊢
    show Dn p e below s _ _ _ (s₁.setTop (mkF m 63 #[.val (.int p0), .val (.int p1), .val (.int p2), .val (.int p3), .val (.long v4), .second, .val (.long v11), .second, .val (.long v18), .second, .val (.long v27), .second, .val (.long v36), .second, .val (.double v46), .second, .val (.double v54), .second, .unset, .unset, .unset, .unset, .unset, .unset, .unset, .unset] [(.double v62)]))
    refine Dn.st (fun _ kk => XS.dstore X0.here hx rfl (hb hby at_63) rfl (l' := #[.val (.int p0), .val (.int p1), .val (.int p2), .val (.int p3), .val (.long v4), .second, .val (.long v11), .second, .val (.long v18), .second, .val (.long v27), .second, .val (.long v36), .second, .val (.double v46), .second, .val (.double v54), .second, .val (.double v62), .second, .unset, .unset, .unset, .unset, .unset, .unset]) rfl (XS.lload X0.here hx rfl (hb hby at_65) rfl  (XS.lload X0.here hx rfl (hb hby at_67) rfl  (kk)))) ?_
    show Dn p e below s _ _ _ (s₁.setTop (mkF m 69 #[.val (.int p0), .val (.int p1), .val (.int p2), .val (.int p3), .val (.long v4), .second, .val (.long v11), .second, .val (.long v18), .second, .val (.long v27), .second, .val (.long v36), .second, .val (.double v46), .second, .val (.double v54), .second, .val (.double v62), .second, .unset, .unset, .unset, .unset, .unset, .unset] [(.long v36), (.long v18)]))
    have mm69 := own_mul (a := v18.toInt) (b := v36.toInt) (A := 1048576) (B := 524288) (by omega) (by omega) (by omega) (by omega)
    refine Dn.st (fun _ kk => XS.lmul X0.here hx rfl (hb hby at_69) rfl (kk)) ?_
    show Dn p e below s _ _ _ (s₁.setTop (mkF m 70 #[.val (.int p0), .val (.int p1), .val (.int p2), .val (.int p3), .val (.long v4), .second, .val (.long v11), .second, .val (.long v18), .second, .val (.long v27), .second, .val (.long v36), .second, .val (.double v46), .second, .val (.double v54), .second, .val (.double v62), .second, .unset, .unset, .unset, .unset, .unset, .unset] [(.long (v18 * v36))]))
    generalize hv69 : ((v18 * v36) : Int64) = v69
    have q69 : (v69.toInt - (v18.toInt * v36.toInt)) % 18446744073709551616 = 0 := by have qq := c_lmul v18 v36; rw [hv69] at qq; exact qq
    have r69 := rng64 v69
    show Dn p e below s _ _ _ (s₁.setTop (mkF m 70 #[.val (.int p0), .val (.int p1), .val (.int p2), .val (.int p3), .val (.long v4), .second, .val (.long v11), .second, .val (.long v18), .second, .val (.long v27), .second, .val (.long v36), .second, .val (.double v46), .second, .val (.double v54), .second, .val (.double v62), .second, .unset, .unset, .unset, .unset, .unset, .unset] [(.long v69)]))
    have d70 := DS.l2d (v := v69) (by omega)
    refine Dn.st (fun _ kk => XS.l2dS X0.here hx rfl (hb hby at_70) rfl rfl (kk)) ?_
    show Dn p e below s _ _ _ (s₁.setTop (mkF m 71 #[.val (.int p0), .val (.int p1), .val (.int p2), .val (.int p3), .val (.long v4), .second, .val (.long v11), .second, .val (.long v18), .second, .val (.long v27), .second, .val (.long v36), .second, .val (.double v46), .second, .val (.double v54), .second, .val (.double v62), .second, .unset, .unset, .unset, .unset, .unset, .unset] [(.double (FP.l2d v69))]))
    generalize hv70 : ((FP.l2d v69) : UInt64) = v70 at d70 ⊢
    show Dn p e below s _ _ _ (s₁.setTop (mkF m 71 #[.val (.int p0), .val (.int p1), .val (.int p2), .val (.int p3), .val (.long v4), .second, .val (.long v11), .second, .val (.long v18), .second, .val (.long v27), .second, .val (.long v36), .second, .val (.double v46), .second, .val (.double v54), .second, .val (.double v62), .second, .unset, .unset, .unset, .unset, .unset, .unset] [(.double v70)]))
    refine Dn.st (fun _ kk => XS.dstore X0.here hx rfl (hb hby at_71) rfl (l' := #[.val (.int p0), .val (.int p1), .val (.int p2), .val (.int p3), .val (.long v4), .second, .val (.long v11), .second, .val (.long v18), .second, .val (.long v27), .second, .val (.long v36), .second, .val (.double v46), .second, .val (.double v54), .second, .val (.double v62), .second, .val (.double v70), .second, .unset, .unset, .unset, .unset]) rfl (XS.iconst X0.here hx rfl (hb hby at_73) (kk))) ?_
    show Dn p e below s _ _ _ (s₁.setTop (mkF m 74 #[.val (.int p0), .val (.int p1), .val (.int p2), .val (.int p3), .val (.long v4), .second, .val (.long v11), .second, .val (.long v18), .second, .val (.long v27), .second, .val (.long v36), .second, .val (.double v46), .second, .val (.double v54), .second, .val (.double v62), .second, .val (.double v70), .second, .unset, .unset, .unset, .unset] [(.int (3 : Int32))]))
    obtain ⟨T74, h74, k74, X74, e74, E74, A74, st74⟩ := newP X0 hx hZ (hw _ (List.mem_of_getElem? (i := 1) rfl)) e0 (g := (mkF m 74 #[.val (.int p0), .val (.int p1), .val (.int p2), .val (.int p3), .val (.long v4), .second, .val (.long v11), .second, .val (.long v18), .second, .val (.long v27), .second, .val (.long v36), .second, .val (.double v46), .second, .val (.double v54), .second, .val (.double v62), .second, .val (.double v70), .second, .unset, .unset, .unset, .unset] [(.int (3 : Int32))])) rfl (hb hby at_74) rfl (by decide) (cap := 3) (by decide) (by decide) (by decide) (by decide)
    obtain ⟨b74, g74⟩ : ∃ z, z = h0.size := ⟨_, rfl⟩
    rw [← g74] at A74 st74
    have gn_b74 : n0 ≤ b74 := Nat.le_trans Z0 (Nat.le_of_eq g74.symm)
    have Z74 : n0 ≤ h74.size := Nat.le_trans Z0 E74.1
    have V_b74 : Arv Z h74 b74 k74 .double (3 : Int32) [(.double (0 : UInt64)), (.double (0 : UInt64)), (.double (0 : UInt64))] (.double (0 : UInt64)) := (Arv.new A74 (by decide)).pad (pad_rep [] (.double (0 : UInt64)) 3)
    refine Dn.st st74 ?_
    show Dn p e below s _ _ _ (T74.setTop (mkF m 76 #[.val (.int p0), .val (.int p1), .val (.int p2), .val (.int p3), .val (.long v4), .second, .val (.long v11), .second, .val (.long v18), .second, .val (.long v27), .second, .val (.long v36), .second, .val (.double v46), .second, .val (.double v54), .second, .val (.double v62), .second, .val (.double v70), .second, .unset, .unset, .unset, .unset] [(.ref b74)]))
    refine Dn.st (fun _ kk => XS.astore X74.here hx rfl (hb hby at_76) rfl rfl (l' := #[.val (.int p0), .val (.int p1), .val (.int p2), .val (.int p3), .val (.long v4), .second, .val (.long v11), .second, .val (.long v18), .second, .val (.long v27), .second, .val (.long v36), .second, .val (.double v46), .second, .val (.double v54), .second, .val (.double v62), .second, .val (.double v70), .second, .val (.ref b74), .unset, .unset, .unset]) rfl (XS.aload X74.here hx rfl (hb hby at_78) rfl rfl (XS.iconst X74.here hx rfl (hb hby at_80) (XS.dload X74.here hx rfl (hb hby at_81) rfl  (kk))))) ?_
    show Dn p e below s _ _ _ (T74.setTop (mkF m 83 #[.val (.int p0), .val (.int p1), .val (.int p2), .val (.int p3), .val (.long v4), .second, .val (.long v11), .second, .val (.long v18), .second, .val (.long v27), .second, .val (.long v36), .second, .val (.double v46), .second, .val (.double v54), .second, .val (.double v62), .second, .val (.double v70), .second, .val (.ref b74), .unset, .unset, .unset] [(.double v54), (.int (0 : Int32)), (.ref b74)]))
    have Vc_b74_83 := V_b74
    obtain ⟨cl_b74_83, Ar_b74_83, q_b74_83, S_b74_83, N_b74_83, H_b74_83, G_b74_83⟩ := Vc_b74_83
    have hin83 : ¬ ((0 : Int32) < 0 ∨ cl_b74_83.slots.size ≤ ((0 : Int32)).toNatClampNeg) := inb_of S_b74_83 ⟨by decide, by decide⟩
    obtain ⟨T83, h83, X83, e83, W83, st83⟩ := stD X74 hx hZ e74 Ar_b74_83 (j := (0 : Int32)) hin83 (g := (mkF m 83 #[.val (.int p0), .val (.int p1), .val (.int p2), .val (.int p3), .val (.long v4), .second, .val (.long v11), .second, .val (.long v18), .second, .val (.long v27), .second, .val (.long v36), .second, .val (.double v46), .second, .val (.double v54), .second, .val (.double v62), .second, .val (.double v70), .second, .val (.ref b74), .unset, .unset, .unset] [(.double v54), (.int (0 : Int32)), (.ref b74)])) rfl rfl (hb hby at_83)
    have V_b74_83 := Arv.set Ar_b74_83 q_b74_83 S_b74_83 N_b74_83 H_b74_83 G_b74_83 rfl W83 0 rfl (Nat.le_of_ble_eq_true rfl)
    have N83 := Fr.snoc X83 N0 gn_b74
    have Z83 : n0 ≤ h83.size := Nat.le_trans Z74 (Keep.of_wr W83).1
    refine Dn.st st83 ?_
    show Dn p e below s _ _ _ (T83.setTop (mkF m 84 #[.val (.int p0), .val (.int p1), .val (.int p2), .val (.int p3), .val (.long v4), .second, .val (.long v11), .second, .val (.long v18), .second, .val (.long v27), .second, .val (.long v36), .second, .val (.double v46), .second, .val (.double v54), .second, .val (.double v62), .second, .val (.double v70), .second, .val (.ref b74), .unset, .unset, .unset] []))
    refine Dn.st (fun _ kk => XS.aload X83.here hx rfl (hb hby at_84) rfl rfl (XS.iconst X83.here hx rfl (hb hby at_86) (XS.dload X83.here hx rfl (hb hby at_87) rfl  (kk)))) ?_
    show Dn p e below s _ _ _ (T83.setTop (mkF m 89 #[.val (.int p0), .val (.int p1), .val (.int p2), .val (.int p3), .val (.long v4), .second, .val (.long v11), .second, .val (.long v18), .second, .val (.long v27), .second, .val (.long v36), .second, .val (.double v46), .second, .val (.double v54), .second, .val (.double v62), .second, .val (.double v70), .second, .val (.ref b74), .unset, .unset, .unset] [(.double v62), (.int (1 : Int32)), (.ref b74)]))
    have Vc_b74_89 := V_b74_83
    obtain ⟨cl_b74_89, Ar_b74_89, q_b74_89, S_b74_89, N_b74_89, H_b74_89, G_b74_89⟩ := Vc_b74_89
    have hin89 : ¬ ((1 : Int32) < 0 ∨ cl_b74_89.slots.size ≤ ((1 : Int32)).toNatClampNeg) := inb_of S_b74_89 ⟨by decide, by decide⟩
    obtain ⟨T89, h89, X89, e89, W89, st89⟩ := stD X83 hx hZ e83 Ar_b74_89 (j := (1 : Int32)) hin89 (g := (mkF m 89 #[.val (.int p0), .val (.int p1), .val (.int p2), .val (.int p3), .val (.long v4), .second, .val (.long v11), .second, .val (.long v18), .second, .val (.long v27), .second, .val (.long v36), .second, .val (.double v46), .second, .val (.double v54), .second, .val (.double v62), .second, .val (.double v70), .second, .val (.ref b74), .unset, .unset, .unset] [(.double v62), (.int (1 : Int32)), (.ref b74)])) rfl rfl (hb hby at_89)
    have V_b74_89 := Arv.set Ar_b74_89 q_b74_89 S_b74_89 N_b74_89 H_b74_89 G_b74_89 rfl W89 1 rfl (Nat.le_of_ble_eq_true rfl)
    have N89 := Fr.snoc X89 N83 gn_b74
    have Z89 : n0 ≤ h89.size := Nat.le_trans Z83 (Keep.of_wr W89).1
    refine Dn.st st89 ?_
    show Dn p e below s _ _ _ (T89.setTop (mkF m 90 #[.val (.int p0), .val (.int p1), .val (.int p2), .val (.int p3), .val (.long v4), .second, .val (.long v11), .second, .val (.long v18), .second, .val (.long v27), .second, .val (.long v36), .second, .val (.double v46), .second, .val (.double v54), .second, .val (.double v62), .second, .val (.double v70), .second, .val (.ref b74), .unset, .unset, .unset] []))
    refine Dn.st (fun _ kk => XS.aload X89.here hx rfl (hb hby at_90) rfl rfl (XS.iconst X89.here hx rfl (hb hby at_92) (XS.dload X89.here hx rfl (hb hby at_93) rfl  (kk)))) ?_
    show Dn p e below s _ _ _ (T89.setTop (mkF m 95 #[.val (.int p0), .val (.int p1), .val (.int p2), .val (.int p3), .val (.long v4), .second, .val (.long v11), .second, .val (.long v18), .second, .val (.long v27), .second, .val (.long v36), .second, .val (.double v46), .second, .val (.double v54), .second, .val (.double v62), .second, .val (.double v70), .second, .val (.ref b74), .unset, .unset, .unset] [(.double v70), (.int (2 : Int32)), (.ref b74)]))
    have Vc_b74_95 := V_b74_89
    obtain ⟨cl_b74_95, Ar_b74_95, q_b74_95, S_b74_95, N_b74_95, H_b74_95, G_b74_95⟩ := Vc_b74_95
    have hin95 : ¬ ((2 : Int32) < 0 ∨ cl_b74_95.slots.size ≤ ((2 : Int32)).toNatClampNeg) := inb_of S_b74_95 ⟨by decide, by decide⟩
    obtain ⟨T95, h95, X95, e95, W95, st95⟩ := stD X89 hx hZ e89 Ar_b74_95 (j := (2 : Int32)) hin95 (g := (mkF m 95 #[.val (.int p0), .val (.int p1), .val (.int p2), .val (.int p3), .val (.long v4), .second, .val (.long v11), .second, .val (.long v18), .second, .val (.long v27), .second, .val (.long v36), .second, .val (.double v46), .second, .val (.double v54), .second, .val (.double v62), .second, .val (.double v70), .second, .val (.ref b74), .unset, .unset, .unset] [(.double v70), (.int (2 : Int32)), (.ref b74)])) rfl rfl (hb hby at_95)
    have V_b74_95 := Arv.set Ar_b74_95 q_b74_95 S_b74_95 N_b74_95 H_b74_95 G_b74_95 rfl W95 2 rfl (Nat.le_of_ble_eq_true rfl)
    have N95 := Fr.snoc X95 N89 gn_b74
    have Z95 : n0 ≤ h95.size := Nat.le_trans Z89 (Keep.of_wr W95).1
    refine Dn.st st95 ?_
    show Dn p e below s _ _ _ (T95.setTop (mkF m 96 #[.val (.int p0), .val (.int p1), .val (.int p2), .val (.int p3), .val (.long v4), .second, .val (.long v11), .second, .val (.long v18), .second, .val (.long v27), .second, .val (.long v36), .second, .val (.double v46), .second, .val (.double v54), .second, .val (.double v62), .second, .val (.double v70), .second, .val (.ref b74), .unset, .unset, .unset] []))
    refine Dn.st (fun _ kk => XS.iconst X95.here hx rfl (hb hby at_96) (kk)) ?_
    show Dn p e below s _ _ _ (T95.setTop (mkF m 97 #[.val (.int p0), .val (.int p1), .val (.int p2), .val (.int p3), .val (.long v4), .second, .val (.long v11), .second, .val (.long v18), .second, .val (.long v27), .second, .val (.long v36), .second, .val (.double v46), .second, .val (.double v54), .second, .val (.double v62), .second, .val (.double v70), .second, .val (.ref b74), .unset, .unset, .unset] [(.int (0 : Int32))]))
    obtain ⟨T97, h97, k97, X97, e97, E97, A97, st97⟩ := newP X95 hx hZ (hw _ (List.mem_of_getElem? (i := 1) rfl)) e95 (g := (mkF m 97 #[.val (.int p0), .val (.int p1), .val (.int p2), .val (.int p3), .val (.long v4), .second, .val (.long v11), .second, .val (.long v18), .second, .val (.long v27), .second, .val (.long v36), .second, .val (.double v46), .second, .val (.double v54), .second, .val (.double v62), .second, .val (.double v70), .second, .val (.ref b74), .unset, .unset, .unset] [(.int (0 : Int32))])) rfl (hb hby at_97) rfl (by decide) (cap := 0) (by decide) (by decide) (by decide) (by decide)
    obtain ⟨b97, g97⟩ : ∃ z, z = h95.size := ⟨_, rfl⟩
    rw [← g97] at A97 st97
    have ne_b74_b97 : b74 ≠ b97 := Nat.ne_of_lt (Nat.lt_of_lt_of_le V_b74_95.lt (Nat.le_of_eq g97.symm))
    have V_b74_97 := V_b74_95.ext E97
    have gn_b97 : n0 ≤ b97 := Nat.le_trans Z95 (Nat.le_of_eq g97.symm)
    have Z97 : n0 ≤ h97.size := Nat.le_trans Z95 E97.1
    have V_b97 : Arv Z h97 b97 k97 .double (0 : Int32) [] (.double (0 : UInt64)) := (Arv.new A97 (by decide)).pad (pad_rep [] (.double (0 : UInt64)) 0)
    refine Dn.st st97 ?_
    show Dn p e below s _ _ _ (T97.setTop (mkF m 99 #[.val (.int p0), .val (.int p1), .val (.int p2), .val (.int p3), .val (.long v4), .second, .val (.long v11), .second, .val (.long v18), .second, .val (.long v27), .second, .val (.long v36), .second, .val (.double v46), .second, .val (.double v54), .second, .val (.double v62), .second, .val (.double v70), .second, .val (.ref b74), .unset, .unset, .unset] [(.ref b97)]))
    refine Dn.st (fun _ kk => XS.astore X97.here hx rfl (hb hby at_99) rfl rfl (l' := #[.val (.int p0), .val (.int p1), .val (.int p2), .val (.int p3), .val (.long v4), .second, .val (.long v11), .second, .val (.long v18), .second, .val (.long v27), .second, .val (.long v36), .second, .val (.double v46), .second, .val (.double v54), .second, .val (.double v62), .second, .val (.double v70), .second, .val (.ref b74), .val (.ref b97), .unset, .unset]) rfl (XS.aload X97.here hx rfl (hb hby at_101) rfl rfl (XS.dload X97.here hx rfl (hb hby at_103) rfl  (kk)))) ?_
    show Dn p e below s _ _ _ (T97.setTop (mkF m 105 #[.val (.int p0), .val (.int p1), .val (.int p2), .val (.int p3), .val (.long v4), .second, .val (.long v11), .second, .val (.long v18), .second, .val (.long v27), .second, .val (.long v36), .second, .val (.double v46), .second, .val (.double v54), .second, .val (.double v62), .second, .val (.double v70), .second, .val (.ref b74), .val (.ref b97), .unset, .unset] [(.double v46), (.ref b74)]))
    obtain ⟨_, _, ⟨T105, L105, k105, n105⟩, -, X105, ⟨Lc105, hQ105, l105, y105, z105⟩, st105⟩ := Jvm.LawKit.callS X97 hx (y := (⟨"com/example/tieline/tieline/series/Amplitude", "scaled", "([DD)[D"⟩ : MethodName)) hown (mvT hZ (hw _ (List.mem_of_getElem? (i := 2) rfl))) (mvT hZ (hw _ (List.mem_of_getElem? (i := 3) rfl))) (mvT hZ (hw _ (List.mem_of_getElem? (i := 4) rfl))) (mvT hZ (hw _ (List.mem_of_getElem? (i := 5) rfl))) (by decide) (backOf (W := 0) (rm1 l Z a0 hw [] b74 v46 k74 v54 v62 v70 v4.toInt v11.toInt v18.toInt v36.toInt h97 n0 Z97 V_b74_97 d46 (by omega) ((d54).cast rfl (by omega)) ((d62).cast rfl (by omega)) ((d70).cast rfl (by omega)) (by omega) (by omega) (by omega)) hZ (hw _ (List.mem_of_getElem? (i := 5) rfl)) (hw _ (List.mem_of_getElem? (i := 4) rfl)) (by decide) (by decide)) (g := (mkF m 105 #[.val (.int p0), .val (.int p1), .val (.int p2), .val (.int p3), .val (.long v4), .second, .val (.long v11), .second, .val (.long v18), .second, .val (.long v27), .second, .val (.long v36), .second, .val (.double v46), .second, .val (.double v54), .second, .val (.double v62), .second, .val (.double v70), .second, .val (.ref b74), .val (.ref b97), .unset, .unset] [(.double v46), (.ref b74)])) rfl (by rw [hml]; rfl) (argsL := [(.ref b74), (.double v46)]) (rest := []) (lenOf pd0 rfl) rfl (by show 2 * 0 + _ ≤ _; exact Nat.le_of_eq rfl) (hb hby at_105) (fun _ _ => ⟨rfl, e97, (by decide : 2 + 1 ≤ _), (by decide : 3 + 3 ≤ _)⟩)
    dsimp only [Pt.U, Pt.locs, Pt.cells, Pt.slots] at X105 l105 y105 z105 st105 hQ105
    subst l105 y105 z105
    obtain ⟨bb105, kb105, w0_105, w1_105, w2_105, rfl, gz105, Nq105, K105, V_bb105, dw0_105, dw1_105, dw2_105⟩ := hQ105
    have N105 := Fr.app N95 Nq105
    refine Dn.st st105 ?_
    have ne_b74_bb105 : b74 ≠ bb105 := Nat.ne_of_lt (Nat.lt_of_lt_of_le V_b74_97.lt gz105)
    have ne_b97_bb105 : b97 ≠ bb105 := Nat.ne_of_lt (Nat.lt_of_lt_of_le V_b97.lt gz105)
    have V_b74_105 := V_b74_97.keep K105 nin0
    have V_b97_105 := V_b97.keep K105 nin0
    have Z105 : n0 ≤ T105.heap.size := Nat.le_trans Z97 K105.1
    show Dn p e below s _ _ _ (T105.setTop (mkF m 108 #[.val (.int p0), .val (.int p1), .val (.int p2), .val (.int p3), .val (.long v4), .second, .val (.long v11), .second, .val (.long v18), .second, .val (.long v27), .second, .val (.long v36), .second, .val (.double v46), .second, .val (.double v54), .second, .val (.double v62), .second, .val (.double v70), .second, .val (.ref b74), .val (.ref b97), .unset, .unset] [(.ref bb105)]))
    refine Dn.st (fun _ kk => XS.astore X105.here hx rfl (hb hby at_108) rfl rfl (l' := #[.val (.int p0), .val (.int p1), .val (.int p2), .val (.int p3), .val (.long v4), .second, .val (.long v11), .second, .val (.long v18), .second, .val (.long v27), .second, .val (.long v36), .second, .val (.double v46), .second, .val (.double v54), .second, .val (.double v62), .second, .val (.double v70), .second, .val (.ref b74), .val (.ref b97), .val (.ref bb105), .unset]) rfl (XS.aload X105.here hx rfl (hb hby at_110) rfl rfl (XS.dload X105.here hx rfl (hb hby at_112) rfl  (kk)))) ?_
    show Dn p e below s _ _ _ (T105.setTop (mkF m 114 #[.val (.int p0), .val (.int p1), .val (.int p2), .val (.int p3), .val (.long v4), .second, .val (.long v11), .second, .val (.long v18), .second, .val (.long v27), .second, .val (.long v36), .second, .val (.double v46), .second, .val (.double v54), .second, .val (.double v62), .second, .val (.double v70), .second, .val (.ref b74), .val (.ref b97), .val (.ref bb105), .unset] [(.double v46), (.ref b97)]))
    obtain ⟨_, _, ⟨T114, L114, k114, n114⟩, -, X114, ⟨Lc114, hQ114, l114, y114, z114⟩, st114⟩ := Jvm.LawKit.callS X105 hx (y := (⟨"com/example/tieline/tieline/series/Amplitude", "scaled", "([DD)[D"⟩ : MethodName)) hown (mvT hZ (hw _ (List.mem_of_getElem? (i := 2) rfl))) (mvT hZ (hw _ (List.mem_of_getElem? (i := 3) rfl))) (mvT hZ (hw _ (List.mem_of_getElem? (i := 4) rfl))) (mvT hZ (hw _ (List.mem_of_getElem? (i := 5) rfl))) (by decide) (backOf (W := 0) (rm1E l Z a0 hw [] b97 v46 k97 v36.toInt T105.heap n0 Z105 V_b97_105 d46 (by omega)) hZ (hw _ (List.mem_of_getElem? (i := 5) rfl)) (hw _ (List.mem_of_getElem? (i := 4) rfl)) (by decide) (by decide)) (g := (mkF m 114 #[.val (.int p0), .val (.int p1), .val (.int p2), .val (.int p3), .val (.long v4), .second, .val (.long v11), .second, .val (.long v18), .second, .val (.long v27), .second, .val (.long v36), .second, .val (.double v46), .second, .val (.double v54), .second, .val (.double v62), .second, .val (.double v70), .second, .val (.ref b74), .val (.ref b97), .val (.ref bb105), .unset] [(.double v46), (.ref b97)])) rfl (by rw [hml]; rfl) (argsL := [(.ref b97), (.double v46)]) (rest := []) (lenOf pd0 rfl) rfl (by show 2 * 0 + _ ≤ _; exact Nat.le_of_eq rfl) (hb hby at_114) (fun _ _ => ⟨rfl, rfl, (by decide : 3 + 1 ≤ _), (by decide : 6 + 0 ≤ _)⟩)
    dsimp only [Pt.U, Pt.locs, Pt.cells, Pt.slots] at X114 l114 y114 z114 st114 hQ114
    subst l114 y114 z114
    obtain ⟨bb114, kb114, -, rfl, gz114, Nq114, K114, V_bb114⟩ := hQ114
    have N114 := Fr.app N105 Nq114
    refine Dn.st st114 ?_
    have V_b74_114 := V_b74_105.keep K114 nin0
    have V_b97_114 := V_b97_105.keep K114 nin0
    have V_bb105_114 := V_bb105.keep K114 nin0
    have Z114 : n0 ≤ T114.heap.size := Nat.le_trans Z105 K114.1
    show Dn p e below s _ _ _ (T114.setTop (mkF m 117 #[.val (.int p0), .val (.int p1), .val (.int p2), .val (.int p3), .val (.long v4), .second, .val (.long v11), .second, .val (.long v18), .second, .val (.long v27), .second, .val (.long v36), .second, .val (.double v46), .second, .val (.double v54), .second, .val (.double v62), .second, .val (.double v70), .second, .val (.ref b74), .val (.ref b97), .val (.ref bb105), .unset] [(.ref bb114)]))
    refine Dn.st (fun _ kk => XS.astore X114.here hx rfl (hb hby at_117) rfl rfl (l' := #[.val (.int p0), .val (.int p1), .val (.int p2), .val (.int p3), .val (.long v4), .second, .val (.long v11), .second, .val (.long v18), .second, .val (.long v27), .second, .val (.long v36), .second, .val (.double v46), .second, .val (.double v54), .second, .val (.double v62), .second, .val (.double v70), .second, .val (.ref b74), .val (.ref b97), .val (.ref bb105), .val (.ref bb114)]) rfl (XS.aload X114.here hx rfl (hb hby at_119) rfl rfl (XS.aload X114.here hx rfl (hb hby at_121) rfl rfl (Jvm.RoadKit.acmp (g := (mkF m 123 #[.val (.int p0), .val (.int p1), .val (.int p2), .val (.int p3), .val (.long v4), .second, .val (.long v11), .second, .val (.long v18), .second, .val (.long v27), .second, .val (.long v36), .second, .val (.double v46), .second, .val (.double v54), .second, .val (.double v62), .second, .val (.double v70), .second, .val (.ref b74), .val (.ref b97), .val (.ref bb105), .val (.ref bb114)] [(.ref b74), (.ref bb105)])) X114 hx rfl rfl rfl (pc0 := 123) (pc' := 126) (same := false) rfl (hb hby at_123) rfl (decide_eq_false fun q => (Ne.symm ne_b74_bb105) (Value.ref.inj q)) (by decide) (by decide) (XS.aload X114.here hx rfl (hb hby at_126) rfl rfl (kk)))))) ?_
    show Dn p e below s _ _ _ (T114.setTop (mkF m 128 #[.val (.int p0), .val (.int p1), .val (.int p2), .val (.int p3), .val (.long v4), .second, .val (.long v11), .second, .val (.long v18), .second, .val (.long v27), .second, .val (.long v36), .second, .val (.double v46), .second, .val (.double v54), .second, .val (.double v62), .second, .val (.double v70), .second, .val (.ref b74), .val (.ref b97), .val (.ref bb105), .val (.ref bb114)] [(.ref bb105)]))
    have Vc_bb105_128 := V_bb105_114
    obtain ⟨cl_bb105_128, Ar_bb105_128, q_bb105_128, S_bb105_128, N_bb105_128, H_bb105_128, G_bb105_128⟩ := Vc_bb105_128
    refine Dn.st (fun _ kk => X114.arraylength hx Ar_bb105_128.1 (State.isArrayOf_alike hZ.alike Ar_bb105_128.2.1) (g := (mkF m 128 #[.val (.int p0), .val (.int p1), .val (.int p2), .val (.int p3), .val (.long v4), .second, .val (.long v11), .second, .val (.long v18), .second, .val (.long v27), .second, .val (.long v36), .second, .val (.double v46), .second, .val (.double v54), .second, .val (.double v62), .second, .val (.double v70), .second, .val (.ref b74), .val (.ref b97), .val (.ref bb105), .val (.ref bb114)] [(.ref bb105)])) rfl rfl (hb hby at_128) _ (kk)) ?_
    show Dn p e below s _ _ _ (T114.setTop (mkF m 129 #[.val (.int p0), .val (.int p1), .val (.int p2), .val (.int p3), .val (.long v4), .second, .val (.long v11), .second, .val (.long v18), .second, .val (.long v27), .second, .val (.long v36), .second, .val (.double v46), .second, .val (.double v54), .second, .val (.double v62), .second, .val (.double v70), .second, .val (.ref b74), .val (.ref b97), .val (.ref bb105), .val (.ref bb114)] [(.int cl_bb105_128.slots.size.toInt32)]))
    rw [len_of S_bb105_128 N_bb105_128]
    show Dn p e below s _ _ _ (T114.setTop (mkF m 129 #[.val (.int p0), .val (.int p1), .val (.int p2), .val (.int p3), .val (.long v4), .second, .val (.long v11), .second, .val (.long v18), .second, .val (.long v27), .second, .val (.long v36), .second, .val (.double v46), .second, .val (.double v54), .second, .val (.double v62), .second, .val (.double v70), .second, .val (.ref b74), .val (.ref b97), .val (.ref bb105), .val (.ref bb114)] [(.int (3 : Int32))]))
    refine Dn.st (fun _ kk => XS.iconst X114.here hx rfl (hb hby at_129) (kk)) ?_
    show Dn p e below s _ _ _ (T114.setTop (mkF m 130 #[.val (.int p0), .val (.int p1), .val (.int p2), .val (.int p3), .val (.long v4), .second, .val (.long v11), .second, .val (.long v18), .second, .val (.long v27), .second, .val (.long v36), .second, .val (.double v46), .second, .val (.double v54), .second, .val (.double v62), .second, .val (.double v70), .second, .val (.ref b74), .val (.ref b97), .val (.ref bb105), .val (.ref bb114)] [(.int (3 : Int32)), (.int (3 : Int32))]))
    have hc130 : (3 : Int32) = (3 : Int32) := by decide
    refine Dn.st (fun _ kk => XS.icmpNo X114.here hx rfl (hb hby at_130) rfl (teq hc130).2 (XS.aload X114.here hx rfl (hb hby at_133) rfl rfl (XS.iconst X114.here hx rfl (hb hby at_135) (kk)))) ?_
    show Dn p e below s _ _ _ (T114.setTop (mkF m 136 #[.val (.int p0), .val (.int p1), .val (.int p2), .val (.int p3), .val (.long v4), .second, .val (.long v11), .second, .val (.long v18), .second, .val (.long v27), .second, .val (.long v36), .second, .val (.double v46), .second, .val (.double v54), .second, .val (.double v62), .second, .val (.double v70), .second, .val (.ref b74), .val (.ref b97), .val (.ref bb105), .val (.ref bb114)] [(.int (0 : Int32)), (.ref bb105)]))
    have Vc_bb105_136 := V_bb105_114
    obtain ⟨cl_bb105_136, Ar_bb105_136, q_bb105_136, S_bb105_136, N_bb105_136, H_bb105_136, G_bb105_136⟩ := Vc_bb105_136
    have hin136 : ¬ ((0 : Int32) < 0 ∨ cl_bb105_136.slots.size ≤ ((0 : Int32)).toNatClampNeg) := inb_of S_bb105_136 ⟨by decide, by decide⟩
    have hat136 : cl_bb105_136.slots[((0 : Int32)).toNatClampNeg]? = some (.double w0_105) := H_bb105_136.at hin136 rfl
    refine Dn.st (fun _ kk => X114.daload hx (j := (0 : Int32)) (v := (.double w0_105)) Ar_bb105_136.1 (State.isArrayOf_alike hZ.alike Ar_bb105_136.2.1) Ar_bb105_136.2.2 hin136 hat136 (g := (mkF m 136 #[.val (.int p0), .val (.int p1), .val (.int p2), .val (.int p3), .val (.long v4), .second, .val (.long v11), .second, .val (.long v18), .second, .val (.long v27), .second, .val (.long v36), .second, .val (.double v46), .second, .val (.double v54), .second, .val (.double v62), .second, .val (.double v70), .second, .val (.ref b74), .val (.ref b97), .val (.ref bb105), .val (.ref bb114)] [(.int (0 : Int32)), (.ref bb105)])) rfl rfl (hb hby at_136) _ (XS.lload X114.here hx rfl (hb hby at_137) rfl  (kk))) ?_
    show Dn p e below s _ _ _ (T114.setTop (mkF m 139 #[.val (.int p0), .val (.int p1), .val (.int p2), .val (.int p3), .val (.long v4), .second, .val (.long v11), .second, .val (.long v18), .second, .val (.long v27), .second, .val (.long v36), .second, .val (.double v46), .second, .val (.double v54), .second, .val (.double v62), .second, .val (.double v70), .second, .val (.ref b74), .val (.ref b97), .val (.ref bb105), .val (.ref bb114)] [(.long v4), (.double w0_105)]))
    have d139 := DS.l2d (v := v4) (by omega)
    refine Dn.st (fun _ kk => XS.l2dS X114.here hx rfl (hb hby at_139) rfl rfl (kk)) ?_
    show Dn p e below s _ _ _ (T114.setTop (mkF m 140 #[.val (.int p0), .val (.int p1), .val (.int p2), .val (.int p3), .val (.long v4), .second, .val (.long v11), .second, .val (.long v18), .second, .val (.long v27), .second, .val (.long v36), .second, .val (.double v46), .second, .val (.double v54), .second, .val (.double v62), .second, .val (.double v70), .second, .val (.ref b74), .val (.ref b97), .val (.ref bb105), .val (.ref bb114)] [(.double (FP.l2d v4)), (.double w0_105)]))
    generalize hv139 : ((FP.l2d v4) : UInt64) = v139 at d139 ⊢
    show Dn p e below s _ _ _ (T114.setTop (mkF m 140 #[.val (.int p0), .val (.int p1), .val (.int p2), .val (.int p3), .val (.long v4), .second, .val (.long v11), .second, .val (.long v18), .second, .val (.long v27), .second, .val (.long v36), .second, .val (.double v46), .second, .val (.double v54), .second, .val (.double v62), .second, .val (.double v70), .second, .val (.ref b74), .val (.ref b97), .val (.ref bb105), .val (.ref bb114)] [(.double v139), (.double w0_105)]))
    refine Dn.st (fun _ kk => XS.dcmpS X114.here hx rfl (hb hby at_140) rfl (DS.cmpV dw0_105 d139 _) (kk)) ?_
    show Dn p e below s _ _ _ (T114.setTop (mkF m 141 #[.val (.int p0), .val (.int p1), .val (.int p2), .val (.int p3), .val (.long v4), .second, .val (.long v11), .second, .val (.long v18), .second, .val (.long v27), .second, .val (.long v36), .second, .val (.double v46), .second, .val (.double v54), .second, .val (.double v62), .second, .val (.double v70), .second, .val (.ref b74), .val (.ref b97), .val (.ref bb105), .val (.ref bb114)] [(.int (c3 v4.toInt v4.toInt))]))
    have hc141 : (c3 v4.toInt v4.toInt) = (0 : Int32) := (c3_eq _ _).mpr rfl
    refine Dn.st (fun _ kk => XS.ifNo X114.here hx rfl (hb hby at_141) rfl ((if0 _ _).trans (teq hc141).2) (XS.aload X114.here hx rfl (hb hby at_144) rfl rfl (XS.iconst X114.here hx rfl (hb hby at_146) (kk)))) ?_
    show Dn p e below s _ _ _ (T114.setTop (mkF m 147 #[.val (.int p0), .val (.int p1), .val (.int p2), .val (.int p3), .val (.long v4), .second, .val (.long v11), .second, .val (.long v18), .second, .val (.long v27), .second, .val (.long v36), .second, .val (.double v46), .second, .val (.double v54), .second, .val (.double v62), .second, .val (.double v70), .second, .val (.ref b74), .val (.ref b97), .val (.ref bb105), .val (.ref bb114)] [(.int (1 : Int32)), (.ref bb105)]))
    have Vc_bb105_147 := V_bb105_114
    obtain ⟨cl_bb105_147, Ar_bb105_147, q_bb105_147, S_bb105_147, N_bb105_147, H_bb105_147, G_bb105_147⟩ := Vc_bb105_147
    have hin147 : ¬ ((1 : Int32) < 0 ∨ cl_bb105_147.slots.size ≤ ((1 : Int32)).toNatClampNeg) := inb_of S_bb105_147 ⟨by decide, by decide⟩
    have hat147 : cl_bb105_147.slots[((1 : Int32)).toNatClampNeg]? = some (.double w1_105) := H_bb105_147.at hin147 rfl
    refine Dn.st (fun _ kk => X114.daload hx (j := (1 : Int32)) (v := (.double w1_105)) Ar_bb105_147.1 (State.isArrayOf_alike hZ.alike Ar_bb105_147.2.1) Ar_bb105_147.2.2 hin147 hat147 (g := (mkF m 147 #[.val (.int p0), .val (.int p1), .val (.int p2), .val (.int p3), .val (.long v4), .second, .val (.long v11), .second, .val (.long v18), .second, .val (.long v27), .second, .val (.long v36), .second, .val (.double v46), .second, .val (.double v54), .second, .val (.double v62), .second, .val (.double v70), .second, .val (.ref b74), .val (.ref b97), .val (.ref bb105), .val (.ref bb114)] [(.int (1 : Int32)), (.ref bb105)])) rfl rfl (hb hby at_147) _ (XS.lload X114.here hx rfl (hb hby at_148) rfl  (kk))) ?_
    show Dn p e below s _ _ _ (T114.setTop (mkF m 150 #[.val (.int p0), .val (.int p1), .val (.int p2), .val (.int p3), .val (.long v4), .second, .val (.long v11), .second, .val (.long v18), .second, .val (.long v27), .second, .val (.long v36), .second, .val (.double v46), .second, .val (.double v54), .second, .val (.double v62), .second, .val (.double v70), .second, .val (.ref b74), .val (.ref b97), .val (.ref bb105), .val (.ref bb114)] [(.long v11), (.double w1_105)]))
    have d150 := DS.l2d (v := v11) (by omega)
    refine Dn.st (fun _ kk => XS.l2dS X114.here hx rfl (hb hby at_150) rfl rfl (kk)) ?_
    show Dn p e below s _ _ _ (T114.setTop (mkF m 151 #[.val (.int p0), .val (.int p1), .val (.int p2), .val (.int p3), .val (.long v4), .second, .val (.long v11), .second, .val (.long v18), .second, .val (.long v27), .second, .val (.long v36), .second, .val (.double v46), .second, .val (.double v54), .second, .val (.double v62), .second, .val (.double v70), .second, .val (.ref b74), .val (.ref b97), .val (.ref bb105), .val (.ref bb114)] [(.double (FP.l2d v11)), (.double w1_105)]))
    generalize hv150 : ((FP.l2d v11) : UInt64) = v150 at d150 ⊢
    show Dn p e below s _ _ _ (T114.setTop (mkF m 151 #[.val (.int p0), .val (.int p1), .val (.int p2), .val (.int p3), .val (.long v4), .second, .val (.long v11), .second, .val (.long v18), .second, .val (.long v27), .second, .val (.long v36), .second, .val (.double v46), .second, .val (.double v54), .second, .val (.double v62), .second, .val (.double v70), .second, .val (.ref b74), .val (.ref b97), .val (.ref bb105), .val (.ref bb114)] [(.double v150), (.double w1_105)]))
    refine Dn.st (fun _ kk => XS.dcmpS X114.here hx rfl (hb hby at_151) rfl (DS.cmpV dw1_105 d150 _) (kk)) ?_
    show Dn p e below s _ _ _ (T114.setTop (mkF m 152 #[.val (.int p0), .val (.int p1), .val (.int p2), .val (.int p3), .val (.long v4), .second, .val (.long v11), .second, .val (.long v18), .second, .val (.long v27), .second, .val (.long v36), .second, .val (.double v46), .second, .val (.double v54), .second, .val (.double v62), .second, .val (.double v70), .second, .val (.ref b74), .val (.ref b97), .val (.ref bb105), .val (.ref bb114)] [(.int (c3 v11.toInt v11.toInt))]))
    have hc152 : (c3 v11.toInt v11.toInt) = (0 : Int32) := (c3_eq _ _).mpr rfl
    refine Dn.st (fun _ kk => XS.ifNo X114.here hx rfl (hb hby at_152) rfl ((if0 _ _).trans (teq hc152).2) (XS.aload X114.here hx rfl (hb hby at_155) rfl rfl (XS.iconst X114.here hx rfl (hb hby at_157) (kk)))) ?_
    show Dn p e below s _ _ _ (T114.setTop (mkF m 158 #[.val (.int p0), .val (.int p1), .val (.int p2), .val (.int p3), .val (.long v4), .second, .val (.long v11), .second, .val (.long v18), .second, .val (.long v27), .second, .val (.long v36), .second, .val (.double v46), .second, .val (.double v54), .second, .val (.double v62), .second, .val (.double v70), .second, .val (.ref b74), .val (.ref b97), .val (.ref bb105), .val (.ref bb114)] [(.int (2 : Int32)), (.ref bb105)]))
    have Vc_bb105_158 := V_bb105_114
    obtain ⟨cl_bb105_158, Ar_bb105_158, q_bb105_158, S_bb105_158, N_bb105_158, H_bb105_158, G_bb105_158⟩ := Vc_bb105_158
    have hin158 : ¬ ((2 : Int32) < 0 ∨ cl_bb105_158.slots.size ≤ ((2 : Int32)).toNatClampNeg) := inb_of S_bb105_158 ⟨by decide, by decide⟩
    have hat158 : cl_bb105_158.slots[((2 : Int32)).toNatClampNeg]? = some (.double w2_105) := H_bb105_158.at hin158 rfl
    refine Dn.st (fun _ kk => X114.daload hx (j := (2 : Int32)) (v := (.double w2_105)) Ar_bb105_158.1 (State.isArrayOf_alike hZ.alike Ar_bb105_158.2.1) Ar_bb105_158.2.2 hin158 hat158 (g := (mkF m 158 #[.val (.int p0), .val (.int p1), .val (.int p2), .val (.int p3), .val (.long v4), .second, .val (.long v11), .second, .val (.long v18), .second, .val (.long v27), .second, .val (.long v36), .second, .val (.double v46), .second, .val (.double v54), .second, .val (.double v62), .second, .val (.double v70), .second, .val (.ref b74), .val (.ref b97), .val (.ref bb105), .val (.ref bb114)] [(.int (2 : Int32)), (.ref bb105)])) rfl rfl (hb hby at_158) _ (XS.lload X114.here hx rfl (hb hby at_159) rfl  (kk))) ?_
    show Dn p e below s _ _ _ (T114.setTop (mkF m 161 #[.val (.int p0), .val (.int p1), .val (.int p2), .val (.int p3), .val (.long v4), .second, .val (.long v11), .second, .val (.long v18), .second, .val (.long v27), .second, .val (.long v36), .second, .val (.double v46), .second, .val (.double v54), .second, .val (.double v62), .second, .val (.double v70), .second, .val (.ref b74), .val (.ref b97), .val (.ref bb105), .val (.ref bb114)] [(.long v18), (.double w2_105)]))
    have d161 := DS.l2d (v := v18) (by omega)
    refine Dn.st (fun _ kk => XS.l2dS X114.here hx rfl (hb hby at_161) rfl rfl (kk)) ?_
    show Dn p e below s _ _ _ (T114.setTop (mkF m 162 #[.val (.int p0), .val (.int p1), .val (.int p2), .val (.int p3), .val (.long v4), .second, .val (.long v11), .second, .val (.long v18), .second, .val (.long v27), .second, .val (.long v36), .second, .val (.double v46), .second, .val (.double v54), .second, .val (.double v62), .second, .val (.double v70), .second, .val (.ref b74), .val (.ref b97), .val (.ref bb105), .val (.ref bb114)] [(.double (FP.l2d v18)), (.double w2_105)]))
    generalize hv161 : ((FP.l2d v18) : UInt64) = v161 at d161 ⊢
    show Dn p e below s _ _ _ (T114.setTop (mkF m 162 #[.val (.int p0), .val (.int p1), .val (.int p2), .val (.int p3), .val (.long v4), .second, .val (.long v11), .second, .val (.long v18), .second, .val (.long v27), .second, .val (.long v36), .second, .val (.double v46), .second, .val (.double v54), .second, .val (.double v62), .second, .val (.double v70), .second, .val (.ref b74), .val (.ref b97), .val (.ref bb105), .val (.ref bb114)] [(.double v161), (.double w2_105)]))
    refine Dn.st (fun _ kk => XS.dcmpS X114.here hx rfl (hb hby at_162) rfl (DS.cmpV dw2_105 d161 _) (kk)) ?_
    show Dn p e below s _ _ _ (T114.setTop (mkF m 163 #[.val (.int p0), .val (.int p1), .val (.int p2), .val (.int p3), .val (.long v4), .second, .val (.long v11), .second, .val (.long v18), .second, .val (.long v27), .second, .val (.long v36), .second, .val (.double v46), .second, .val (.double v54), .second, .val (.double v62), .second, .val (.double v70), .second, .val (.ref b74), .val (.ref b97), .val (.ref bb105), .val (.ref bb114)] [(.int (c3 v18.toInt v18.toInt))]))
    have hc163 : (c3 v18.toInt v18.toInt) = (0 : Int32) := (c3_eq _ _).mpr rfl
    refine Dn.st (fun _ kk => XS.ifNo X114.here hx rfl (hb hby at_163) rfl ((if0 _ _).trans (teq hc163).2) (XS.aload X114.here hx rfl (hb hby at_166) rfl rfl (XS.iconst X114.here hx rfl (hb hby at_168) (kk)))) ?_
    show Dn p e below s _ _ _ (T114.setTop (mkF m 169 #[.val (.int p0), .val (.int p1), .val (.int p2), .val (.int p3), .val (.long v4), .second, .val (.long v11), .second, .val (.long v18), .second, .val (.long v27), .second, .val (.long v36), .second, .val (.double v46), .second, .val (.double v54), .second, .val (.double v62), .second, .val (.double v70), .second, .val (.ref b74), .val (.ref b97), .val (.ref bb105), .val (.ref bb114)] [(.int (0 : Int32)), (.ref b74)]))
    have Vc_b74_169 := V_b74_114
    obtain ⟨cl_b74_169, Ar_b74_169, q_b74_169, S_b74_169, N_b74_169, H_b74_169, G_b74_169⟩ := Vc_b74_169
    have hin169 : ¬ ((0 : Int32) < 0 ∨ cl_b74_169.slots.size ≤ ((0 : Int32)).toNatClampNeg) := inb_of S_b74_169 ⟨by decide, by decide⟩
    have hat169 : cl_b74_169.slots[((0 : Int32)).toNatClampNeg]? = some (.double v54) := H_b74_169.at hin169 rfl
    refine Dn.st (fun _ kk => X114.daload hx (j := (0 : Int32)) (v := (.double v54)) Ar_b74_169.1 (State.isArrayOf_alike hZ.alike Ar_b74_169.2.1) Ar_b74_169.2.2 hin169 hat169 (g := (mkF m 169 #[.val (.int p0), .val (.int p1), .val (.int p2), .val (.int p3), .val (.long v4), .second, .val (.long v11), .second, .val (.long v18), .second, .val (.long v27), .second, .val (.long v36), .second, .val (.double v46), .second, .val (.double v54), .second, .val (.double v62), .second, .val (.double v70), .second, .val (.ref b74), .val (.ref b97), .val (.ref bb105), .val (.ref bb114)] [(.int (0 : Int32)), (.ref b74)])) rfl rfl (hb hby at_169) _ (XS.dload X114.here hx rfl (hb hby at_170) rfl  (XS.dcmpS X114.here hx rfl (hb hby at_172) rfl (DS.cmpV d54 d54 _) (kk)))) ?_
    show Dn p e below s _ _ _ (T114.setTop (mkF m 173 #[.val (.int p0), .val (.int p1), .val (.int p2), .val (.int p3), .val (.long v4), .second, .val (.long v11), .second, .val (.long v18), .second, .val (.long v27), .second, .val (.long v36), .second, .val (.double v46), .second, .val (.double v54), .second, .val (.double v62), .second, .val (.double v70), .second, .val (.ref b74), .val (.ref b97), .val (.ref bb105), .val (.ref bb114)] [(.int (c3 v53.toInt v53.toInt))]))
    have hc173 : (c3 v53.toInt v53.toInt) = (0 : Int32) := (c3_eq _ _).mpr rfl
    refine Dn.st (fun _ kk => XS.ifNo X114.here hx rfl (hb hby at_173) rfl ((if0 _ _).trans (teq hc173).2) (XS.aload X114.here hx rfl (hb hby at_176) rfl rfl (XS.iconst X114.here hx rfl (hb hby at_178) (kk)))) ?_
    show Dn p e below s _ _ _ (T114.setTop (mkF m 179 #[.val (.int p0), .val (.int p1), .val (.int p2), .val (.int p3), .val (.long v4), .second, .val (.long v11), .second, .val (.long v18), .second, .val (.long v27), .second, .val (.long v36), .second, .val (.double v46), .second, .val (.double v54), .second, .val (.double v62), .second, .val (.double v70), .second, .val (.ref b74), .val (.ref b97), .val (.ref bb105), .val (.ref bb114)] [(.int (1 : Int32)), (.ref b74)]))
    have Vc_b74_179 := V_b74_114
    obtain ⟨cl_b74_179, Ar_b74_179, q_b74_179, S_b74_179, N_b74_179, H_b74_179, G_b74_179⟩ := Vc_b74_179
    have hin179 : ¬ ((1 : Int32) < 0 ∨ cl_b74_179.slots.size ≤ ((1 : Int32)).toNatClampNeg) := inb_of S_b74_179 ⟨by decide, by decide⟩
    have hat179 : cl_b74_179.slots[((1 : Int32)).toNatClampNeg]? = some (.double v62) := H_b74_179.at hin179 rfl
    refine Dn.st (fun _ kk => X114.daload hx (j := (1 : Int32)) (v := (.double v62)) Ar_b74_179.1 (State.isArrayOf_alike hZ.alike Ar_b74_179.2.1) Ar_b74_179.2.2 hin179 hat179 (g := (mkF m 179 #[.val (.int p0), .val (.int p1), .val (.int p2), .val (.int p3), .val (.long v4), .second, .val (.long v11), .second, .val (.long v18), .second, .val (.long v27), .second, .val (.long v36), .second, .val (.double v46), .second, .val (.double v54), .second, .val (.double v62), .second, .val (.double v70), .second, .val (.ref b74), .val (.ref b97), .val (.ref bb105), .val (.ref bb114)] [(.int (1 : Int32)), (.ref b74)])) rfl rfl (hb hby at_179) _ (XS.dload X114.here hx rfl (hb hby at_180) rfl  (XS.dcmpS X114.here hx rfl (hb hby at_182) rfl (DS.cmpV d62 d62 _) (kk)))) ?_
    show Dn p e below s _ _ _ (T114.setTop (mkF m 183 #[.val (.int p0), .val (.int p1), .val (.int p2), .val (.int p3), .val (.long v4), .second, .val (.long v11), .second, .val (.long v18), .second, .val (.long v27), .second, .val (.long v36), .second, .val (.double v46), .second, .val (.double v54), .second, .val (.double v62), .second, .val (.double v70), .second, .val (.ref b74), .val (.ref b97), .val (.ref bb105), .val (.ref bb114)] [(.int (c3 v61.toInt v61.toInt))]))
    have hc183 : (c3 v61.toInt v61.toInt) = (0 : Int32) := (c3_eq _ _).mpr rfl
    refine Dn.st (fun _ kk => XS.ifNo X114.here hx rfl (hb hby at_183) rfl ((if0 _ _).trans (teq hc183).2) (XS.aload X114.here hx rfl (hb hby at_186) rfl rfl (XS.iconst X114.here hx rfl (hb hby at_188) (kk)))) ?_
    show Dn p e below s _ _ _ (T114.setTop (mkF m 189 #[.val (.int p0), .val (.int p1), .val (.int p2), .val (.int p3), .val (.long v4), .second, .val (.long v11), .second, .val (.long v18), .second, .val (.long v27), .second, .val (.long v36), .second, .val (.double v46), .second, .val (.double v54), .second, .val (.double v62), .second, .val (.double v70), .second, .val (.ref b74), .val (.ref b97), .val (.ref bb105), .val (.ref bb114)] [(.int (2 : Int32)), (.ref b74)]))
    have Vc_b74_189 := V_b74_114
    obtain ⟨cl_b74_189, Ar_b74_189, q_b74_189, S_b74_189, N_b74_189, H_b74_189, G_b74_189⟩ := Vc_b74_189
    have hin189 : ¬ ((2 : Int32) < 0 ∨ cl_b74_189.slots.size ≤ ((2 : Int32)).toNatClampNeg) := inb_of S_b74_189 ⟨by decide, by decide⟩
    have hat189 : cl_b74_189.slots[((2 : Int32)).toNatClampNeg]? = some (.double v70) := H_b74_189.at hin189 rfl
    refine Dn.st (fun _ kk => X114.daload hx (j := (2 : Int32)) (v := (.double v70)) Ar_b74_189.1 (State.isArrayOf_alike hZ.alike Ar_b74_189.2.1) Ar_b74_189.2.2 hin189 hat189 (g := (mkF m 189 #[.val (.int p0), .val (.int p1), .val (.int p2), .val (.int p3), .val (.long v4), .second, .val (.long v11), .second, .val (.long v18), .second, .val (.long v27), .second, .val (.long v36), .second, .val (.double v46), .second, .val (.double v54), .second, .val (.double v62), .second, .val (.double v70), .second, .val (.ref b74), .val (.ref b97), .val (.ref bb105), .val (.ref bb114)] [(.int (2 : Int32)), (.ref b74)])) rfl rfl (hb hby at_189) _ (XS.dload X114.here hx rfl (hb hby at_190) rfl  (XS.dcmpS X114.here hx rfl (hb hby at_192) rfl (DS.cmpV d70 d70 _) (kk)))) ?_
    show Dn p e below s _ _ _ (T114.setTop (mkF m 193 #[.val (.int p0), .val (.int p1), .val (.int p2), .val (.int p3), .val (.long v4), .second, .val (.long v11), .second, .val (.long v18), .second, .val (.long v27), .second, .val (.long v36), .second, .val (.double v46), .second, .val (.double v54), .second, .val (.double v62), .second, .val (.double v70), .second, .val (.ref b74), .val (.ref b97), .val (.ref bb105), .val (.ref bb114)] [(.int (c3 v69.toInt v69.toInt))]))
    have hc193 : (c3 v69.toInt v69.toInt) = (0 : Int32) := (c3_eq _ _).mpr rfl
    refine Dn.st (fun _ kk => XS.ifNo X114.here hx rfl (hb hby at_193) rfl ((if0 _ _).trans (teq hc193).2) (XS.aload X114.here hx rfl (hb hby at_196) rfl rfl (XS.ifnullNo X114.here hx rfl (hb hby at_198) rfl (XS.aload X114.here hx rfl (hb hby at_201) rfl rfl (kk))))) ?_
    show Dn p e below s _ _ _ (T114.setTop (mkF m 203 #[.val (.int p0), .val (.int p1), .val (.int p2), .val (.int p3), .val (.long v4), .second, .val (.long v11), .second, .val (.long v18), .second, .val (.long v27), .second, .val (.long v36), .second, .val (.double v46), .second, .val (.double v54), .second, .val (.double v62), .second, .val (.double v70), .second, .val (.ref b74), .val (.ref b97), .val (.ref bb105), .val (.ref bb114)] [(.ref bb114)]))
    have Vc_bb114_203 := V_bb114
    obtain ⟨cl_bb114_203, Ar_bb114_203, q_bb114_203, S_bb114_203, N_bb114_203, H_bb114_203, G_bb114_203⟩ := Vc_bb114_203
    refine Dn.st (fun _ kk => X114.arraylength hx Ar_bb114_203.1 (State.isArrayOf_alike hZ.alike Ar_bb114_203.2.1) (g := (mkF m 203 #[.val (.int p0), .val (.int p1), .val (.int p2), .val (.int p3), .val (.long v4), .second, .val (.long v11), .second, .val (.long v18), .second, .val (.long v27), .second, .val (.long v36), .second, .val (.double v46), .second, .val (.double v54), .second, .val (.double v62), .second, .val (.double v70), .second, .val (.ref b74), .val (.ref b97), .val (.ref bb105), .val (.ref bb114)] [(.ref bb114)])) rfl rfl (hb hby at_203) _ (kk)) ?_
    show Dn p e below s _ _ _ (T114.setTop (mkF m 204 #[.val (.int p0), .val (.int p1), .val (.int p2), .val (.int p3), .val (.long v4), .second, .val (.long v11), .second, .val (.long v18), .second, .val (.long v27), .second, .val (.long v36), .second, .val (.double v46), .second, .val (.double v54), .second, .val (.double v62), .second, .val (.double v70), .second, .val (.ref b74), .val (.ref b97), .val (.ref bb105), .val (.ref bb114)] [(.int cl_bb114_203.slots.size.toInt32)]))
    rw [len_of S_bb114_203 N_bb114_203]
    show Dn p e below s _ _ _ (T114.setTop (mkF m 204 #[.val (.int p0), .val (.int p1), .val (.int p2), .val (.int p3), .val (.long v4), .second, .val (.long v11), .second, .val (.long v18), .second, .val (.long v27), .second, .val (.long v36), .second, .val (.double v46), .second, .val (.double v54), .second, .val (.double v62), .second, .val (.double v70), .second, .val (.ref b74), .val (.ref b97), .val (.ref bb105), .val (.ref bb114)] [(.int (0 : Int32))]))
    have hc204 : (0 : Int32) = (0 : Int32) := by decide
    refine Dn.st (fun _ kk => XS.ifNo X114.here hx rfl (hb hby at_204) rfl ((if0 _ _).trans (teq hc204).2) (XS.iconst X114.here hx rfl (hb hby at_207) (XS.goto X114.here hx rfl (pc0 := 208) (pc' := 212) rfl (hb hby at_208) (by decide) (by decide) (kk)))) ?_
    show Dn p e below s _ _ _ (T114.setTop (mkF m 212 #[.val (.int p0), .val (.int p1), .val (.int p2), .val (.int p3), .val (.long v4), .second, .val (.long v11), .second, .val (.long v18), .second, .val (.long v27), .second, .val (.long v36), .second, .val (.double v46), .second, .val (.double v54), .second, .val (.double v62), .second, .val (.double v70), .second, .val (.ref b74), .val (.ref b97), .val (.ref bb105), .val (.ref bb114)] [(.int (1 : Int32))]))
    exact Dn.ret X114 hlk hx hret rfl (Or.inl ⟨rfl, Or.inr (Or.inl rfl), _, rfl⟩) (hb hby at_212) ⟨rfl, N114⟩ (by decide) (by decide)
  · have hi31 : ¬ p3.toInt < 0 := fun qq => hc31 (Int32.lt_iff_toInt_lt.mpr qq)
    refine Dn.st (fun _ kk => XS.ifYes X0.here hx rfl (pc0 := 31) (pc' := 40) rfl (hb hby at_31) rfl ((if0 _ _).trans (flt hc31).2.1) (by decide) (by decide) (XS.lload X0.here hx rfl (hb hby at_40) rfl  (XS.lstore X0.here hx rfl (hb hby at_42) rfl (l' := #[.val (.int p0), .val (.int p1), .val (.int p2), .val (.int p3), .val (.long v4), .second, .val (.long v11), .second, .val (.long v18), .second, .val (.long v27), .second, .val (.long v27), .second, .unset, .unset, .unset, .unset, .unset, .unset, .unset, .unset, .unset, .unset, .unset, .unset]) rfl (XS.lload X0.here hx rfl (hb hby at_44) rfl  (kk))))) ?_
    show Dn p e below s _ _ _ (s₁.setTop (mkF m 46 #[.val (.int p0), .val (.int p1), .val (.int p2), .val (.int p3), .val (.long v4), .second, .val (.long v11), .second, .val (.long v18), .second, .val (.long v27), .second, .val (.long v27), .second, .unset, .unset, .unset, .unset, .unset, .unset, .unset, .unset, .unset, .unset, .unset, .unset] [(.long v27)]))
    have d46 := DS.l2d (v := v27) (by omega)
    refine Dn.st (fun _ kk => XS.l2dS X0.here hx rfl (hb hby at_46) rfl rfl (kk)) ?_
    show Dn p e below s _ _ _ (s₁.setTop (mkF m 47 #[.val (.int p0), .val (.int p1), .val (.int p2), .val (.int p3), .val (.long v4), .second, .val (.long v11), .second, .val (.long v18), .second, .val (.long v27), .second, .val (.long v27), .second, .unset, .unset, .unset, .unset, .unset, .unset, .unset, .unset, .unset, .unset, .unset, .unset] [(.double (FP.l2d v27))]))
    generalize hv46 : ((FP.l2d v27) : UInt64) = v46 at d46 ⊢
    show Dn p e below s _ _ _ (s₁.setTop (mkF m 47 #[.val (.int p0), .val (.int p1), .val (.int p2), .val (.int p3), .val (.long v4), .second, .val (.long v11), .second, .val (.long v18), .second, .val (.long v27), .second, .val (.long v27), .second, .unset, .unset, .unset, .unset, .unset, .unset, .unset, .unset, .unset, .unset, .unset, .unset] [(.double v46)]))
    refine Dn.st (fun _ kk => XS.dstore X0.here hx rfl (hb hby at_47) rfl (l' := #[.val (.int p0), .val (.int p1), .val (.int p2), .val (.int p3), .val (.long v4), .second, .val (.long v11), .second, .val (.long v18), .second, .val (.long v27), .second, .val (.long v27), .second, .val (.double v46), .second, .unset, .unset, .unset, .unset, .unset, .unset, .unset, .unset, .unset, .unset]) rfl (XS.lload X0.here hx rfl (hb hby at_49) rfl  (XS.lload X0.here hx rfl (hb hby at_51) rfl  (kk)))) ?_
    show Dn p e below s _ _ _ (s₁.setTop (mkF m 53 #[.val (.int p0), .val (.int p1), .val (.int p2), .val (.int p3), .val (.long v4), .second, .val (.long v11), .second, .val (.long v18), .second, .val (.long v27), .second, .val (.long v27), .second, .val (.double v46), .second, .unset, .unset, .unset, .unset, .unset, .unset, .unset, .unset, .unset, .unset] [(.long v27), (.long v4)]))
    have mm53 := own_mul (a := v4.toInt) (b := v27.toInt) (A := 1048576) (B := 524288) (by omega) (by omega) (by omega) (by omega)
    refine Dn.st (fun _ kk => XS.lmul X0.here hx rfl (hb hby at_53) rfl (kk)) ?_
    show Dn p e below s _ _ _ (s₁.setTop (mkF m 54 #[.val (.int p0), .val (.int p1), .val (.int p2), .val (.int p3), .val (.long v4), .second, .val (.long v11), .second, .val (.long v18), .second, .val (.long v27), .second, .val (.long v27), .second, .val (.double v46), .second, .unset, .unset, .unset, .unset, .unset, .unset, .unset, .unset, .unset, .unset] [(.long (v4 * v27))]))
    generalize hv53 : ((v4 * v27) : Int64) = v53
    have q53 : (v53.toInt - (v4.toInt * v27.toInt)) % 18446744073709551616 = 0 := by have qq := c_lmul v4 v27; rw [hv53] at qq; exact qq
    have r53 := rng64 v53
    show Dn p e below s _ _ _ (s₁.setTop (mkF m 54 #[.val (.int p0), .val (.int p1), .val (.int p2), .val (.int p3), .val (.long v4), .second, .val (.long v11), .second, .val (.long v18), .second, .val (.long v27), .second, .val (.long v27), .second, .val (.double v46), .second, .unset, .unset, .unset, .unset, .unset, .unset, .unset, .unset, .unset, .unset] [(.long v53)]))
    have d54 := DS.l2d (v := v53) (by omega)
    refine Dn.st (fun _ kk => XS.l2dS X0.here hx rfl (hb hby at_54) rfl rfl (kk)) ?_
    show Dn p e below s _ _ _ (s₁.setTop (mkF m 55 #[.val (.int p0), .val (.int p1), .val (.int p2), .val (.int p3), .val (.long v4), .second, .val (.long v11), .second, .val (.long v18), .second, .val (.long v27), .second, .val (.long v27), .second, .val (.double v46), .second, .unset, .unset, .unset, .unset, .unset, .unset, .unset, .unset, .unset, .unset] [(.double (FP.l2d v53))]))
    generalize hv54 : ((FP.l2d v53) : UInt64) = v54 at d54 ⊢
    show Dn p e below s _ _ _ (s₁.setTop (mkF m 55 #[.val (.int p0), .val (.int p1), .val (.int p2), .val (.int p3), .val (.long v4), .second, .val (.long v11), .second, .val (.long v18), .second, .val (.long v27), .second, .val (.long v27), .second, .val (.double v46), .second, .unset, .unset, .unset, .unset, .unset, .unset, .unset, .unset, .unset, .unset] [(.double v54)]))
    refine Dn.st (fun _ kk => XS.dstore X0.here hx rfl (hb hby at_55) rfl (l' := #[.val (.int p0), .val (.int p1), .val (.int p2), .val (.int p3), .val (.long v4), .second, .val (.long v11), .second, .val (.long v18), .second, .val (.long v27), .second, .val (.long v27), .second, .val (.double v46), .second, .val (.double v54), .second, .unset, .unset, .unset, .unset, .unset, .unset, .unset, .unset]) rfl (XS.lload X0.here hx rfl (hb hby at_57) rfl  (XS.lload X0.here hx rfl (hb hby at_59) rfl  (kk)))) ?_
    show Dn p e below s _ _ _ (s₁.setTop (mkF m 61 #[.val (.int p0), .val (.int p1), .val (.int p2), .val (.int p3), .val (.long v4), .second, .val (.long v11), .second, .val (.long v18), .second, .val (.long v27), .second, .val (.long v27), .second, .val (.double v46), .second, .val (.double v54), .second, .unset, .unset, .unset, .unset, .unset, .unset, .unset, .unset] [(.long v27), (.long v11)]))
    have mm61 := own_mul (a := v11.toInt) (b := v27.toInt) (A := 1048576) (B := 524288) (by omega) (by omega) (by omega) (by omega)
    refine Dn.st (fun _ kk => XS.lmul X0.here hx rfl (hb hby at_61) rfl (kk)) ?_
    show Dn p e below s _ _ _ (s₁.setTop (mkF m 62 #[.val (.int p0), .val (.int p1), .val (.int p2), .val (.int p3), .val (.long v4), .second, .val (.long v11), .second, .val (.long v18), .second, .val (.long v27), .second, .val (.long v27), .second, .val (.double v46), .second, .val (.double v54), .second, .unset, .unset, .unset, .unset, .unset, .unset, .unset, .unset] [(.long (v11 * v27))]))
    generalize hv61 : ((v11 * v27) : Int64) = v61
    have q61 : (v61.toInt - (v11.toInt * v27.toInt)) % 18446744073709551616 = 0 := by have qq := c_lmul v11 v27; rw [hv61] at qq; exact qq
    have r61 := rng64 v61
    show Dn p e below s _ _ _ (s₁.setTop (mkF m 62 #[.val (.int p0), .val (.int p1), .val (.int p2), .val (.int p3), .val (.long v4), .second, .val (.long v11), .second, .val (.long v18), .second, .val (.long v27), .second, .val (.long v27), .second, .val (.double v46), .second, .val (.double v54), .second, .unset, .unset, .unset, .unset, .unset, .unset, .unset, .unset] [(.long v61)]))
    have d62 := DS.l2d (v := v61) (by omega)
    refine Dn.st (fun _ kk => XS.l2dS X0.here hx rfl (hb hby at_62) rfl rfl (kk)) ?_
    show Dn p e below s _ _ _ (s₁.setTop (mkF m 63 #[.val (.int p0), .val (.int p1), .val (.int p2), .val (.int p3), .val (.long v4), .second, .val (.long v11), .second, .val (.long v18), .second, .val (.long v27), .second, .val (.long v27), .second, .val (.double v46), .second, .val (.double v54), .second, .unset, .unset, .unset, .unset, .unset, .unset, .unset, .unset] [(.double (FP.l2d v61))]))
    generalize hv62 : ((FP.l2d v61) : UInt64) = v62 at d62 ⊢
    show Dn p e below s _ _ _ (s₁.setTop (mkF m 63 #[.val (.int p0), .val (.int p1), .val (.int p2), .val (.int p3), .val (.long v4), .second, .val (.long v11), .second, .val (.long v18), .second, .val (.long v27), .second, .val (.long v27), .second, .val (.double v46), .second, .val (.double v54), .second, .unset, .unset, .unset, .unset, .unset, .unset, .unset, .unset] [(.double v62)]))
    refine Dn.st (fun _ kk => XS.dstore X0.here hx rfl (hb hby at_63) rfl (l' := #[.val (.int p0), .val (.int p1), .val (.int p2), .val (.int p3), .val (.long v4), .second, .val (.long v11), .second, .val (.long v18), .second, .val (.long v27), .second, .val (.long v27), .second, .val (.double v46), .second, .val (.double v54), .second, .val (.double v62), .second, .unset, .unset, .unset, .unset, .unset, .unset]) rfl (XS.lload X0.here hx rfl (hb hby at_65) rfl  (XS.lload X0.here hx rfl (hb hby at_67) rfl  (kk)))) ?_
    show Dn p e below s _ _ _ (s₁.setTop (mkF m 69 #[.val (.int p0), .val (.int p1), .val (.int p2), .val (.int p3), .val (.long v4), .second, .val (.long v11), .second, .val (.long v18), .second, .val (.long v27), .second, .val (.long v27), .second, .val (.double v46), .second, .val (.double v54), .second, .val (.double v62), .second, .unset, .unset, .unset, .unset, .unset, .unset] [(.long v27), (.long v18)]))
    have mm69 := own_mul (a := v18.toInt) (b := v27.toInt) (A := 1048576) (B := 524288) (by omega) (by omega) (by omega) (by omega)
    refine Dn.st (fun _ kk => XS.lmul X0.here hx rfl (hb hby at_69) rfl (kk)) ?_
    show Dn p e below s _ _ _ (s₁.setTop (mkF m 70 #[.val (.int p0), .val (.int p1), .val (.int p2), .val (.int p3), .val (.long v4), .second, .val (.long v11), .second, .val (.long v18), .second, .val (.long v27), .second, .val (.long v27), .second, .val (.double v46), .second, .val (.double v54), .second, .val (.double v62), .second, .unset, .unset, .unset, .unset, .unset, .unset] [(.long (v18 * v27))]))
    generalize hv69 : ((v18 * v27) : Int64) = v69
    have q69 : (v69.toInt - (v18.toInt * v27.toInt)) % 18446744073709551616 = 0 := by have qq := c_lmul v18 v27; rw [hv69] at qq; exact qq
    have r69 := rng64 v69
    show Dn p e below s _ _ _ (s₁.setTop (mkF m 70 #[.val (.int p0), .val (.int p1), .val (.int p2), .val (.int p3), .val (.long v4), .second, .val (.long v11), .second, .val (.long v18), .second, .val (.long v27), .second, .val (.long v27), .second, .val (.double v46), .second, .val (.double v54), .second, .val (.double v62), .second, .unset, .unset, .unset, .unset, .unset, .unset] [(.long v69)]))
    have d70 := DS.l2d (v := v69) (by omega)
    refine Dn.st (fun _ kk => XS.l2dS X0.here hx rfl (hb hby at_70) rfl rfl (kk)) ?_
    show Dn p e below s _ _ _ (s₁.setTop (mkF m 71 #[.val (.int p0), .val (.int p1), .val (.int p2), .val (.int p3), .val (.long v4), .second, .val (.long v11), .second, .val (.long v18), .second, .val (.long v27), .second, .val (.long v27), .second, .val (.double v46), .second, .val (.double v54), .second, .val (.double v62), .second, .unset, .unset, .unset, .unset, .unset, .unset] [(.double (FP.l2d v69))]))
    generalize hv70 : ((FP.l2d v69) : UInt64) = v70 at d70 ⊢
    show Dn p e below s _ _ _ (s₁.setTop (mkF m 71 #[.val (.int p0), .val (.int p1), .val (.int p2), .val (.int p3), .val (.long v4), .second, .val (.long v11), .second, .val (.long v18), .second, .val (.long v27), .second, .val (.long v27), .second, .val (.double v46), .second, .val (.double v54), .second, .val (.double v62), .second, .unset, .unset, .unset, .unset, .unset, .unset] [(.double v70)]))
    refine Dn.st (fun _ kk => XS.dstore X0.here hx rfl (hb hby at_71) rfl (l' := #[.val (.int p0), .val (.int p1), .val (.int p2), .val (.int p3), .val (.long v4), .second, .val (.long v11), .second, .val (.long v18), .second, .val (.long v27), .second, .val (.long v27), .second, .val (.double v46), .second, .val (.double v54), .second, .val (.double v62), .second, .val (.double v70), .second, .unset, .unset, .unset, .unset]) rfl (XS.iconst X0.here hx rfl (hb hby at_73) (kk))) ?_
    show Dn p e below s _ _ _ (s₁.setTop (mkF m 74 #[.val (.int p0), .val (.int p1), .val (.int p2), .val (.int p3), .val (.long v4), .second, .val (.long v11), .second, .val (.long v18), .second, .val (.long v27), .second, .val (.long v27), .second, .val (.double v46), .second, .val (.double v54), .second, .val (.double v62), .second, .val (.double v70), .second, .unset, .unset, .unset, .unset] [(.int (3 : Int32))]))
    obtain ⟨T74, h74, k74, X74, e74, E74, A74, st74⟩ := newP X0 hx hZ (hw _ (List.mem_of_getElem? (i := 1) rfl)) e0 (g := (mkF m 74 #[.val (.int p0), .val (.int p1), .val (.int p2), .val (.int p3), .val (.long v4), .second, .val (.long v11), .second, .val (.long v18), .second, .val (.long v27), .second, .val (.long v27), .second, .val (.double v46), .second, .val (.double v54), .second, .val (.double v62), .second, .val (.double v70), .second, .unset, .unset, .unset, .unset] [(.int (3 : Int32))])) rfl (hb hby at_74) rfl (by decide) (cap := 3) (by decide) (by decide) (by decide) (by decide)
    obtain ⟨b74, g74⟩ : ∃ z, z = h0.size := ⟨_, rfl⟩
    rw [← g74] at A74 st74
    have gn_b74 : n0 ≤ b74 := Nat.le_trans Z0 (Nat.le_of_eq g74.symm)
    have Z74 : n0 ≤ h74.size := Nat.le_trans Z0 E74.1
    have V_b74 : Arv Z h74 b74 k74 .double (3 : Int32) [(.double (0 : UInt64)), (.double (0 : UInt64)), (.double (0 : UInt64))] (.double (0 : UInt64)) := (Arv.new A74 (by decide)).pad (pad_rep [] (.double (0 : UInt64)) 3)
    refine Dn.st st74 ?_
    show Dn p e below s _ _ _ (T74.setTop (mkF m 76 #[.val (.int p0), .val (.int p1), .val (.int p2), .val (.int p3), .val (.long v4), .second, .val (.long v11), .second, .val (.long v18), .second, .val (.long v27), .second, .val (.long v27), .second, .val (.double v46), .second, .val (.double v54), .second, .val (.double v62), .second, .val (.double v70), .second, .unset, .unset, .unset, .unset] [(.ref b74)]))
    refine Dn.st (fun _ kk => XS.astore X74.here hx rfl (hb hby at_76) rfl rfl (l' := #[.val (.int p0), .val (.int p1), .val (.int p2), .val (.int p3), .val (.long v4), .second, .val (.long v11), .second, .val (.long v18), .second, .val (.long v27), .second, .val (.long v27), .second, .val (.double v46), .second, .val (.double v54), .second, .val (.double v62), .second, .val (.double v70), .second, .val (.ref b74), .unset, .unset, .unset]) rfl (XS.aload X74.here hx rfl (hb hby at_78) rfl rfl (XS.iconst X74.here hx rfl (hb hby at_80) (XS.dload X74.here hx rfl (hb hby at_81) rfl  (kk))))) ?_
    show Dn p e below s _ _ _ (T74.setTop (mkF m 83 #[.val (.int p0), .val (.int p1), .val (.int p2), .val (.int p3), .val (.long v4), .second, .val (.long v11), .second, .val (.long v18), .second, .val (.long v27), .second, .val (.long v27), .second, .val (.double v46), .second, .val (.double v54), .second, .val (.double v62), .second, .val (.double v70), .second, .val (.ref b74), .unset, .unset, .unset] [(.double v54), (.int (0 : Int32)), (.ref b74)]))
    have Vc_b74_83 := V_b74
    obtain ⟨cl_b74_83, Ar_b74_83, q_b74_83, S_b74_83, N_b74_83, H_b74_83, G_b74_83⟩ := Vc_b74_83
    have hin83 : ¬ ((0 : Int32) < 0 ∨ cl_b74_83.slots.size ≤ ((0 : Int32)).toNatClampNeg) := inb_of S_b74_83 ⟨by decide, by decide⟩
    obtain ⟨T83, h83, X83, e83, W83, st83⟩ := stD X74 hx hZ e74 Ar_b74_83 (j := (0 : Int32)) hin83 (g := (mkF m 83 #[.val (.int p0), .val (.int p1), .val (.int p2), .val (.int p3), .val (.long v4), .second, .val (.long v11), .second, .val (.long v18), .second, .val (.long v27), .second, .val (.long v27), .second, .val (.double v46), .second, .val (.double v54), .second, .val (.double v62), .second, .val (.double v70), .second, .val (.ref b74), .unset, .unset, .unset] [(.double v54), (.int (0 : Int32)), (.ref b74)])) rfl rfl (hb hby at_83)
    have V_b74_83 := Arv.set Ar_b74_83 q_b74_83 S_b74_83 N_b74_83 H_b74_83 G_b74_83 rfl W83 0 rfl (Nat.le_of_ble_eq_true rfl)
    have N83 := Fr.snoc X83 N0 gn_b74
    have Z83 : n0 ≤ h83.size := Nat.le_trans Z74 (Keep.of_wr W83).1
    refine Dn.st st83 ?_
    show Dn p e below s _ _ _ (T83.setTop (mkF m 84 #[.val (.int p0), .val (.int p1), .val (.int p2), .val (.int p3), .val (.long v4), .second, .val (.long v11), .second, .val (.long v18), .second, .val (.long v27), .second, .val (.long v27), .second, .val (.double v46), .second, .val (.double v54), .second, .val (.double v62), .second, .val (.double v70), .second, .val (.ref b74), .unset, .unset, .unset] []))
    refine Dn.st (fun _ kk => XS.aload X83.here hx rfl (hb hby at_84) rfl rfl (XS.iconst X83.here hx rfl (hb hby at_86) (XS.dload X83.here hx rfl (hb hby at_87) rfl  (kk)))) ?_
    show Dn p e below s _ _ _ (T83.setTop (mkF m 89 #[.val (.int p0), .val (.int p1), .val (.int p2), .val (.int p3), .val (.long v4), .second, .val (.long v11), .second, .val (.long v18), .second, .val (.long v27), .second, .val (.long v27), .second, .val (.double v46), .second, .val (.double v54), .second, .val (.double v62), .second, .val (.double v70), .second, .val (.ref b74), .unset, .unset, .unset] [(.double v62), (.int (1 : Int32)), (.ref b74)]))
    have Vc_b74_89 := V_b74_83
    obtain ⟨cl_b74_89, Ar_b74_89, q_b74_89, S_b74_89, N_b74_89, H_b74_89, G_b74_89⟩ := Vc_b74_89
    have hin89 : ¬ ((1 : Int32) < 0 ∨ cl_b74_89.slots.size ≤ ((1 : Int32)).toNatClampNeg) := inb_of S_b74_89 ⟨by decide, by decide⟩
    obtain ⟨T89, h89, X89, e89, W89, st89⟩ := stD X83 hx hZ e83 Ar_b74_89 (j := (1 : Int32)) hin89 (g := (mkF m 89 #[.val (.int p0), .val (.int p1), .val (.int p2), .val (.int p3), .val (.long v4), .second, .val (.long v11), .second, .val (.long v18), .second, .val (.long v27), .second, .val (.long v27), .second, .val (.double v46), .second, .val (.double v54), .second, .val (.double v62), .second, .val (.double v70), .second, .val (.ref b74), .unset, .unset, .unset] [(.double v62), (.int (1 : Int32)), (.ref b74)])) rfl rfl (hb hby at_89)
    have V_b74_89 := Arv.set Ar_b74_89 q_b74_89 S_b74_89 N_b74_89 H_b74_89 G_b74_89 rfl W89 1 rfl (Nat.le_of_ble_eq_true rfl)
    have N89 := Fr.snoc X89 N83 gn_b74
    have Z89 : n0 ≤ h89.size := Nat.le_trans Z83 (Keep.of_wr W89).1
    refine Dn.st st89 ?_
    show Dn p e below s _ _ _ (T89.setTop (mkF m 90 #[.val (.int p0), .val (.int p1), .val (.int p2), .val (.int p3), .val (.long v4), .second, .val (.long v11), .second, .val (.long v18), .second, .val (.long v27), .second, .val (.long v27), .second, .val (.double v46), .second, .val (.double v54), .second, .val (.double v62), .second, .val (.double v70), .second, .val (.ref b74), .unset, .unset, .unset] []))
    refine Dn.st (fun _ kk => XS.aload X89.here hx rfl (hb hby at_90) rfl rfl (XS.iconst X89.here hx rfl (hb hby at_92) (XS.dload X89.here hx rfl (hb hby at_93) rfl  (kk)))) ?_
    show Dn p e below s _ _ _ (T89.setTop (mkF m 95 #[.val (.int p0), .val (.int p1), .val (.int p2), .val (.int p3), .val (.long v4), .second, .val (.long v11), .second, .val (.long v18), .second, .val (.long v27), .second, .val (.long v27), .second, .val (.double v46), .second, .val (.double v54), .second, .val (.double v62), .second, .val (.double v70), .second, .val (.ref b74), .unset, .unset, .unset] [(.double v70), (.int (2 : Int32)), (.ref b74)]))
    have Vc_b74_95 := V_b74_89
    obtain ⟨cl_b74_95, Ar_b74_95, q_b74_95, S_b74_95, N_b74_95, H_b74_95, G_b74_95⟩ := Vc_b74_95
    have hin95 : ¬ ((2 : Int32) < 0 ∨ cl_b74_95.slots.size ≤ ((2 : Int32)).toNatClampNeg) := inb_of S_b74_95 ⟨by decide, by decide⟩
    obtain ⟨T95, h95, X95, e95, W95, st95⟩ := stD X89 hx hZ e89 Ar_b74_95 (j := (2 : Int32)) hin95 (g := (mkF m 95 #[.val (.int p0), .val (.int p1), .val (.int p2), .val (.int p3), .val (.long v4), .second, .val (.long v11), .second, .val (.long v18), .second, .val (.long v27), .second, .val (.long v27), .second, .val (.double v46), .second, .val (.double v54), .second, .val (.double v62), .second, .val (.double v70), .second, .val (.ref b74), .unset, .unset, .unset] [(.double v70), (.int (2 : Int32)), (.ref b74)])) rfl rfl (hb hby at_95)
    have V_b74_95 := Arv.set Ar_b74_95 q_b74_95 S_b74_95 N_b74_95 H_b74_95 G_b74_95 rfl W95 2 rfl (Nat.le_of_ble_eq_true rfl)
    have N95 := Fr.snoc X95 N89 gn_b74
    have Z95 : n0 ≤ h95.size := Nat.le_trans Z89 (Keep.of_wr W95).1
    refine Dn.st st95 ?_
    show Dn p e below s _ _ _ (T95.setTop (mkF m 96 #[.val (.int p0), .val (.int p1), .val (.int p2), .val (.int p3), .val (.long v4), .second, .val (.long v11), .second, .val (.long v18), .second, .val (.long v27), .second, .val (.long v27), .second, .val (.double v46), .second, .val (.double v54), .second, .val (.double v62), .second, .val (.double v70), .second, .val (.ref b74), .unset, .unset, .unset] []))
    refine Dn.st (fun _ kk => XS.iconst X95.here hx rfl (hb hby at_96) (kk)) ?_
    show Dn p e below s _ _ _ (T95.setTop (mkF m 97 #[.val (.int p0), .val (.int p1), .val (.int p2), .val (.int p3), .val (.long v4), .second, .val (.long v11), .second, .val (.long v18), .second, .val (.long v27), .second, .val (.long v27), .second, .val (.double v46), .second, .val (.double v54), .second, .val (.double v62), .second, .val (.double v70), .second, .val (.ref b74), .unset, .unset, .unset] [(.int (0 : Int32))]))
    obtain ⟨T97, h97, k97, X97, e97, E97, A97, st97⟩ := newP X95 hx hZ (hw _ (List.mem_of_getElem? (i := 1) rfl)) e95 (g := (mkF m 97 #[.val (.int p0), .val (.int p1), .val (.int p2), .val (.int p3), .val (.long v4), .second, .val (.long v11), .second, .val (.long v18), .second, .val (.long v27), .second, .val (.long v27), .second, .val (.double v46), .second, .val (.double v54), .second, .val (.double v62), .second, .val (.double v70), .second, .val (.ref b74), .unset, .unset, .unset] [(.int (0 : Int32))])) rfl (hb hby at_97) rfl (by decide) (cap := 0) (by decide) (by decide) (by decide) (by decide)
    obtain ⟨b97, g97⟩ : ∃ z, z = h95.size := ⟨_, rfl⟩
    rw [← g97] at A97 st97
    have ne_b74_b97 : b74 ≠ b97 := Nat.ne_of_lt (Nat.lt_of_lt_of_le V_b74_95.lt (Nat.le_of_eq g97.symm))
    have V_b74_97 := V_b74_95.ext E97
    have gn_b97 : n0 ≤ b97 := Nat.le_trans Z95 (Nat.le_of_eq g97.symm)
    have Z97 : n0 ≤ h97.size := Nat.le_trans Z95 E97.1
    have V_b97 : Arv Z h97 b97 k97 .double (0 : Int32) [] (.double (0 : UInt64)) := (Arv.new A97 (by decide)).pad (pad_rep [] (.double (0 : UInt64)) 0)
    refine Dn.st st97 ?_
    show Dn p e below s _ _ _ (T97.setTop (mkF m 99 #[.val (.int p0), .val (.int p1), .val (.int p2), .val (.int p3), .val (.long v4), .second, .val (.long v11), .second, .val (.long v18), .second, .val (.long v27), .second, .val (.long v27), .second, .val (.double v46), .second, .val (.double v54), .second, .val (.double v62), .second, .val (.double v70), .second, .val (.ref b74), .unset, .unset, .unset] [(.ref b97)]))
    refine Dn.st (fun _ kk => XS.astore X97.here hx rfl (hb hby at_99) rfl rfl (l' := #[.val (.int p0), .val (.int p1), .val (.int p2), .val (.int p3), .val (.long v4), .second, .val (.long v11), .second, .val (.long v18), .second, .val (.long v27), .second, .val (.long v27), .second, .val (.double v46), .second, .val (.double v54), .second, .val (.double v62), .second, .val (.double v70), .second, .val (.ref b74), .val (.ref b97), .unset, .unset]) rfl (XS.aload X97.here hx rfl (hb hby at_101) rfl rfl (XS.dload X97.here hx rfl (hb hby at_103) rfl  (kk)))) ?_
    show Dn p e below s _ _ _ (T97.setTop (mkF m 105 #[.val (.int p0), .val (.int p1), .val (.int p2), .val (.int p3), .val (.long v4), .second, .val (.long v11), .second, .val (.long v18), .second, .val (.long v27), .second, .val (.long v27), .second, .val (.double v46), .second, .val (.double v54), .second, .val (.double v62), .second, .val (.double v70), .second, .val (.ref b74), .val (.ref b97), .unset, .unset] [(.double v46), (.ref b74)]))
    obtain ⟨_, _, ⟨T105, L105, k105, n105⟩, -, X105, ⟨Lc105, hQ105, l105, y105, z105⟩, st105⟩ := Jvm.LawKit.callS X97 hx (y := (⟨"com/example/tieline/tieline/series/Amplitude", "scaled", "([DD)[D"⟩ : MethodName)) hown (mvT hZ (hw _ (List.mem_of_getElem? (i := 2) rfl))) (mvT hZ (hw _ (List.mem_of_getElem? (i := 3) rfl))) (mvT hZ (hw _ (List.mem_of_getElem? (i := 4) rfl))) (mvT hZ (hw _ (List.mem_of_getElem? (i := 5) rfl))) (by decide) (backOf (W := 0) (rm1 l Z a0 hw [] b74 v46 k74 v54 v62 v70 v4.toInt v11.toInt v18.toInt v27.toInt h97 n0 Z97 V_b74_97 d46 (by omega) ((d54).cast rfl (by omega)) ((d62).cast rfl (by omega)) ((d70).cast rfl (by omega)) (by omega) (by omega) (by omega)) hZ (hw _ (List.mem_of_getElem? (i := 5) rfl)) (hw _ (List.mem_of_getElem? (i := 4) rfl)) (by decide) (by decide)) (g := (mkF m 105 #[.val (.int p0), .val (.int p1), .val (.int p2), .val (.int p3), .val (.long v4), .second, .val (.long v11), .second, .val (.long v18), .second, .val (.long v27), .second, .val (.long v27), .second, .val (.double v46), .second, .val (.double v54), .second, .val (.double v62), .second, .val (.double v70), .second, .val (.ref b74), .val (.ref b97), .unset, .unset] [(.double v46), (.ref b74)])) rfl (by rw [hml]; rfl) (argsL := [(.ref b74), (.double v46)]) (rest := []) (lenOf pd0 rfl) rfl (by show 2 * 0 + _ ≤ _; exact Nat.le_of_eq rfl) (hb hby at_105) (fun _ _ => ⟨rfl, e97, (by decide : 2 + 1 ≤ _), (by decide : 3 + 3 ≤ _)⟩)
    dsimp only [Pt.U, Pt.locs, Pt.cells, Pt.slots] at X105 l105 y105 z105 st105 hQ105
    subst l105 y105 z105
    obtain ⟨bb105, kb105, w0_105, w1_105, w2_105, rfl, gz105, Nq105, K105, V_bb105, dw0_105, dw1_105, dw2_105⟩ := hQ105
    have N105 := Fr.app N95 Nq105
    refine Dn.st st105 ?_
    have ne_b74_bb105 : b74 ≠ bb105 := Nat.ne_of_lt (Nat.lt_of_lt_of_le V_b74_97.lt gz105)
    have ne_b97_bb105 : b97 ≠ bb105 := Nat.ne_of_lt (Nat.lt_of_lt_of_le V_b97.lt gz105)
    have V_b74_105 := V_b74_97.keep K105 nin0
    have V_b97_105 := V_b97.keep K105 nin0
    have Z105 : n0 ≤ T105.heap.size := Nat.le_trans Z97 K105.1
    show Dn p e below s _ _ _ (T105.setTop (mkF m 108 #[.val (.int p0), .val (.int p1), .val (.int p2), .val (.int p3), .val (.long v4), .second, .val (.long v11), .second, .val (.long v18), .second, .val (.long v27), .second, .val (.long v27), .second, .val (.double v46), .second, .val (.double v54), .second, .val (.double v62), .second, .val (.double v70), .second, .val (.ref b74), .val (.ref b97), .unset, .unset] [(.ref bb105)]))
    refine Dn.st (fun _ kk => XS.astore X105.here hx rfl (hb hby at_108) rfl rfl (l' := #[.val (.int p0), .val (.int p1), .val (.int p2), .val (.int p3), .val (.long v4), .second, .val (.long v11), .second, .val (.long v18), .second, .val (.long v27), .second, .val (.long v27), .second, .val (.double v46), .second, .val (.double v54), .second, .val (.double v62), .second, .val (.double v70), .second, .val (.ref b74), .val (.ref b97), .val (.ref bb105), .unset]) rfl (XS.aload X105.here hx rfl (hb hby at_110) rfl rfl (XS.dload X105.here hx rfl (hb hby at_112) rfl  (kk)))) ?_
    show Dn p e below s _ _ _ (T105.setTop (mkF m 114 #[.val (.int p0), .val (.int p1), .val (.int p2), .val (.int p3), .val (.long v4), .second, .val (.long v11), .second, .val (.long v18), .second, .val (.long v27), .second, .val (.long v27), .second, .val (.double v46), .second, .val (.double v54), .second, .val (.double v62), .second, .val (.double v70), .second, .val (.ref b74), .val (.ref b97), .val (.ref bb105), .unset] [(.double v46), (.ref b97)]))
    obtain ⟨_, _, ⟨T114, L114, k114, n114⟩, -, X114, ⟨Lc114, hQ114, l114, y114, z114⟩, st114⟩ := Jvm.LawKit.callS X105 hx (y := (⟨"com/example/tieline/tieline/series/Amplitude", "scaled", "([DD)[D"⟩ : MethodName)) hown (mvT hZ (hw _ (List.mem_of_getElem? (i := 2) rfl))) (mvT hZ (hw _ (List.mem_of_getElem? (i := 3) rfl))) (mvT hZ (hw _ (List.mem_of_getElem? (i := 4) rfl))) (mvT hZ (hw _ (List.mem_of_getElem? (i := 5) rfl))) (by decide) (backOf (W := 0) (rm1E l Z a0 hw [] b97 v46 k97 v27.toInt T105.heap n0 Z105 V_b97_105 d46 (by omega)) hZ (hw _ (List.mem_of_getElem? (i := 5) rfl)) (hw _ (List.mem_of_getElem? (i := 4) rfl)) (by decide) (by decide)) (g := (mkF m 114 #[.val (.int p0), .val (.int p1), .val (.int p2), .val (.int p3), .val (.long v4), .second, .val (.long v11), .second, .val (.long v18), .second, .val (.long v27), .second, .val (.long v27), .second, .val (.double v46), .second, .val (.double v54), .second, .val (.double v62), .second, .val (.double v70), .second, .val (.ref b74), .val (.ref b97), .val (.ref bb105), .unset] [(.double v46), (.ref b97)])) rfl (by rw [hml]; rfl) (argsL := [(.ref b97), (.double v46)]) (rest := []) (lenOf pd0 rfl) rfl (by show 2 * 0 + _ ≤ _; exact Nat.le_of_eq rfl) (hb hby at_114) (fun _ _ => ⟨rfl, rfl, (by decide : 3 + 1 ≤ _), (by decide : 6 + 0 ≤ _)⟩)
    dsimp only [Pt.U, Pt.locs, Pt.cells, Pt.slots] at X114 l114 y114 z114 st114 hQ114
    subst l114 y114 z114
    obtain ⟨bb114, kb114, -, rfl, gz114, Nq114, K114, V_bb114⟩ := hQ114
    have N114 := Fr.app N105 Nq114
    refine Dn.st st114 ?_
    have V_b74_114 := V_b74_105.keep K114 nin0
    have V_b97_114 := V_b97_105.keep K114 nin0
    have V_bb105_114 := V_bb105.keep K114 nin0
    have Z114 : n0 ≤ T114.heap.size := Nat.le_trans Z105 K114.1
    show Dn p e below s _ _ _ (T114.setTop (mkF m 117 #[.val (.int p0), .val (.int p1), .val (.int p2), .val (.int p3), .val (.long v4), .second, .val (.long v11), .second, .val (.long v18), .second, .val (.long v27), .second, .val (.long v27), .second, .val (.double v46), .second, .val (.double v54), .second, .val (.double v62), .second, .val (.double v70), .second, .val (.ref b74), .val (.ref b97), .val (.ref bb105), .unset] [(.ref bb114)]))
    refine Dn.st (fun _ kk => XS.astore X114.here hx rfl (hb hby at_117) rfl rfl (l' := #[.val (.int p0), .val (.int p1), .val (.int p2), .val (.int p3), .val (.long v4), .second, .val (.long v11), .second, .val (.long v18), .second, .val (.long v27), .second, .val (.long v27), .second, .val (.double v46), .second, .val (.double v54), .second, .val (.double v62), .second, .val (.double v70), .second, .val (.ref b74), .val (.ref b97), .val (.ref bb105), .val (.ref bb114)]) rfl (XS.aload X114.here hx rfl (hb hby at_119) rfl rfl (XS.aload X114.here hx rfl (hb hby at_121) rfl rfl (Jvm.RoadKit.acmp (g := (mkF m 123 #[.val (.int p0), .val (.int p1), .val (.int p2), .val (.int p3), .val (.long v4), .second, .val (.long v11), .second, .val (.long v18), .second, .val (.long v27), .second, .val (.long v27), .second, .val (.double v46), .second, .val (.double v54), .second, .val (.double v62), .second, .val (.double v70), .second, .val (.ref b74), .val (.ref b97), .val (.ref bb105), .val (.ref bb114)] [(.ref b74), (.ref bb105)])) X114 hx rfl rfl rfl (pc0 := 123) (pc' := 126) (same := false) rfl (hb hby at_123) rfl (decide_eq_false fun q => (Ne.symm ne_b74_bb105) (Value.ref.inj q)) (by decide) (by decide) (XS.aload X114.here hx rfl (hb hby at_126) rfl rfl (kk)))))) ?_
    show Dn p e below s _ _ _ (T114.setTop (mkF m 128 #[.val (.int p0), .val (.int p1), .val (.int p2), .val (.int p3), .val (.long v4), .second, .val (.long v11), .second, .val (.long v18), .second, .val (.long v27), .second, .val (.long v27), .second, .val (.double v46), .second, .val (.double v54), .second, .val (.double v62), .second, .val (.double v70), .second, .val (.ref b74), .val (.ref b97), .val (.ref bb105), .val (.ref bb114)] [(.ref bb105)]))
    have Vc_bb105_128 := V_bb105_114
    obtain ⟨cl_bb105_128, Ar_bb105_128, q_bb105_128, S_bb105_128, N_bb105_128, H_bb105_128, G_bb105_128⟩ := Vc_bb105_128
    refine Dn.st (fun _ kk => X114.arraylength hx Ar_bb105_128.1 (State.isArrayOf_alike hZ.alike Ar_bb105_128.2.1) (g := (mkF m 128 #[.val (.int p0), .val (.int p1), .val (.int p2), .val (.int p3), .val (.long v4), .second, .val (.long v11), .second, .val (.long v18), .second, .val (.long v27), .second, .val (.long v27), .second, .val (.double v46), .second, .val (.double v54), .second, .val (.double v62), .second, .val (.double v70), .second, .val (.ref b74), .val (.ref b97), .val (.ref bb105), .val (.ref bb114)] [(.ref bb105)])) rfl rfl (hb hby at_128) _ (kk)) ?_
    show Dn p e below s _ _ _ (T114.setTop (mkF m 129 #[.val (.int p0), .val (.int p1), .val (.int p2), .val (.int p3), .val (.long v4), .second, .val (.long v11), .second, .val (.long v18), .second, .val (.long v27), .second, .val (.long v27), .second, .val (.double v46), .second, .val (.double v54), .second, .val (.double v62), .second, .val (.double v70), .second, .val (.ref b74), .val (.ref b97), .val (.ref bb105), .val (.ref bb114)] [(.int cl_bb105_128.slots.size.toInt32)]))
    rw [len_of S_bb105_128 N_bb105_128]
    show Dn p e below s _ _ _ (T114.setTop (mkF m 129 #[.val (.int p0), .val (.int p1), .val (.int p2), .val (.int p3), .val (.long v4), .second, .val (.long v11), .second, .val (.long v18), .second, .val (.long v27), .second, .val (.long v27), .second, .val (.double v46), .second, .val (.double v54), .second, .val (.double v62), .second, .val (.double v70), .second, .val (.ref b74), .val (.ref b97), .val (.ref bb105), .val (.ref bb114)] [(.int (3 : Int32))]))
    refine Dn.st (fun _ kk => XS.iconst X114.here hx rfl (hb hby at_129) (kk)) ?_
    show Dn p e below s _ _ _ (T114.setTop (mkF m 130 #[.val (.int p0), .val (.int p1), .val (.int p2), .val (.int p3), .val (.long v4), .second, .val (.long v11), .second, .val (.long v18), .second, .val (.long v27), .second, .val (.long v27), .second, .val (.double v46), .second, .val (.double v54), .second, .val (.double v62), .second, .val (.double v70), .second, .val (.ref b74), .val (.ref b97), .val (.ref bb105), .val (.ref bb114)] [(.int (3 : Int32)), (.int (3 : Int32))]))
    have hc130 : (3 : Int32) = (3 : Int32) := by decide
    refine Dn.st (fun _ kk => XS.icmpNo X114.here hx rfl (hb hby at_130) rfl (teq hc130).2 (XS.aload X114.here hx rfl (hb hby at_133) rfl rfl (XS.iconst X114.here hx rfl (hb hby at_135) (kk)))) ?_
    show Dn p e below s _ _ _ (T114.setTop (mkF m 136 #[.val (.int p0), .val (.int p1), .val (.int p2), .val (.int p3), .val (.long v4), .second, .val (.long v11), .second, .val (.long v18), .second, .val (.long v27), .second, .val (.long v27), .second, .val (.double v46), .second, .val (.double v54), .second, .val (.double v62), .second, .val (.double v70), .second, .val (.ref b74), .val (.ref b97), .val (.ref bb105), .val (.ref bb114)] [(.int (0 : Int32)), (.ref bb105)]))
    have Vc_bb105_136 := V_bb105_114
    obtain ⟨cl_bb105_136, Ar_bb105_136, q_bb105_136, S_bb105_136, N_bb105_136, H_bb105_136, G_bb105_136⟩ := Vc_bb105_136
    have hin136 : ¬ ((0 : Int32) < 0 ∨ cl_bb105_136.slots.size ≤ ((0 : Int32)).toNatClampNeg) := inb_of S_bb105_136 ⟨by decide, by decide⟩
    have hat136 : cl_bb105_136.slots[((0 : Int32)).toNatClampNeg]? = some (.double w0_105) := H_bb105_136.at hin136 rfl
    refine Dn.st (fun _ kk => X114.daload hx (j := (0 : Int32)) (v := (.double w0_105)) Ar_bb105_136.1 (State.isArrayOf_alike hZ.alike Ar_bb105_136.2.1) Ar_bb105_136.2.2 hin136 hat136 (g := (mkF m 136 #[.val (.int p0), .val (.int p1), .val (.int p2), .val (.int p3), .val (.long v4), .second, .val (.long v11), .second, .val (.long v18), .second, .val (.long v27), .second, .val (.long v27), .second, .val (.double v46), .second, .val (.double v54), .second, .val (.double v62), .second, .val (.double v70), .second, .val (.ref b74), .val (.ref b97), .val (.ref bb105), .val (.ref bb114)] [(.int (0 : Int32)), (.ref bb105)])) rfl rfl (hb hby at_136) _ (XS.lload X114.here hx rfl (hb hby at_137) rfl  (kk))) ?_
    show Dn p e below s _ _ _ (T114.setTop (mkF m 139 #[.val (.int p0), .val (.int p1), .val (.int p2), .val (.int p3), .val (.long v4), .second, .val (.long v11), .second, .val (.long v18), .second, .val (.long v27), .second, .val (.long v27), .second, .val (.double v46), .second, .val (.double v54), .second, .val (.double v62), .second, .val (.double v70), .second, .val (.ref b74), .val (.ref b97), .val (.ref bb105), .val (.ref bb114)] [(.long v4), (.double w0_105)]))
    have d139 := DS.l2d (v := v4) (by omega)
    refine Dn.st (fun _ kk => XS.l2dS X114.here hx rfl (hb hby at_139) rfl rfl (kk)) ?_
    show Dn p e below s _ _ _ (T114.setTop (mkF m 140 #[.val (.int p0), .val (.int p1), .val (.int p2), .val (.int p3), .val (.long v4), .second, .val (.long v11), .second, .val (.long v18), .second, .val (.long v27), .second, .val (.long v27), .second, .val (.double v46), .second, .val (.double v54), .second, .val (.double v62), .second, .val (.double v70), .second, .val (.ref b74), .val (.ref b97), .val (.ref bb105), .val (.ref bb114)] [(.double (FP.l2d v4)), (.double w0_105)]))
    generalize hv139 : ((FP.l2d v4) : UInt64) = v139 at d139 ⊢
    show Dn p e below s _ _ _ (T114.setTop (mkF m 140 #[.val (.int p0), .val (.int p1), .val (.int p2), .val (.int p3), .val (.long v4), .second, .val (.long v11), .second, .val (.long v18), .second, .val (.long v27), .second, .val (.long v27), .second, .val (.double v46), .second, .val (.double v54), .second, .val (.double v62), .second, .val (.double v70), .second, .val (.ref b74), .val (.ref b97), .val (.ref bb105), .val (.ref bb114)] [(.double v139), (.double w0_105)]))
    refine Dn.st (fun _ kk => XS.dcmpS X114.here hx rfl (hb hby at_140) rfl (DS.cmpV dw0_105 d139 _) (kk)) ?_
    show Dn p e below s _ _ _ (T114.setTop (mkF m 141 #[.val (.int p0), .val (.int p1), .val (.int p2), .val (.int p3), .val (.long v4), .second, .val (.long v11), .second, .val (.long v18), .second, .val (.long v27), .second, .val (.long v27), .second, .val (.double v46), .second, .val (.double v54), .second, .val (.double v62), .second, .val (.double v70), .second, .val (.ref b74), .val (.ref b97), .val (.ref bb105), .val (.ref bb114)] [(.int (c3 v4.toInt v4.toInt))]))
    have hc141 : (c3 v4.toInt v4.toInt) = (0 : Int32) := (c3_eq _ _).mpr rfl
    refine Dn.st (fun _ kk => XS.ifNo X114.here hx rfl (hb hby at_141) rfl ((if0 _ _).trans (teq hc141).2) (XS.aload X114.here hx rfl (hb hby at_144) rfl rfl (XS.iconst X114.here hx rfl (hb hby at_146) (kk)))) ?_
    show Dn p e below s _ _ _ (T114.setTop (mkF m 147 #[.val (.int p0), .val (.int p1), .val (.int p2), .val (.int p3), .val (.long v4), .second, .val (.long v11), .second, .val (.long v18), .second, .val (.long v27), .second, .val (.long v27), .second, .val (.double v46), .second, .val (.double v54), .second, .val (.double v62), .second, .val (.double v70), .second, .val (.ref b74), .val (.ref b97), .val (.ref bb105), .val (.ref bb114)] [(.int (1 : Int32)), (.ref bb105)]))
    have Vc_bb105_147 := V_bb105_114
    obtain ⟨cl_bb105_147, Ar_bb105_147, q_bb105_147, S_bb105_147, N_bb105_147, H_bb105_147, G_bb105_147⟩ := Vc_bb105_147
    have hin147 : ¬ ((1 : Int32) < 0 ∨ cl_bb105_147.slots.size ≤ ((1 : Int32)).toNatClampNeg) := inb_of S_bb105_147 ⟨by decide, by decide⟩
    have hat147 : cl_bb105_147.slots[((1 : Int32)).toNatClampNeg]? = some (.double w1_105) := H_bb105_147.at hin147 rfl
    refine Dn.st (fun _ kk => X114.daload hx (j := (1 : Int32)) (v := (.double w1_105)) Ar_bb105_147.1 (State.isArrayOf_alike hZ.alike Ar_bb105_147.2.1) Ar_bb105_147.2.2 hin147 hat147 (g := (mkF m 147 #[.val (.int p0), .val (.int p1), .val (.int p2), .val (.int p3), .val (.long v4), .second, .val (.long v11), .second, .val (.long v18), .second, .val (.long v27), .second, .val (.long v27), .second, .val (.double v46), .second, .val (.double v54), .second, .val (.double v62), .second, .val (.double v70), .second, .val (.ref b74), .val (.ref b97), .val (.ref bb105), .val (.ref bb114)] [(.int (1 : Int32)), (.ref bb105)])) rfl rfl (hb hby at_147) _ (XS.lload X114.here hx rfl (hb hby at_148) rfl  (kk))) ?_
    show Dn p e below s _ _ _ (T114.setTop (mkF m 150 #[.val (.int p0), .val (.int p1), .val (.int p2), .val (.int p3), .val (.long v4), .second, .val (.long v11), .second, .val (.long v18), .second, .val (.long v27), .second, .val (.long v27), .second, .val (.double v46), .second, .val (.double v54), .second, .val (.double v62), .second, .val (.double v70), .second, .val (.ref b74), .val (.ref b97), .val (.ref bb105), .val (.ref bb114)] [(.long v11), (.double w1_105)]))
    have d150 := DS.l2d (v := v11) (by omega)
    refine Dn.st (fun _ kk => XS.l2dS X114.here hx rfl (hb hby at_150) rfl rfl (kk)) ?_
    show Dn p e below s _ _ _ (T114.setTop (mkF m 151 #[.val (.int p0), .val (.int p1), .val (.int p2), .val (.int p3), .val (.long v4), .second, .val (.long v11), .second, .val (.long v18), .second, .val (.long v27), .second, .val (.long v27), .second, .val (.double v46), .second, .val (.double v54), .second, .val (.double v62), .second, .val (.double v70), .second, .val (.ref b74), .val (.ref b97), .val (.ref bb105), .val (.ref bb114)] [(.double (FP.l2d v11)), (.double w1_105)]))
    generalize hv150 : ((FP.l2d v11) : UInt64) = v150 at d150 ⊢
    show Dn p e below s _ _ _ (T114.setTop (mkF m 151 #[.val (.int p0), .val (.int p1), .val (.int p2), .val (.int p3), .val (.long v4), .second, .val (.long v11), .second, .val (.long v18), .second, .val (.long v27), .second, .val (.long v27), .second, .val (.double v46), .second, .val (.double v54), .second, .val (.double v62), .second, .val (.double v70), .second, .val (.ref b74), .val (.ref b97), .val (.ref bb105), .val (.ref bb114)] [(.double v150), (.double w1_105)]))
    refine Dn.st (fun _ kk => XS.dcmpS X114.here hx rfl (hb hby at_151) rfl (DS.cmpV dw1_105 d150 _) (kk)) ?_
    show Dn p e below s _ _ _ (T114.setTop (mkF m 152 #[.val (.int p0), .val (.int p1), .val (.int p2), .val (.int p3), .val (.long v4), .second, .val (.long v11), .second, .val (.long v18), .second, .val (.long v27), .second, .val (.long v27), .second, .val (.double v46), .second, .val (.double v54), .second, .val (.double v62), .second, .val (.double v70), .second, .val (.ref b74), .val (.ref b97), .val (.ref bb105), .val (.ref bb114)] [(.int (c3 v11.toInt v11.toInt))]))
    have hc152 : (c3 v11.toInt v11.toInt) = (0 : Int32) := (c3_eq _ _).mpr rfl
    refine Dn.st (fun _ kk => XS.ifNo X114.here hx rfl (hb hby at_152) rfl ((if0 _ _).trans (teq hc152).2) (XS.aload X114.here hx rfl (hb hby at_155) rfl rfl (XS.iconst X114.here hx rfl (hb hby at_157) (kk)))) ?_
    show Dn p e below s _ _ _ (T114.setTop (mkF m 158 #[.val (.int p0), .val (.int p1), .val (.int p2), .val (.int p3), .val (.long v4), .second, .val (.long v11), .second, .val (.long v18), .second, .val (.long v27), .second, .val (.long v27), .second, .val (.double v46), .second, .val (.double v54), .second, .val (.double v62), .second, .val (.double v70), .second, .val (.ref b74), .val (.ref b97), .val (.ref bb105), .val (.ref bb114)] [(.int (2 : Int32)), (.ref bb105)]))
    have Vc_bb105_158 := V_bb105_114
    obtain ⟨cl_bb105_158, Ar_bb105_158, q_bb105_158, S_bb105_158, N_bb105_158, H_bb105_158, G_bb105_158⟩ := Vc_bb105_158
    have hin158 : ¬ ((2 : Int32) < 0 ∨ cl_bb105_158.slots.size ≤ ((2 : Int32)).toNatClampNeg) := inb_of S_bb105_158 ⟨by decide, by decide⟩
    have hat158 : cl_bb105_158.slots[((2 : Int32)).toNatClampNeg]? = some (.double w2_105) := H_bb105_158.at hin158 rfl
    refine Dn.st (fun _ kk => X114.daload hx (j := (2 : Int32)) (v := (.double w2_105)) Ar_bb105_158.1 (State.isArrayOf_alike hZ.alike Ar_bb105_158.2.1) Ar_bb105_158.2.2 hin158 hat158 (g := (mkF m 158 #[.val (.int p0), .val (.int p1), .val (.int p2), .val (.int p3), .val (.long v4), .second, .val (.long v11), .second, .val (.long v18), .second, .val (.long v27), .second, .val (.long v27), .second, .val (.double v46), .second, .val (.double v54), .second, .val (.double v62), .second, .val (.double v70), .second, .val (.ref b74), .val (.ref b97), .val (.ref bb105), .val (.ref bb114)] [(.int (2 : Int32)), (.ref bb105)])) rfl rfl (hb hby at_158) _ (XS.lload X114.here hx rfl (hb hby at_159) rfl  (kk))) ?_
    show Dn p e below s _ _ _ (T114.setTop (mkF m 161 #[.val (.int p0), .val (.int p1), .val (.int p2), .val (.int p3), .val (.long v4), .second, .val (.long v11), .second, .val (.long v18), .second, .val (.long v27), .second, .val (.long v27), .second, .val (.double v46), .second, .val (.double v54), .second, .val (.double v62), .second, .val (.double v70), .second, .val (.ref b74), .val (.ref b97), .val (.ref bb105), .val (.ref bb114)] [(.long v18), (.double w2_105)]))
    have d161 := DS.l2d (v := v18) (by omega)
    refine Dn.st (fun _ kk => XS.l2dS X114.here hx rfl (hb hby at_161) rfl rfl (kk)) ?_
    show Dn p e below s _ _ _ (T114.setTop (mkF m 162 #[.val (.int p0), .val (.int p1), .val (.int p2), .val (.int p3), .val (.long v4), .second, .val (.long v11), .second, .val (.long v18), .second, .val (.long v27), .second, .val (.long v27), .second, .val (.double v46), .second, .val (.double v54), .second, .val (.double v62), .second, .val (.double v70), .second, .val (.ref b74), .val (.ref b97), .val (.ref bb105), .val (.ref bb114)] [(.double (FP.l2d v18)), (.double w2_105)]))
    generalize hv161 : ((FP.l2d v18) : UInt64) = v161 at d161 ⊢
    show Dn p e below s _ _ _ (T114.setTop (mkF m 162 #[.val (.int p0), .val (.int p1), .val (.int p2), .val (.int p3), .val (.long v4), .second, .val (.long v11), .second, .val (.long v18), .second, .val (.long v27), .second, .val (.long v27), .second, .val (.double v46), .second, .val (.double v54), .second, .val (.double v62), .second, .val (.double v70), .second, .val (.ref b74), .val (.ref b97), .val (.ref bb105), .val (.ref bb114)] [(.double v161), (.double w2_105)]))
    refine Dn.st (fun _ kk => XS.dcmpS X114.here hx rfl (hb hby at_162) rfl (DS.cmpV dw2_105 d161 _) (kk)) ?_
    show Dn p e below s _ _ _ (T114.setTop (mkF m 163 #[.val (.int p0), .val (.int p1), .val (.int p2), .val (.int p3), .val (.long v4), .second, .val (.long v11), .second, .val (.long v18), .second, .val (.long v27), .second, .val (.long v27), .second, .val (.double v46), .second, .val (.double v54), .second, .val (.double v62), .second, .val (.double v70), .second, .val (.ref b74), .val (.ref b97), .val (.ref bb105), .val (.ref bb114)] [(.int (c3 v18.toInt v18.toInt))]))
    have hc163 : (c3 v18.toInt v18.toInt) = (0 : Int32) := (c3_eq _ _).mpr rfl
    refine Dn.st (fun _ kk => XS.ifNo X114.here hx rfl (hb hby at_163) rfl ((if0 _ _).trans (teq hc163).2) (XS.aload X114.here hx rfl (hb hby at_166) rfl rfl (XS.iconst X114.here hx rfl (hb hby at_168) (kk)))) ?_
    show Dn p e below s _ _ _ (T114.setTop (mkF m 169 #[.val (.int p0), .val (.int p1), .val (.int p2), .val (.int p3), .val (.long v4), .second, .val (.long v11), .second, .val (.long v18), .second, .val (.long v27), .second, .val (.long v27), .second, .val (.double v46), .second, .val (.double v54), .second, .val (.double v62), .second, .val (.double v70), .second, .val (.ref b74), .val (.ref b97), .val (.ref bb105), .val (.ref bb114)] [(.int (0 : Int32)), (.ref b74)]))
    have Vc_b74_169 := V_b74_114
    obtain ⟨cl_b74_169, Ar_b74_169, q_b74_169, S_b74_169, N_b74_169, H_b74_169, G_b74_169⟩ := Vc_b74_169
    have hin169 : ¬ ((0 : Int32) < 0 ∨ cl_b74_169.slots.size ≤ ((0 : Int32)).toNatClampNeg) := inb_of S_b74_169 ⟨by decide, by decide⟩
    have hat169 : cl_b74_169.slots[((0 : Int32)).toNatClampNeg]? = some (.double v54) := H_b74_169.at hin169 rfl
    refine Dn.st (fun _ kk => X114.daload hx (j := (0 : Int32)) (v := (.double v54)) Ar_b74_169.1 (State.isArrayOf_alike hZ.alike Ar_b74_169.2.1) Ar_b74_169.2.2 hin169 hat169 (g := (mkF m 169 #[.val (.int p0), .val (.int p1), .val (.int p2), .val (.int p3), .val (.long v4), .second, .val (.long v11), .second, .val (.long v18), .second, .val (.long v27), .second, .val (.long v27), .second, .val (.double v46), .second, .val (.double v54), .second, .val (.double v62), .second, .val (.double v70), .second, .val (.ref b74), .val (.ref b97), .val (.ref bb105), .val (.ref bb114)] [(.int (0 : Int32)), (.ref b74)])) rfl rfl (hb hby at_169) _ (XS.dload X114.here hx rfl (hb hby at_170) rfl  (XS.dcmpS X114.here hx rfl (hb hby at_172) rfl (DS.cmpV d54 d54 _) (kk)))) ?_
    show Dn p e below s _ _ _ (T114.setTop (mkF m 173 #[.val (.int p0), .val (.int p1), .val (.int p2), .val (.int p3), .val (.long v4), .second, .val (.long v11), .second, .val (.long v18), .second, .val (.long v27), .second, .val (.long v27), .second, .val (.double v46), .second, .val (.double v54), .second, .val (.double v62), .second, .val (.double v70), .second, .val (.ref b74), .val (.ref b97), .val (.ref bb105), .val (.ref bb114)] [(.int (c3 v53.toInt v53.toInt))]))
    have hc173 : (c3 v53.toInt v53.toInt) = (0 : Int32) := (c3_eq _ _).mpr rfl
    refine Dn.st (fun _ kk => XS.ifNo X114.here hx rfl (hb hby at_173) rfl ((if0 _ _).trans (teq hc173).2) (XS.aload X114.here hx rfl (hb hby at_176) rfl rfl (XS.iconst X114.here hx rfl (hb hby at_178) (kk)))) ?_
    show Dn p e below s _ _ _ (T114.setTop (mkF m 179 #[.val (.int p0), .val (.int p1), .val (.int p2), .val (.int p3), .val (.long v4), .second, .val (.long v11), .second, .val (.long v18), .second, .val (.long v27), .second, .val (.long v27), .second, .val (.double v46), .second, .val (.double v54), .second, .val (.double v62), .second, .val (.double v70), .second, .val (.ref b74), .val (.ref b97), .val (.ref bb105), .val (.ref bb114)] [(.int (1 : Int32)), (.ref b74)]))
    have Vc_b74_179 := V_b74_114
    obtain ⟨cl_b74_179, Ar_b74_179, q_b74_179, S_b74_179, N_b74_179, H_b74_179, G_b74_179⟩ := Vc_b74_179
    have hin179 : ¬ ((1 : Int32) < 0 ∨ cl_b74_179.slots.size ≤ ((1 : Int32)).toNatClampNeg) := inb_of S_b74_179 ⟨by decide, by decide⟩
    have hat179 : cl_b74_179.slots[((1 : Int32)).toNatClampNeg]? = some (.double v62) := H_b74_179.at hin179 rfl
    refine Dn.st (fun _ kk => X114.daload hx (j := (1 : Int32)) (v := (.double v62)) Ar_b74_179.1 (State.isArrayOf_alike hZ.alike Ar_b74_179.2.1) Ar_b74_179.2.2 hin179 hat179 (g := (mkF m 179 #[.val (.int p0), .val (.int p1), .val (.int p2), .val (.int p3), .val (.long v4), .second, .val (.long v11), .second, .val (.long v18), .second, .val (.long v27), .second, .val (.long v27), .second, .val (.double v46), .second, .val (.double v54), .second, .val (.double v62), .second, .val (.double v70), .second, .val (.ref b74), .val (.ref b97), .val (.ref bb105), .val (.ref bb114)] [(.int (1 : Int32)), (.ref b74)])) rfl rfl (hb hby at_179) _ (XS.dload X114.here hx rfl (hb hby at_180) rfl  (XS.dcmpS X114.here hx rfl (hb hby at_182) rfl (DS.cmpV d62 d62 _) (kk)))) ?_
    show Dn p e below s _ _ _ (T114.setTop (mkF m 183 #[.val (.int p0), .val (.int p1), .val (.int p2), .val (.int p3), .val (.long v4), .second, .val (.long v11), .second, .val (.long v18), .second, .val (.long v27), .second, .val (.long v27), .second, .val (.double v46), .second, .val (.double v54), .second, .val (.double v62), .second, .val (.double v70), .second, .val (.ref b74), .val (.ref b97), .val (.ref bb105), .val (.ref bb114)] [(.int (c3 v61.toInt v61.toInt))]))
    have hc183 : (c3 v61.toInt v61.toInt) = (0 : Int32) := (c3_eq _ _).mpr rfl
    refine Dn.st (fun _ kk => XS.ifNo X114.here hx rfl (hb hby at_183) rfl ((if0 _ _).trans (teq hc183).2) (XS.aload X114.here hx rfl (hb hby at_186) rfl rfl (XS.iconst X114.here hx rfl (hb hby at_188) (kk)))) ?_
    show Dn p e below s _ _ _ (T114.setTop (mkF m 189 #[.val (.int p0), .val (.int p1), .val (.int p2), .val (.int p3), .val (.long v4), .second, .val (.long v11), .second, .val (.long v18), .second, .val (.long v27), .second, .val (.long v27), .second, .val (.double v46), .second, .val (.double v54), .second, .val (.double v62), .second, .val (.double v70), .second, .val (.ref b74), .val (.ref b97), .val (.ref bb105), .val (.ref bb114)] [(.int (2 : Int32)), (.ref b74)]))
    have Vc_b74_189 := V_b74_114
    obtain ⟨cl_b74_189, Ar_b74_189, q_b74_189, S_b74_189, N_b74_189, H_b74_189, G_b74_189⟩ := Vc_b74_189
    have hin189 : ¬ ((2 : Int32) < 0 ∨ cl_b74_189.slots.size ≤ ((2 : Int32)).toNatClampNeg) := inb_of S_b74_189 ⟨by decide, by decide⟩
    have hat189 : cl_b74_189.slots[((2 : Int32)).toNatClampNeg]? = some (.double v70) := H_b74_189.at hin189 rfl
    refine Dn.st (fun _ kk => X114.daload hx (j := (2 : Int32)) (v := (.double v70)) Ar_b74_189.1 (State.isArrayOf_alike hZ.alike Ar_b74_189.2.1) Ar_b74_189.2.2 hin189 hat189 (g := (mkF m 189 #[.val (.int p0), .val (.int p1), .val (.int p2), .val (.int p3), .val (.long v4), .second, .val (.long v11), .second, .val (.long v18), .second, .val (.long v27), .second, .val (.long v27), .second, .val (.double v46), .second, .val (.double v54), .second, .val (.double v62), .second, .val (.double v70), .second, .val (.ref b74), .val (.ref b97), .val (.ref bb105), .val (.ref bb114)] [(.int (2 : Int32)), (.ref b74)])) rfl rfl (hb hby at_189) _ (XS.dload X114.here hx rfl (hb hby at_190) rfl  (XS.dcmpS X114.here hx rfl (hb hby at_192) rfl (DS.cmpV d70 d70 _) (kk)))) ?_
    show Dn p e below s _ _ _ (T114.setTop (mkF m 193 #[.val (.int p0), .val (.int p1), .val (.int p2), .val (.int p3), .val (.long v4), .second, .val (.long v11), .second, .val (.long v18), .second, .val (.long v27), .second, .val (.long v27), .second, .val (.double v46), .second, .val (.double v54), .second, .val (.double v62), .second, .val (.double v70), .second, .val (.ref b74), .val (.ref b97), .val (.ref bb105), .val (.ref bb114)] [(.int (c3 v69.toInt v69.toInt))]))
    have hc193 : (c3 v69.toInt v69.toInt) = (0 : Int32) := (c3_eq _ _).mpr rfl
    refine Dn.st (fun _ kk => XS.ifNo X114.here hx rfl (hb hby at_193) rfl ((if0 _ _).trans (teq hc193).2) (XS.aload X114.here hx rfl (hb hby at_196) rfl rfl (XS.ifnullNo X114.here hx rfl (hb hby at_198) rfl (XS.aload X114.here hx rfl (hb hby at_201) rfl rfl (kk))))) ?_
    show Dn p e below s _ _ _ (T114.setTop (mkF m 203 #[.val (.int p0), .val (.int p1), .val (.int p2), .val (.int p3), .val (.long v4), .second, .val (.long v11), .second, .val (.long v18), .second, .val (.long v27), .second, .val (.long v27), .second, .val (.double v46), .second, .val (.double v54), .second, .val (.double v62), .second, .val (.double v70), .second, .val (.ref b74), .val (.ref b97), .val (.ref bb105), .val (.ref bb114)] [(.ref bb114)]))
    have Vc_bb114_203 := V_bb114
    obtain ⟨cl_bb114_203, Ar_bb114_203, q_bb114_203, S_bb114_203, N_bb114_203, H_bb114_203, G_bb114_203⟩ := Vc_bb114_203
    refine Dn.st (fun _ kk => X114.arraylength hx Ar_bb114_203.1 (State.isArrayOf_alike hZ.alike Ar_bb114_203.2.1) (g := (mkF m 203 #[.val (.int p0), .val (.int p1), .val (.int p2), .val (.int p3), .val (.long v4), .second, .val (.long v11), .second, .val (.long v18), .second, .val (.long v27), .second, .val (.long v27), .second, .val (.double v46), .second, .val (.double v54), .second, .val (.double v62), .second, .val (.double v70), .second, .val (.ref b74), .val (.ref b97), .val (.ref bb105), .val (.ref bb114)] [(.ref bb114)])) rfl rfl (hb hby at_203) _ (kk)) ?_
    show Dn p e below s _ _ _ (T114.setTop (mkF m 204 #[.val (.int p0), .val (.int p1), .val (.int p2), .val (.int p3), .val (.long v4), .second, .val (.long v11), .second, .val (.long v18), .second, .val (.long v27), .second, .val (.long v27), .second, .val (.double v46), .second, .val (.double v54), .second, .val (.double v62), .second, .val (.double v70), .second, .val (.ref b74), .val (.ref b97), .val (.ref bb105), .val (.ref bb114)] [(.int cl_bb114_203.slots.size.toInt32)]))
    rw [len_of S_bb114_203 N_bb114_203]
    show Dn p e below s _ _ _ (T114.setTop (mkF m 204 #[.val (.int p0), .val (.int p1), .val (.int p2), .val (.int p3), .val (.long v4), .second, .val (.long v11), .second, .val (.long v18), .second, .val (.long v27), .second, .val (.long v27), .second, .val (.double v46), .second, .val (.double v54), .second, .val (.double v62), .second, .val (.double v70), .second, .val (.ref b74), .val (.ref b97), .val (.ref bb105), .val (.ref bb114)] [(.int (0 : Int32))]))
    have hc204 : (0 : Int32) = (0 : Int32) := by decide
    refine Dn.st (fun _ kk => XS.ifNo X114.here hx rfl (hb hby at_204) rfl ((if0 _ _).trans (teq hc204).2) (XS.iconst X114.here hx rfl (hb hby at_207) (XS.goto X114.here hx rfl (pc0 := 208) (pc' := 212) rfl (hb hby at_208) (by decide) (by decide) (kk)))) ?_
    show Dn p e below s _ _ _ (T114.setTop (mkF m 212 #[.val (.int p0), .val (.int p1), .val (.int p2), .val (.int p3), .val (.long v4), .second, .val (.long v11), .second, .val (.long v18), .second, .val (.long v27), .second, .val (.long v27), .second, .val (.double v46), .second, .val (.double v54), .second, .val (.double v62), .second, .val (.double v70), .second, .val (.ref b74), .val (.ref b97), .val (.ref bb105), .val (.ref bb114)] [(.int (1 : Int32))]))
    exact Dn.ret X114 hlk hx hret rfl (Or.inl ⟨rfl, Or.inr (Or.inl rfl), _, rfl⟩) (hb hby at_212) ⟨rfl, N114⟩ (by decide) (by decide)

set_option maxRecDepth 65536 in
set_option maxHeartbeats 40000000 in
theorem comes_1 {Post : Tables → Env → Array Value → State → Outcome → State → Prop} (hpost : ∀ tb e args s v u, (limb_1_1.after args s (.returned v) u = true ∧ limb_1_2.after args s (.returned v) u = true ∧ True) → FrameEnd s (.returned v) u (Jvm.fieldLocs frame_1_writes args s ++ Jvm.arrayLocs frame_1_arrays args s ++ Jvm.staticLocs frame_1_statics s) 16 128 → Post tb e args s (.returned v) u) :
    ArmFor flags0 classFile x code maxLocals ret World_1 tables_1 room_1 Calls_1 rest_1 Pre_1 Post := by
  intro l hfl _ _ p e ha hc hk s m args below hf hA hF happ hP
  obtain ⟨hcalls, hrest, hpre⟩ := hP
  obtain ⟨-, -, -, hnamed, -, -, -, hat⟩ := (Spec.applies_iff hf).mp happ
  obtain ⟨hg, hn⟩ := and_e (Cond.before_iff.mp (show (Jvm.Cond.and given_1 narrow_1).before args s = true from hpre))
  obtain ⟨g1a, g1b⟩ := and_e hg
  obtain ⟨g2a, g2b⟩ := and_e g1b
  obtain ⟨g3a, g3b⟩ := and_e g2b
  obtain ⟨g4a, g4b⟩ := and_e g3b
  obtain ⟨w0, w1, w2, w3, rfl⟩ : ∃ w0 w1 w2 w3 : Value, args = #[w0, w1, w2, w3] := by
    have hs : args.size = 4 := by simpa [Cond.value, given_1] using g1a
    obtain ⟨L⟩ := args
    match L, hs with
    | [w0, w1, w2, w3], _ => exact ⟨w0, w1, w2, w3, rfl⟩
  have hw := fun d (hd : d ∈ tables_1) => atoms_spec (ws := Jvm.Cond.code x code maxLocals ret :: tables_1) hat d (List.mem_cons_of_mem _ hd)
  have hfit : Fit s := fun {y c} hc i hi => by
    obtain ⟨ha, rfl⟩ := Array.getElem?_eq_some_iff.mp hc
    have q := List.all_eq_true.mp ((Array.all_eq_true_iff_forall_mem.mp hF) _ (Array.getElem_mem ha)) i (List.mem_range.mpr hi)
    simpa [Array.getElem?_eq_getElem hi] using q
  obtain ⟨i0, ei0⟩ := is_v g2a
  obtain rfl : w0 = (.int i0) := Option.some.inj ei0
  obtain ⟨i1, ei1⟩ := is_v g3a
  obtain rfl : w1 = (.int i1) := Option.some.inj ei1
  obtain ⟨i2, ei2⟩ := is_v g4a
  obtain rfl : w2 = (.int i2) := Option.some.inj ei2
  obtain ⟨i3, ei3⟩ := is_v g4b
  obtain rfl : w3 = (.int i3) := Option.some.inj ei3
  obtain ⟨n, o, h1, h2, h3, _, L, rfl, ⟨rfl, N⟩, hq⟩ := rm0 l s _ hw tables_1 i0 i1 i2 i3  s.heap s.heap.size (Nat.le_refl _)  p e ha hc hk s m _ below hf ((Spec.applies_iff_loose hf).mp happ).1 ⟨rfl, State.Warmed39.refl s, rfl⟩ trivial
  refine ⟨n, _, h1, h2, h3, hpost _ _ _ _ _ _ ⟨Cond.after_iff.mpr rfl, Cond.after_iff.mpr (eq_i res_at (Term.int_eval (1)) rfl), trivial⟩ ⟨hq.1, hq.2.1, (hq.2.2.sift fun y hy => Or.inr (N y hy)).mono (by decide) (by decide)⟩⟩
theorem main_1_1 : Claimed_1_1 := comes_1 fun _ _ _ _ _ _ h hF => ⟨h.1, hF⟩
theorem main_1_2 : Claimed_1_2 := comes_1 fun _ _ _ _ _ _ h hF => ⟨h.2.1, hF⟩
end Jvm.Pilot.@@N@@
namespace Jvm.Pilot.@@N@@
open Jvm Jvm.ClassFile Sem Op Lib Jvm.Free Jvm.Stand Jvm.Pilot.@@N@@.Jvm.D
/-! MADE BY PROGRAM (witnessworld.py) out of the Statement's table words and the real class files: 11 classes; the members and pool entries that the words name. The judged class is class 1, her method 1. -/
namespace start1
open Jvm.ClassFile
def u (s : String) : CpInfo := .utf8 (stringToUtf16 s)
/-- a pool by its gaps: so many unusable entries, then the entry; so many at the end -/
def gap : Nat → List CpInfo → List CpInfo
  | 0, r => r
  | n + 1, r => .unusable :: gap n r
def poolList (es : List (Nat × CpInfo)) (last : Nat) : List CpInfo := es.foldr (fun e r => gap e.1 (e.2 :: r)) (gap last [])
def pool (es : List (Nat × CpInfo)) (last : Nat) : Array CpInfo := ⟨poolList es last⟩
def fileOf (pool : Array CpInfo) (this : Nat) (attrs : Array Attribute := #[]) (ms : Array MethodInfo := #[]) (fl : Nat := 33) (sup : Nat := 0) (ifs : Array Nat := #[]) (fds : Array FieldInfo := #[]) : ClassFile where
  minorVersion := 0
  majorVersion := 65
  constantPool := pool
  accessFlags := fl
  thisClass := this
  superClass := sup
  interfaces := ifs
  fields := fds
  methods := ms
  attributes := attrs
def plain (name : String) (sup : Option ClassId) : Class where
  name := name
  kind := .ordinary
  loader := none
  accessFlags := 33
  super := sup
  interfaces := #[]
  cf := none
  fields := #[]
  methods := #[]
  instanceTypes := #[]
  staticTypes := #[]
  resolved := #[]
  callSites := []
  init := .initialized
  statics := none
  mirror := none

def pool0 : Array CpInfo := pool [(5, u "<init>"), (0, u "()V"), (1, .class_ 10), (1, u "java/lang/Object")] 113

def k0m0 : Method := { name := "<init>", desc := "()V", sig := { parameters := [], returnType := none }, accessFlags := 1, code := none }
/-- java/lang/Object -/
def k0 : Class := { plain "java/lang/Object" none with
  accessFlags := 33
  interfaces := #[]
  cf := some (fileOf pool0 8 #[] #[{ accessFlags := 1, nameIndex := 5, descriptorIndex := 6, attributes := #[] }] 33 0 #[] #[])
  fields := #[]
  methods := #[k0m0]
  instanceTypes := #[]
  staticTypes := #[]
  resolved := Array.replicate 124 none
  statics := none }

def pool1 : Array CpInfo := pool [(2, .class_ 4), (1, u "java/lang/Object"), (0, u "<init>"), (0, u "()V"), (0, .integer 524287), (0, .methodref 9 10), (0, .class_ 11), (0, .nameAndType 12 13), (0, u "com/example/tieline/tieline/series/Amplitude"), (0, u "scaled"), (0, u "([DD)[D"), (0, .class_ 15), (0, u "com/example/tieline/tieline/series/AmplitudeScaledPinLaw"), (2, u "law"), (0, u "(IIII)Z")] 5

def k1m0 : Method := { name := "<init>", desc := "()V", sig := { parameters := [], returnType := none }, accessFlags := 1, code := none }
def k1c1 : Code := { maxStack := 4, maxLocals := 26, code := code, exceptionTable := #[], attributes := #[] }
def k1m1 : Method := { name := "law", desc := "(IIII)Z", sig := { parameters := [.int, .int, .int, .int], returnType := some .boolean }, accessFlags := 9, code := some k1c1 }
/-- com/example/tieline/tieline/series/AmplitudeScaledPinLaw -/
def k1 : Class := { plain "com/example/tieline/tieline/series/AmplitudeScaledPinLaw" (some 0) with
  accessFlags := 49
  interfaces := #[]
  cf := some (fileOf pool1 14 #[] #[{ accessFlags := 1, nameIndex := 5, descriptorIndex := 6, attributes := #[] }, { accessFlags := 9, nameIndex := 18, descriptorIndex := 19, attributes := #[] }] 49 2 #[] #[])
  fields := #[]
  methods := #[k1m0, k1m1]
  instanceTypes := #[]
  staticTypes := #[]
  resolved := Array.replicate 25 none
  statics := none }

def pool2 : Array CpInfo := pool [(2, .class_ 4), (1, u "java/lang/Object"), (0, u "<init>"), (0, u "()V"), (11, .class_ 20), (1, u "com/example/tieline/tieline/series/Amplitude"), (12, u "scaled"), (0, u "([DD)[D")] 2

def k2m0 : Method := { name := "<init>", desc := "()V", sig := { parameters := [], returnType := none }, accessFlags := 2, code := none }
def k2c1 : Code := { maxStack := 6, maxLocals := 5, code := prog_22_method_3_code, exceptionTable := #[], attributes := #[] }
def k2m1 : Method := { name := "scaled", desc := "([DD)[D", sig := { parameters := [(.array .double), .double], returnType := some (.array .double) }, accessFlags := 9, code := some k2c1 }
/-- com/example/tieline/tieline/series/Amplitude -/
def k2 : Class := { plain "com/example/tieline/tieline/series/Amplitude" (some 0) with
  accessFlags := 49
  interfaces := #[]
  cf := some (fileOf pool2 18 #[] #[{ accessFlags := 2, nameIndex := 5, descriptorIndex := 6, attributes := #[] }, { accessFlags := 9, nameIndex := 33, descriptorIndex := 34, attributes := #[] }] 49 2 #[] #[])
  fields := #[]
  methods := #[k2m0, k2m1]
  instanceTypes := #[]
  staticTypes := #[]
  resolved := Array.replicate 37 none
  statics := none }

def pool3 : Array CpInfo := pool [(1, u "java/lang/Cloneable"), (0, .class_ 1), (0, u "java/lang/Object"), (0, .class_ 3)] 3

/-- java/lang/Cloneable -/
def k3 : Class := { plain "java/lang/Cloneable" (some 0) with
  accessFlags := 1537
  interfaces := #[]
  cf := some (fileOf pool3 2 #[] #[] 1537 4 #[] #[])
  fields := #[]
  methods := #[]
  instanceTypes := #[]
  staticTypes := #[]
  resolved := Array.replicate 8 none
  statics := none }

def pool4 : Array CpInfo := pool [(1, u "java/io/Serializable"), (0, .class_ 1), (0, u "java/lang/Object"), (0, .class_ 3)] 3

/-- java/io/Serializable -/
def k4 : Class := { plain "java/io/Serializable" (some 0) with
  accessFlags := 1537
  interfaces := #[]
  cf := some (fileOf pool4 2 #[] #[] 1537 4 #[] #[])
  fields := #[]
  methods := #[]
  instanceTypes := #[]
  staticTypes := #[]
  resolved := Array.replicate 8 none
  statics := none }

/-- the primitive byte -/
def k5 : Class := { plain "byte" none with kind := .primitive 'B', accessFlags := 0x411 }
/-- [B -/
def k6 : Class := { plain "[B" (some 0) with kind := .array 5 .byte, interfaces := #[3, 4], accessFlags := 1041 }

/-- the primitive double -/
def k7 : Class := { plain "double" none with kind := .primitive 'D', accessFlags := 0x411 }
/-- [D -/
def k8 : Class := { plain "[D" (some 0) with kind := .array 7 .double, interfaces := #[3, 4], accessFlags := 1041 }

/-- the primitive int -/
def k9 : Class := { plain "int" none with kind := .primitive 'I', accessFlags := 0x411 }
/-- [I -/
def k10 : Class := { plain "[I" (some 0) with kind := .array 9 .int, interfaces := #[3, 4], accessFlags := 1041 }

def heap : Heap := #[]
def classes : Array Class := #[k0, k1, k2, k3, k4, k5, k6, k7, k8, k9, k10]
def interned : List (Array UInt16 × Addr) := []
def slotsUsed : Nat := 0
def theMethod : MethodId := ⟨1, 1⟩
def args0 : Array Value := #[.int 5, .int 6, .int 7, .int 8]
def aboutOver (below : List Frame) : State where
  vm := { classes := classes, interned := interned.toArray }
  heap := heap
  slotsUsed := slotsUsed
  threads := #[{ frames := .invoking theMethod args0 :: below }]
def below0 : List Frame := [.native { method := ⟨0, 0⟩, args := #[] }]
def about1 : State := aboutOver below0
def p0 : Program := .bare "" "" ""
def e0 : Env := launch0.env 0 0 0
theorem w_frames : about1.frames = Frame.invoking theMethod args0 :: below0 := rfl
set_option maxRecDepth 65536 in
theorem w_args : argsFit about1.vm theMethod args0 = true := by decide +kernel
set_option maxRecDepth 65536 in
theorem w_heap : heapFits about1 = true := by decide +kernel
set_option maxRecDepth 65536 in
theorem w_runnable : about1.curStatus? = some .runnable := by decide +kernel
set_option maxRecDepth 65536 in
theorem w_alone : about1.alone = true := by decide +kernel
set_option maxRecDepth 65536 in
theorem w_named : about1.methodNamed? x = some theMethod := by decide +kernel
set_option maxRecDepth 65536 in
theorem w_hears : about1.hears theMethod below0 = true := by decide +kernel
set_option maxRecDepth 65536 in
theorem w_ripe : about1.ripe theMethod args0 below0 = true := by decide +kernel
theorem w_running : about1.status = .running := rfl
set_option maxRecDepth 65536 in
theorem w_room : about1.hasRoom e0.platform room_1 = true :=
  launch0.hasRoom_least _ room_1 (by decide +kernel) (by decide +kernel) (by decide +kernel) (by decide +kernel) (by decide +kernel) (by decide +kernel)
theorem allAtoms_all (ts : List Jvm.Cond) (a : Array Jvm.Value) (st : Jvm.State) : (allAtoms ts).before a st = ts.all (fun c => c.before a st) := by
  induction ts with
  | nil => rfl
  | cons c t ih =>
    show (Jvm.Cond.and c (allAtoms t)).before a st = _
    rw [Jvm.Cond.before_and, ih, List.all_cons]
def words1 : List Jvm.Cond := Jvm.Cond.code x code maxLocals ret :: tables_1
/-- a 'code' word, met by the world's own term for the bytes: nothing is compared byte by byte -/
theorem code_word {y : MethodName} {bytes : ByteArray} {mx : Nat} {rt : Option FieldType} {a : Array Value} {s : State} {m : MethodId} {meth : Method} {c : Code} (h1 : s.methodNamed? y = some m) (h2 : s.vm.method? m = some meth) (h3 : meth.code = some c) (h4 : c.code = bytes)
    (h5 : (c.maxLocals == mx && c.exceptionTable.isEmpty && decide (c.maxStack ≤ mostOperands) && decide (meth.sig.returnType = rt) && !meth.locks && decide (parseMethodDescriptor y.desc = some meth.sig)) = true) : (Jvm.Cond.code y bytes mx rt).before a s = true := by
  simp only [Bool.and_eq_true, beq_iff_eq, Bool.not_eq_true', decide_eq_true_eq] at h5
  obtain ⟨⟨⟨⟨⟨g1, g2⟩, g3⟩, g4⟩, g5⟩, g6⟩ := h5
  simp [Cond.before, Cond.holds, Cond.value, h1, h2, h3, h4, g1, g2, g3, g4, g5, g6]
def isCode : Jvm.Cond → Bool
  | .code _ _ _ _ => true
  | _ => false
theorem all_split {L : List Jvm.Cond} {P : Jvm.Cond → Bool} (h1 : L.all (fun c => isCode c || P c) = true) (h2 : ∀ c ∈ L.filter isCode, P c = true) : L.all P = true := by
  refine List.all_eq_true.mpr fun c hc => ?_
  have h := List.all_eq_true.mp h1 c hc
  rcases Bool.eq_false_or_eq_true (isCode c) with hi | hi
  · exact h2 c (List.mem_filter.mpr ⟨hc, hi⟩)
  · simpa [hi] using h
set_option maxRecDepth 65536 in
theorem w_c0 : (Jvm.Cond.code x code maxLocals ret).before args0 about1 = true := code_word (m := ⟨1, 1⟩) (meth := k1m1) (c := k1c1) (by decide +kernel) rfl rfl rfl (by decide +kernel)
set_option maxRecDepth 65536 in
theorem w_c1 : (Jvm.Cond.code ({ cls := "com/example/tieline/tieline/series/Amplitude", name := "scaled", desc := "([DD)[D" } : Jvm.MethodName) prog_22_method_3_code (5 : Nat) (Option.some (Jvm.ClassFile.FieldType.array Jvm.ClassFile.FieldType.double))).before args0 about1 = true := code_word (m := ⟨2, 1⟩) (meth := k2m1) (c := k2c1) (by decide +kernel) rfl rfl rfl (by decide +kernel)
def codes1 : List Jvm.Cond := [Jvm.Cond.code x code maxLocals ret, Jvm.Cond.code ({ cls := "com/example/tieline/tieline/series/Amplitude", name := "scaled", desc := "([DD)[D" } : Jvm.MethodName) prog_22_method_3_code (5 : Nat) (Option.some (Jvm.ClassFile.FieldType.array Jvm.ClassFile.FieldType.double))]
set_option maxRecDepth 65536 in
theorem codes_eq : words1.filter isCode = codes1 := rfl
theorem w_codes : ∀ c ∈ words1.filter isCode, c.before args0 about1 = true := by
  rw [codes_eq]
  intro c hc
  simp only [codes1, List.mem_cons, List.not_mem_nil, or_false] at hc
  rcases hc with rfl | rfl
  · exact w_c0
  · exact w_c1
set_option maxRecDepth 65536 in
theorem w_t1 : words1.all (fun c => isCode c || c.before args0 about1) = true := by decide +kernel
theorem w_tables : (allAtoms (Jvm.Cond.code x code maxLocals ret :: tables_1)).before args0 about1 = true := by
  rw [allAtoms_all]
  show words1.all (fun c => c.before args0 about1) = true
  refine all_split ?_ w_codes
  rw [w_t1]
set_option maxRecDepth 65536 in
theorem w_case : (Jvm.Cond.and given_1 narrow_1).before args0 about1 = true := by decide +kernel
theorem w_applies : (headSpec (Jvm.Cond.code x code maxLocals ret :: tables_1) room_1).applies x e0.platform about1 = true :=
  (Spec.applies_iff w_frames).mpr ⟨w_running, w_runnable, w_alone, w_named, w_hears, w_ripe, w_room, w_tables⟩
theorem atStart : AtStart classFile x code maxLocals ret World_1 tables_1 room_1 Calls_1 rest_1 Pre_1 launch0 p0 e0 about1 theMethod args0 below0 :=
  ⟨lists_1, trivial, launch0.admits_env _ _ _, launch0.least_env, fairChoices_fair.cas, fairChoices_fair.clock, w_frames, w_args, w_heap, w_applies, trivial, trivial, w_case⟩
end start1
theorem witness_1 : WitnessClaimed_1 := ⟨start1.p0, start1.e0, start1.about1, start1.theMethod, start1.args0, start1.below0, start1.atStart⟩
end Jvm.Pilot.@@N@@
