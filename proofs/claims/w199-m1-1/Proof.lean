import JvmDerived
import JvmDerived.Pilot.@@N@@Statement
import JvmDerived.Pilot.@@N@@Code
set_option linter.unusedVariables false
set_option linter.unusedSimpArgs false
namespace Jvm.Pilot.@@N@@
open Jvm Jvm.ClassFile Sem Op Lib Jvm.Free Jvm.Stand Jvm.LawKit Jvm.RoadKit Bundle Jvm.Pilot.@@N@@.Jvm.D
section Own
variable {p : Program} {l : Launch} {e : Env} {R : Room} {s : State} {m : MethodId} {args : Array Value} {below : List Frame} {meth : Method} {c : Code} {T : State} {locs : List Loc} {cells slots : Nat}
/-- the run from A ends, returns what Q says, and has made and written no more than told -/
def Dn (p : Program) (e : Env) (below : List Frame) (s : State) (Q : Option Value → Heap → List Loc → Prop) (rc rs : Nat) (A : State) : Prop :=
  ∃ s₂ o, Steps p.tables e below A s₂ ∧ s₂.status = .running ∧ Ended s₂ below o ∧ ∃ v L, o = .returned v ∧ Q v s₂.heap L ∧ FrameEnd s o s₂ L rc rs
theorem Dn.st {Q : Option Value → Heap → List Loc → Prop} {rc rs : Nat} {A B : State} (h : ∀ t, Steps p.tables e below B t → Steps p.tables e below A t) (k : Dn p e below s Q rc rs B) : Dn p e below s Q rc rs A := by
  obtain ⟨s2, o, h1, h2⟩ := k; exact ⟨s2, o, h _ h1, h2⟩
theorem Dn.tr {Q : Option Value → Heap → List Loc → Prop} {rc rs : Nat} {A B : State} (h : Steps p.tables e below A B) (k : Dn p e below s Q rc rs B) : Dn p e below s Q rc rs A := by
  obtain ⟨s2, o, h1, h2⟩ := k; exact ⟨s2, o, h.trans h1, h2⟩
theorem Dn.ret (X : Stand p l e R s m args below meth c T locs cells slots) (hlk : meth.locks = false) (hx : p.tables.exec = Jvm.exec) {pc : Nat} {Ls : Array Slot} {w : Value} {t : FieldType} {i : Instr} {rest : List Value} (hret : meth.sig.returnType = some t) (hn : narrow t w = w)
    (hi : (i = .ireturn ∧ (t = .int ∨ t = .boolean ∨ t = .byte ∨ t = .char ∨ t = .short) ∧ ∃ z, w = .int z) ∨ (i = .lreturn ∧ t = .long ∧ ∃ z, w = .long z) ∨ (i = .dreturn ∧ t = .double ∧ ∃ z, w = .double z) ∨ (i = .freturn ∧ t = .float ∧ ∃ z, w = .float z) ∨ (i = .areturn ∧ t.isReference = true ∧ w.isRef = true))
    (hd : decode c.code pc = .ok (i, 1)) {Q : Option Value → Heap → List Loc → Prop} {rc rs : Nat} (hq : Q (some w) T.heap locs) (hc : cells ≤ rc) (hs : slots ≤ rs) : Dn p e below s Q rc rs (T.setTop (mkF m pc Ls (w :: rest))) := by
  obtain ⟨fs, hr, hrun, hended, hW, hsame⟩ := X.leave (v := some w) (fun h => by rw [hret] at h; cases h) hlk
  exact ⟨_, _, retOut X hx hret hn hi hd hr, hrun, hended, _, _, rfl, hq, ⟨_, rfl⟩, hW, hsame.mono hc hs⟩
theorem Dn.ret0 (X : Stand p l e R s m args below meth c T locs cells slots) (hlk : meth.locks = false) (hx : p.tables.exec = Jvm.exec) {pc : Nat} {Ls : Array Slot} (hret : meth.sig.returnType = none)
    (hd : decode c.code pc = .ok (.return_, 1)) {Q : Option Value → Heap → List Loc → Prop} {rc rs : Nat} (hq : Q none T.heap locs) (hc : cells ≤ rc) (hs : slots ≤ rs) : Dn p e below s Q rc rs (T.setTop (mkF m pc Ls [])) := by
  obtain ⟨fs, hr, hrun, hended, hW, hsame⟩ := X.leave (v := none) (fun _ => rfl) hlk
  exact ⟨_, _, X.returnOut hx hret hd hr, hrun, hended, _, _, rfl, hq, ⟨_, rfl⟩, hW, hsame.mono hc hs⟩
theorem own_iincW {tb : Tables} [Ours tb] {target : State} {g : JFrame} (h : At T m c below) (hx : tb.exec = Jvm.exec) (hg : g.method = m) {k : Nat} {cst : Int} {x : Int32} {l' : Array Slot} (hd : decode c.code g.pc = .ok (.iinc k cst, 6)) (hl : g.locals[k]? = some (.val (.int x))) (hl' : storeLocals g.locals k (.int (x + Int32.ofInt cst)) = some l')
    (hr : Steps tb e below (T.setTop { g with pc := g.pc + 6, locals := l' }) target) : Steps tb e below (T.setTop g) target := by
  subst hg
  jvm_step h [h.top, hx, hd, hl, hl']
  exact hr
theorem own_dremS {tb : Tables} [Ours tb] {target : State} {g : JFrame} (h : At T m c below) (hx : tb.exec = Jvm.exec) (hg : g.method = m) {x y v : UInt64} {rest : List Value} (hd : decode c.code g.pc = .ok (.drem, 1)) (hs : g.stack = .double y :: .double x :: rest) (hn : Jvm.Free.Fl.NoNaN64 (FP.drem x y)) (hv : FP.drem x y = v)
    (hr : Steps tb e below (T.setTop { g with pc := g.pc + 1, stack := .double v :: rest }) target) : Steps tb e below (T.setTop g) target := by
  subst hg; subst hv
  obtain ⟨gm, gp, gl, gs, gk, ge, gr⟩ := g
  simp only at hs hd
  subst hs
  jvm_step h [h.top, hx, hd, Op.drem.at_number h.top hn]
  exact hr
end Own
section Dyad
open Jvm.FP Jvm.FP.Core Jvm.Free.Fl
/-- the datum with its exponent moved by k -/
def sft (k : Nat) : Datum → Datum
  | .nan => .nan
  | .inf s => .inf s
  | .fin s c q => .fin s c (q + (k : Int))
/-- x is the number i / 2^k -/
def DS (k : Nat) (i : Int) (x : UInt64) : Prop := Whole i (sft k (val64 x))
theorem sft_zero (d : Datum) : sft 0 d = d := by
  cases d with
  | nan => rfl
  | inf s => rfl
  | fin s c q => show Datum.fin s c (q + ((0 : Nat) : Int)) = _; rw [Int.natCast_zero, Int.add_zero]
theorem sft_sum (k : Nat) (x y : Datum) : exactSum (sft k x) (sft k y) = sft k (exactSum x y) := by
  cases x with
  | nan => rfl
  | inf s =>
    cases y with
    | nan => rfl
    | inf t => show (if s = t then Datum.inf s else .nan) = sft k (if s = t then Datum.inf s else .nan); split <;> rfl
    | fin t d r => rfl
  | fin s c q =>
    cases y with
    | nan => rfl
    | inf t => rfl
    | fin t d r =>
      have h : min (q + (k : Int)) (r + k) = min q r + k := by omega
      have h1 : q + (k : Int) - (min q r + k) = q - min q r := by omega
      have h2 : r + (k : Int) - (min q r + k) = r - min q r := by omega
      have hu : sumUnits s c (q + k) t d (r + k) (min (q + k) (r + k)) = sumUnits s c q t d r (min q r) := by
        show signed s (c * 2 ^ (q + (k : Int) - min (q + k) (r + k)).toNat) + signed t (d * 2 ^ (r + (k : Int) - min (q + k) (r + k)).toNat) = signed s (c * 2 ^ (q - min q r).toNat) + signed t (d * 2 ^ (r - min q r).toNat)
        rw [h, h1, h2]
      show Datum.fin (sumSign s t (sumUnits s c (q + k) t d (r + k) (min (q + k) (r + k)))) (sumUnits s c (q + k) t d (r + k) (min (q + k) (r + k))).natAbs (min (q + k) (r + k)) = Datum.fin (sumSign s t (sumUnits s c q t d r (min q r))) (sumUnits s c q t d r (min q r)).natAbs (min q r + k)
      rw [hu, h]
theorem sft_negate (k : Nat) (x : Datum) : negate (sft k x) = sft k (negate x) := by cases x <;> rfl
theorem sft_product (k m : Nat) (x y : Datum) : exactProduct (sft k x) (sft m y) = sft (k + m) (exactProduct x y) := by
  cases x with
  | nan => rfl
  | inf s =>
    cases y with
    | nan => rfl
    | inf t => rfl
    | fin t d r => show (if d = 0 then Datum.nan else .inf (s != t)) = sft (k + m) (if d = 0 then Datum.nan else .inf (s != t)); split <;> rfl
  | fin s c q =>
    cases y with
    | nan => rfl
    | inf t => show (if c = 0 then Datum.nan else .inf (s != t)) = sft (k + m) (if c = 0 then Datum.nan else .inf (s != t)); split <;> rfl
    | fin t d r =>
      show Datum.fin (s != t) (c * d) (q + k + (r + m)) = Datum.fin (s != t) (c * d) (q + r + ((k + m : Nat) : Int))
      congr 1; omega
theorem sft_order (k : Nat) (x y : Datum) : order (sft k x) (sft k y) = order x y := by
  cases x with
  | nan => rfl
  | inf s => cases y <;> rfl
  | fin s c q =>
    cases y with
    | nan => rfl
    | inf t => rfl
    | fin t d r =>
      have h : min (q + (k : Int)) (r + k) = min q r + k := by omega
      have h1 : q + (k : Int) - (min q r + k) = q - min q r := by omega
      have h2 : r + (k : Int) - (min q r + k) = r - min q r := by omega
      show some (compare (signed s (c * 2 ^ (q + (k : Int) - min (q + k) (r + k)).toNat)) (signed t (d * 2 ^ (r + (k : Int) - min (q + k) (r + k)).toNat))) = some (compare (signed s (c * 2 ^ (q - min q r).toNat)) (signed t (d * 2 ^ (r - min q r).toNat)))
      rw [h, h1, h2]
theorem b64_qmin : b64.qmin = -1074 := by decide +kernel
theorem b64_qmax : b64.qmax = 971 := by decide +kernel
theorem b64_tails : b64.tails = 4503599627370496 := by decide +kernel
theorem fits64 (s : Bool) (c : Nat) (q : Int) : Core.fits b64 (.fin s c q) ↔ c < 2 ^ 53 ∧ -1074 ≤ q ∧ q ≤ 971 ∧ (q = -1074 ∨ 4503599627370496 ≤ c) := by
  show (c < 2 ^ 53 ∧ b64.qmin ≤ q ∧ q ≤ b64.qmax ∧ (q = b64.qmin ∨ b64.tails ≤ c)) ↔ _
  rw [b64_qmin, b64_qmax, b64_tails]
/-- n / 2^k is a double, for n up to 2^53 and k up to 1022 -/
theorem natFitS (s : Bool) {n k : Nat} (hk : k ≤ 1022) (hn : n ≤ 2 ^ 53) :
    ∃ c q, Core.fits b64 (.fin s c q) ∧ n * 2 ^ (-(k : Int) - q).toNat = c * 1 * 2 ^ (q - -(k : Int)).toNat := by
  by_cases h0 : n = 0
  · subst h0
    exact ⟨0, b64.qmin, zero_fits good_b64 s, by simp⟩
  · obtain ⟨c, q, hf, hv⟩ := natFit good_b64 wide_b64 s (show n ≤ 2 ^ b64.p from hn)
    rw [fits64] at hf
    have hq : -52 ≤ q := by
      refine Int.not_lt.mp fun hlt => ?_
      have e1 : (q - 0).toNat = 0 := by omega
      have e2 : (0 - q).toNat = 53 + ((0 - q).toNat - 53) := by omega
      rw [e1, e2, Nat.pow_add] at hv
      have p := Nat.two_pow_pos ((0 - q).toNat - 53)
      have : 2 ^ 53 * 1 ≤ 2 ^ 53 * 2 ^ ((0 - q).toNat - 53) := Nat.mul_le_mul_left _ p
      have : 1 * (2 ^ 53 * 2 ^ ((0 - q).toNat - 53)) ≤ n * (2 ^ 53 * 2 ^ ((0 - q).toNat - 53)) := Nat.mul_le_mul_right _ (by omega)
      omega
    refine ⟨c, q - k, (fits64 _ _ _).mpr ⟨hf.1, by omega, by omega, Or.inr (hf.2.2.2.resolve_left (by omega))⟩, ?_⟩
    rw [show -(k : Int) - (q - k) = 0 - q by omega, show q - k - -(k : Int) = q - 0 by omega]
    exact hv
theorem whole_signed {i : Int} {s : Bool} {c : Nat} {q : Int} (h : Whole i (.fin s c q)) : signed s i.natAbs = i := by
  by_cases hi : i = 0
  · rw [hi]; exact signed_zero s
  · rw [whole_sign h hi]; unfold signed
    by_cases h : i < 0 <;> simp [h] <;> omega
theorem ds_round {k : Nat} {i : Int} {d : Datum} (hk : k ≤ 1022) (hi : i.natAbs ≤ 2 ^ 53) (h : Whole i (sft k d)) : Whole i (sft k (Core.round b64 d)) := by
  cases d with
  | nan => exact h.elim
  | inf s => exact h.elim
  | fin s c q =>
    have hs := whole_signed h
    have h1 := whole_natAbs h
    obtain ⟨c', q', hfit, hv⟩ := natFitS s hk hi
    have e1 : Core.round b64 (.fin s c q) = roundRatio b64 s i.natAbs 1 (-(k : Int)) := by
      refine roundRatio_congr (by decide) (by decide) ?_
      rw [show q - -(k : Int) = q + k by omega, show -(k : Int) - q = -(q + k) by omega]
      simpa using h1
    rw [e1, roundRatio_exact good_b64 (by decide) hfit hv]
    show signed s (c' * 2 ^ (q' + (k : Int)).toNat) = i * _
    rw [show -(k : Int) - q' = -(q' + k) by omega, show q' - -(k : Int) = q' + k by omega, Nat.mul_one] at hv
    rw [← hv, signed_mul, hs]
theorem DS.nn {k : Nat} {i : Int} {x : UInt64} (h : DS k i x) : NoNaN64 x := val64_no.mpr fun q => by
  unfold DS at h; rw [q] at h; exact h.elim
theorem DS.fin {k : Nat} {i : Int} {x : UInt64} (h : DS k i x) : ∃ s c q, val64 x = .fin s c q ∧ Whole i (.fin s c (q + (k : Int))) := by
  unfold DS at h
  cases e : val64 x with
  | nan => rw [e] at h; exact h.elim
  | inf s => rw [e] at h; exact h.elim
  | fin s c q => rw [e] at h; exact ⟨s, c, q, rfl, h⟩
theorem DS.lit {k : Nat} {i : Int} {x : UInt64} {s : Bool} {c : Nat} {q : Int} (hv : val64 x = .fin s c q) (he : signed s (c * 2 ^ (q + (k : Int)).toNat) = i * ((2 ^ (-(q + (k : Int))).toNat : Nat) : Int)) : DS k i x := by
  unfold DS; rw [hv]; exact he
theorem DS.i2d (v : Int32) : DS 0 v.toInt (FP.i2d v) := by unfold DS; rw [sft_zero]; exact i2d_int v
theorem DS.l2d {v : Int64} (h : v.toInt.natAbs ≤ 2 ^ 53) : DS 0 v.toInt (FP.l2d v) := by unfold DS; rw [sft_zero]; exact l2d_int h
theorem DS.dint {i : Int} {x : UInt64} (h : DS 0 i x) : DInt i x := by unfold DS at h; rw [sft_zero] at h; exact h
theorem DS.zero (k : Nat) : DS k 0 0 := DS.lit (s := false) (c := 0) (q := -1074) (by decide +kernel) (by rw [Nat.zero_mul, Int.zero_mul]; rfl)
theorem DS.add {k : Nat} {i j : Int} {x y : UInt64} (hx : DS k i x) (hy : DS k j y) (hb : (i + j).natAbs ≤ 2 ^ 53) (hk : k ≤ 1022) : DS k (i + j) (FP.dadd x y) := by
  show Whole _ (sft k (val64 (Core.dadd x y)))
  rw [val64_dadd]; refine ds_round hk hb ?_; rw [← sft_sum]; exact whole_sum hx hy
theorem DS.sub {k : Nat} {i j : Int} {x y : UInt64} (hx : DS k i x) (hy : DS k j y) (hb : (i - j).natAbs ≤ 2 ^ 53) (hk : k ≤ 1022) : DS k (i - j) (FP.dsub x y) := by
  show Whole _ (sft k (val64 (Core.dsub x y)))
  rw [val64_dsub]; refine ds_round hk hb ?_; rw [← sft_sum, ← sft_negate, Int.sub_eq_add_neg]; exact whole_sum hx (whole_negate hy)
theorem DS.mul {k m : Nat} {i j : Int} {x y : UInt64} (hx : DS k i x) (hy : DS m j y) (hb : (i * j).natAbs ≤ 2 ^ 53) (hk : k + m ≤ 1022) : DS (k + m) (i * j) (FP.dmul x y) := by
  show Whole _ (sft (k + m) (val64 (Core.dmul x y)))
  rw [val64_dmul]; refine ds_round hk hb ?_; rw [← sft_product]; exact whole_product hx hy
theorem DS.cmp {k : Nat} {i j : Int} {x y : UInt64} (hx : DS k i x) (hy : DS k j y) : FP.dcmp x y = some (compare i j) := by
  show order (val64 x) (val64 y) = _
  rw [← sft_order k]; exact order_whole hx hy
/-- what dcmp pushes -/
def c3 (i j : Int) : Int32 := if i < j then -1 else if i = j then 0 else 1
theorem c3_lt (i j : Int) : c3 i j < 0 ↔ i < j := by unfold c3; split <;> (try split) <;> simp_all <;> first | decide | omega
theorem c3_gt (i j : Int) : 0 < c3 i j ↔ j < i := by unfold c3; split <;> (try split) <;> simp_all <;> first | decide | omega
theorem c3_eq (i j : Int) : c3 i j = 0 ↔ i = j := by unfold c3; split <;> (try split) <;> simp_all <;> first | decide | omega
theorem cmpV_int (i j : Int) (o : CmpOp) : cmpValue (some (compare i j)) o = c3 i j := by
  unfold c3
  by_cases h1 : i < j
  · have : compare i j = .lt := by simp [compare, compareOfLessAndEq, h1]
    rw [this, if_pos h1]; cases o <;> rfl
  · by_cases h2 : i = j
    · have : compare i j = .eq := by simp [compare, compareOfLessAndEq, h2]
      rw [this, if_neg h1, if_pos h2]; cases o <;> rfl
    · have : compare i j = .gt := by simp [compare, compareOfLessAndEq, h1, h2]
      rw [this, if_neg h1, if_neg h2]; cases o <;> rfl
theorem DS.cmpV {k : Nat} {i j : Int} {x y : UInt64} (hx : DS k i x) (hy : DS k j y) (o : CmpOp) : cmpValue (FP.dcmp x y) o = c3 i j := by rw [hx.cmp hy]; exact cmpV_int i j o
theorem whole_iff {i : Int} {s : Bool} {c : Nat} {q : Int} {N : Nat} (h : 0 ≤ q + N) : Whole i (.fin s c q) ↔ signed s c * ((2 ^ (q + N).toNat : Nat) : Int) = i * ((2 ^ N : Nat) : Int) := by
  show signed s (c * 2 ^ q.toNat) = i * ((2 ^ (-q).toNat : Nat) : Int) ↔ _
  rw [signed_mul]
  have e : q.toNat + N = (q + N).toNat + (-q).toNat := by omega
  have p1 : ((2 ^ N : Nat) : Int) ≠ 0 := by have := Nat.two_pow_pos N; omega
  have p2 : ((2 ^ (-q).toNat : Nat) : Int) ≠ 0 := by have := Nat.two_pow_pos (-q).toNat; omega
  have e1 : signed s c * ((2 ^ q.toNat : Nat) : Int) * ((2 ^ N : Nat) : Int) = signed s c * ((2 ^ (q + N).toNat : Nat) : Int) * ((2 ^ (-q).toNat : Nat) : Int) := by
    rw [Int.mul_assoc, Int.mul_assoc, ← Int.natCast_mul, ← Int.natCast_mul, ← Nat.pow_add, ← Nat.pow_add, e]
  constructor
  · intro hh
    refine Int.eq_of_mul_eq_mul_right p2 ?_
    rw [← e1, hh]; ac_rfl
  · intro hh
    refine Int.eq_of_mul_eq_mul_right p1 ?_
    rw [e1, hh]; ac_rfl
theorem DS.up {k : Nat} {i : Int} {x : UInt64} (h : DS k i x) (m : Nat) : DS (k + m) (i * ((2 ^ m : Nat) : Int)) x := by
  obtain ⟨s, c, q, e, hw⟩ := h.fin
  unfold DS; rw [e]
  show Whole _ (.fin s c (q + ((k + m : Nat) : Int)))
  rw [whole_iff (N := (-q).toNat) (by omega)]
  rw [whole_iff (N := (-q).toNat + m) (by omega)] at hw
  rw [show q + (k : Int) + (((-q).toNat + m : Nat) : Int) = q + ((k + m : Nat) : Int) + ((-q).toNat : Nat) by omega] at hw
  rw [hw, Nat.pow_add, Int.natCast_mul]; ac_rfl
theorem DS.cast {k k' : Nat} {i i' : Int} {x : UInt64} (h : DS k i x) (e1 : k = k') (e2 : i = i') : DS k' i' x := e1 ▸ e2 ▸ h
/-- the quotient, as the rounding of a ratio of whole numbers -/
theorem ds_quot {k m : Nat} {i j : Int} {x y : UInt64} (hx : DS k i x) (hy : DS m j y) (hj : j ≠ 0) :
    ∃ s t, signed s i.natAbs = i ∧ signed t j.natAbs = j ∧ val64 (FP.ddiv x y) = roundRatio b64 (s != t) i.natAbs j.natAbs ((m : Int) - k) := by
  obtain ⟨s, c, q, e, hw⟩ := hx.fin
  obtain ⟨t, d, r, e', hw'⟩ := hy.fin
  have hd : d ≠ 0 := fun z => hj ((whole_zero hw').mp z)
  have h1 := whole_natAbs hw
  have h2 := whole_natAbs hw'
  refine ⟨s, t, whole_signed hw, whole_signed hw', ?_⟩
  show val64 (Core.ddiv x y) = _
  rw [val64_ddiv, e, e']
  show (if d = 0 then _ else roundRatio b64 (s != t) c d (q - r)) = _
  rw [if_neg hd]
  have hj' : 0 < j.natAbs := by omega
  rw [roundRatio_congr (A' := i.natAbs) (B' := d) (e' := -(k : Int) - r) (by omega) (by omega) (by
    rw [show q - r - (-(k : Int) - r) = q + k by omega, show -(k : Int) - r - (q - r) = -(q + k) by omega, Nat.mul_right_comm, h1]; ac_rfl)]
  refine roundRatio_congr (by omega) hj' ?_
  rw [show -(k : Int) - r - ((m : Int) - k) = -(r + m) by omega, show (m : Int) - k - (-(k : Int) - r) = r + m by omega, Nat.mul_assoc, ← h2]; ac_rfl
theorem DS.div {k m n : Nat} {i j Q : Int} {x y : UInt64} (hx : DS k i x) (hy : DS m j y) (hj : j ≠ 0) (hQ : i * ((2 ^ (m + n) : Nat) : Int) = Q * j * ((2 ^ k : Nat) : Int)) (hb : Q.natAbs ≤ 2 ^ 53) (hn : n ≤ 1022) : DS n Q (FP.ddiv x y) := by
  obtain ⟨s, t, hs, ht, hv⟩ := ds_quot hx hy hj
  obtain ⟨c', q', hfit, hf⟩ := natFitS (s != t) hn hb
  have hj' : 0 < j.natAbs := by omega
  have hQn : i.natAbs * 2 ^ (m + n) = Q.natAbs * j.natAbs * 2 ^ k := by
    have := congrArg Int.natAbs hQ
    rwa [Int.natAbs_mul, Int.natAbs_mul, Int.natAbs_mul, Int.natAbs_natCast, Int.natAbs_natCast] at this
  have e1 : roundRatio b64 (s != t) i.natAbs j.natAbs ((m : Int) - k) = roundRatio b64 (s != t) Q.natAbs 1 (-(n : Int)) := by
    refine roundRatio_congr hj' (by decide) ?_
    rw [Nat.mul_one]
    have ea : m + n = ((m : Int) - k - -(n : Int)).toNat + min (m + n) k := by omega
    have eb : k = (-(n : Int) - ((m : Int) - k)).toNat + min (m + n) k := by omega
    generalize ((m : Int) - k - -(n : Int)).toNat = u at ea ⊢
    generalize (-(n : Int) - ((m : Int) - k)).toNat = w at eb ⊢
    have hQ2 : i.natAbs * 2 ^ (u + min (m + n) k) = Q.natAbs * j.natAbs * 2 ^ (w + min (m + n) k) := by rw [← ea, ← eb]; exact hQn
    rw [Nat.pow_add, Nat.pow_add, ← Nat.mul_assoc, ← Nat.mul_assoc] at hQ2
    exact Nat.eq_of_mul_eq_mul_right (Nat.two_pow_pos _) hQ2
  rw [e1, roundRatio_exact good_b64 (by decide) hfit hf] at hv
  unfold DS; rw [hv]
  show signed (s != t) (c' * 2 ^ (q' + (n : Int)).toNat) = Q * _
  rw [show -(n : Int) - q' = -(q' + n) by omega, show q' - -(n : Int) = q' + n by omega, Nat.mul_one] at hf
  rw [← hf, signed_mul]
  congr 1
  have hp : (0 : Int) < ((2 ^ (m + n) : Nat) : Int) := by have := Nat.two_pow_pos (m + n); omega
  have hp2 : (0 : Int) < ((2 ^ k : Nat) : Int) := by have := Nat.two_pow_pos k; omega
  generalize ((2 ^ (m + n) : Nat) : Int) = P1 at hQ hp
  generalize ((2 ^ k : Nat) : Int) = P2 at hQ hp2
  -- the sign of the quotient
  have key : signed (s != t) (Q.natAbs * (j.natAbs * j.natAbs)) = Q * (j.natAbs * j.natAbs : Nat) := by
    have e2 : signed (s != t) (i.natAbs * j.natAbs) = i * j := by rw [signed_xor, hs, ht]
    have e3 : i.natAbs * P1.natAbs = Q.natAbs * j.natAbs * P2.natAbs := by
      have := congrArg Int.natAbs hQ
      rwa [Int.natAbs_mul, Int.natAbs_mul, Int.natAbs_mul] at this
    have e4 : signed (s != t) (Q.natAbs * (j.natAbs * j.natAbs)) * P2 = Q * (j.natAbs * j.natAbs : Nat) * P2 := by
      have p2 : P2 = (P2.natAbs : Int) := by omega
      have p1 : P1 = (P1.natAbs : Int) := by omega
      calc signed (s != t) (Q.natAbs * (j.natAbs * j.natAbs)) * P2
          = signed (s != t) (Q.natAbs * (j.natAbs * j.natAbs) * P2.natAbs) := by rw [signed_mul _ (Q.natAbs * (j.natAbs * j.natAbs)), ← p2]
        _ = signed (s != t) (i.natAbs * j.natAbs * P1.natAbs) := by
            congr 1
            calc Q.natAbs * (j.natAbs * j.natAbs) * P2.natAbs = (Q.natAbs * j.natAbs * P2.natAbs) * j.natAbs := by ac_rfl
              _ = i.natAbs * j.natAbs * P1.natAbs := by rw [← e3]; ac_rfl
        _ = i * j * P1 := by rw [signed_mul, e2, ← p1]
        _ = (i * P1) * j := by ac_rfl
        _ = Q * (j * j) * P2 := by rw [hQ]; ac_rfl
        _ = Q * (j.natAbs * j.natAbs : Nat) * P2 := by rw [Int.natCast_mul, Int.natAbs_mul_self' j]
    exact Int.eq_of_mul_eq_mul_right (by omega) e4
  rw [signed_mul] at key
  exact Int.eq_of_mul_eq_mul_right (by have : 0 < j.natAbs * j.natAbs := Nat.mul_pos hj' hj'; omega) key
/-- by a power of two -/
theorem DS.divp {k t : Nat} {i : Int} {x y : UInt64} (hx : DS k i x) (hy : DS 0 ((2 ^ t : Nat) : Int) y) (hb : i.natAbs ≤ 2 ^ 53) (hn : k + t ≤ 1022) : DS (k + t) i (FP.ddiv x y) :=
  DS.div hx hy (by have := Nat.two_pow_pos t; omega) (by rw [Nat.zero_add, Nat.pow_add, Int.natCast_mul]; ac_rfl) hb hn
theorem sft_rem (k : Nat) (x y : Datum) : exactRemainder (sft k x) (sft k y) = sft k (exactRemainder x y) := by
  cases x with
  | nan => rfl
  | inf s => rfl
  | fin s c q =>
    cases y with
    | nan => rfl
    | inf t => rfl
    | fin t d r =>
      have h : min (q + (k : Int)) (r + k) = min q r + k := by omega
      have h1 : q + (k : Int) - (min q r + k) = q - min q r := by omega
      have h2 : r + (k : Int) - (min q r + k) = r - min q r := by omega
      show (if d = 0 then Datum.nan else .fin s (c * 2 ^ (q + (k : Int) - min (q + k) (r + k)).toNat % (d * 2 ^ (r + (k : Int) - min (q + k) (r + k)).toNat)) (min (q + k) (r + k))) = sft k (if d = 0 then Datum.nan else .fin s (c * 2 ^ (q - min q r).toNat % (d * 2 ^ (r - min q r).toNat)) (min q r))
      rw [h, h1, h2]; split <;> rfl
theorem signed_tmod {s : Bool} {i : Int} (hs : signed s i.natAbs = i) (j : Int) : signed s (i.natAbs % j.natAbs) = i.tmod j := by
  cases i with
  | ofNat a =>
    have e : Int.tmod (Int.ofNat a) j = ((a % j.natAbs : Nat) : Int) := by cases j <;> rfl
    rw [e]; show signed s (a % j.natAbs) = _
    have hs' : signed s a = (a : Int) := hs
    cases s with
    | false => rfl
    | true =>
      have h0 : a = 0 := by
        have : -(a : Int) = (a : Int) := hs'
        omega
      subst h0; rw [Nat.zero_mod]; rfl
  | negSucc a =>
    have e : Int.tmod (Int.negSucc a) j = -(((a + 1) % j.natAbs : Nat) : Int) := by cases j <;> rfl
    rw [e]; show signed s ((a + 1) % j.natAbs) = _
    cases s with
    | true => rfl
    | false =>
      have : ((a + 1 : Nat) : Int) = Int.negSucc a := hs
      omega
theorem whole_rem {i j : Int} {x y : Datum} (hx : Whole i x) (hy : Whole j y) (hj : j ≠ 0) : Whole (i.tmod j) (exactRemainder x y) := by
  cases x with
  | nan => exact hx.elim
  | inf => exact hx.elim
  | fin s c q =>
  cases y with
  | nan => exact hy.elim
  | inf => exact hy.elim
  | fin t d r =>
    have hd : d ≠ 0 := fun z => hj ((whole_zero hy).mp z)
    have h1 := congrArg Int.natAbs (whole_units hx (e := min q r) (by omega))
    have h2 := congrArg Int.natAbs (whole_units hy (e := min q r) (by omega))
    rw [Int.natAbs_mul, Int.natAbs_mul, Int.natAbs_natCast, Int.natAbs_natCast, natAbs_signed] at h1 h2
    show Whole _ (if d = 0 then _ else Datum.fin s (inUnits c q (min q r) % inUnits d r (min q r)) (min q r))
    rw [if_neg hd]
    show signed s (inUnits c q (min q r) % inUnits d r (min q r) * 2 ^ (min q r).toNat) = i.tmod j * ((2 ^ (-(min q r)).toNat : Nat) : Int)
    rw [← Nat.mul_mod_mul_right, h1, h2, Nat.mul_mod_mul_right, signed_mul, signed_tmod (whole_signed hx)]
theorem DS.rem {k : Nat} {i j : Int} {x y : UInt64} (hx : DS k i x) (hy : DS k j y) (hj : j ≠ 0) (hb : (i.tmod j).natAbs ≤ 2 ^ 53) (hk : k ≤ 1022) : DS k (i.tmod j) (FP.drem x y) := by
  show Whole _ (sft k (val64 (Core.drem x y)))
  rw [val64_drem]; refine ds_round hk hb ?_; rw [← sft_rem]; exact whole_rem hx hy hj
end Dyad
def own_fold (i : Int) : Int := if i.tmod 384 < 0 then (if 192 < i.tmod 384 + 384 then 384 - (i.tmod 384 + 384) else i.tmod 384 + 384) else (if 192 < i.tmod 384 then 384 - i.tmod 384 else i.tmod 384)
theorem own_tm (i : Int) : (0 ≤ i → i.tmod 384 = i % 384) ∧ (i < 0 → i.tmod 384 = -((-i) % 384)) := ⟨fun h => Int.tmod_eq_emod_of_nonneg h, fun h => by
  have := Int.neg_tmod (a := -i) (b := 384)
  rw [Int.neg_neg] at this; rw [this, Int.tmod_eq_emod_of_nonneg (by omega)]⟩

theorem d1_0 : decode prog_26_method_8_code 0 = .ok (.ldc2_w 97, 3) := by decide +kernel
theorem d1_3 : decode prog_26_method_8_code 3 = .ok (.dstore_n 2, 1) := by decide +kernel
theorem d1_4 : decode prog_26_method_8_code 4 = .ok (.dload_n 0, 1) := by decide +kernel
theorem d1_5 : decode prog_26_method_8_code 5 = .ok (.dload_n 2, 1) := by decide +kernel
theorem d1_6 : decode prog_26_method_8_code 6 = .ok (.drem, 1) := by decide +kernel
theorem d1_7 : decode prog_26_method_8_code 7 = .ok (.dstore 4, 2) := by decide +kernel
theorem d1_9 : decode prog_26_method_8_code 9 = .ok (.dload 4, 2) := by decide +kernel
theorem d1_11 : decode prog_26_method_8_code 11 = .ok (.dconst 0, 1) := by decide +kernel
theorem d1_12 : decode prog_26_method_8_code 12 = .ok (.dcmp .g, 1) := by decide +kernel
theorem d1_13 : decode prog_26_method_8_code 13 = .ok (.ifCond .ge 9, 3) := by decide +kernel
theorem d1_16 : decode prog_26_method_8_code 16 = .ok (.dload 4, 2) := by decide +kernel
theorem d1_18 : decode prog_26_method_8_code 18 = .ok (.dload_n 2, 1) := by decide +kernel
theorem d1_19 : decode prog_26_method_8_code 19 = .ok (.dadd, 1) := by decide +kernel
theorem d1_20 : decode prog_26_method_8_code 20 = .ok (.dstore 4, 2) := by decide +kernel
theorem d1_22 : decode prog_26_method_8_code 22 = .ok (.dload 4, 2) := by decide +kernel
theorem d1_24 : decode prog_26_method_8_code 24 = .ok (.ldc2_w 99, 3) := by decide +kernel
theorem d1_27 : decode prog_26_method_8_code 27 = .ok (.dcmp .l, 1) := by decide +kernel
theorem d1_28 : decode prog_26_method_8_code 28 = .ok (.ifCond .le 10, 3) := by decide +kernel
theorem d1_31 : decode prog_26_method_8_code 31 = .ok (.dload_n 2, 1) := by decide +kernel
theorem d1_32 : decode prog_26_method_8_code 32 = .ok (.dload 4, 2) := by decide +kernel
theorem d1_34 : decode prog_26_method_8_code 34 = .ok (.dsub, 1) := by decide +kernel
theorem d1_35 : decode prog_26_method_8_code 35 = .ok (.goto 5, 3) := by decide +kernel
theorem d1_38 : decode prog_26_method_8_code 38 = .ok (.dload 4, 2) := by decide +kernel
theorem d1_40 : decode prog_26_method_8_code 40 = .ok (.dreturn, 1) := by decide +kernel
theorem dc_4631952216750555136 : DS 0 48 (4631952216750555136 : UInt64) := DS.lit (s := false) (c := 6755399441055744) (q := -47) (by decide +kernel) (by decide +kernel)
theorem dc_0 : DS 0 0 (0 : UInt64) := DS.lit (s := false) (c := 0) (q := -1074) (by decide +kernel) (by decide +kernel)
theorem dc_4627448617123184640 : DS 0 24 (4627448617123184640 : UInt64) := DS.lit (s := false) (c := 6755399441055744) (q := -48) (by decide +kernel) (by decide +kernel)
theorem pn0 : plainName "org/rupturecast/etas/EtasModel" = true := by first | (simp [plainName, overriddenIn]; done) | decide +kernel
theorem ef1_rm1 (m : MethodId) (x0 : UInt64) : entryFrame m #[(.double x0)] 6 = mkF m 0 #[.val (.double x0), .second, .unset, .unset, .unset, .unset] [] := by first | (simp [entryFrame, mkF, argsToLocals, Value.category]; done) | rfl
def Q1 (Z : State) (xx : UInt64) (i : Int) (h0 : Heap) (n0 : Nat) (v : Option Value) (h : Heap) (L : List Loc) : Prop := ∃ z, v = some (.double z) ∧ DS 3 (own_fold i) z ∧ Fr n0 L ∧ h = h0
set_option maxRecDepth 65536 in
set_option maxHeartbeats 40000000 in
theorem rm1 (l : Launch) (Z : State) (a0 : Array Value) (hw : ∀ d ∈ tables_1, d.before a0 Z = true) (ws : List Jvm.Cond) (xx : UInt64) (i : Int) (h0 : Heap) (n0 : Nat) (Z0 : n0 ≤ h0.size) (dx : DS 3 i xx) :
    MetFree l (⟨"org/rupturecast/etas/EtasModel", "foldedDepthKm", "(D)D"⟩ : MethodName) (head1 (Jvm.Cond.code (⟨"org/rupturecast/etas/EtasModel", "foldedDepthKm", "(D)D"⟩ : MethodName) prog_26_method_8_code 6 (some .double) :: ws) ({ frames := 0, cells := 0, slots := 0, locals := 0 } : Room)) (fun aa UU => aa = #[(.double xx)] ∧ Z.Warmed39 UU.vm ∧ UU.heap = h0) (fun _ _ _ _ _ => True) (fun _ UU oo UU' => ∃ vv LL, oo = .returned vv ∧ Q1 Z xx i h0 n0 vv UU'.heap LL ∧ FrameEnd UU oo UU' LL ({ frames := 0, cells := 0, slots := 0, locals := 0 } : Room).cells ({ frames := 0, cells := 0, slots := 0, locals := 0 } : Room).slots) := by
  refine MetFree.of_bodySF (plainFor_of_name pn0) hisR ?_
  intro p e s m args below meth c s₁ Bd hml0 hP hK
  obtain ⟨rfl, hZ, hh⟩ := hP
  have hx := Bd.exec
  have hby := Bd.bytes
  have hlk : meth.locks = false := BodyLoose.notSynchronized Bd
  have hret := Bd.returns
  have hml : c.maxLocals = 6 := hml0
  have hown : s.vm.findClass "org/rupturecast/etas/EtasModel" = some m.cls := findClass_of_methodNamed Bd.named
  have hnm := (name_of_methodNamed Bd.named Bd.method).1
  have X0 : Stand p l e ({ frames := 0, cells := 0, slots := 0, locals := 0 } : Room) s m #[(.double xx)] below meth c s₁ [] 0 0 := Stand.of_body Bd
  have e0 : s₁.heap = h0 := by rw [← hh, Bd.state]; rfl
  have N0 := Fr.nil n0
  show Dn p e below s (Q1 Z xx i h0 n0) ({ frames := 0, cells := 0, slots := 0, locals := 0 } : Room).cells ({ frames := 0, cells := 0, slots := 0, locals := 0 } : Room).slots (s₁.setTop (entryFrame m #[(.double xx)] 6))
  refine Dn.st (fun _ kk => castTop (ef1_rm1 m xx) kk) ?_
  have tm := own_tm i
  show Dn p e below s _ _ _ (s₁.setTop (mkF m 0 #[.val (.double xx), .second, .unset, .unset, .unset, .unset] []))
  refine Dn.st (fun _ kk => X0.ldc2DoubleC hx hown (mvT hZ (hw _ (List.mem_of_getElem? (i := 5) rfl))) (g := (mkF m 0 #[.val (.double xx), .second, .unset, .unset, .unset, .unset] [])) rfl (hb hby d1_0) _ (XS.dstoreN X0.here hx rfl (hb hby d1_3) rfl (l' := #[.val (.double xx), .second, .val (.double (4631952216750555136 : UInt64)), .second, .unset, .unset]) rfl (XS.dloadN X0.here hx rfl (hb hby d1_4) rfl  (XS.dloadN X0.here hx rfl (hb hby d1_5) rfl  (kk))))) ?_
  show Dn p e below s _ _ _ (s₁.setTop (mkF m 6 #[.val (.double xx), .second, .val (.double (4631952216750555136 : UInt64)), .second, .unset, .unset] [(.double (4631952216750555136 : UInt64)), (.double xx)]))
  have d6 : DS 3 (Int.tmod i 384) (FP.drem xx (4631952216750555136 : UInt64)) := DS.rem dx (DS.cast (k' := 3) (i' := 384) ((dc_4631952216750555136).up 3) rfl (by decide)) (by decide) (by omega) (by decide)
  refine Dn.st (fun _ kk => own_dremS X0.here hx rfl (hb hby d1_6) rfl d6.nn rfl (kk)) ?_
  show Dn p e below s _ _ _ (s₁.setTop (mkF m 7 #[.val (.double xx), .second, .val (.double (4631952216750555136 : UInt64)), .second, .unset, .unset] [(.double (FP.drem xx (4631952216750555136 : UInt64)))]))
  generalize hv6 : ((FP.drem xx (4631952216750555136 : UInt64)) : UInt64) = v6 at d6 ⊢
  generalize hi6 : ((Int.tmod i 384) : Int) = i6 at d6
  show Dn p e below s _ _ _ (s₁.setTop (mkF m 7 #[.val (.double xx), .second, .val (.double (4631952216750555136 : UInt64)), .second, .unset, .unset] [(.double v6)]))
  refine Dn.st (fun _ kk => XS.dstore X0.here hx rfl (hb hby d1_7) rfl (l' := #[.val (.double xx), .second, .val (.double (4631952216750555136 : UInt64)), .second, .val (.double v6), .second]) rfl (XS.dload X0.here hx rfl (hb hby d1_9) rfl  (XS.dconst0 X0.here hx rfl (hb hby d1_11) rfl (XS.dcmpS X0.here hx rfl (hb hby d1_12) rfl (DS.cmpV d6 (DS.cast (k' := 3) (i' := 0) ((dc_0).up 3) rfl (by decide)) _) (kk))))) ?_
  show Dn p e below s _ _ _ (s₁.setTop (mkF m 13 #[.val (.double xx), .second, .val (.double (4631952216750555136 : UInt64)), .second, .val (.double v6), .second] [(.int (c3 i6 0))]))
  by_cases hc13 : (c3 i6 0) < (0 : Int32)
  · have hi13 := (c3_lt _ _).mp hc13
    refine Dn.st (fun _ kk => XS.ifNo X0.here hx rfl (hb hby d1_13) rfl ((if0 _ _).trans (tlt hc13).2.1) (XS.dload X0.here hx rfl (hb hby d1_16) rfl  (XS.dloadN X0.here hx rfl (hb hby d1_18) rfl  (kk)))) ?_
    show Dn p e below s _ _ _ (s₁.setTop (mkF m 19 #[.val (.double xx), .second, .val (.double (4631952216750555136 : UInt64)), .second, .val (.double v6), .second] [(.double (4631952216750555136 : UInt64)), (.double v6)]))
    have d19 : DS 3 (i6 + 384) (FP.dadd v6 (4631952216750555136 : UInt64)) := DS.add d6 (DS.cast (k' := 3) (i' := 384) ((dc_4631952216750555136).up 3) rfl (by decide)) (by omega) (by decide)
    refine Dn.st (fun _ kk => XS.daddS X0.here hx rfl (hb hby d1_19) rfl d19.nn rfl (kk)) ?_
    show Dn p e below s _ _ _ (s₁.setTop (mkF m 20 #[.val (.double xx), .second, .val (.double (4631952216750555136 : UInt64)), .second, .val (.double v6), .second] [(.double (FP.dadd v6 (4631952216750555136 : UInt64)))]))
    generalize hv19 : ((FP.dadd v6 (4631952216750555136 : UInt64)) : UInt64) = v19 at d19 ⊢
    generalize hi19 : ((i6 + 384) : Int) = i19 at d19
    show Dn p e below s _ _ _ (s₁.setTop (mkF m 20 #[.val (.double xx), .second, .val (.double (4631952216750555136 : UInt64)), .second, .val (.double v6), .second] [(.double v19)]))
    refine Dn.st (fun _ kk => XS.dstore X0.here hx rfl (hb hby d1_20) rfl (l' := #[.val (.double xx), .second, .val (.double (4631952216750555136 : UInt64)), .second, .val (.double v19), .second]) rfl (XS.dload X0.here hx rfl (hb hby d1_22) rfl  (X0.ldc2DoubleC hx hown (mvT hZ (hw _ (List.mem_of_getElem? (i := 6) rfl))) (g := (mkF m 24 #[.val (.double xx), .second, .val (.double (4631952216750555136 : UInt64)), .second, .val (.double v19), .second] [(.double v19)])) rfl (hb hby d1_24) _ (XS.dcmpS X0.here hx rfl (hb hby d1_27) rfl (DS.cmpV d19 (DS.cast (k' := 3) (i' := 192) ((dc_4627448617123184640).up 3) rfl (by decide)) _) (kk))))) ?_
    show Dn p e below s _ _ _ (s₁.setTop (mkF m 28 #[.val (.double xx), .second, .val (.double (4631952216750555136 : UInt64)), .second, .val (.double v19), .second] [(.int (c3 i19 192))]))
    by_cases hc28 : (0 : Int32) < (c3 i19 192)
    · have hi28 := (c3_gt _ _).mp hc28
      refine Dn.st (fun _ kk => XS.ifNo X0.here hx rfl (hb hby d1_28) rfl ((if0 _ _).trans (tlt hc28).2.2.2) (XS.dloadN X0.here hx rfl (hb hby d1_31) rfl  (XS.dload X0.here hx rfl (hb hby d1_32) rfl  (kk)))) ?_
      show Dn p e below s _ _ _ (s₁.setTop (mkF m 34 #[.val (.double xx), .second, .val (.double (4631952216750555136 : UInt64)), .second, .val (.double v19), .second] [(.double v19), (.double (4631952216750555136 : UInt64))]))
      have d34 : DS 3 (384 - i19) (FP.dsub (4631952216750555136 : UInt64) v19) := DS.sub (DS.cast (k' := 3) (i' := 384) ((dc_4631952216750555136).up 3) rfl (by decide)) d19 (by omega) (by decide)
      refine Dn.st (fun _ kk => XS.dsubS X0.here hx rfl (hb hby d1_34) rfl d34.nn rfl (kk)) ?_
      show Dn p e below s _ _ _ (s₁.setTop (mkF m 35 #[.val (.double xx), .second, .val (.double (4631952216750555136 : UInt64)), .second, .val (.double v19), .second] [(.double (FP.dsub (4631952216750555136 : UInt64) v19))]))
      generalize hv34 : ((FP.dsub (4631952216750555136 : UInt64) v19) : UInt64) = v34 at d34 ⊢
      generalize hi34 : ((384 - i19) : Int) = i34 at d34
      show Dn p e below s _ _ _ (s₁.setTop (mkF m 35 #[.val (.double xx), .second, .val (.double (4631952216750555136 : UInt64)), .second, .val (.double v19), .second] [(.double v34)]))
      refine Dn.st (fun _ kk => XS.goto X0.here hx rfl (pc0 := 35) (pc' := 40) rfl (hb hby d1_35) (by decide) (by decide) (kk)) ?_
      show Dn p e below s _ _ _ (s₁.setTop (mkF m 40 #[.val (.double xx), .second, .val (.double (4631952216750555136 : UInt64)), .second, .val (.double v19), .second] [(.double v34)]))
      exact Dn.ret X0 hlk hx hret rfl (Or.inr (Or.inr (Or.inl ⟨rfl, rfl, _, rfl⟩))) (hb hby d1_40) (by rw [e0]; exact ⟨_, rfl, (d34).cast rfl (by unfold own_fold; rw [hi6]; (repeat' split) <;> omega), N0, rfl⟩) (by decide) (by decide)
    · have hi28 := mt (c3_gt _ _).mpr hc28
      refine Dn.st (fun _ kk => XS.ifYes X0.here hx rfl (pc0 := 28) (pc' := 38) rfl (hb hby d1_28) rfl ((if0 _ _).trans (flt hc28).2.2.2) (by decide) (by decide) (XS.dload X0.here hx rfl (hb hby d1_38) rfl  (kk))) ?_
      show Dn p e below s _ _ _ (s₁.setTop (mkF m 40 #[.val (.double xx), .second, .val (.double (4631952216750555136 : UInt64)), .second, .val (.double v19), .second] [(.double v19)]))
      exact Dn.ret X0 hlk hx hret rfl (Or.inr (Or.inr (Or.inl ⟨rfl, rfl, _, rfl⟩))) (hb hby d1_40) (by rw [e0]; exact ⟨_, rfl, (d19).cast rfl (by unfold own_fold; rw [hi6]; (repeat' split) <;> omega), N0, rfl⟩) (by decide) (by decide)
  · have hi13 := mt (c3_lt _ _).mpr hc13
    refine Dn.st (fun _ kk => XS.ifYes X0.here hx rfl (pc0 := 13) (pc' := 22) rfl (hb hby d1_13) rfl ((if0 _ _).trans (flt hc13).2.1) (by decide) (by decide) (XS.dload X0.here hx rfl (hb hby d1_22) rfl  (X0.ldc2DoubleC hx hown (mvT hZ (hw _ (List.mem_of_getElem? (i := 6) rfl))) (g := (mkF m 24 #[.val (.double xx), .second, .val (.double (4631952216750555136 : UInt64)), .second, .val (.double v6), .second] [(.double v6)])) rfl (hb hby d1_24) _ (XS.dcmpS X0.here hx rfl (hb hby d1_27) rfl (DS.cmpV d6 (DS.cast (k' := 3) (i' := 192) ((dc_4627448617123184640).up 3) rfl (by decide)) _) (kk))))) ?_
    show Dn p e below s _ _ _ (s₁.setTop (mkF m 28 #[.val (.double xx), .second, .val (.double (4631952216750555136 : UInt64)), .second, .val (.double v6), .second] [(.int (c3 i6 192))]))
    by_cases hc28 : (0 : Int32) < (c3 i6 192)
    · have hi28 := (c3_gt _ _).mp hc28
      refine Dn.st (fun _ kk => XS.ifNo X0.here hx rfl (hb hby d1_28) rfl ((if0 _ _).trans (tlt hc28).2.2.2) (XS.dloadN X0.here hx rfl (hb hby d1_31) rfl  (XS.dload X0.here hx rfl (hb hby d1_32) rfl  (kk)))) ?_
      show Dn p e below s _ _ _ (s₁.setTop (mkF m 34 #[.val (.double xx), .second, .val (.double (4631952216750555136 : UInt64)), .second, .val (.double v6), .second] [(.double v6), (.double (4631952216750555136 : UInt64))]))
      have d34 : DS 3 (384 - i6) (FP.dsub (4631952216750555136 : UInt64) v6) := DS.sub (DS.cast (k' := 3) (i' := 384) ((dc_4631952216750555136).up 3) rfl (by decide)) d6 (by omega) (by decide)
      refine Dn.st (fun _ kk => XS.dsubS X0.here hx rfl (hb hby d1_34) rfl d34.nn rfl (kk)) ?_
      show Dn p e below s _ _ _ (s₁.setTop (mkF m 35 #[.val (.double xx), .second, .val (.double (4631952216750555136 : UInt64)), .second, .val (.double v6), .second] [(.double (FP.dsub (4631952216750555136 : UInt64) v6))]))
      generalize hv34 : ((FP.dsub (4631952216750555136 : UInt64) v6) : UInt64) = v34 at d34 ⊢
      generalize hi34 : ((384 - i6) : Int) = i34 at d34
      show Dn p e below s _ _ _ (s₁.setTop (mkF m 35 #[.val (.double xx), .second, .val (.double (4631952216750555136 : UInt64)), .second, .val (.double v6), .second] [(.double v34)]))
      refine Dn.st (fun _ kk => XS.goto X0.here hx rfl (pc0 := 35) (pc' := 40) rfl (hb hby d1_35) (by decide) (by decide) (kk)) ?_
      show Dn p e below s _ _ _ (s₁.setTop (mkF m 40 #[.val (.double xx), .second, .val (.double (4631952216750555136 : UInt64)), .second, .val (.double v6), .second] [(.double v34)]))
      exact Dn.ret X0 hlk hx hret rfl (Or.inr (Or.inr (Or.inl ⟨rfl, rfl, _, rfl⟩))) (hb hby d1_40) (by rw [e0]; exact ⟨_, rfl, (d34).cast rfl (by unfold own_fold; rw [hi6]; (repeat' split) <;> omega), N0, rfl⟩) (by decide) (by decide)
    · have hi28 := mt (c3_gt _ _).mpr hc28
      refine Dn.st (fun _ kk => XS.ifYes X0.here hx rfl (pc0 := 28) (pc' := 38) rfl (hb hby d1_28) rfl ((if0 _ _).trans (flt hc28).2.2.2) (by decide) (by decide) (XS.dload X0.here hx rfl (hb hby d1_38) rfl  (kk))) ?_
      show Dn p e below s _ _ _ (s₁.setTop (mkF m 40 #[.val (.double xx), .second, .val (.double (4631952216750555136 : UInt64)), .second, .val (.double v6), .second] [(.double v6)]))
      exact Dn.ret X0 hlk hx hret rfl (Or.inr (Or.inr (Or.inl ⟨rfl, rfl, _, rfl⟩))) (hb hby d1_40) (by rw [e0]; exact ⟨_, rfl, (d6).cast rfl (by unfold own_fold; rw [hi6]; (repeat' split) <;> omega), N0, rfl⟩) (by decide) (by decide)

theorem dc_4620693217682128896 : DS 0 8 (4620693217682128896 : UInt64) := DS.lit (s := false) (c := 4503599627370496) (q := -49) (by decide +kernel) (by decide +kernel)
theorem pd0 : parseMethodDescriptor "(D)D" = some ⟨[.double], some .double⟩ := by decide +kernel
theorem pn1 : plainName "org/rupturecast/etas/EtasModelFoldedDepthKmPinLaw" = true := by first | (simp [plainName, overriddenIn]; done) | decide +kernel
theorem ef0_rm0 (m : MethodId) (x0 : Int32) : entryFrame m #[(.int x0)] maxLocals = mkF m 0 #[.val (.int x0), .unset, .unset, .unset, .unset, .unset, .unset, .unset, .unset] [] := by first | (simp [entryFrame, mkF, argsToLocals, Value.category, maxLocals]; done) | rfl
def Q0 (Z : State) (p0 : Int32) (h0 : Heap) (n0 : Nat) (v : Option Value) (h : Heap) (L : List Loc) : Prop := v = some (.int 1) ∧ Fr n0 L
set_option maxRecDepth 65536 in
set_option maxHeartbeats 40000000 in
theorem rm0 (l : Launch) (Z : State) (a0 : Array Value) (hw : ∀ d ∈ tables_1, d.before a0 Z = true) (ws : List Jvm.Cond) (p0 : Int32) (h0 : Heap) (n0 : Nat) (Z0 : n0 ≤ h0.size) :
    MetFree l x (head1 (Jvm.Cond.code x code maxLocals ret :: ws) room_1) (fun aa UU => aa = #[(.int p0)] ∧ Z.Warmed39 UU.vm ∧ UU.heap = h0) (fun _ _ _ _ _ => True) (fun _ UU oo UU' => ∃ vv LL, oo = .returned vv ∧ Q0 Z p0 h0 n0 vv UU'.heap LL ∧ FrameEnd UU oo UU' LL 0 0) := by
  refine MetFree.of_bodySF (plainFor_of_name pn1) hisR ?_
  intro p e s m args below meth c s₁ Bd hml0 hP hK
  obtain ⟨rfl, hZ, hh⟩ := hP
  have hx := Bd.exec
  have hby := Bd.bytes
  have hlk : meth.locks = false := BodyLoose.notSynchronized Bd
  have hret := Bd.returns
  have hml : c.maxLocals = 9 := hml0
  have hown : s.vm.findClass "org/rupturecast/etas/EtasModelFoldedDepthKmPinLaw" = some m.cls := findClass_of_methodNamed Bd.named
  have hnm := (name_of_methodNamed Bd.named Bd.method).1
  have X0 : Stand p l e room_1 s m #[(.int p0)] below meth c s₁ [] 0 0 := Stand.of_body Bd
  have e0 : s₁.heap = h0 := by rw [← hh, Bd.state]; rfl
  have N0 := Fr.nil n0
  have r_p0 := rng32 p0
  show Dn p e below s (Q0 Z p0 h0 n0) 0 0 (s₁.setTop (entryFrame m #[(.int p0)] maxLocals))
  refine Dn.st (fun _ kk => castTop (ef0_rm0 m p0) kk) ?_
  show Dn p e below s _ _ _ (s₁.setTop (mkF m 0 #[.val (.int p0), .unset, .unset, .unset, .unset, .unset, .unset, .unset, .unset] []))
  refine Dn.st (fun _ kk => XS.iloadN X0.here hx rfl (hb hby at_0) rfl  (kk)) ?_
  show Dn p e below s _ _ _ (s₁.setTop (mkF m 1 #[.val (.int p0), .unset, .unset, .unset, .unset, .unset, .unset, .unset, .unset] [(.int p0)]))
  have d1 := DS.i2d p0
  refine Dn.st (fun _ kk => XS.i2dS X0.here hx rfl (hb hby at_1) rfl rfl (kk)) ?_
  show Dn p e below s _ _ _ (s₁.setTop (mkF m 2 #[.val (.int p0), .unset, .unset, .unset, .unset, .unset, .unset, .unset, .unset] [(.double (FP.i2d p0))]))
  generalize hv1 : ((FP.i2d p0) : UInt64) = v1 at d1 ⊢
  show Dn p e below s _ _ _ (s₁.setTop (mkF m 2 #[.val (.int p0), .unset, .unset, .unset, .unset, .unset, .unset, .unset, .unset] [(.double v1)]))
  refine Dn.st (fun _ kk => X0.ldc2DoubleC hx hown (mvT hZ (hw _ (List.mem_of_getElem? (i := 0) rfl))) (g := (mkF m 2 #[.val (.int p0), .unset, .unset, .unset, .unset, .unset, .unset, .unset, .unset] [(.double v1)])) rfl (hb hby at_2) _ (kk)) ?_
  show Dn p e below s _ _ _ (s₁.setTop (mkF m 5 #[.val (.int p0), .unset, .unset, .unset, .unset, .unset, .unset, .unset, .unset] [(.double (4620693217682128896 : UInt64)), (.double v1)]))
  have d5 : DS 3 p0.toInt (FP.ddiv v1 (4620693217682128896 : UInt64)) := DS.divp (t := 3) d1 dc_4620693217682128896 (by first | omega | decide) (by decide)
  refine Dn.st (fun _ kk => XS.ddivS X0.here hx rfl (hb hby at_5) rfl d5.nn rfl (kk)) ?_
  show Dn p e below s _ _ _ (s₁.setTop (mkF m 6 #[.val (.int p0), .unset, .unset, .unset, .unset, .unset, .unset, .unset, .unset] [(.double (FP.ddiv v1 (4620693217682128896 : UInt64)))]))
  generalize hv5 : ((FP.ddiv v1 (4620693217682128896 : UInt64)) : UInt64) = v5 at d5 ⊢
  show Dn p e below s _ _ _ (s₁.setTop (mkF m 6 #[.val (.int p0), .unset, .unset, .unset, .unset, .unset, .unset, .unset, .unset] [(.double v5)]))
  refine Dn.st (fun _ kk => XS.dstoreN X0.here hx rfl (hb hby at_6) rfl (l' := #[.val (.int p0), .val (.double v5), .second, .unset, .unset, .unset, .unset, .unset, .unset]) rfl (XS.iloadN X0.here hx rfl (hb hby at_7) rfl  (XS.sipush X0.here hx rfl (hb hby at_8) (iremM X0 hx rfl (hb hby at_11) rfl (by decide) (kk))))) ?_
  show Dn p e below s _ _ _ (s₁.setTop (mkF m 12 #[.val (.int p0), .val (.double v5), .second, .unset, .unset, .unset, .unset, .unset, .unset] [(.int (p0 % (384 : Int32)))]))
  generalize hv11 : ((p0 % (384 : Int32)) : Int32) = v11
  have q11 : (0 ≤ p0.toInt → v11.toInt = p0.toInt % 384) ∧ (p0.toInt < 0 → v11.toInt = -((-p0.toInt) % 384)) := by have qq := c_irem p0 (384 : Int32) 384 rfl; rw [hv11] at qq; exact qq
  have r11 := rng32 v11
  show Dn p e below s _ _ _ (s₁.setTop (mkF m 12 #[.val (.int p0), .val (.double v5), .second, .unset, .unset, .unset, .unset, .unset, .unset] [(.int v11)]))
  refine Dn.st (fun _ kk => XS.istoreN X0.here hx rfl (hb hby at_12) rfl (l' := #[.val (.int p0), .val (.double v5), .second, .val (.int v11), .unset, .unset, .unset, .unset, .unset]) rfl (XS.iloadN X0.here hx rfl (hb hby at_13) rfl  (kk))) ?_
  show Dn p e below s _ _ _ (s₁.setTop (mkF m 14 #[.val (.int p0), .val (.double v5), .second, .val (.int v11), .unset, .unset, .unset, .unset, .unset] [(.int v11)]))
  by_cases hc14 : v11 < (0 : Int32)
  · have hi14 : v11.toInt < 0 := Int32.lt_iff_toInt_lt.mp hc14
    refine Dn.st (fun _ kk => XS.ifNo X0.here hx rfl (hb hby at_14) rfl ((if0 _ _).trans (tlt hc14).2.1) (own_iincW X0.here hx rfl (hb hby at_17) rfl (l' := #[.val (.int p0), .val (.double v5), .second, .val (.int (v11 + (384 : Int32))), .unset, .unset, .unset, .unset, .unset]) rfl (kk))) ?_
    show Dn p e below s _ _ _ (s₁.setTop (mkF m 23 #[.val (.int p0), .val (.double v5), .second, .val (.int (v11 + (384 : Int32))), .unset, .unset, .unset, .unset, .unset] []))
    generalize hv17 : ((v11 + (384 : Int32)) : Int32) = v17
    have q17 : (v17.toInt - (v11.toInt + 384)) % 4294967296 = 0 := by have qq := c_iadd v11 (384 : Int32); rw [hv17] at qq; exact qq
    have r17 := rng32 v17
    show Dn p e below s _ _ _ (s₁.setTop (mkF m 23 #[.val (.int p0), .val (.double v5), .second, .val (.int v17), .unset, .unset, .unset, .unset, .unset] []))
    refine Dn.st (fun _ kk => XS.iloadN X0.here hx rfl (hb hby at_23) rfl  (XS.sipush X0.here hx rfl (hb hby at_24) (kk))) ?_
    show Dn p e below s _ _ _ (s₁.setTop (mkF m 27 #[.val (.int p0), .val (.double v5), .second, .val (.int v17), .unset, .unset, .unset, .unset, .unset] [(.int (192 : Int32)), (.int v17)]))
    by_cases hc27 : (192 : Int32) < v17
    · have hi27 : 192 < v17.toInt := Int32.lt_iff_toInt_lt.mp hc27
      refine Dn.st (fun _ kk => XS.icmpNo X0.here hx rfl (hb hby at_27) rfl (tlt hc27).2.2.2 (XS.sipush X0.here hx rfl (hb hby at_30) (XS.iloadN X0.here hx rfl (hb hby at_33) rfl  (XS.isub X0.here hx rfl (hb hby at_34) rfl (kk))))) ?_
      show Dn p e below s _ _ _ (s₁.setTop (mkF m 35 #[.val (.int p0), .val (.double v5), .second, .val (.int v17), .unset, .unset, .unset, .unset, .unset] [(.int ((384 : Int32) - v17))]))
      generalize hv34 : (((384 : Int32) - v17) : Int32) = v34
      have q34 : (v34.toInt - (384 - v17.toInt)) % 4294967296 = 0 := by have qq := c_isub (384 : Int32) v17; rw [hv34] at qq; exact qq
      have r34 := rng32 v34
      show Dn p e below s _ _ _ (s₁.setTop (mkF m 35 #[.val (.int p0), .val (.double v5), .second, .val (.int v17), .unset, .unset, .unset, .unset, .unset] [(.int v34)]))
      refine Dn.st (fun _ kk => XS.goto X0.here hx rfl (pc0 := 35) (pc' := 39) rfl (hb hby at_35) (by decide) (by decide) (XS.istore X0.here hx rfl (hb hby at_39) rfl (l' := #[.val (.int p0), .val (.double v5), .second, .val (.int v17), .val (.int v34), .unset, .unset, .unset, .unset]) rfl (XS.iload X0.here hx rfl (hb hby at_41) rfl  (kk)))) ?_
      show Dn p e below s _ _ _ (s₁.setTop (mkF m 43 #[.val (.int p0), .val (.double v5), .second, .val (.int v17), .val (.int v34), .unset, .unset, .unset, .unset] [(.int v34)]))
      have d43 := DS.i2d v34
      refine Dn.st (fun _ kk => XS.i2dS X0.here hx rfl (hb hby at_43) rfl rfl (kk)) ?_
      show Dn p e below s _ _ _ (s₁.setTop (mkF m 44 #[.val (.int p0), .val (.double v5), .second, .val (.int v17), .val (.int v34), .unset, .unset, .unset, .unset] [(.double (FP.i2d v34))]))
      generalize hv43 : ((FP.i2d v34) : UInt64) = v43 at d43 ⊢
      show Dn p e below s _ _ _ (s₁.setTop (mkF m 44 #[.val (.int p0), .val (.double v5), .second, .val (.int v17), .val (.int v34), .unset, .unset, .unset, .unset] [(.double v43)]))
      refine Dn.st (fun _ kk => X0.ldc2DoubleC hx hown (mvT hZ (hw _ (List.mem_of_getElem? (i := 0) rfl))) (g := (mkF m 44 #[.val (.int p0), .val (.double v5), .second, .val (.int v17), .val (.int v34), .unset, .unset, .unset, .unset] [(.double v43)])) rfl (hb hby at_44) _ (kk)) ?_
      show Dn p e below s _ _ _ (s₁.setTop (mkF m 47 #[.val (.int p0), .val (.double v5), .second, .val (.int v17), .val (.int v34), .unset, .unset, .unset, .unset] [(.double (4620693217682128896 : UInt64)), (.double v43)]))
      have d47 : DS 3 v34.toInt (FP.ddiv v43 (4620693217682128896 : UInt64)) := DS.divp (t := 3) d43 dc_4620693217682128896 (by first | omega | decide) (by decide)
      refine Dn.st (fun _ kk => XS.ddivS X0.here hx rfl (hb hby at_47) rfl d47.nn rfl (kk)) ?_
      show Dn p e below s _ _ _ (s₁.setTop (mkF m 48 #[.val (.int p0), .val (.double v5), .second, .val (.int v17), .val (.int v34), .unset, .unset, .unset, .unset] [(.double (FP.ddiv v43 (4620693217682128896 : UInt64)))]))
      generalize hv47 : ((FP.ddiv v43 (4620693217682128896 : UInt64)) : UInt64) = v47 at d47 ⊢
      show Dn p e below s _ _ _ (s₁.setTop (mkF m 48 #[.val (.int p0), .val (.double v5), .second, .val (.int v17), .val (.int v34), .unset, .unset, .unset, .unset] [(.double v47)]))
      refine Dn.st (fun _ kk => XS.dstore X0.here hx rfl (hb hby at_48) rfl (l' := #[.val (.int p0), .val (.double v5), .second, .val (.int v17), .val (.int v34), .val (.double v47), .second, .unset, .unset]) rfl (XS.dloadN X0.here hx rfl (hb hby at_50) rfl  (kk))) ?_
      show Dn p e below s _ _ _ (s₁.setTop (mkF m 51 #[.val (.int p0), .val (.double v5), .second, .val (.int v17), .val (.int v34), .val (.double v47), .second, .unset, .unset] [(.double v5)]))
      obtain ⟨_, _, ⟨T51, L51, k51, n51⟩, -, X51, ⟨Lc51, hQ51, l51, y51, z51⟩, st51⟩ := Jvm.LawKit.callS X0 hx (y := (⟨"org/rupturecast/etas/EtasModel", "foldedDepthKm", "(D)D"⟩ : MethodName)) hown (mvT hZ (hw _ (List.mem_of_getElem? (i := 1) rfl))) (mvT hZ (hw _ (List.mem_of_getElem? (i := 2) rfl))) (mvT hZ (hw _ (List.mem_of_getElem? (i := 3) rfl))) (mvT hZ (hw _ (List.mem_of_getElem? (i := 4) rfl))) (by decide) (backOf (W := 0) (rm1 l Z a0 hw [] v5 p0.toInt h0 n0 Z0 d5) hZ (hw _ (List.mem_of_getElem? (i := 4) rfl)) (hw _ (List.mem_of_getElem? (i := 3) rfl)) (by decide) (by decide)) (g := (mkF m 51 #[.val (.int p0), .val (.double v5), .second, .val (.int v17), .val (.int v34), .val (.double v47), .second, .unset, .unset] [(.double v5)])) rfl (by rw [hml]; rfl) (argsL := [(.double v5)]) (rest := []) (lenOf pd0 rfl) rfl (by show 2 * 0 + _ ≤ _; exact Nat.le_of_eq rfl) (hb hby at_51) (fun _ _ => ⟨rfl, e0, (by decide : 0 + 0 ≤ _), (by decide : 0 + 0 ≤ _)⟩)
      dsimp only [Pt.U, Pt.locs, Pt.cells, Pt.slots] at X51 l51 y51 z51 st51 hQ51
      subst l51 y51 z51
      obtain ⟨z51, rfl, d51, Nq51, hh51⟩ := hQ51
      have N51 := Fr.app N0 Nq51
      refine Dn.st st51 ?_
      show Dn p e below s _ _ _ (T51.setTop (mkF m 54 #[.val (.int p0), .val (.double v5), .second, .val (.int v17), .val (.int v34), .val (.double v47), .second, .unset, .unset] [(.double z51)]))
      refine Dn.st (fun _ kk => XS.dstore X51.here hx rfl (hb hby at_54) rfl (l' := #[.val (.int p0), .val (.double v5), .second, .val (.int v17), .val (.int v34), .val (.double v47), .second, .val (.double z51), .second]) rfl (XS.dload X51.here hx rfl (hb hby at_56) rfl  (XS.dload X51.here hx rfl (hb hby at_58) rfl  (XS.dcmpS X51.here hx rfl (hb hby at_60) rfl (DS.cmpV d51 d47 _) (kk))))) ?_
      show Dn p e below s _ _ _ (T51.setTop (mkF m 61 #[.val (.int p0), .val (.double v5), .second, .val (.int v17), .val (.int v34), .val (.double v47), .second, .val (.double z51), .second] [(.int (c3 (own_fold p0.toInt) v34.toInt))]))
      by_cases hc61 : (c3 (own_fold p0.toInt) v34.toInt) = (0 : Int32)
      · have hi61 := (c3_eq _ _).mp hc61
        refine Dn.st (fun _ kk => XS.ifNo X51.here hx rfl (hb hby at_61) rfl ((if0 _ _).trans (teq hc61).2) (XS.iconst X51.here hx rfl (hb hby at_64) (XS.goto X51.here hx rfl (pc0 := 65) (pc' := 69) rfl (hb hby at_65) (by decide) (by decide) (kk)))) ?_
        show Dn p e below s _ _ _ (T51.setTop (mkF m 69 #[.val (.int p0), .val (.double v5), .second, .val (.int v17), .val (.int v34), .val (.double v47), .second, .val (.double z51), .second] [(.int (1 : Int32))]))
        exact Dn.ret X51 hlk hx hret rfl (Or.inl ⟨rfl, Or.inr (Or.inl rfl), _, rfl⟩) (hb hby at_69) (by rw [hh51]; exact ⟨rfl, N51⟩) (by decide) (by decide)
      · have hi61 := mt (c3_eq _ _).mpr hc61
        refine Dn.st (fun _ kk => XS.ifYes X51.here hx rfl (pc0 := 61) (pc' := 68) rfl (hb hby at_61) rfl ((if0 _ _).trans (feq hc61).2) (by decide) (by decide) (kk)) ?_
        show Dn p e below s _ _ _ (T51.setTop (mkF m 68 #[.val (.int p0), .val (.double v5), .second, .val (.int v17), .val (.int v34), .val (.double v47), .second, .val (.double z51), .second] []))
        exfalso
        have tm := own_tm p0.toInt
        unfold own_fold at *
        omega
    · have hi27 : ¬ 192 < v17.toInt := fun qq => hc27 (Int32.lt_iff_toInt_lt.mpr qq)
      refine Dn.st (fun _ kk => XS.icmpYes X0.here hx rfl (pc0 := 27) (pc' := 38) rfl (hb hby at_27) rfl (flt hc27).2.2.2 (by decide) (by decide) (XS.iloadN X0.here hx rfl (hb hby at_38) rfl  (XS.istore X0.here hx rfl (hb hby at_39) rfl (l' := #[.val (.int p0), .val (.double v5), .second, .val (.int v17), .val (.int v17), .unset, .unset, .unset, .unset]) rfl (XS.iload X0.here hx rfl (hb hby at_41) rfl  (kk))))) ?_
      show Dn p e below s _ _ _ (s₁.setTop (mkF m 43 #[.val (.int p0), .val (.double v5), .second, .val (.int v17), .val (.int v17), .unset, .unset, .unset, .unset] [(.int v17)]))
      have d43 := DS.i2d v17
      refine Dn.st (fun _ kk => XS.i2dS X0.here hx rfl (hb hby at_43) rfl rfl (kk)) ?_
      show Dn p e below s _ _ _ (s₁.setTop (mkF m 44 #[.val (.int p0), .val (.double v5), .second, .val (.int v17), .val (.int v17), .unset, .unset, .unset, .unset] [(.double (FP.i2d v17))]))
      generalize hv43 : ((FP.i2d v17) : UInt64) = v43 at d43 ⊢
      show Dn p e below s _ _ _ (s₁.setTop (mkF m 44 #[.val (.int p0), .val (.double v5), .second, .val (.int v17), .val (.int v17), .unset, .unset, .unset, .unset] [(.double v43)]))
      refine Dn.st (fun _ kk => X0.ldc2DoubleC hx hown (mvT hZ (hw _ (List.mem_of_getElem? (i := 0) rfl))) (g := (mkF m 44 #[.val (.int p0), .val (.double v5), .second, .val (.int v17), .val (.int v17), .unset, .unset, .unset, .unset] [(.double v43)])) rfl (hb hby at_44) _ (kk)) ?_
      show Dn p e below s _ _ _ (s₁.setTop (mkF m 47 #[.val (.int p0), .val (.double v5), .second, .val (.int v17), .val (.int v17), .unset, .unset, .unset, .unset] [(.double (4620693217682128896 : UInt64)), (.double v43)]))
      have d47 : DS 3 v17.toInt (FP.ddiv v43 (4620693217682128896 : UInt64)) := DS.divp (t := 3) d43 dc_4620693217682128896 (by first | omega | decide) (by decide)
      refine Dn.st (fun _ kk => XS.ddivS X0.here hx rfl (hb hby at_47) rfl d47.nn rfl (kk)) ?_
      show Dn p e below s _ _ _ (s₁.setTop (mkF m 48 #[.val (.int p0), .val (.double v5), .second, .val (.int v17), .val (.int v17), .unset, .unset, .unset, .unset] [(.double (FP.ddiv v43 (4620693217682128896 : UInt64)))]))
      generalize hv47 : ((FP.ddiv v43 (4620693217682128896 : UInt64)) : UInt64) = v47 at d47 ⊢
      show Dn p e below s _ _ _ (s₁.setTop (mkF m 48 #[.val (.int p0), .val (.double v5), .second, .val (.int v17), .val (.int v17), .unset, .unset, .unset, .unset] [(.double v47)]))
      refine Dn.st (fun _ kk => XS.dstore X0.here hx rfl (hb hby at_48) rfl (l' := #[.val (.int p0), .val (.double v5), .second, .val (.int v17), .val (.int v17), .val (.double v47), .second, .unset, .unset]) rfl (XS.dloadN X0.here hx rfl (hb hby at_50) rfl  (kk))) ?_
      show Dn p e below s _ _ _ (s₁.setTop (mkF m 51 #[.val (.int p0), .val (.double v5), .second, .val (.int v17), .val (.int v17), .val (.double v47), .second, .unset, .unset] [(.double v5)]))
      obtain ⟨_, _, ⟨T51, L51, k51, n51⟩, -, X51, ⟨Lc51, hQ51, l51, y51, z51⟩, st51⟩ := Jvm.LawKit.callS X0 hx (y := (⟨"org/rupturecast/etas/EtasModel", "foldedDepthKm", "(D)D"⟩ : MethodName)) hown (mvT hZ (hw _ (List.mem_of_getElem? (i := 1) rfl))) (mvT hZ (hw _ (List.mem_of_getElem? (i := 2) rfl))) (mvT hZ (hw _ (List.mem_of_getElem? (i := 3) rfl))) (mvT hZ (hw _ (List.mem_of_getElem? (i := 4) rfl))) (by decide) (backOf (W := 0) (rm1 l Z a0 hw [] v5 p0.toInt h0 n0 Z0 d5) hZ (hw _ (List.mem_of_getElem? (i := 4) rfl)) (hw _ (List.mem_of_getElem? (i := 3) rfl)) (by decide) (by decide)) (g := (mkF m 51 #[.val (.int p0), .val (.double v5), .second, .val (.int v17), .val (.int v17), .val (.double v47), .second, .unset, .unset] [(.double v5)])) rfl (by rw [hml]; rfl) (argsL := [(.double v5)]) (rest := []) (lenOf pd0 rfl) rfl (by show 2 * 0 + _ ≤ _; exact Nat.le_of_eq rfl) (hb hby at_51) (fun _ _ => ⟨rfl, e0, (by decide : 0 + 0 ≤ _), (by decide : 0 + 0 ≤ _)⟩)
      dsimp only [Pt.U, Pt.locs, Pt.cells, Pt.slots] at X51 l51 y51 z51 st51 hQ51
      subst l51 y51 z51
      obtain ⟨z51, rfl, d51, Nq51, hh51⟩ := hQ51
      have N51 := Fr.app N0 Nq51
      refine Dn.st st51 ?_
      show Dn p e below s _ _ _ (T51.setTop (mkF m 54 #[.val (.int p0), .val (.double v5), .second, .val (.int v17), .val (.int v17), .val (.double v47), .second, .unset, .unset] [(.double z51)]))
      refine Dn.st (fun _ kk => XS.dstore X51.here hx rfl (hb hby at_54) rfl (l' := #[.val (.int p0), .val (.double v5), .second, .val (.int v17), .val (.int v17), .val (.double v47), .second, .val (.double z51), .second]) rfl (XS.dload X51.here hx rfl (hb hby at_56) rfl  (XS.dload X51.here hx rfl (hb hby at_58) rfl  (XS.dcmpS X51.here hx rfl (hb hby at_60) rfl (DS.cmpV d51 d47 _) (kk))))) ?_
      show Dn p e below s _ _ _ (T51.setTop (mkF m 61 #[.val (.int p0), .val (.double v5), .second, .val (.int v17), .val (.int v17), .val (.double v47), .second, .val (.double z51), .second] [(.int (c3 (own_fold p0.toInt) v17.toInt))]))
      by_cases hc61 : (c3 (own_fold p0.toInt) v17.toInt) = (0 : Int32)
      · have hi61 := (c3_eq _ _).mp hc61
        refine Dn.st (fun _ kk => XS.ifNo X51.here hx rfl (hb hby at_61) rfl ((if0 _ _).trans (teq hc61).2) (XS.iconst X51.here hx rfl (hb hby at_64) (XS.goto X51.here hx rfl (pc0 := 65) (pc' := 69) rfl (hb hby at_65) (by decide) (by decide) (kk)))) ?_
        show Dn p e below s _ _ _ (T51.setTop (mkF m 69 #[.val (.int p0), .val (.double v5), .second, .val (.int v17), .val (.int v17), .val (.double v47), .second, .val (.double z51), .second] [(.int (1 : Int32))]))
        exact Dn.ret X51 hlk hx hret rfl (Or.inl ⟨rfl, Or.inr (Or.inl rfl), _, rfl⟩) (hb hby at_69) (by rw [hh51]; exact ⟨rfl, N51⟩) (by decide) (by decide)
      · have hi61 := mt (c3_eq _ _).mpr hc61
        refine Dn.st (fun _ kk => XS.ifYes X51.here hx rfl (pc0 := 61) (pc' := 68) rfl (hb hby at_61) rfl ((if0 _ _).trans (feq hc61).2) (by decide) (by decide) (kk)) ?_
        show Dn p e below s _ _ _ (T51.setTop (mkF m 68 #[.val (.int p0), .val (.double v5), .second, .val (.int v17), .val (.int v17), .val (.double v47), .second, .val (.double z51), .second] []))
        exfalso
        have tm := own_tm p0.toInt
        unfold own_fold at *
        omega
  · have hi14 : ¬ v11.toInt < 0 := fun qq => hc14 (Int32.lt_iff_toInt_lt.mpr qq)
    refine Dn.st (fun _ kk => XS.ifYes X0.here hx rfl (pc0 := 14) (pc' := 23) rfl (hb hby at_14) rfl ((if0 _ _).trans (flt hc14).2.1) (by decide) (by decide) (XS.iloadN X0.here hx rfl (hb hby at_23) rfl  (XS.sipush X0.here hx rfl (hb hby at_24) (kk)))) ?_
    show Dn p e below s _ _ _ (s₁.setTop (mkF m 27 #[.val (.int p0), .val (.double v5), .second, .val (.int v11), .unset, .unset, .unset, .unset, .unset] [(.int (192 : Int32)), (.int v11)]))
    by_cases hc27 : (192 : Int32) < v11
    · have hi27 : 192 < v11.toInt := Int32.lt_iff_toInt_lt.mp hc27
      refine Dn.st (fun _ kk => XS.icmpNo X0.here hx rfl (hb hby at_27) rfl (tlt hc27).2.2.2 (XS.sipush X0.here hx rfl (hb hby at_30) (XS.iloadN X0.here hx rfl (hb hby at_33) rfl  (XS.isub X0.here hx rfl (hb hby at_34) rfl (kk))))) ?_
      show Dn p e below s _ _ _ (s₁.setTop (mkF m 35 #[.val (.int p0), .val (.double v5), .second, .val (.int v11), .unset, .unset, .unset, .unset, .unset] [(.int ((384 : Int32) - v11))]))
      generalize hv34 : (((384 : Int32) - v11) : Int32) = v34
      have q34 : (v34.toInt - (384 - v11.toInt)) % 4294967296 = 0 := by have qq := c_isub (384 : Int32) v11; rw [hv34] at qq; exact qq
      have r34 := rng32 v34
      show Dn p e below s _ _ _ (s₁.setTop (mkF m 35 #[.val (.int p0), .val (.double v5), .second, .val (.int v11), .unset, .unset, .unset, .unset, .unset] [(.int v34)]))
      refine Dn.st (fun _ kk => XS.goto X0.here hx rfl (pc0 := 35) (pc' := 39) rfl (hb hby at_35) (by decide) (by decide) (XS.istore X0.here hx rfl (hb hby at_39) rfl (l' := #[.val (.int p0), .val (.double v5), .second, .val (.int v11), .val (.int v34), .unset, .unset, .unset, .unset]) rfl (XS.iload X0.here hx rfl (hb hby at_41) rfl  (kk)))) ?_
      show Dn p e below s _ _ _ (s₁.setTop (mkF m 43 #[.val (.int p0), .val (.double v5), .second, .val (.int v11), .val (.int v34), .unset, .unset, .unset, .unset] [(.int v34)]))
      have d43 := DS.i2d v34
      refine Dn.st (fun _ kk => XS.i2dS X0.here hx rfl (hb hby at_43) rfl rfl (kk)) ?_
      show Dn p e below s _ _ _ (s₁.setTop (mkF m 44 #[.val (.int p0), .val (.double v5), .second, .val (.int v11), .val (.int v34), .unset, .unset, .unset, .unset] [(.double (FP.i2d v34))]))
      generalize hv43 : ((FP.i2d v34) : UInt64) = v43 at d43 ⊢
      show Dn p e below s _ _ _ (s₁.setTop (mkF m 44 #[.val (.int p0), .val (.double v5), .second, .val (.int v11), .val (.int v34), .unset, .unset, .unset, .unset] [(.double v43)]))
      refine Dn.st (fun _ kk => X0.ldc2DoubleC hx hown (mvT hZ (hw _ (List.mem_of_getElem? (i := 0) rfl))) (g := (mkF m 44 #[.val (.int p0), .val (.double v5), .second, .val (.int v11), .val (.int v34), .unset, .unset, .unset, .unset] [(.double v43)])) rfl (hb hby at_44) _ (kk)) ?_
      show Dn p e below s _ _ _ (s₁.setTop (mkF m 47 #[.val (.int p0), .val (.double v5), .second, .val (.int v11), .val (.int v34), .unset, .unset, .unset, .unset] [(.double (4620693217682128896 : UInt64)), (.double v43)]))
      have d47 : DS 3 v34.toInt (FP.ddiv v43 (4620693217682128896 : UInt64)) := DS.divp (t := 3) d43 dc_4620693217682128896 (by first | omega | decide) (by decide)
      refine Dn.st (fun _ kk => XS.ddivS X0.here hx rfl (hb hby at_47) rfl d47.nn rfl (kk)) ?_
      show Dn p e below s _ _ _ (s₁.setTop (mkF m 48 #[.val (.int p0), .val (.double v5), .second, .val (.int v11), .val (.int v34), .unset, .unset, .unset, .unset] [(.double (FP.ddiv v43 (4620693217682128896 : UInt64)))]))
      generalize hv47 : ((FP.ddiv v43 (4620693217682128896 : UInt64)) : UInt64) = v47 at d47 ⊢
      show Dn p e below s _ _ _ (s₁.setTop (mkF m 48 #[.val (.int p0), .val (.double v5), .second, .val (.int v11), .val (.int v34), .unset, .unset, .unset, .unset] [(.double v47)]))
      refine Dn.st (fun _ kk => XS.dstore X0.here hx rfl (hb hby at_48) rfl (l' := #[.val (.int p0), .val (.double v5), .second, .val (.int v11), .val (.int v34), .val (.double v47), .second, .unset, .unset]) rfl (XS.dloadN X0.here hx rfl (hb hby at_50) rfl  (kk))) ?_
      show Dn p e below s _ _ _ (s₁.setTop (mkF m 51 #[.val (.int p0), .val (.double v5), .second, .val (.int v11), .val (.int v34), .val (.double v47), .second, .unset, .unset] [(.double v5)]))
      obtain ⟨_, _, ⟨T51, L51, k51, n51⟩, -, X51, ⟨Lc51, hQ51, l51, y51, z51⟩, st51⟩ := Jvm.LawKit.callS X0 hx (y := (⟨"org/rupturecast/etas/EtasModel", "foldedDepthKm", "(D)D"⟩ : MethodName)) hown (mvT hZ (hw _ (List.mem_of_getElem? (i := 1) rfl))) (mvT hZ (hw _ (List.mem_of_getElem? (i := 2) rfl))) (mvT hZ (hw _ (List.mem_of_getElem? (i := 3) rfl))) (mvT hZ (hw _ (List.mem_of_getElem? (i := 4) rfl))) (by decide) (backOf (W := 0) (rm1 l Z a0 hw [] v5 p0.toInt h0 n0 Z0 d5) hZ (hw _ (List.mem_of_getElem? (i := 4) rfl)) (hw _ (List.mem_of_getElem? (i := 3) rfl)) (by decide) (by decide)) (g := (mkF m 51 #[.val (.int p0), .val (.double v5), .second, .val (.int v11), .val (.int v34), .val (.double v47), .second, .unset, .unset] [(.double v5)])) rfl (by rw [hml]; rfl) (argsL := [(.double v5)]) (rest := []) (lenOf pd0 rfl) rfl (by show 2 * 0 + _ ≤ _; exact Nat.le_of_eq rfl) (hb hby at_51) (fun _ _ => ⟨rfl, e0, (by decide : 0 + 0 ≤ _), (by decide : 0 + 0 ≤ _)⟩)
      dsimp only [Pt.U, Pt.locs, Pt.cells, Pt.slots] at X51 l51 y51 z51 st51 hQ51
      subst l51 y51 z51
      obtain ⟨z51, rfl, d51, Nq51, hh51⟩ := hQ51
      have N51 := Fr.app N0 Nq51
      refine Dn.st st51 ?_
      show Dn p e below s _ _ _ (T51.setTop (mkF m 54 #[.val (.int p0), .val (.double v5), .second, .val (.int v11), .val (.int v34), .val (.double v47), .second, .unset, .unset] [(.double z51)]))
      refine Dn.st (fun _ kk => XS.dstore X51.here hx rfl (hb hby at_54) rfl (l' := #[.val (.int p0), .val (.double v5), .second, .val (.int v11), .val (.int v34), .val (.double v47), .second, .val (.double z51), .second]) rfl (XS.dload X51.here hx rfl (hb hby at_56) rfl  (XS.dload X51.here hx rfl (hb hby at_58) rfl  (XS.dcmpS X51.here hx rfl (hb hby at_60) rfl (DS.cmpV d51 d47 _) (kk))))) ?_
      show Dn p e below s _ _ _ (T51.setTop (mkF m 61 #[.val (.int p0), .val (.double v5), .second, .val (.int v11), .val (.int v34), .val (.double v47), .second, .val (.double z51), .second] [(.int (c3 (own_fold p0.toInt) v34.toInt))]))
      by_cases hc61 : (c3 (own_fold p0.toInt) v34.toInt) = (0 : Int32)
      · have hi61 := (c3_eq _ _).mp hc61
        refine Dn.st (fun _ kk => XS.ifNo X51.here hx rfl (hb hby at_61) rfl ((if0 _ _).trans (teq hc61).2) (XS.iconst X51.here hx rfl (hb hby at_64) (XS.goto X51.here hx rfl (pc0 := 65) (pc' := 69) rfl (hb hby at_65) (by decide) (by decide) (kk)))) ?_
        show Dn p e below s _ _ _ (T51.setTop (mkF m 69 #[.val (.int p0), .val (.double v5), .second, .val (.int v11), .val (.int v34), .val (.double v47), .second, .val (.double z51), .second] [(.int (1 : Int32))]))
        exact Dn.ret X51 hlk hx hret rfl (Or.inl ⟨rfl, Or.inr (Or.inl rfl), _, rfl⟩) (hb hby at_69) (by rw [hh51]; exact ⟨rfl, N51⟩) (by decide) (by decide)
      · have hi61 := mt (c3_eq _ _).mpr hc61
        refine Dn.st (fun _ kk => XS.ifYes X51.here hx rfl (pc0 := 61) (pc' := 68) rfl (hb hby at_61) rfl ((if0 _ _).trans (feq hc61).2) (by decide) (by decide) (kk)) ?_
        show Dn p e below s _ _ _ (T51.setTop (mkF m 68 #[.val (.int p0), .val (.double v5), .second, .val (.int v11), .val (.int v34), .val (.double v47), .second, .val (.double z51), .second] []))
        exfalso
        have tm := own_tm p0.toInt
        unfold own_fold at *
        omega
    · have hi27 : ¬ 192 < v11.toInt := fun qq => hc27 (Int32.lt_iff_toInt_lt.mpr qq)
      refine Dn.st (fun _ kk => XS.icmpYes X0.here hx rfl (pc0 := 27) (pc' := 38) rfl (hb hby at_27) rfl (flt hc27).2.2.2 (by decide) (by decide) (XS.iloadN X0.here hx rfl (hb hby at_38) rfl  (XS.istore X0.here hx rfl (hb hby at_39) rfl (l' := #[.val (.int p0), .val (.double v5), .second, .val (.int v11), .val (.int v11), .unset, .unset, .unset, .unset]) rfl (XS.iload X0.here hx rfl (hb hby at_41) rfl  (kk))))) ?_
      show Dn p e below s _ _ _ (s₁.setTop (mkF m 43 #[.val (.int p0), .val (.double v5), .second, .val (.int v11), .val (.int v11), .unset, .unset, .unset, .unset] [(.int v11)]))
      have d43 := DS.i2d v11
      refine Dn.st (fun _ kk => XS.i2dS X0.here hx rfl (hb hby at_43) rfl rfl (kk)) ?_
      show Dn p e below s _ _ _ (s₁.setTop (mkF m 44 #[.val (.int p0), .val (.double v5), .second, .val (.int v11), .val (.int v11), .unset, .unset, .unset, .unset] [(.double (FP.i2d v11))]))
      generalize hv43 : ((FP.i2d v11) : UInt64) = v43 at d43 ⊢
      show Dn p e below s _ _ _ (s₁.setTop (mkF m 44 #[.val (.int p0), .val (.double v5), .second, .val (.int v11), .val (.int v11), .unset, .unset, .unset, .unset] [(.double v43)]))
      refine Dn.st (fun _ kk => X0.ldc2DoubleC hx hown (mvT hZ (hw _ (List.mem_of_getElem? (i := 0) rfl))) (g := (mkF m 44 #[.val (.int p0), .val (.double v5), .second, .val (.int v11), .val (.int v11), .unset, .unset, .unset, .unset] [(.double v43)])) rfl (hb hby at_44) _ (kk)) ?_
      show Dn p e below s _ _ _ (s₁.setTop (mkF m 47 #[.val (.int p0), .val (.double v5), .second, .val (.int v11), .val (.int v11), .unset, .unset, .unset, .unset] [(.double (4620693217682128896 : UInt64)), (.double v43)]))
      have d47 : DS 3 v11.toInt (FP.ddiv v43 (4620693217682128896 : UInt64)) := DS.divp (t := 3) d43 dc_4620693217682128896 (by first | omega | decide) (by decide)
      refine Dn.st (fun _ kk => XS.ddivS X0.here hx rfl (hb hby at_47) rfl d47.nn rfl (kk)) ?_
      show Dn p e below s _ _ _ (s₁.setTop (mkF m 48 #[.val (.int p0), .val (.double v5), .second, .val (.int v11), .val (.int v11), .unset, .unset, .unset, .unset] [(.double (FP.ddiv v43 (4620693217682128896 : UInt64)))]))
      generalize hv47 : ((FP.ddiv v43 (4620693217682128896 : UInt64)) : UInt64) = v47 at d47 ⊢
      show Dn p e below s _ _ _ (s₁.setTop (mkF m 48 #[.val (.int p0), .val (.double v5), .second, .val (.int v11), .val (.int v11), .unset, .unset, .unset, .unset] [(.double v47)]))
      refine Dn.st (fun _ kk => XS.dstore X0.here hx rfl (hb hby at_48) rfl (l' := #[.val (.int p0), .val (.double v5), .second, .val (.int v11), .val (.int v11), .val (.double v47), .second, .unset, .unset]) rfl (XS.dloadN X0.here hx rfl (hb hby at_50) rfl  (kk))) ?_
      show Dn p e below s _ _ _ (s₁.setTop (mkF m 51 #[.val (.int p0), .val (.double v5), .second, .val (.int v11), .val (.int v11), .val (.double v47), .second, .unset, .unset] [(.double v5)]))
      obtain ⟨_, _, ⟨T51, L51, k51, n51⟩, -, X51, ⟨Lc51, hQ51, l51, y51, z51⟩, st51⟩ := Jvm.LawKit.callS X0 hx (y := (⟨"org/rupturecast/etas/EtasModel", "foldedDepthKm", "(D)D"⟩ : MethodName)) hown (mvT hZ (hw _ (List.mem_of_getElem? (i := 1) rfl))) (mvT hZ (hw _ (List.mem_of_getElem? (i := 2) rfl))) (mvT hZ (hw _ (List.mem_of_getElem? (i := 3) rfl))) (mvT hZ (hw _ (List.mem_of_getElem? (i := 4) rfl))) (by decide) (backOf (W := 0) (rm1 l Z a0 hw [] v5 p0.toInt h0 n0 Z0 d5) hZ (hw _ (List.mem_of_getElem? (i := 4) rfl)) (hw _ (List.mem_of_getElem? (i := 3) rfl)) (by decide) (by decide)) (g := (mkF m 51 #[.val (.int p0), .val (.double v5), .second, .val (.int v11), .val (.int v11), .val (.double v47), .second, .unset, .unset] [(.double v5)])) rfl (by rw [hml]; rfl) (argsL := [(.double v5)]) (rest := []) (lenOf pd0 rfl) rfl (by show 2 * 0 + _ ≤ _; exact Nat.le_of_eq rfl) (hb hby at_51) (fun _ _ => ⟨rfl, e0, (by decide : 0 + 0 ≤ _), (by decide : 0 + 0 ≤ _)⟩)
      dsimp only [Pt.U, Pt.locs, Pt.cells, Pt.slots] at X51 l51 y51 z51 st51 hQ51
      subst l51 y51 z51
      obtain ⟨z51, rfl, d51, Nq51, hh51⟩ := hQ51
      have N51 := Fr.app N0 Nq51
      refine Dn.st st51 ?_
      show Dn p e below s _ _ _ (T51.setTop (mkF m 54 #[.val (.int p0), .val (.double v5), .second, .val (.int v11), .val (.int v11), .val (.double v47), .second, .unset, .unset] [(.double z51)]))
      refine Dn.st (fun _ kk => XS.dstore X51.here hx rfl (hb hby at_54) rfl (l' := #[.val (.int p0), .val (.double v5), .second, .val (.int v11), .val (.int v11), .val (.double v47), .second, .val (.double z51), .second]) rfl (XS.dload X51.here hx rfl (hb hby at_56) rfl  (XS.dload X51.here hx rfl (hb hby at_58) rfl  (XS.dcmpS X51.here hx rfl (hb hby at_60) rfl (DS.cmpV d51 d47 _) (kk))))) ?_
      show Dn p e below s _ _ _ (T51.setTop (mkF m 61 #[.val (.int p0), .val (.double v5), .second, .val (.int v11), .val (.int v11), .val (.double v47), .second, .val (.double z51), .second] [(.int (c3 (own_fold p0.toInt) v11.toInt))]))
      by_cases hc61 : (c3 (own_fold p0.toInt) v11.toInt) = (0 : Int32)
      · have hi61 := (c3_eq _ _).mp hc61
        refine Dn.st (fun _ kk => XS.ifNo X51.here hx rfl (hb hby at_61) rfl ((if0 _ _).trans (teq hc61).2) (XS.iconst X51.here hx rfl (hb hby at_64) (XS.goto X51.here hx rfl (pc0 := 65) (pc' := 69) rfl (hb hby at_65) (by decide) (by decide) (kk)))) ?_
        show Dn p e below s _ _ _ (T51.setTop (mkF m 69 #[.val (.int p0), .val (.double v5), .second, .val (.int v11), .val (.int v11), .val (.double v47), .second, .val (.double z51), .second] [(.int (1 : Int32))]))
        exact Dn.ret X51 hlk hx hret rfl (Or.inl ⟨rfl, Or.inr (Or.inl rfl), _, rfl⟩) (hb hby at_69) (by rw [hh51]; exact ⟨rfl, N51⟩) (by decide) (by decide)
      · have hi61 := mt (c3_eq _ _).mpr hc61
        refine Dn.st (fun _ kk => XS.ifYes X51.here hx rfl (pc0 := 61) (pc' := 68) rfl (hb hby at_61) rfl ((if0 _ _).trans (feq hc61).2) (by decide) (by decide) (kk)) ?_
        show Dn p e below s _ _ _ (T51.setTop (mkF m 68 #[.val (.int p0), .val (.double v5), .second, .val (.int v11), .val (.int v11), .val (.double v47), .second, .val (.double z51), .second] []))
        exfalso
        have tm := own_tm p0.toInt
        unfold own_fold at *
        omega

set_option maxRecDepth 65536 in
set_option maxHeartbeats 40000000 in
theorem comes_1 {Post : Tables → Env → Array Value → State → Outcome → State → Prop} (hpost : ∀ tb e args s v u, (limb_1_1.after args s (.returned v) u = true ∧ limb_1_2.after args s (.returned v) u = true ∧ True) → FrameEnd s (.returned v) u (Jvm.fieldLocs frame_1_writes args s ++ Jvm.arrayLocs frame_1_arrays args s ++ Jvm.staticLocs frame_1_statics s) 0 0 → Post tb e args s (.returned v) u) :
    ArmFor flags0 classFile x code maxLocals ret World_1 tables_1 room_1 Calls_1 rest_1 Pre_1 Post := by
  intro l hfl _ _ p e ha hc hk s m args below hf hA hF happ hP
  obtain ⟨hcalls, hrest, hpre⟩ := hP
  obtain ⟨-, -, -, hnamed, -, -, -, hat⟩ := (Spec.applies_iff hf).mp happ
  obtain ⟨hg, hn⟩ := and_e (Cond.before_iff.mp (show (Jvm.Cond.and given_1 narrow_1).before args s = true from hpre))
  obtain ⟨g1a, g1b⟩ := and_e hg
  obtain ⟨w0, rfl⟩ : ∃ w0 : Value, args = #[w0] := by
    have hs : args.size = 1 := by simpa [Cond.value, given_1] using g1a
    obtain ⟨L⟩ := args
    match L, hs with
    | [w0], _ => exact ⟨w0, rfl⟩
  have hw := fun d (hd : d ∈ tables_1) => atoms_spec (ws := Jvm.Cond.code x code maxLocals ret :: tables_1) hat d (List.mem_cons_of_mem _ hd)
  have hfit : Fit s := fun {y c} hc i hi => by
    obtain ⟨ha, rfl⟩ := Array.getElem?_eq_some_iff.mp hc
    have q := List.all_eq_true.mp ((Array.all_eq_true_iff_forall_mem.mp hF) _ (Array.getElem_mem ha)) i (List.mem_range.mpr hi)
    simpa [Array.getElem?_eq_getElem hi] using q
  obtain ⟨i0, ei0⟩ := is_v g1b
  obtain rfl : w0 = (.int i0) := Option.some.inj ei0
  obtain ⟨n, o, h1, h2, h3, _, L, rfl, ⟨rfl, N⟩, hq⟩ := rm0 l s _ hw tables_1 i0  s.heap s.heap.size (Nat.le_refl _)  p e ha hc hk s m _ below hf ((Spec.applies_iff_loose hf).mp happ).1 ⟨rfl, State.Warmed39.refl s, rfl⟩ trivial
  refine ⟨n, _, h1, h2, h3, hpost _ _ _ _ _ _ ⟨Cond.after_iff.mpr rfl, Cond.after_iff.mpr (eq_i res_at (Term.int_eval (1)) rfl), trivial⟩ ⟨hq.1, hq.2.1, (hq.2.2.sift fun y hy => Or.inr (N y hy)).mono (by decide) (by decide)⟩⟩
theorem main_1_1 : Claimed_1_1 := comes_1 fun _ _ _ _ _ _ h hF => ⟨h.1, hF⟩
theorem main_1_2 : Claimed_1_2 := comes_1 fun _ _ _ _ _ _ h hF => ⟨h.2.1, hF⟩
end Jvm.Pilot.@@N@@
namespace Jvm.Pilot.@@N@@
open Jvm Jvm.ClassFile Sem Op Lib Jvm.Free Jvm.Stand Jvm.Pilot.@@N@@.Jvm.D
/-! MADE BY PROGRAM (witnessworld.py) out of the Statement's table words and the real class files: 10 classes; the members and pool entries that the words name. The judged class is class 1, her method 1. -/
namespace start1
open Jvm.ClassFile
def u (s : String) : CpInfo := .utf8 (stringToUtf16 s)
/-- a pool by its gaps: so many unusable entries, then the entry; so many at the end -/
def gap : Nat → List CpInfo → List CpInfo
  | 0, r => r
  | n + 1, r => .unusable :: gap n r
def poolList (es : List (Nat × CpInfo)) (last : Nat) : List CpInfo := es.foldr (fun e r => gap e.1 (e.2 :: r)) (gap last [])
def pool (es : List (Nat × CpInfo)) (last : Nat) : Array CpInfo := ⟨poolList es last⟩
def fileOf (pool : Array CpInfo) (this : Nat) (attrs : Array Attribute := #[]) (ms : Array MethodInfo := #[]) (fl : Nat := 33) (sup : Nat := 0) (ifs : Array Nat := #[]) (fds : Array FieldInfo := #[]) : ClassFile where
  minorVersion := 0
  majorVersion := 65
  constantPool := pool
  accessFlags := fl
  thisClass := this
  superClass := sup
  interfaces := ifs
  fields := fds
  methods := ms
  attributes := attrs
def plain (name : String) (sup : Option ClassId) : Class where
  name := name
  kind := .ordinary
  loader := none
  accessFlags := 33
  super := sup
  interfaces := #[]
  cf := none
  fields := #[]
  methods := #[]
  instanceTypes := #[]
  staticTypes := #[]
  resolved := #[]
  callSites := []
  init := .initialized
  statics := none
  mirror := none

def pool0 : Array CpInfo := pool [(5, u "<init>"), (0, u "()V"), (1, .class_ 10), (1, u "java/lang/Object")] 113

def k0m0 : Method := { name := "<init>", desc := "()V", sig := { parameters := [], returnType := none }, accessFlags := 1, code := none }
/-- java/lang/Object -/
def k0 : Class := { plain "java/lang/Object" none with
  accessFlags := 33
  interfaces := #[]
  cf := some (fileOf pool0 8 #[] #[{ accessFlags := 1, nameIndex := 5, descriptorIndex := 6, attributes := #[] }] 33 0 #[] #[])
  fields := #[]
  methods := #[k0m0]
  instanceTypes := #[]
  staticTypes := #[]
  resolved := Array.replicate 124 none
  statics := none }

def pool1 : Array CpInfo := pool [(2, .class_ 4), (1, u "java/lang/Object"), (0, u "<init>"), (0, u "()V"), (0, .double 4620693217682128896), (1, .methodref 10 11), (0, .class_ 12), (0, .nameAndType 13 14), (0, u "org/rupturecast/etas/EtasModel"), (0, u "foldedDepthKm"), (0, u "(D)D"), (0, .class_ 16), (0, u "org/rupturecast/etas/EtasModelFoldedDepthKmPinLaw"), (2, u "law"), (0, u "(I)Z")] 3

def k1m0 : Method := { name := "<init>", desc := "()V", sig := { parameters := [], returnType := none }, accessFlags := 1, code := none }
def k1c1 : Code := { maxStack := 4, maxLocals := 9, code := code, exceptionTable := #[], attributes := #[] }
def k1m1 : Method := { name := "law", desc := "(I)Z", sig := { parameters := [.int], returnType := some .boolean }, accessFlags := 9, code := some k1c1 }
/-- org/rupturecast/etas/EtasModelFoldedDepthKmPinLaw -/
def k1 : Class := { plain "org/rupturecast/etas/EtasModelFoldedDepthKmPinLaw" (some 0) with
  accessFlags := 49
  interfaces := #[]
  cf := some (fileOf pool1 15 #[] #[{ accessFlags := 1, nameIndex := 5, descriptorIndex := 6, attributes := #[] }, { accessFlags := 9, nameIndex := 19, descriptorIndex := 20, attributes := #[] }] 49 2 #[] #[])
  fields := #[]
  methods := #[k1m0, k1m1]
  instanceTypes := #[]
  staticTypes := #[]
  resolved := Array.replicate 24 none
  statics := none }

def pool2 : Array CpInfo := pool [(2, .class_ 4), (1, u "java/lang/Object"), (0, u "<init>"), (0, u "()V"), (0, .class_ 8), (0, u "java/lang/Record")] 13

def k2m0 : Method := { name := "<init>", desc := "()V", sig := { parameters := [], returnType := none }, accessFlags := 4, code := none }
/-- java/lang/Record -/
def k2 : Class := { plain "java/lang/Record" (some 0) with
  accessFlags := 1057
  interfaces := #[]
  cf := some (fileOf pool2 7 #[] #[{ accessFlags := 4, nameIndex := 5, descriptorIndex := 6, attributes := #[] }] 1057 2 #[] #[])
  fields := #[]
  methods := #[k2m0]
  instanceTypes := #[]
  staticTypes := #[]
  resolved := Array.replicate 22 none
  statics := none }

def pool3 : Array CpInfo := pool [(2, .class_ 4), (1, u "java/lang/Record"), (3, u "k"), (0, .class_ 10), (0, u "org/rupturecast/etas/EtasModel"), (7, u "p"), (3, u "alpha"), (16, u "D"), (4, u "cYears"), (4, u "minMagnitude"), (2, u "maxMagnitude"), (2, u "bValue"), (26, u "LN_10"), (3, u "(D)D"), (10, .double 4631952216750555136), (1, .double 4627448617123184640), (30, u "DEFAULT_K"), (1, u "DEFAULT_P"), (0, u "DEFAULT_C_YEARS"), (0, u "DEFAULT_ALPHA"), (2, u "DEFAULT_MIN_MAGNITUDE"), (0, u "DEFAULT_MAX_MAGNITUDE"), (0, u "DEFAULT_B_VALUE"), (0, u "DISTANCE_D_KM"), (0, u "DISTANCE_Q"), (2, u "MAX_DEPTH_KM"), (0, u "AT_LEAST_0"), (0, u "Ljava/lang/String;"), (0, u "ABOVE_0"), (12, u "foldedDepthKm")] 41

def k3c0 : Code := { maxStack := 4, maxLocals := 6, code := prog_26_method_8_code, exceptionTable := #[], attributes := #[] }
def k3m0 : Method := { name := "foldedDepthKm", desc := "(D)D", sig := { parameters := [.double], returnType := some .double }, accessFlags := 8, code := some k3c0 }
/-- org/rupturecast/etas/EtasModel -/
def k3 : Class := { plain "org/rupturecast/etas/EtasModel" (some 2) with
  accessFlags := 49
  interfaces := #[]
  cf := some (fileOf pool3 9 #[] #[{ accessFlags := 8, nameIndex := 160, descriptorIndex := 86, attributes := #[] }] 49 2 #[] #[{ accessFlags := 18, nameIndex := 8, descriptorIndex := 39, attributes := #[] }, { accessFlags := 18, nameIndex := 18, descriptorIndex := 39, attributes := #[] }, { accessFlags := 18, nameIndex := 44, descriptorIndex := 39, attributes := #[] }, { accessFlags := 18, nameIndex := 22, descriptorIndex := 39, attributes := #[] }, { accessFlags := 18, nameIndex := 49, descriptorIndex := 39, attributes := #[] }, { accessFlags := 18, nameIndex := 52, descriptorIndex := 39, attributes := #[] }, { accessFlags := 18, nameIndex := 55, descriptorIndex := 39, attributes := #[] }, { accessFlags := 25, nameIndex := 130, descriptorIndex := 39, attributes := #[] }, { accessFlags := 25, nameIndex := 132, descriptorIndex := 39, attributes := #[] }, { accessFlags := 25, nameIndex := 133, descriptorIndex := 39, attributes := #[] }, { accessFlags := 25, nameIndex := 134, descriptorIndex := 39, attributes := #[] }, { accessFlags := 25, nameIndex := 137, descriptorIndex := 39, attributes := #[] }, { accessFlags := 25, nameIndex := 138, descriptorIndex := 39, attributes := #[] }, { accessFlags := 25, nameIndex := 139, descriptorIndex := 39, attributes := #[] }, { accessFlags := 25, nameIndex := 140, descriptorIndex := 39, attributes := #[] }, { accessFlags := 25, nameIndex := 141, descriptorIndex := 39, attributes := #[] }, { accessFlags := 25, nameIndex := 144, descriptorIndex := 39, attributes := #[] }, { accessFlags := 26, nameIndex := 82, descriptorIndex := 39, attributes := #[] }, { accessFlags := 26, nameIndex := 145, descriptorIndex := 146, attributes := #[] }, { accessFlags := 26, nameIndex := 147, descriptorIndex := 146, attributes := #[] }])
  fields := #[{ name := "k", type := .double, accessFlags := 18, slot := 0, constantValue := 0 }, { name := "p", type := .double, accessFlags := 18, slot := 1, constantValue := 0 }, { name := "cYears", type := .double, accessFlags := 18, slot := 2, constantValue := 0 }, { name := "alpha", type := .double, accessFlags := 18, slot := 3, constantValue := 0 }, { name := "minMagnitude", type := .double, accessFlags := 18, slot := 4, constantValue := 0 }, { name := "maxMagnitude", type := .double, accessFlags := 18, slot := 5, constantValue := 0 }, { name := "bValue", type := .double, accessFlags := 18, slot := 6, constantValue := 0 }, { name := "DEFAULT_K", type := .double, accessFlags := 25, slot := 0, constantValue := 0 }, { name := "DEFAULT_P", type := .double, accessFlags := 25, slot := 1, constantValue := 0 }, { name := "DEFAULT_C_YEARS", type := .double, accessFlags := 25, slot := 2, constantValue := 0 }, { name := "DEFAULT_ALPHA", type := .double, accessFlags := 25, slot := 3, constantValue := 0 }, { name := "DEFAULT_MIN_MAGNITUDE", type := .double, accessFlags := 25, slot := 4, constantValue := 0 }, { name := "DEFAULT_MAX_MAGNITUDE", type := .double, accessFlags := 25, slot := 5, constantValue := 0 }, { name := "DEFAULT_B_VALUE", type := .double, accessFlags := 25, slot := 6, constantValue := 0 }, { name := "DISTANCE_D_KM", type := .double, accessFlags := 25, slot := 7, constantValue := 0 }, { name := "DISTANCE_Q", type := .double, accessFlags := 25, slot := 8, constantValue := 0 }, { name := "MAX_DEPTH_KM", type := .double, accessFlags := 25, slot := 9, constantValue := 0 }, { name := "LN_10", type := .double, accessFlags := 26, slot := 10, constantValue := 0 }, { name := "AT_LEAST_0", type := (.object "java/lang/String"), accessFlags := 26, slot := 11, constantValue := 0 }, { name := "ABOVE_0", type := (.object "java/lang/String"), accessFlags := 26, slot := 12, constantValue := 0 }]
  methods := #[k3m0]
  instanceTypes := #[.double, .double, .double, .double, .double, .double, .double]
  staticTypes := #[.double, .double, .double, .double, .double, .double, .double, .double, .double, .double, .double, (.object "java/lang/String"), (.object "java/lang/String")]
  resolved := Array.replicate 202 none
  statics := none }

def pool4 : Array CpInfo := pool [(1, u "java/lang/Cloneable"), (0, .class_ 1), (0, u "java/lang/Object"), (0, .class_ 3)] 3

/-- java/lang/Cloneable -/
def k4 : Class := { plain "java/lang/Cloneable" (some 0) with
  accessFlags := 1537
  interfaces := #[]
  cf := some (fileOf pool4 2 #[] #[] 1537 4 #[] #[])
  fields := #[]
  methods := #[]
  instanceTypes := #[]
  staticTypes := #[]
  resolved := Array.replicate 8 none
  statics := none }

def pool5 : Array CpInfo := pool [(1, u "java/io/Serializable"), (0, .class_ 1), (0, u "java/lang/Object"), (0, .class_ 3)] 3

/-- java/io/Serializable -/
def k5 : Class := { plain "java/io/Serializable" (some 0) with
  accessFlags := 1537
  interfaces := #[]
  cf := some (fileOf pool5 2 #[] #[] 1537 4 #[] #[])
  fields := #[]
  methods := #[]
  instanceTypes := #[]
  staticTypes := #[]
  resolved := Array.replicate 8 none
  statics := none }

/-- the primitive byte -/
def k6 : Class := { plain "byte" none with kind := .primitive 'B', accessFlags := 0x411 }
/-- [B -/
def k7 : Class := { plain "[B" (some 0) with kind := .array 6 .byte, interfaces := #[4, 5], accessFlags := 1041 }

/-- the primitive int -/
def k8 : Class := { plain "int" none with kind := .primitive 'I', accessFlags := 0x411 }
/-- [I -/
def k9 : Class := { plain "[I" (some 0) with kind := .array 8 .int, interfaces := #[4, 5], accessFlags := 1041 }

def heap : Heap := #[]
def classes : Array Class := #[k0, k1, k2, k3, k4, k5, k6, k7, k8, k9]
def interned : List (Array UInt16 × Addr) := []
def slotsUsed : Nat := 0
def theMethod : MethodId := ⟨1, 1⟩
def args0 : Array Value := #[.int 5]
def aboutOver (below : List Frame) : State where
  vm := { classes := classes, interned := interned.toArray }
  heap := heap
  slotsUsed := slotsUsed
  threads := #[{ frames := .invoking theMethod args0 :: below }]
def below0 : List Frame := [.native { method := ⟨0, 0⟩, args := #[] }]
def about1 : State := aboutOver below0
def p0 : Program := .bare "" "" ""
def e0 : Env := launch0.env 0 0 0
theorem w_frames : about1.frames = Frame.invoking theMethod args0 :: below0 := rfl
set_option maxRecDepth 65536 in
theorem w_args : argsFit about1.vm theMethod args0 = true := by decide +kernel
set_option maxRecDepth 65536 in
theorem w_heap : heapFits about1 = true := by decide +kernel
set_option maxRecDepth 65536 in
theorem w_runnable : about1.curStatus? = some .runnable := by decide +kernel
set_option maxRecDepth 65536 in
theorem w_alone : about1.alone = true := by decide +kernel
set_option maxRecDepth 65536 in
theorem w_named : about1.methodNamed? x = some theMethod := by decide +kernel
set_option maxRecDepth 65536 in
theorem w_hears : about1.hears theMethod below0 = true := by decide +kernel
set_option maxRecDepth 65536 in
theorem w_ripe : about1.ripe theMethod args0 below0 = true := by decide +kernel
theorem w_running : about1.status = .running := rfl
set_option maxRecDepth 65536 in
theorem w_room : about1.hasRoom e0.platform room_1 = true :=
  launch0.hasRoom_least _ room_1 (by decide +kernel) (by decide +kernel) (by decide +kernel) (by decide +kernel) (by decide +kernel) (by decide +kernel)
theorem allAtoms_all (ts : List Jvm.Cond) (a : Array Jvm.Value) (st : Jvm.State) : (allAtoms ts).before a st = ts.all (fun c => c.before a st) := by
  induction ts with
  | nil => rfl
  | cons c t ih =>
    show (Jvm.Cond.and c (allAtoms t)).before a st = _
    rw [Jvm.Cond.before_and, ih, List.all_cons]
def words1 : List Jvm.Cond := Jvm.Cond.code x code maxLocals ret :: tables_1
/-- a 'code' word, met by the world's own term for the bytes: nothing is compared byte by byte -/
theorem code_word {y : MethodName} {bytes : ByteArray} {mx : Nat} {rt : Option FieldType} {a : Array Value} {s : State} {m : MethodId} {meth : Method} {c : Code} (h1 : s.methodNamed? y = some m) (h2 : s.vm.method? m = some meth) (h3 : meth.code = some c) (h4 : c.code = bytes)
    (h5 : (c.maxLocals == mx && c.exceptionTable.isEmpty && decide (c.maxStack ≤ mostOperands) && decide (meth.sig.returnType = rt) && !meth.locks && decide (parseMethodDescriptor y.desc = some meth.sig)) = true) : (Jvm.Cond.code y bytes mx rt).before a s = true := by
  simp only [Bool.and_eq_true, beq_iff_eq, Bool.not_eq_true', decide_eq_true_eq] at h5
  obtain ⟨⟨⟨⟨⟨g1, g2⟩, g3⟩, g4⟩, g5⟩, g6⟩ := h5
  simp [Cond.before, Cond.holds, Cond.value, h1, h2, h3, h4, g1, g2, g3, g4, g5, g6]
def isCode : Jvm.Cond → Bool
  | .code _ _ _ _ => true
  | _ => false
theorem all_split {L : List Jvm.Cond} {P : Jvm.Cond → Bool} (h1 : L.all (fun c => isCode c || P c) = true) (h2 : ∀ c ∈ L.filter isCode, P c = true) : L.all P = true := by
  refine List.all_eq_true.mpr fun c hc => ?_
  have h := List.all_eq_true.mp h1 c hc
  rcases Bool.eq_false_or_eq_true (isCode c) with hi | hi
  · exact h2 c (List.mem_filter.mpr ⟨hc, hi⟩)
  · simpa [hi] using h
set_option maxRecDepth 65536 in
theorem w_c0 : (Jvm.Cond.code x code maxLocals ret).before args0 about1 = true := code_word (m := ⟨1, 1⟩) (meth := k1m1) (c := k1c1) (by decide +kernel) rfl rfl rfl (by decide +kernel)
set_option maxRecDepth 65536 in
theorem w_c1 : (Jvm.Cond.code ({ cls := "org/rupturecast/etas/EtasModel", name := "foldedDepthKm", desc := "(D)D" } : Jvm.MethodName) prog_26_method_8_code (6 : Nat) (Option.some Jvm.ClassFile.FieldType.double)).before args0 about1 = true := code_word (m := ⟨3, 0⟩) (meth := k3m0) (c := k3c0) (by decide +kernel) rfl rfl rfl (by decide +kernel)
def codes1 : List Jvm.Cond := [Jvm.Cond.code x code maxLocals ret, Jvm.Cond.code ({ cls := "org/rupturecast/etas/EtasModel", name := "foldedDepthKm", desc := "(D)D" } : Jvm.MethodName) prog_26_method_8_code (6 : Nat) (Option.some Jvm.ClassFile.FieldType.double)]
set_option maxRecDepth 65536 in
theorem codes_eq : words1.filter isCode = codes1 := rfl
theorem w_codes : ∀ c ∈ words1.filter isCode, c.before args0 about1 = true := by
  rw [codes_eq]
  intro c hc
  simp only [codes1, List.mem_cons, List.not_mem_nil, or_false] at hc
  rcases hc with rfl | rfl
  · exact w_c0
  · exact w_c1
set_option maxRecDepth 65536 in
theorem w_t1 : words1.all (fun c => isCode c || c.before args0 about1) = true := by decide +kernel
theorem w_tables : (allAtoms (Jvm.Cond.code x code maxLocals ret :: tables_1)).before args0 about1 = true := by
  rw [allAtoms_all]
  show words1.all (fun c => c.before args0 about1) = true
  refine all_split ?_ w_codes
  rw [w_t1]
set_option maxRecDepth 65536 in
theorem w_case : (Jvm.Cond.and given_1 narrow_1).before args0 about1 = true := by decide +kernel
theorem w_applies : (headSpec (Jvm.Cond.code x code maxLocals ret :: tables_1) room_1).applies x e0.platform about1 = true :=
  (Spec.applies_iff w_frames).mpr ⟨w_running, w_runnable, w_alone, w_named, w_hears, w_ripe, w_room, w_tables⟩
theorem atStart : AtStart classFile x code maxLocals ret World_1 tables_1 room_1 Calls_1 rest_1 Pre_1 launch0 p0 e0 about1 theMethod args0 below0 :=
  ⟨lists_1, trivial, launch0.admits_env _ _ _, launch0.least_env, fairChoices_fair.cas, fairChoices_fair.clock, w_frames, w_args, w_heap, w_applies, trivial, trivial, w_case⟩
end start1
theorem witness_1 : WitnessClaimed_1 := ⟨start1.p0, start1.e0, start1.about1, start1.theMethod, start1.args0, start1.below0, start1.atStart⟩
end Jvm.Pilot.@@N@@
