import JvmDerived
import JvmDerived.Pilot.@@N@@Statement
import JvmDerived.Pilot.@@N@@Code
set_option linter.unusedVariables false
set_option linter.unusedSimpArgs false
namespace Jvm.Pilot.@@N@@
open Jvm Jvm.ClassFile Sem Op Lib Jvm.Free Jvm.Stand Jvm.LawKit Jvm.RoadKit Bundle Jvm.Pilot.@@N@@.Jvm.D
section Own
variable {p : Program} {l : Launch} {e : Env} {R : Room} {s : State} {m : MethodId} {args : Array Value} {below : List Frame} {meth : Method} {c : Code} {T : State} {locs : List Loc} {cells slots : Nat}
/-- the run from A ends, returns what Q says, and has made and written no more than told -/
def Dn (p : Program) (e : Env) (below : List Frame) (s : State) (Q : Option Value → Heap → List Loc → Prop) (rc rs : Nat) (A : State) : Prop :=
  ∃ s₂ o, Steps p.tables e below A s₂ ∧ s₂.status = .running ∧ Ended s₂ below o ∧ ∃ v L, o = .returned v ∧ Q v s₂.heap L ∧ FrameEnd s o s₂ L rc rs
theorem Dn.st {Q : Option Value → Heap → List Loc → Prop} {rc rs : Nat} {A B : State} (h : ∀ t, Steps p.tables e below B t → Steps p.tables e below A t) (k : Dn p e below s Q rc rs B) : Dn p e below s Q rc rs A := by
  obtain ⟨s2, o, h1, h2⟩ := k; exact ⟨s2, o, h _ h1, h2⟩
theorem Dn.tr {Q : Option Value → Heap → List Loc → Prop} {rc rs : Nat} {A B : State} (h : Steps p.tables e below A B) (k : Dn p e below s Q rc rs B) : Dn p e below s Q rc rs A := by
  obtain ⟨s2, o, h1, h2⟩ := k; exact ⟨s2, o, h.trans h1, h2⟩
theorem Dn.ret (X : Stand p l e R s m args below meth c T locs cells slots) (hlk : meth.locks = false) (hx : p.tables.exec = Jvm.exec) {pc : Nat} {Ls : Array Slot} {w : Value} {t : FieldType} {i : Instr} {rest : List Value} (hret : meth.sig.returnType = some t) (hn : narrow t w = w)
    (hi : (i = .ireturn ∧ (t = .int ∨ t = .boolean ∨ t = .byte ∨ t = .char ∨ t = .short) ∧ ∃ z, w = .int z) ∨ (i = .lreturn ∧ t = .long ∧ ∃ z, w = .long z) ∨ (i = .dreturn ∧ t = .double ∧ ∃ z, w = .double z) ∨ (i = .freturn ∧ t = .float ∧ ∃ z, w = .float z) ∨ (i = .areturn ∧ t.isReference = true ∧ w.isRef = true))
    (hd : decode c.code pc = .ok (i, 1)) {Q : Option Value → Heap → List Loc → Prop} {rc rs : Nat} (hq : Q (some w) T.heap locs) (hc : cells ≤ rc) (hs : slots ≤ rs) : Dn p e below s Q rc rs (T.setTop (mkF m pc Ls (w :: rest))) := by
  obtain ⟨fs, hr, hrun, hended, hW, hsame⟩ := X.leave (v := some w) (fun h => by rw [hret] at h; cases h) hlk
  exact ⟨_, _, retOut X hx hret hn hi hd hr, hrun, hended, _, _, rfl, hq, ⟨_, rfl⟩, hW, hsame.mono hc hs⟩
theorem Dn.ret0 (X : Stand p l e R s m args below meth c T locs cells slots) (hlk : meth.locks = false) (hx : p.tables.exec = Jvm.exec) {pc : Nat} {Ls : Array Slot} (hret : meth.sig.returnType = none)
    (hd : decode c.code pc = .ok (.return_, 1)) {Q : Option Value → Heap → List Loc → Prop} {rc rs : Nat} (hq : Q none T.heap locs) (hc : cells ≤ rc) (hs : slots ≤ rs) : Dn p e below s Q rc rs (T.setTop (mkF m pc Ls [])) := by
  obtain ⟨fs, hr, hrun, hended, hW, hsame⟩ := X.leave (v := none) (fun _ => rfl) hlk
  exact ⟨_, _, X.returnOut hx hret hd hr, hrun, hended, _, _, rfl, hq, ⟨_, rfl⟩, hW, hsame.mono hc hs⟩
theorem own_iincW {tb : Tables} [Ours tb] {target : State} {g : JFrame} (h : At T m c below) (hx : tb.exec = Jvm.exec) (hg : g.method = m) {k : Nat} {cst : Int} {x : Int32} {l' : Array Slot} (hd : decode c.code g.pc = .ok (.iinc k cst, 6)) (hl : g.locals[k]? = some (.val (.int x))) (hl' : storeLocals g.locals k (.int (x + Int32.ofInt cst)) = some l')
    (hr : Steps tb e below (T.setTop { g with pc := g.pc + 6, locals := l' }) target) : Steps tb e below (T.setTop g) target := by
  subst hg
  jvm_step h [h.top, hx, hd, hl, hl']
  exact hr
theorem own_dremS {tb : Tables} [Ours tb] {target : State} {g : JFrame} (h : At T m c below) (hx : tb.exec = Jvm.exec) (hg : g.method = m) {x y v : UInt64} {rest : List Value} (hd : decode c.code g.pc = .ok (.drem, 1)) (hs : g.stack = .double y :: .double x :: rest) (hn : Jvm.Free.Fl.NoNaN64 (FP.drem x y)) (hv : FP.drem x y = v)
    (hr : Steps tb e below (T.setTop { g with pc := g.pc + 1, stack := .double v :: rest }) target) : Steps tb e below (T.setTop g) target := by
  subst hg; subst hv
  obtain ⟨gm, gp, gl, gs, gk, ge, gr⟩ := g
  simp only at hs hd
  subst hs
  jvm_step h [h.top, hx, hd, Op.drem.at_number h.top hn]
  exact hr
end Own
section Dyad
open Jvm.FP Jvm.FP.Core Jvm.Free.Fl
/-- the datum with its exponent moved by k -/
def sft (k : Nat) : Datum → Datum
  | .nan => .nan
  | .inf s => .inf s
  | .fin s c q => .fin s c (q + (k : Int))
/-- x is the number i / 2^k -/
def DS (k : Nat) (i : Int) (x : UInt64) : Prop := Whole i (sft k (val64 x))
theorem sft_zero (d : Datum) : sft 0 d = d := by
  cases d with
  | nan => rfl
  | inf s => rfl
  | fin s c q => show Datum.fin s c (q + ((0 : Nat) : Int)) = _; rw [Int.natCast_zero, Int.add_zero]
theorem sft_sum (k : Nat) (x y : Datum) : exactSum (sft k x) (sft k y) = sft k (exactSum x y) := by
  cases x with
  | nan => rfl
  | inf s =>
    cases y with
    | nan => rfl
    | inf t => show (if s = t then Datum.inf s else .nan) = sft k (if s = t then Datum.inf s else .nan); split <;> rfl
    | fin t d r => rfl
  | fin s c q =>
    cases y with
    | nan => rfl
    | inf t => rfl
    | fin t d r =>
      have h : min (q + (k : Int)) (r + k) = min q r + k := by omega
      have h1 : q + (k : Int) - (min q r + k) = q - min q r := by omega
      have h2 : r + (k : Int) - (min q r + k) = r - min q r := by omega
      have hu : sumUnits s c (q + k) t d (r + k) (min (q + k) (r + k)) = sumUnits s c q t d r (min q r) := by
        show signed s (c * 2 ^ (q + (k : Int) - min (q + k) (r + k)).toNat) + signed t (d * 2 ^ (r + (k : Int) - min (q + k) (r + k)).toNat) = signed s (c * 2 ^ (q - min q r).toNat) + signed t (d * 2 ^ (r - min q r).toNat)
        rw [h, h1, h2]
      show Datum.fin (sumSign s t (sumUnits s c (q + k) t d (r + k) (min (q + k) (r + k)))) (sumUnits s c (q + k) t d (r + k) (min (q + k) (r + k))).natAbs (min (q + k) (r + k)) = Datum.fin (sumSign s t (sumUnits s c q t d r (min q r))) (sumUnits s c q t d r (min q r)).natAbs (min q r + k)
      rw [hu, h]
theorem sft_negate (k : Nat) (x : Datum) : negate (sft k x) = sft k (negate x) := by cases x <;> rfl
theorem sft_product (k m : Nat) (x y : Datum) : exactProduct (sft k x) (sft m y) = sft (k + m) (exactProduct x y) := by
  cases x with
  | nan => rfl
  | inf s =>
    cases y with
    | nan => rfl
    | inf t => rfl
    | fin t d r => show (if d = 0 then Datum.nan else .inf (s != t)) = sft (k + m) (if d = 0 then Datum.nan else .inf (s != t)); split <;> rfl
  | fin s c q =>
    cases y with
    | nan => rfl
    | inf t => show (if c = 0 then Datum.nan else .inf (s != t)) = sft (k + m) (if c = 0 then Datum.nan else .inf (s != t)); split <;> rfl
    | fin t d r =>
      show Datum.fin (s != t) (c * d) (q + k + (r + m)) = Datum.fin (s != t) (c * d) (q + r + ((k + m : Nat) : Int))
      congr 1; omega
theorem sft_order (k : Nat) (x y : Datum) : order (sft k x) (sft k y) = order x y := by
  cases x with
  | nan => rfl
  | inf s => cases y <;> rfl
  | fin s c q =>
    cases y with
    | nan => rfl
    | inf t => rfl
    | fin t d r =>
      have h : min (q + (k : Int)) (r + k) = min q r + k := by omega
      have h1 : q + (k : Int) - (min q r + k) = q - min q r := by omega
      have h2 : r + (k : Int) - (min q r + k) = r - min q r := by omega
      show some (compare (signed s (c * 2 ^ (q + (k : Int) - min (q + k) (r + k)).toNat)) (signed t (d * 2 ^ (r + (k : Int) - min (q + k) (r + k)).toNat))) = some (compare (signed s (c * 2 ^ (q - min q r).toNat)) (signed t (d * 2 ^ (r - min q r).toNat)))
      rw [h, h1, h2]
theorem b64_qmin : b64.qmin = -1074 := by decide +kernel
theorem b64_qmax : b64.qmax = 971 := by decide +kernel
theorem b64_tails : b64.tails = 4503599627370496 := by decide +kernel
theorem fits64 (s : Bool) (c : Nat) (q : Int) : Core.fits b64 (.fin s c q) ↔ c < 2 ^ 53 ∧ -1074 ≤ q ∧ q ≤ 971 ∧ (q = -1074 ∨ 4503599627370496 ≤ c) := by
  show (c < 2 ^ 53 ∧ b64.qmin ≤ q ∧ q ≤ b64.qmax ∧ (q = b64.qmin ∨ b64.tails ≤ c)) ↔ _
  rw [b64_qmin, b64_qmax, b64_tails]
/-- n / 2^k is a double, for n up to 2^53 and k up to 1022 -/
theorem natFitS (s : Bool) {n k : Nat} (hk : k ≤ 1022) (hn : n ≤ 2 ^ 53) :
    ∃ c q, Core.fits b64 (.fin s c q) ∧ n * 2 ^ (-(k : Int) - q).toNat = c * 1 * 2 ^ (q - -(k : Int)).toNat := by
  by_cases h0 : n = 0
  · subst h0
    exact ⟨0, b64.qmin, zero_fits good_b64 s, by simp⟩
  · obtain ⟨c, q, hf, hv⟩ := natFit good_b64 wide_b64 s (show n ≤ 2 ^ b64.p from hn)
    rw [fits64] at hf
    have hq : -52 ≤ q := by
      refine Int.not_lt.mp fun hlt => ?_
      have e1 : (q - 0).toNat = 0 := by omega
      have e2 : (0 - q).toNat = 53 + ((0 - q).toNat - 53) := by omega
      rw [e1, e2, Nat.pow_add] at hv
      have p := Nat.two_pow_pos ((0 - q).toNat - 53)
      have : 2 ^ 53 * 1 ≤ 2 ^ 53 * 2 ^ ((0 - q).toNat - 53) := Nat.mul_le_mul_left _ p
      have : 1 * (2 ^ 53 * 2 ^ ((0 - q).toNat - 53)) ≤ n * (2 ^ 53 * 2 ^ ((0 - q).toNat - 53)) := Nat.mul_le_mul_right _ (by omega)
      omega
    refine ⟨c, q - k, (fits64 _ _ _).mpr ⟨hf.1, by omega, by omega, Or.inr (hf.2.2.2.resolve_left (by omega))⟩, ?_⟩
    rw [show -(k : Int) - (q - k) = 0 - q by omega, show q - k - -(k : Int) = q - 0 by omega]
    exact hv
theorem whole_signed {i : Int} {s : Bool} {c : Nat} {q : Int} (h : Whole i (.fin s c q)) : signed s i.natAbs = i := by
  by_cases hi : i = 0
  · rw [hi]; exact signed_zero s
  · rw [whole_sign h hi]; unfold signed
    by_cases h : i < 0 <;> simp [h] <;> omega
theorem ds_round {k : Nat} {i : Int} {d : Datum} (hk : k ≤ 1022) (hi : i.natAbs ≤ 2 ^ 53) (h : Whole i (sft k d)) : Whole i (sft k (Core.round b64 d)) := by
  cases d with
  | nan => exact h.elim
  | inf s => exact h.elim
  | fin s c q =>
    have hs := whole_signed h
    have h1 := whole_natAbs h
    obtain ⟨c', q', hfit, hv⟩ := natFitS s hk hi
    have e1 : Core.round b64 (.fin s c q) = roundRatio b64 s i.natAbs 1 (-(k : Int)) := by
      refine roundRatio_congr (by decide) (by decide) ?_
      rw [show q - -(k : Int) = q + k by omega, show -(k : Int) - q = -(q + k) by omega]
      simpa using h1
    rw [e1, roundRatio_exact good_b64 (by decide) hfit hv]
    show signed s (c' * 2 ^ (q' + (k : Int)).toNat) = i * _
    rw [show -(k : Int) - q' = -(q' + k) by omega, show q' - -(k : Int) = q' + k by omega, Nat.mul_one] at hv
    rw [← hv, signed_mul, hs]
theorem DS.nn {k : Nat} {i : Int} {x : UInt64} (h : DS k i x) : NoNaN64 x := val64_no.mpr fun q => by
  unfold DS at h; rw [q] at h; exact h.elim
theorem DS.fin {k : Nat} {i : Int} {x : UInt64} (h : DS k i x) : ∃ s c q, val64 x = .fin s c q ∧ Whole i (.fin s c (q + (k : Int))) := by
  unfold DS at h
  cases e : val64 x with
  | nan => rw [e] at h; exact h.elim
  | inf s => rw [e] at h; exact h.elim
  | fin s c q => rw [e] at h; exact ⟨s, c, q, rfl, h⟩
theorem DS.lit {k : Nat} {i : Int} {x : UInt64} {s : Bool} {c : Nat} {q : Int} (hv : val64 x = .fin s c q) (he : signed s (c * 2 ^ (q + (k : Int)).toNat) = i * ((2 ^ (-(q + (k : Int))).toNat : Nat) : Int)) : DS k i x := by
  unfold DS; rw [hv]; exact he
theorem DS.i2d (v : Int32) : DS 0 v.toInt (FP.i2d v) := by unfold DS; rw [sft_zero]; exact i2d_int v
theorem DS.l2d {v : Int64} (h : v.toInt.natAbs ≤ 2 ^ 53) : DS 0 v.toInt (FP.l2d v) := by unfold DS; rw [sft_zero]; exact l2d_int h
theorem DS.dint {i : Int} {x : UInt64} (h : DS 0 i x) : DInt i x := by unfold DS at h; rw [sft_zero] at h; exact h
theorem DS.zero (k : Nat) : DS k 0 0 := DS.lit (s := false) (c := 0) (q := -1074) (by decide +kernel) (by rw [Nat.zero_mul, Int.zero_mul]; rfl)
theorem DS.add {k : Nat} {i j : Int} {x y : UInt64} (hx : DS k i x) (hy : DS k j y) (hb : (i + j).natAbs ≤ 2 ^ 53) (hk : k ≤ 1022) : DS k (i + j) (FP.dadd x y) := by
  show Whole _ (sft k (val64 (Core.dadd x y)))
  rw [val64_dadd]; refine ds_round hk hb ?_; rw [← sft_sum]; exact whole_sum hx hy
theorem DS.sub {k : Nat} {i j : Int} {x y : UInt64} (hx : DS k i x) (hy : DS k j y) (hb : (i - j).natAbs ≤ 2 ^ 53) (hk : k ≤ 1022) : DS k (i - j) (FP.dsub x y) := by
  show Whole _ (sft k (val64 (Core.dsub x y)))
  rw [val64_dsub]; refine ds_round hk hb ?_; rw [← sft_sum, ← sft_negate, Int.sub_eq_add_neg]; exact whole_sum hx (whole_negate hy)
theorem DS.mul {k m : Nat} {i j : Int} {x y : UInt64} (hx : DS k i x) (hy : DS m j y) (hb : (i * j).natAbs ≤ 2 ^ 53) (hk : k + m ≤ 1022) : DS (k + m) (i * j) (FP.dmul x y) := by
  show Whole _ (sft (k + m) (val64 (Core.dmul x y)))
  rw [val64_dmul]; refine ds_round hk hb ?_; rw [← sft_product]; exact whole_product hx hy
theorem DS.cmp {k : Nat} {i j : Int} {x y : UInt64} (hx : DS k i x) (hy : DS k j y) : FP.dcmp x y = some (compare i j) := by
  show order (val64 x) (val64 y) = _
  rw [← sft_order k]; exact order_whole hx hy
/-- what dcmp pushes -/
def c3 (i j : Int) : Int32 := if i < j then -1 else if i = j then 0 else 1
theorem c3_lt (i j : Int) : c3 i j < 0 ↔ i < j := by unfold c3; split <;> (try split) <;> simp_all <;> first | decide | omega
theorem c3_gt (i j : Int) : 0 < c3 i j ↔ j < i := by unfold c3; split <;> (try split) <;> simp_all <;> first | decide | omega
theorem c3_eq (i j : Int) : c3 i j = 0 ↔ i = j := by unfold c3; split <;> (try split) <;> simp_all <;> first | decide | omega
theorem cmpV_int (i j : Int) (o : CmpOp) : cmpValue (some (compare i j)) o = c3 i j := by
  unfold c3
  by_cases h1 : i < j
  · have : compare i j = .lt := by simp [compare, compareOfLessAndEq, h1]
    rw [this, if_pos h1]; cases o <;> rfl
  · by_cases h2 : i = j
    · have : compare i j = .eq := by simp [compare, compareOfLessAndEq, h2]
      rw [this, if_neg h1, if_pos h2]; cases o <;> rfl
    · have : compare i j = .gt := by simp [compare, compareOfLessAndEq, h1, h2]
      rw [this, if_neg h1, if_neg h2]; cases o <;> rfl
theorem DS.cmpV {k : Nat} {i j : Int} {x y : UInt64} (hx : DS k i x) (hy : DS k j y) (o : CmpOp) : cmpValue (FP.dcmp x y) o = c3 i j := by rw [hx.cmp hy]; exact cmpV_int i j o
theorem whole_iff {i : Int} {s : Bool} {c : Nat} {q : Int} {N : Nat} (h : 0 ≤ q + N) : Whole i (.fin s c q) ↔ signed s c * ((2 ^ (q + N).toNat : Nat) : Int) = i * ((2 ^ N : Nat) : Int) := by
  show signed s (c * 2 ^ q.toNat) = i * ((2 ^ (-q).toNat : Nat) : Int) ↔ _
  rw [signed_mul]
  have e : q.toNat + N = (q + N).toNat + (-q).toNat := by omega
  have p1 : ((2 ^ N : Nat) : Int) ≠ 0 := by have := Nat.two_pow_pos N; omega
  have p2 : ((2 ^ (-q).toNat : Nat) : Int) ≠ 0 := by have := Nat.two_pow_pos (-q).toNat; omega
  have e1 : signed s c * ((2 ^ q.toNat : Nat) : Int) * ((2 ^ N : Nat) : Int) = signed s c * ((2 ^ (q + N).toNat : Nat) : Int) * ((2 ^ (-q).toNat : Nat) : Int) := by
    rw [Int.mul_assoc, Int.mul_assoc, ← Int.natCast_mul, ← Int.natCast_mul, ← Nat.pow_add, ← Nat.pow_add, e]
  constructor
  · intro hh
    refine Int.eq_of_mul_eq_mul_right p2 ?_
    rw [← e1, hh]; ac_rfl
  · intro hh
    refine Int.eq_of_mul_eq_mul_right p1 ?_
    rw [e1, hh]; ac_rfl
theorem DS.up {k : Nat} {i : Int} {x : UInt64} (h : DS k i x) (m : Nat) : DS (k + m) (i * ((2 ^ m : Nat) : Int)) x := by
  obtain ⟨s, c, q, e, hw⟩ := h.fin
  unfold DS; rw [e]
  show Whole _ (.fin s c (q + ((k + m : Nat) : Int)))
  rw [whole_iff (N := (-q).toNat) (by omega)]
  rw [whole_iff (N := (-q).toNat + m) (by omega)] at hw
  rw [show q + (k : Int) + (((-q).toNat + m : Nat) : Int) = q + ((k + m : Nat) : Int) + ((-q).toNat : Nat) by omega] at hw
  rw [hw, Nat.pow_add, Int.natCast_mul]; ac_rfl
theorem DS.cast {k k' : Nat} {i i' : Int} {x : UInt64} (h : DS k i x) (e1 : k = k') (e2 : i = i') : DS k' i' x := e1 ▸ e2 ▸ h
/-- the quotient, as the rounding of a ratio of whole numbers -/
theorem ds_quot {k m : Nat} {i j : Int} {x y : UInt64} (hx : DS k i x) (hy : DS m j y) (hj : j ≠ 0) :
    ∃ s t, signed s i.natAbs = i ∧ signed t j.natAbs = j ∧ val64 (FP.ddiv x y) = roundRatio b64 (s != t) i.natAbs j.natAbs ((m : Int) - k) := by
  obtain ⟨s, c, q, e, hw⟩ := hx.fin
  obtain ⟨t, d, r, e', hw'⟩ := hy.fin
  have hd : d ≠ 0 := fun z => hj ((whole_zero hw').mp z)
  have h1 := whole_natAbs hw
  have h2 := whole_natAbs hw'
  refine ⟨s, t, whole_signed hw, whole_signed hw', ?_⟩
  show val64 (Core.ddiv x y) = _
  rw [val64_ddiv, e, e']
  show (if d = 0 then _ else roundRatio b64 (s != t) c d (q - r)) = _
  rw [if_neg hd]
  have hj' : 0 < j.natAbs := by omega
  rw [roundRatio_congr (A' := i.natAbs) (B' := d) (e' := -(k : Int) - r) (by omega) (by omega) (by
    rw [show q - r - (-(k : Int) - r) = q + k by omega, show -(k : Int) - r - (q - r) = -(q + k) by omega, Nat.mul_right_comm, h1]; ac_rfl)]
  refine roundRatio_congr (by omega) hj' ?_
  rw [show -(k : Int) - r - ((m : Int) - k) = -(r + m) by omega, show (m : Int) - k - (-(k : Int) - r) = r + m by omega, Nat.mul_assoc, ← h2]; ac_rfl
theorem DS.div {k m n : Nat} {i j Q : Int} {x y : UInt64} (hx : DS k i x) (hy : DS m j y) (hj : j ≠ 0) (hQ : i * ((2 ^ (m + n) : Nat) : Int) = Q * j * ((2 ^ k : Nat) : Int)) (hb : Q.natAbs ≤ 2 ^ 53) (hn : n ≤ 1022) : DS n Q (FP.ddiv x y) := by
  obtain ⟨s, t, hs, ht, hv⟩ := ds_quot hx hy hj
  obtain ⟨c', q', hfit, hf⟩ := natFitS (s != t) hn hb
  have hj' : 0 < j.natAbs := by omega
  have hQn : i.natAbs * 2 ^ (m + n) = Q.natAbs * j.natAbs * 2 ^ k := by
    have := congrArg Int.natAbs hQ
    rwa [Int.natAbs_mul, Int.natAbs_mul, Int.natAbs_mul, Int.natAbs_natCast, Int.natAbs_natCast] at this
  have e1 : roundRatio b64 (s != t) i.natAbs j.natAbs ((m : Int) - k) = roundRatio b64 (s != t) Q.natAbs 1 (-(n : Int)) := by
    refine roundRatio_congr hj' (by decide) ?_
    rw [Nat.mul_one]
    have ea : m + n = ((m : Int) - k - -(n : Int)).toNat + min (m + n) k := by omega
    have eb : k = (-(n : Int) - ((m : Int) - k)).toNat + min (m + n) k := by omega
    generalize ((m : Int) - k - -(n : Int)).toNat = u at ea ⊢
    generalize (-(n : Int) - ((m : Int) - k)).toNat = w at eb ⊢
    have hQ2 : i.natAbs * 2 ^ (u + min (m + n) k) = Q.natAbs * j.natAbs * 2 ^ (w + min (m + n) k) := by rw [← ea, ← eb]; exact hQn
    rw [Nat.pow_add, Nat.pow_add, ← Nat.mul_assoc, ← Nat.mul_assoc] at hQ2
    exact Nat.eq_of_mul_eq_mul_right (Nat.two_pow_pos _) hQ2
  rw [e1, roundRatio_exact good_b64 (by decide) hfit hf] at hv
  unfold DS; rw [hv]
  show signed (s != t) (c' * 2 ^ (q' + (n : Int)).toNat) = Q * _
  rw [show -(n : Int) - q' = -(q' + n) by omega, show q' - -(n : Int) = q' + n by omega, Nat.mul_one] at hf
  rw [← hf, signed_mul]
  congr 1
  have hp : (0 : Int) < ((2 ^ (m + n) : Nat) : Int) := by have := Nat.two_pow_pos (m + n); omega
  have hp2 : (0 : Int) < ((2 ^ k : Nat) : Int) := by have := Nat.two_pow_pos k; omega
  generalize ((2 ^ (m + n) : Nat) : Int) = P1 at hQ hp
  generalize ((2 ^ k : Nat) : Int) = P2 at hQ hp2
  -- the sign of the quotient
  have key : signed (s != t) (Q.natAbs * (j.natAbs * j.natAbs)) = Q * (j.natAbs * j.natAbs : Nat) := by
    have e2 : signed (s != t) (i.natAbs * j.natAbs) = i * j := by rw [signed_xor, hs, ht]
    have e3 : i.natAbs * P1.natAbs = Q.natAbs * j.natAbs * P2.natAbs := by
      have := congrArg Int.natAbs hQ
      rwa [Int.natAbs_mul, Int.natAbs_mul, Int.natAbs_mul] at this
    have e4 : signed (s != t) (Q.natAbs * (j.natAbs * j.natAbs)) * P2 = Q * (j.natAbs * j.natAbs : Nat) * P2 := by
      have p2 : P2 = (P2.natAbs : Int) := by omega
      have p1 : P1 = (P1.natAbs : Int) := by omega
      calc signed (s != t) (Q.natAbs * (j.natAbs * j.natAbs)) * P2
          = signed (s != t) (Q.natAbs * (j.natAbs * j.natAbs) * P2.natAbs) := by rw [signed_mul _ (Q.natAbs * (j.natAbs * j.natAbs)), ← p2]
        _ = signed (s != t) (i.natAbs * j.natAbs * P1.natAbs) := by
            congr 1
            calc Q.natAbs * (j.natAbs * j.natAbs) * P2.natAbs = (Q.natAbs * j.natAbs * P2.natAbs) * j.natAbs := by ac_rfl
              _ = i.natAbs * j.natAbs * P1.natAbs := by rw [← e3]; ac_rfl
        _ = i * j * P1 := by rw [signed_mul, e2, ← p1]
        _ = (i * P1) * j := by ac_rfl
        _ = Q * (j * j) * P2 := by rw [hQ]; ac_rfl
        _ = Q * (j.natAbs * j.natAbs : Nat) * P2 := by rw [Int.natCast_mul, Int.natAbs_mul_self' j]
    exact Int.eq_of_mul_eq_mul_right (by omega) e4
  rw [signed_mul] at key
  exact Int.eq_of_mul_eq_mul_right (by have : 0 < j.natAbs * j.natAbs := Nat.mul_pos hj' hj'; omega) key
/-- by a power of two -/
theorem DS.divp {k t : Nat} {i : Int} {x y : UInt64} (hx : DS k i x) (hy : DS 0 ((2 ^ t : Nat) : Int) y) (hb : i.natAbs ≤ 2 ^ 53) (hn : k + t ≤ 1022) : DS (k + t) i (FP.ddiv x y) :=
  DS.div hx hy (by have := Nat.two_pow_pos t; omega) (by rw [Nat.zero_add, Nat.pow_add, Int.natCast_mul]; ac_rfl) hb hn
theorem sft_rem (k : Nat) (x y : Datum) : exactRemainder (sft k x) (sft k y) = sft k (exactRemainder x y) := by
  cases x with
  | nan => rfl
  | inf s => rfl
  | fin s c q =>
    cases y with
    | nan => rfl
    | inf t => rfl
    | fin t d r =>
      have h : min (q + (k : Int)) (r + k) = min q r + k := by omega
      have h1 : q + (k : Int) - (min q r + k) = q - min q r := by omega
      have h2 : r + (k : Int) - (min q r + k) = r - min q r := by omega
      show (if d = 0 then Datum.nan else .fin s (c * 2 ^ (q + (k : Int) - min (q + k) (r + k)).toNat % (d * 2 ^ (r + (k : Int) - min (q + k) (r + k)).toNat)) (min (q + k) (r + k))) = sft k (if d = 0 then Datum.nan else .fin s (c * 2 ^ (q - min q r).toNat % (d * 2 ^ (r - min q r).toNat)) (min q r))
      rw [h, h1, h2]; split <;> rfl
theorem signed_tmod {s : Bool} {i : Int} (hs : signed s i.natAbs = i) (j : Int) : signed s (i.natAbs % j.natAbs) = i.tmod j := by
  cases i with
  | ofNat a =>
    have e : Int.tmod (Int.ofNat a) j = ((a % j.natAbs : Nat) : Int) := by cases j <;> rfl
    rw [e]; show signed s (a % j.natAbs) = _
    have hs' : signed s a = (a : Int) := hs
    cases s with
    | false => rfl
    | true =>
      have h0 : a = 0 := by
        have : -(a : Int) = (a : Int) := hs'
        omega
      subst h0; rw [Nat.zero_mod]; rfl
  | negSucc a =>
    have e : Int.tmod (Int.negSucc a) j = -(((a + 1) % j.natAbs : Nat) : Int) := by cases j <;> rfl
    rw [e]; show signed s ((a + 1) % j.natAbs) = _
    cases s with
    | true => rfl
    | false =>
      have : ((a + 1 : Nat) : Int) = Int.negSucc a := hs
      omega
theorem whole_rem {i j : Int} {x y : Datum} (hx : Whole i x) (hy : Whole j y) (hj : j ≠ 0) : Whole (i.tmod j) (exactRemainder x y) := by
  cases x with
  | nan => exact hx.elim
  | inf => exact hx.elim
  | fin s c q =>
  cases y with
  | nan => exact hy.elim
  | inf => exact hy.elim
  | fin t d r =>
    have hd : d ≠ 0 := fun z => hj ((whole_zero hy).mp z)
    have h1 := congrArg Int.natAbs (whole_units hx (e := min q r) (by omega))
    have h2 := congrArg Int.natAbs (whole_units hy (e := min q r) (by omega))
    rw [Int.natAbs_mul, Int.natAbs_mul, Int.natAbs_natCast, Int.natAbs_natCast, natAbs_signed] at h1 h2
    show Whole _ (if d = 0 then _ else Datum.fin s (inUnits c q (min q r) % inUnits d r (min q r)) (min q r))
    rw [if_neg hd]
    show signed s (inUnits c q (min q r) % inUnits d r (min q r) * 2 ^ (min q r).toNat) = i.tmod j * ((2 ^ (-(min q r)).toNat : Nat) : Int)
    rw [← Nat.mul_mod_mul_right, h1, h2, Nat.mul_mod_mul_right, signed_mul, signed_tmod (whole_signed hx)]
theorem DS.rem {k : Nat} {i j : Int} {x y : UInt64} (hx : DS k i x) (hy : DS k j y) (hj : j ≠ 0) (hb : (i.tmod j).natAbs ≤ 2 ^ 53) (hk : k ≤ 1022) : DS k (i.tmod j) (FP.drem x y) := by
  show Whole _ (sft k (val64 (Core.drem x y)))
  rw [val64_drem]; refine ds_round hk hb ?_; rw [← sft_rem]; exact whole_rem hx hy hj
end Dyad
def own_o (x y : UInt64) : Int32 := cmpValue (FP.dcmp x y) .l
theorem own_og {x y : UInt64} (hx : Jvm.Free.Fl.NoNaN64 x) (hy : Jvm.Free.Fl.NoNaN64 y) : cmpValue (FP.dcmp x y) .g = own_o x y := by
  have h : FP.dcmp x y ≠ none := fun q => ((Jvm.FP.Core.dcmp_none x y).mp q).elim (Jvm.Free.Fl.val64_no.mp hx) (Jvm.Free.Fl.val64_no.mp hy)
  unfold own_o
  cases e : FP.dcmp x y with
  | none => exact absurd e h
  | some r => cases r <;> rfl
def own_bin (mm e0 e1 e2 e3 : UInt64) : UInt64 := if (0 : Int32) < own_o mm (4619229547803233485 : UInt64) then (if (0 : Int32) < own_o mm (4619792497756654797 : UInt64) then (if (0 : Int32) < own_o mm (4620355447710076109 : UInt64) then e3 else e2) else e1) else e0
theorem own_f100 : Jvm.Free.Fl.Fin64 (4636737291354636288 : UInt64) := by unfold Jvm.Free.Fl.Fin64; decide
theorem own_n100 : Jvm.Free.Fl.Nz64 (4636737291354636288 : UInt64) := by unfold Jvm.Free.Fl.Nz64; decide
theorem own_eqd {Z : State} {args : Array Value} {X F : Term} {idx : List Nat} {y : UInt64} (hF : F.eval args Z none idx Z = some (.double y)) (h : (Cond.eq X F).value args Z none Z idx = some true) : X.eval args Z none idx Z = some (.double y) := by
  obtain ⟨x, y', e1, e2, k1, k2⟩ := cmp_v (Or.inl h)
  cases hF.symm.trans e2
  obtain ⟨z, rfl⟩ : ∃ z, x = .double z := k2
  have q : z = y := by simpa [Cond.value, e1, hF] using h
  rw [e1, q]
theorem own_arr {Z : State} {args : Array Value} {t : Term} {a : Addr} {ty : FieldType} {n : Int32} (ht : t.eval args Z none [] Z = some (.ref a)) (hA : (Cond.arrayOf t ty).value args Z none Z [] = some true) (hL : (Cond.eq (Term.length t) (.int n)).value args Z none Z [] = some true) :
    ∃ cl, Arr Z Z.heap a cl ty ∧ cl.slots.size < 2 ^ 31 ∧ cl.slots.size.toInt32 = n := by
  obtain ⟨cl, A⟩ := Arr.start ht hA
  have e := eqv_i (Term.int_eval n) hL
  obtain ⟨a', cell, q1, q2, q3⟩ := Term.length_spec e
  cases ht.symm.trans q1
  have q4 := A.fin (Vm.Alike.refl _)
  cases q4.symm.trans q2
  refine ⟨cl, A, ?_, (Value.int.inj q3).symm⟩
  by_cases hq : cl.slots.size < 2 ^ 31
  · exact hq
  · simp [Term.eval, ht, q4, hq] at e
theorem own_el {Z : State} {args : Array Value} {t : Term} {a : Addr} {cl : Cell} {ty : FieldType} {j : Int32} {b : Int64} {u : UInt64} {k : Nat} (ht : t.eval args Z none [] Z = some (.ref a)) (A : Arr Z Z.heap a cl ty) (h : (Cond.eq (Term.elem t (.int j)) (Term.op1 .bitsD (.long b))).value args Z none Z [] = some true) (hu : b.toUInt64 = u) (hk : j.toNatClampNeg = k) : cl.slots[k]? = some (.double u) := by
  have e := own_eqd (y := u) (by rw [← hu]; rfl) h
  rw [← hk]; exact (elem_in e ht (Term.int_eval j) A.1).2
def own_exp (kk bb : Int32) : UInt64 := if kk = 0 then (if bb = 0 then (4600877379321698714 : UInt64) else if bb = 1 then (4599075939470750515 : UInt64) else if bb = 2 then (4596373779694328218 : UInt64) else (4591870180066957722 : UInt64)) else if kk = 1 then (if bb = 0 then (4602678819172646912 : UInt64) else if bb = 1 then (4600877379321698714 : UInt64) else if bb = 2 then (4599075939470750515 : UInt64) else (4596373779694328218 : UInt64)) else (if bb = 0 then (4603579539098121011 : UInt64) else if bb = 1 then (4602678819172646912 : UInt64) else if bb = 2 then (4600877379321698714 : UInt64) else (4599075939470750515 : UInt64))

theorem d1_0 : decode prog_71_method_4_code 0 = .ok (.iconst 0, 1) := by decide +kernel
theorem d1_1 : decode prog_71_method_4_code 1 = .ok (.istore_n 3, 1) := by decide +kernel
theorem d1_2 : decode prog_71_method_4_code 2 = .ok (.iload_n 3, 1) := by decide +kernel
theorem d1_3 : decode prog_71_method_4_code 3 = .ok (.getstatic 36, 3) := by decide +kernel
theorem d1_6 : decode prog_71_method_4_code 6 = .ok (.arraylength, 1) := by decide +kernel
theorem d1_7 : decode prog_71_method_4_code 7 = .ok (.if_icmp .ge 19, 3) := by decide +kernel
theorem d1_10 : decode prog_71_method_4_code 10 = .ok (.dload_n 1, 1) := by decide +kernel
theorem d1_11 : decode prog_71_method_4_code 11 = .ok (.getstatic 36, 3) := by decide +kernel
theorem d1_14 : decode prog_71_method_4_code 14 = .ok (.iload_n 3, 1) := by decide +kernel
theorem d1_15 : decode prog_71_method_4_code 15 = .ok (.daload, 1) := by decide +kernel
theorem d1_16 : decode prog_71_method_4_code 16 = .ok (.dcmp .l, 1) := by decide +kernel
theorem d1_17 : decode prog_71_method_4_code 17 = .ok (.ifCond .le 9, 3) := by decide +kernel
theorem d1_20 : decode prog_71_method_4_code 20 = .ok (.iinc 3 1, 3) := by decide +kernel
theorem d1_23 : decode prog_71_method_4_code 23 = .ok (.goto (-21), 3) := by decide +kernel
theorem d1_26 : decode prog_71_method_4_code 26 = .ok (.aload_n 0, 1) := by decide +kernel
theorem d1_27 : decode prog_71_method_4_code 27 = .ok (.getfield 32, 3) := by decide +kernel
theorem d1_30 : decode prog_71_method_4_code 30 = .ok (.iload_n 3, 1) := by decide +kernel
theorem d1_31 : decode prog_71_method_4_code 31 = .ok (.daload, 1) := by decide +kernel
theorem d1_32 : decode prog_71_method_4_code 32 = .ok (.dreturn, 1) := by decide +kernel
theorem pn0 : plainName "org/rupturecast/renewal/Aperiodicity" = true := by first | (simp [plainName, overriddenIn]; done) | decide +kernel
theorem ef1_rm1 (m : MethodId) (x0 : Addr) (x1 : UInt64) : entryFrame m #[(.ref x0), (.double x1)] 4 = mkF m 0 #[.val (.ref x0), .val (.double x1), .second, .unset] [] := by first | (simp [entryFrame, mkF, argsToLocals, Value.category]; done) | rfl
def Q1 (Z : State) (a : Addr) (mm : UInt64) (aB aX : Addr) (kB kX : ClassId) (y0 y1 y2 y3 : UInt64) (h0 : Heap) (n0 : Nat) (v : Option Value) (h : Heap) (L : List Loc) : Prop := v = some (.double (own_bin mm y0 y1 y2 y3)) ∧ Fr n0 L ∧ h = h0
set_option maxRecDepth 65536 in
set_option maxHeartbeats 40000000 in
theorem rm1 (l : Launch) (Z : State) (a0 : Array Value) (hw : ∀ d ∈ tables_1, d.before a0 Z = true) (ws : List Jvm.Cond) (a : Addr) (mm : UInt64) (aB aX : Addr) (kB kX : ClassId) (y0 y1 y2 y3 : UInt64) (h0 : Heap) (n0 : Nat) (Z0 : n0 ≤ h0.size) (S_B : Sta Z h0 "org/rupturecast/renewal/Aperiodicity" "BIN_TOPS" "[D" (.ref aB)) (V_B : Arv Z h0 aB kB .double 3 [(.double (4619229547803233485 : UInt64)), (.double (4619792497756654797 : UInt64)), (.double (4620355447710076109 : UInt64))] (.double 0)) (F_by : Fld Z h0 a "org/rupturecast/renewal/Aperiodicity" "byBin" "[D" (.ref aX)) (V_X : Arv Z h0 aX kX .double 4 [(.double y0), (.double y1), (.double y2), (.double y3)] (.double 0)) :
    MetFree l (⟨"org/rupturecast/renewal/Aperiodicity", "of", "(D)D"⟩ : MethodName) (head1 (Jvm.Cond.code (⟨"org/rupturecast/renewal/Aperiodicity", "of", "(D)D"⟩ : MethodName) prog_71_method_4_code 4 (some .double) :: ws) ({ frames := 0, cells := 0, slots := 0, locals := 0 } : Room)) (fun aa UU => aa = #[(.ref a), (.double mm)] ∧ Z.Warmed39 UU.vm ∧ UU.heap = h0) (fun _ _ _ _ _ => True) (fun _ UU oo UU' => ∃ vv LL, oo = .returned vv ∧ Q1 Z a mm aB aX kB kX y0 y1 y2 y3 h0 n0 vv UU'.heap LL ∧ FrameEnd UU oo UU' LL ({ frames := 0, cells := 0, slots := 0, locals := 0 } : Room).cells ({ frames := 0, cells := 0, slots := 0, locals := 0 } : Room).slots) := by
  refine MetFree.of_bodySF (plainFor_of_name pn0) hisR ?_
  intro p e s m args below meth c s₁ Bd hml0 hP hK
  obtain ⟨rfl, hZ, hh⟩ := hP
  have hx := Bd.exec
  have hby := Bd.bytes
  have hlk : meth.locks = false := BodyLoose.notSynchronized Bd
  have hret := Bd.returns
  have hml : c.maxLocals = 4 := hml0
  have hown : s.vm.findClass "org/rupturecast/renewal/Aperiodicity" = some m.cls := findClass_of_methodNamed Bd.named
  have hnm := (name_of_methodNamed Bd.named Bd.method).1
  have X0 : Stand p l e ({ frames := 0, cells := 0, slots := 0, locals := 0 } : Room) s m #[(.ref a), (.double mm)] below meth c s₁ [] 0 0 := Stand.of_body Bd
  have e0 : s₁.heap = h0 := by rw [← hh, Bd.state]; rfl
  have N0 := Fr.nil n0
  show Dn p e below s (Q1 Z a mm aB aX kB kX y0 y1 y2 y3 h0 n0) ({ frames := 0, cells := 0, slots := 0, locals := 0 } : Room).cells ({ frames := 0, cells := 0, slots := 0, locals := 0 } : Room).slots (s₁.setTop (entryFrame m #[(.ref a), (.double mm)] 4))
  refine Dn.st (fun _ kk => castTop (ef1_rm1 m a mm) kk) ?_
  show Dn p e below s _ _ _ (s₁.setTop (mkF m 0 #[.val (.ref a), .val (.double mm), .second, .unset] []))
  refine Dn.st (fun _ kk => XS.iconst X0.here hx rfl (hb hby d1_0) (XS.istoreN X0.here hx rfl (hb hby d1_1) rfl (l' := #[.val (.ref a), .val (.double mm), .second, .val (.int (0 : Int32))]) rfl (XS.iloadN X0.here hx rfl (hb hby d1_2) rfl  (kk)))) ?_
  show Dn p e below s _ _ _ (s₁.setTop (mkF m 3 #[.val (.ref a), .val (.double mm), .second, .val (.int (0 : Int32))] [(.int (0 : Int32))]))
  obtain ⟨T3, X3, e3, st3⟩ := getS2 X0 hx hZ hown (host := "") (Or.inl (hw _ (List.mem_of_getElem? (i := 11) rfl))) Via.refl e0 S_B (g := (mkF m 3 #[.val (.ref a), .val (.double mm), .second, .val (.int (0 : Int32))] [(.int (0 : Int32))])) rfl (hb hby d1_3)
  refine Dn.st st3 ?_
  show Dn p e below s _ _ _ (T3.setTop (mkF m 6 #[.val (.ref a), .val (.double mm), .second, .val (.int (0 : Int32))] [(.ref aB), (.int (0 : Int32))]))
  have Vc_aB_6 := V_B
  obtain ⟨cl_aB_6, Ar_aB_6, q_aB_6, S_aB_6, N_aB_6, H_aB_6, G_aB_6⟩ := Vc_aB_6
  refine Dn.st (fun _ kk => X3.arraylength hx (by rw [e3]; exact Ar_aB_6.1) (State.isArrayOf_alike hZ.alike Ar_aB_6.2.1) (g := (mkF m 6 #[.val (.ref a), .val (.double mm), .second, .val (.int (0 : Int32))] [(.ref aB), (.int (0 : Int32))])) rfl rfl (hb hby d1_6) _ (kk)) ?_
  show Dn p e below s _ _ _ (T3.setTop (mkF m 7 #[.val (.ref a), .val (.double mm), .second, .val (.int (0 : Int32))] [(.int cl_aB_6.slots.size.toInt32), (.int (0 : Int32))]))
  rw [len_of S_aB_6 N_aB_6]
  show Dn p e below s _ _ _ (T3.setTop (mkF m 7 #[.val (.ref a), .val (.double mm), .second, .val (.int (0 : Int32))] [(.int (3 : Int32)), (.int (0 : Int32))]))
  have hc7 : (0 : Int32) < (3 : Int32) := by decide
  refine Dn.st (fun _ kk => XS.icmpNo X3.here hx rfl (hb hby d1_7) rfl (tlt hc7).2.1 (XS.dloadN X3.here hx rfl (hb hby d1_10) rfl  (kk))) ?_
  show Dn p e below s _ _ _ (T3.setTop (mkF m 11 #[.val (.ref a), .val (.double mm), .second, .val (.int (0 : Int32))] [(.double mm)]))
  obtain ⟨T11, X11, e11, st11⟩ := getS2 X3 hx hZ hown (host := "") (Or.inl (hw _ (List.mem_of_getElem? (i := 11) rfl))) Via.refl e3 S_B (g := (mkF m 11 #[.val (.ref a), .val (.double mm), .second, .val (.int (0 : Int32))] [(.double mm)])) rfl (hb hby d1_11)
  refine Dn.st st11 ?_
  show Dn p e below s _ _ _ (T11.setTop (mkF m 14 #[.val (.ref a), .val (.double mm), .second, .val (.int (0 : Int32))] [(.ref aB), (.double mm)]))
  refine Dn.st (fun _ kk => XS.iloadN X11.here hx rfl (hb hby d1_14) rfl  (kk)) ?_
  show Dn p e below s _ _ _ (T11.setTop (mkF m 15 #[.val (.ref a), .val (.double mm), .second, .val (.int (0 : Int32))] [(.int (0 : Int32)), (.ref aB), (.double mm)]))
  have Vc_aB_15 := V_B
  obtain ⟨cl_aB_15, Ar_aB_15, q_aB_15, S_aB_15, N_aB_15, H_aB_15, G_aB_15⟩ := Vc_aB_15
  have hin15 : ¬ ((0 : Int32) < 0 ∨ cl_aB_15.slots.size ≤ ((0 : Int32)).toNatClampNeg) := inb_of S_aB_15 ⟨by decide, by decide⟩
  have hat15 : cl_aB_15.slots[((0 : Int32)).toNatClampNeg]? = some (.double (4619229547803233485 : UInt64)) := H_aB_15.at hin15 rfl
  refine Dn.st (fun _ kk => X11.daload hx (j := (0 : Int32)) (v := (.double (4619229547803233485 : UInt64))) (by rw [e11]; exact Ar_aB_15.1) (State.isArrayOf_alike hZ.alike Ar_aB_15.2.1) Ar_aB_15.2.2 hin15 hat15 (g := (mkF m 15 #[.val (.ref a), .val (.double mm), .second, .val (.int (0 : Int32))] [(.int (0 : Int32)), (.ref aB), (.double mm)])) rfl rfl (hb hby d1_15) _ (XS.dcmpS X11.here hx rfl (hb hby d1_16) rfl (show cmpValue (FP.dcmp mm (4619229547803233485 : UInt64)) .l = (own_o mm (4619229547803233485 : UInt64)) from rfl) (kk))) ?_
  show Dn p e below s _ _ _ (T11.setTop (mkF m 17 #[.val (.ref a), .val (.double mm), .second, .val (.int (0 : Int32))] [(.int (own_o mm (4619229547803233485 : UInt64)))]))
  by_cases hc17 : (0 : Int32) < (own_o mm (4619229547803233485 : UInt64))
  · refine Dn.st (fun _ kk => XS.ifNo X11.here hx rfl (hb hby d1_17) rfl ((if0 _ _).trans (tlt hc17).2.2.2) (XS.iinc X11.here hx rfl (hb hby d1_20) rfl (l' := #[.val (.ref a), .val (.double mm), .second, .val (.int (1 : Int32))]) rfl (XS.goto X11.here hx rfl (pc0 := 23) (pc' := 2) rfl (hb hby d1_23) (by decide) (by decide) (XS.iloadN X11.here hx rfl (hb hby d1_2) rfl  (kk))))) ?_
    show Dn p e below s _ _ _ (T11.setTop (mkF m 3 #[.val (.ref a), .val (.double mm), .second, .val (.int (1 : Int32))] [(.int (1 : Int32))]))
    obtain ⟨T3_2, X3_2, e3_2, st3_2⟩ := getS2 X11 hx hZ hown (host := "") (Or.inl (hw _ (List.mem_of_getElem? (i := 11) rfl))) Via.refl e11 S_B (g := (mkF m 3 #[.val (.ref a), .val (.double mm), .second, .val (.int (1 : Int32))] [(.int (1 : Int32))])) rfl (hb hby d1_3)
    refine Dn.st st3_2 ?_
    show Dn p e below s _ _ _ (T3_2.setTop (mkF m 6 #[.val (.ref a), .val (.double mm), .second, .val (.int (1 : Int32))] [(.ref aB), (.int (1 : Int32))]))
    have Vc_aB_6_2 := V_B
    obtain ⟨cl_aB_6_2, Ar_aB_6_2, q_aB_6_2, S_aB_6_2, N_aB_6_2, H_aB_6_2, G_aB_6_2⟩ := Vc_aB_6_2
    refine Dn.st (fun _ kk => X3_2.arraylength hx (by rw [e3_2]; exact Ar_aB_6_2.1) (State.isArrayOf_alike hZ.alike Ar_aB_6_2.2.1) (g := (mkF m 6 #[.val (.ref a), .val (.double mm), .second, .val (.int (1 : Int32))] [(.ref aB), (.int (1 : Int32))])) rfl rfl (hb hby d1_6) _ (kk)) ?_
    show Dn p e below s _ _ _ (T3_2.setTop (mkF m 7 #[.val (.ref a), .val (.double mm), .second, .val (.int (1 : Int32))] [(.int cl_aB_6_2.slots.size.toInt32), (.int (1 : Int32))]))
    rw [len_of S_aB_6_2 N_aB_6_2]
    show Dn p e below s _ _ _ (T3_2.setTop (mkF m 7 #[.val (.ref a), .val (.double mm), .second, .val (.int (1 : Int32))] [(.int (3 : Int32)), (.int (1 : Int32))]))
    have hc7_2 : (1 : Int32) < (3 : Int32) := by decide
    refine Dn.st (fun _ kk => XS.icmpNo X3_2.here hx rfl (hb hby d1_7) rfl (tlt hc7_2).2.1 (XS.dloadN X3_2.here hx rfl (hb hby d1_10) rfl  (kk))) ?_
    show Dn p e below s _ _ _ (T3_2.setTop (mkF m 11 #[.val (.ref a), .val (.double mm), .second, .val (.int (1 : Int32))] [(.double mm)]))
    obtain ⟨T11_2, X11_2, e11_2, st11_2⟩ := getS2 X3_2 hx hZ hown (host := "") (Or.inl (hw _ (List.mem_of_getElem? (i := 11) rfl))) Via.refl e3_2 S_B (g := (mkF m 11 #[.val (.ref a), .val (.double mm), .second, .val (.int (1 : Int32))] [(.double mm)])) rfl (hb hby d1_11)
    refine Dn.st st11_2 ?_
    show Dn p e below s _ _ _ (T11_2.setTop (mkF m 14 #[.val (.ref a), .val (.double mm), .second, .val (.int (1 : Int32))] [(.ref aB), (.double mm)]))
    refine Dn.st (fun _ kk => XS.iloadN X11_2.here hx rfl (hb hby d1_14) rfl  (kk)) ?_
    show Dn p e below s _ _ _ (T11_2.setTop (mkF m 15 #[.val (.ref a), .val (.double mm), .second, .val (.int (1 : Int32))] [(.int (1 : Int32)), (.ref aB), (.double mm)]))
    have Vc_aB_15_2 := V_B
    obtain ⟨cl_aB_15_2, Ar_aB_15_2, q_aB_15_2, S_aB_15_2, N_aB_15_2, H_aB_15_2, G_aB_15_2⟩ := Vc_aB_15_2
    have hin15_2 : ¬ ((1 : Int32) < 0 ∨ cl_aB_15_2.slots.size ≤ ((1 : Int32)).toNatClampNeg) := inb_of S_aB_15_2 ⟨by decide, by decide⟩
    have hat15_2 : cl_aB_15_2.slots[((1 : Int32)).toNatClampNeg]? = some (.double (4619792497756654797 : UInt64)) := H_aB_15_2.at hin15_2 rfl
    refine Dn.st (fun _ kk => X11_2.daload hx (j := (1 : Int32)) (v := (.double (4619792497756654797 : UInt64))) (by rw [e11_2]; exact Ar_aB_15_2.1) (State.isArrayOf_alike hZ.alike Ar_aB_15_2.2.1) Ar_aB_15_2.2.2 hin15_2 hat15_2 (g := (mkF m 15 #[.val (.ref a), .val (.double mm), .second, .val (.int (1 : Int32))] [(.int (1 : Int32)), (.ref aB), (.double mm)])) rfl rfl (hb hby d1_15) _ (XS.dcmpS X11_2.here hx rfl (hb hby d1_16) rfl (show cmpValue (FP.dcmp mm (4619792497756654797 : UInt64)) .l = (own_o mm (4619792497756654797 : UInt64)) from rfl) (kk))) ?_
    show Dn p e below s _ _ _ (T11_2.setTop (mkF m 17 #[.val (.ref a), .val (.double mm), .second, .val (.int (1 : Int32))] [(.int (own_o mm (4619792497756654797 : UInt64)))]))
    by_cases hc17_2 : (0 : Int32) < (own_o mm (4619792497756654797 : UInt64))
    · refine Dn.st (fun _ kk => XS.ifNo X11_2.here hx rfl (hb hby d1_17) rfl ((if0 _ _).trans (tlt hc17_2).2.2.2) (XS.iinc X11_2.here hx rfl (hb hby d1_20) rfl (l' := #[.val (.ref a), .val (.double mm), .second, .val (.int (2 : Int32))]) rfl (XS.goto X11_2.here hx rfl (pc0 := 23) (pc' := 2) rfl (hb hby d1_23) (by decide) (by decide) (XS.iloadN X11_2.here hx rfl (hb hby d1_2) rfl  (kk))))) ?_
      show Dn p e below s _ _ _ (T11_2.setTop (mkF m 3 #[.val (.ref a), .val (.double mm), .second, .val (.int (2 : Int32))] [(.int (2 : Int32))]))
      obtain ⟨T3_3, X3_3, e3_3, st3_3⟩ := getS2 X11_2 hx hZ hown (host := "") (Or.inl (hw _ (List.mem_of_getElem? (i := 11) rfl))) Via.refl e11_2 S_B (g := (mkF m 3 #[.val (.ref a), .val (.double mm), .second, .val (.int (2 : Int32))] [(.int (2 : Int32))])) rfl (hb hby d1_3)
      refine Dn.st st3_3 ?_
      show Dn p e below s _ _ _ (T3_3.setTop (mkF m 6 #[.val (.ref a), .val (.double mm), .second, .val (.int (2 : Int32))] [(.ref aB), (.int (2 : Int32))]))
      have Vc_aB_6_3 := V_B
      obtain ⟨cl_aB_6_3, Ar_aB_6_3, q_aB_6_3, S_aB_6_3, N_aB_6_3, H_aB_6_3, G_aB_6_3⟩ := Vc_aB_6_3
      refine Dn.st (fun _ kk => X3_3.arraylength hx (by rw [e3_3]; exact Ar_aB_6_3.1) (State.isArrayOf_alike hZ.alike Ar_aB_6_3.2.1) (g := (mkF m 6 #[.val (.ref a), .val (.double mm), .second, .val (.int (2 : Int32))] [(.ref aB), (.int (2 : Int32))])) rfl rfl (hb hby d1_6) _ (kk)) ?_
      show Dn p e below s _ _ _ (T3_3.setTop (mkF m 7 #[.val (.ref a), .val (.double mm), .second, .val (.int (2 : Int32))] [(.int cl_aB_6_3.slots.size.toInt32), (.int (2 : Int32))]))
      rw [len_of S_aB_6_3 N_aB_6_3]
      show Dn p e below s _ _ _ (T3_3.setTop (mkF m 7 #[.val (.ref a), .val (.double mm), .second, .val (.int (2 : Int32))] [(.int (3 : Int32)), (.int (2 : Int32))]))
      have hc7_3 : (2 : Int32) < (3 : Int32) := by decide
      refine Dn.st (fun _ kk => XS.icmpNo X3_3.here hx rfl (hb hby d1_7) rfl (tlt hc7_3).2.1 (XS.dloadN X3_3.here hx rfl (hb hby d1_10) rfl  (kk))) ?_
      show Dn p e below s _ _ _ (T3_3.setTop (mkF m 11 #[.val (.ref a), .val (.double mm), .second, .val (.int (2 : Int32))] [(.double mm)]))
      obtain ⟨T11_3, X11_3, e11_3, st11_3⟩ := getS2 X3_3 hx hZ hown (host := "") (Or.inl (hw _ (List.mem_of_getElem? (i := 11) rfl))) Via.refl e3_3 S_B (g := (mkF m 11 #[.val (.ref a), .val (.double mm), .second, .val (.int (2 : Int32))] [(.double mm)])) rfl (hb hby d1_11)
      refine Dn.st st11_3 ?_
      show Dn p e below s _ _ _ (T11_3.setTop (mkF m 14 #[.val (.ref a), .val (.double mm), .second, .val (.int (2 : Int32))] [(.ref aB), (.double mm)]))
      refine Dn.st (fun _ kk => XS.iloadN X11_3.here hx rfl (hb hby d1_14) rfl  (kk)) ?_
      show Dn p e below s _ _ _ (T11_3.setTop (mkF m 15 #[.val (.ref a), .val (.double mm), .second, .val (.int (2 : Int32))] [(.int (2 : Int32)), (.ref aB), (.double mm)]))
      have Vc_aB_15_3 := V_B
      obtain ⟨cl_aB_15_3, Ar_aB_15_3, q_aB_15_3, S_aB_15_3, N_aB_15_3, H_aB_15_3, G_aB_15_3⟩ := Vc_aB_15_3
      have hin15_3 : ¬ ((2 : Int32) < 0 ∨ cl_aB_15_3.slots.size ≤ ((2 : Int32)).toNatClampNeg) := inb_of S_aB_15_3 ⟨by decide, by decide⟩
      have hat15_3 : cl_aB_15_3.slots[((2 : Int32)).toNatClampNeg]? = some (.double (4620355447710076109 : UInt64)) := H_aB_15_3.at hin15_3 rfl
      refine Dn.st (fun _ kk => X11_3.daload hx (j := (2 : Int32)) (v := (.double (4620355447710076109 : UInt64))) (by rw [e11_3]; exact Ar_aB_15_3.1) (State.isArrayOf_alike hZ.alike Ar_aB_15_3.2.1) Ar_aB_15_3.2.2 hin15_3 hat15_3 (g := (mkF m 15 #[.val (.ref a), .val (.double mm), .second, .val (.int (2 : Int32))] [(.int (2 : Int32)), (.ref aB), (.double mm)])) rfl rfl (hb hby d1_15) _ (XS.dcmpS X11_3.here hx rfl (hb hby d1_16) rfl (show cmpValue (FP.dcmp mm (4620355447710076109 : UInt64)) .l = (own_o mm (4620355447710076109 : UInt64)) from rfl) (kk))) ?_
      show Dn p e below s _ _ _ (T11_3.setTop (mkF m 17 #[.val (.ref a), .val (.double mm), .second, .val (.int (2 : Int32))] [(.int (own_o mm (4620355447710076109 : UInt64)))]))
      by_cases hc17_3 : (0 : Int32) < (own_o mm (4620355447710076109 : UInt64))
      · refine Dn.st (fun _ kk => XS.ifNo X11_3.here hx rfl (hb hby d1_17) rfl ((if0 _ _).trans (tlt hc17_3).2.2.2) (XS.iinc X11_3.here hx rfl (hb hby d1_20) rfl (l' := #[.val (.ref a), .val (.double mm), .second, .val (.int (3 : Int32))]) rfl (XS.goto X11_3.here hx rfl (pc0 := 23) (pc' := 2) rfl (hb hby d1_23) (by decide) (by decide) (XS.iloadN X11_3.here hx rfl (hb hby d1_2) rfl  (kk))))) ?_
        show Dn p e below s _ _ _ (T11_3.setTop (mkF m 3 #[.val (.ref a), .val (.double mm), .second, .val (.int (3 : Int32))] [(.int (3 : Int32))]))
        obtain ⟨T3_4, X3_4, e3_4, st3_4⟩ := getS2 X11_3 hx hZ hown (host := "") (Or.inl (hw _ (List.mem_of_getElem? (i := 11) rfl))) Via.refl e11_3 S_B (g := (mkF m 3 #[.val (.ref a), .val (.double mm), .second, .val (.int (3 : Int32))] [(.int (3 : Int32))])) rfl (hb hby d1_3)
        refine Dn.st st3_4 ?_
        show Dn p e below s _ _ _ (T3_4.setTop (mkF m 6 #[.val (.ref a), .val (.double mm), .second, .val (.int (3 : Int32))] [(.ref aB), (.int (3 : Int32))]))
        have Vc_aB_6_4 := V_B
        obtain ⟨cl_aB_6_4, Ar_aB_6_4, q_aB_6_4, S_aB_6_4, N_aB_6_4, H_aB_6_4, G_aB_6_4⟩ := Vc_aB_6_4
        refine Dn.st (fun _ kk => X3_4.arraylength hx (by rw [e3_4]; exact Ar_aB_6_4.1) (State.isArrayOf_alike hZ.alike Ar_aB_6_4.2.1) (g := (mkF m 6 #[.val (.ref a), .val (.double mm), .second, .val (.int (3 : Int32))] [(.ref aB), (.int (3 : Int32))])) rfl rfl (hb hby d1_6) _ (kk)) ?_
        show Dn p e below s _ _ _ (T3_4.setTop (mkF m 7 #[.val (.ref a), .val (.double mm), .second, .val (.int (3 : Int32))] [(.int cl_aB_6_4.slots.size.toInt32), (.int (3 : Int32))]))
        rw [len_of S_aB_6_4 N_aB_6_4]
        show Dn p e below s _ _ _ (T3_4.setTop (mkF m 7 #[.val (.ref a), .val (.double mm), .second, .val (.int (3 : Int32))] [(.int (3 : Int32)), (.int (3 : Int32))]))
        have hc7_4 : ¬ ((3 : Int32) < (3 : Int32)) := by decide
        refine Dn.st (fun _ kk => XS.icmpYes X3_4.here hx rfl (pc0 := 7) (pc' := 26) rfl (hb hby d1_7) rfl (flt hc7_4).2.1 (by decide) (by decide) (XS.aloadN X3_4.here hx rfl (hb hby d1_26) rfl rfl (kk))) ?_
        show Dn p e below s _ _ _ (T3_4.setTop (mkF m 27 #[.val (.ref a), .val (.double mm), .second, .val (.int (3 : Int32))] [(.ref a)]))
        obtain ⟨T27, X27, e27, st27⟩ := getF X3_4 hx hZ hown (host := "") (Or.inl (hw _ (List.mem_of_getElem? (i := 13) rfl))) Via.refl e3_4 F_by (g := (mkF m 27 #[.val (.ref a), .val (.double mm), .second, .val (.int (3 : Int32))] [(.ref a)])) rfl rfl (hb hby d1_27)
        refine Dn.st st27 ?_
        show Dn p e below s _ _ _ (T27.setTop (mkF m 30 #[.val (.ref a), .val (.double mm), .second, .val (.int (3 : Int32))] [(.ref aX)]))
        refine Dn.st (fun _ kk => XS.iloadN X27.here hx rfl (hb hby d1_30) rfl  (kk)) ?_
        show Dn p e below s _ _ _ (T27.setTop (mkF m 31 #[.val (.ref a), .val (.double mm), .second, .val (.int (3 : Int32))] [(.int (3 : Int32)), (.ref aX)]))
        have Vc_aX_31 := V_X
        obtain ⟨cl_aX_31, Ar_aX_31, q_aX_31, S_aX_31, N_aX_31, H_aX_31, G_aX_31⟩ := Vc_aX_31
        have hin31 : ¬ ((3 : Int32) < 0 ∨ cl_aX_31.slots.size ≤ ((3 : Int32)).toNatClampNeg) := inb_of S_aX_31 ⟨by decide, by decide⟩
        have hat31 : cl_aX_31.slots[((3 : Int32)).toNatClampNeg]? = some (.double y3) := H_aX_31.at hin31 rfl
        refine Dn.st (fun _ kk => X27.daload hx (j := (3 : Int32)) (v := (.double y3)) (by rw [e27]; exact Ar_aX_31.1) (State.isArrayOf_alike hZ.alike Ar_aX_31.2.1) Ar_aX_31.2.2 hin31 hat31 (g := (mkF m 31 #[.val (.ref a), .val (.double mm), .second, .val (.int (3 : Int32))] [(.int (3 : Int32)), (.ref aX)])) rfl rfl (hb hby d1_31) _ (kk)) ?_
        show Dn p e below s _ _ _ (T27.setTop (mkF m 32 #[.val (.ref a), .val (.double mm), .second, .val (.int (3 : Int32))] [(.double y3)]))
        exact Dn.ret X27 hlk hx hret rfl (Or.inr (Or.inr (Or.inl ⟨rfl, rfl, _, rfl⟩))) (hb hby d1_32) (by rw [e27]; exact ⟨congrArg (fun z => some (Value.double z)) (by unfold own_bin; rw [if_pos hc17, if_pos hc17_2, if_pos hc17_3]), N0, rfl⟩) (by decide) (by decide)
      · refine Dn.st (fun _ kk => XS.ifYes X11_3.here hx rfl (pc0 := 17) (pc' := 26) rfl (hb hby d1_17) rfl ((if0 _ _).trans (flt hc17_3).2.2.2) (by decide) (by decide) (XS.aloadN X11_3.here hx rfl (hb hby d1_26) rfl rfl (kk))) ?_
        show Dn p e below s _ _ _ (T11_3.setTop (mkF m 27 #[.val (.ref a), .val (.double mm), .second, .val (.int (2 : Int32))] [(.ref a)]))
        obtain ⟨T27, X27, e27, st27⟩ := getF X11_3 hx hZ hown (host := "") (Or.inl (hw _ (List.mem_of_getElem? (i := 13) rfl))) Via.refl e11_3 F_by (g := (mkF m 27 #[.val (.ref a), .val (.double mm), .second, .val (.int (2 : Int32))] [(.ref a)])) rfl rfl (hb hby d1_27)
        refine Dn.st st27 ?_
        show Dn p e below s _ _ _ (T27.setTop (mkF m 30 #[.val (.ref a), .val (.double mm), .second, .val (.int (2 : Int32))] [(.ref aX)]))
        refine Dn.st (fun _ kk => XS.iloadN X27.here hx rfl (hb hby d1_30) rfl  (kk)) ?_
        show Dn p e below s _ _ _ (T27.setTop (mkF m 31 #[.val (.ref a), .val (.double mm), .second, .val (.int (2 : Int32))] [(.int (2 : Int32)), (.ref aX)]))
        have Vc_aX_31 := V_X
        obtain ⟨cl_aX_31, Ar_aX_31, q_aX_31, S_aX_31, N_aX_31, H_aX_31, G_aX_31⟩ := Vc_aX_31
        have hin31 : ¬ ((2 : Int32) < 0 ∨ cl_aX_31.slots.size ≤ ((2 : Int32)).toNatClampNeg) := inb_of S_aX_31 ⟨by decide, by decide⟩
        have hat31 : cl_aX_31.slots[((2 : Int32)).toNatClampNeg]? = some (.double y2) := H_aX_31.at hin31 rfl
        refine Dn.st (fun _ kk => X27.daload hx (j := (2 : Int32)) (v := (.double y2)) (by rw [e27]; exact Ar_aX_31.1) (State.isArrayOf_alike hZ.alike Ar_aX_31.2.1) Ar_aX_31.2.2 hin31 hat31 (g := (mkF m 31 #[.val (.ref a), .val (.double mm), .second, .val (.int (2 : Int32))] [(.int (2 : Int32)), (.ref aX)])) rfl rfl (hb hby d1_31) _ (kk)) ?_
        show Dn p e below s _ _ _ (T27.setTop (mkF m 32 #[.val (.ref a), .val (.double mm), .second, .val (.int (2 : Int32))] [(.double y2)]))
        exact Dn.ret X27 hlk hx hret rfl (Or.inr (Or.inr (Or.inl ⟨rfl, rfl, _, rfl⟩))) (hb hby d1_32) (by rw [e27]; exact ⟨congrArg (fun z => some (Value.double z)) (by unfold own_bin; rw [if_pos hc17, if_pos hc17_2, if_neg hc17_3]), N0, rfl⟩) (by decide) (by decide)
    · refine Dn.st (fun _ kk => XS.ifYes X11_2.here hx rfl (pc0 := 17) (pc' := 26) rfl (hb hby d1_17) rfl ((if0 _ _).trans (flt hc17_2).2.2.2) (by decide) (by decide) (XS.aloadN X11_2.here hx rfl (hb hby d1_26) rfl rfl (kk))) ?_
      show Dn p e below s _ _ _ (T11_2.setTop (mkF m 27 #[.val (.ref a), .val (.double mm), .second, .val (.int (1 : Int32))] [(.ref a)]))
      obtain ⟨T27, X27, e27, st27⟩ := getF X11_2 hx hZ hown (host := "") (Or.inl (hw _ (List.mem_of_getElem? (i := 13) rfl))) Via.refl e11_2 F_by (g := (mkF m 27 #[.val (.ref a), .val (.double mm), .second, .val (.int (1 : Int32))] [(.ref a)])) rfl rfl (hb hby d1_27)
      refine Dn.st st27 ?_
      show Dn p e below s _ _ _ (T27.setTop (mkF m 30 #[.val (.ref a), .val (.double mm), .second, .val (.int (1 : Int32))] [(.ref aX)]))
      refine Dn.st (fun _ kk => XS.iloadN X27.here hx rfl (hb hby d1_30) rfl  (kk)) ?_
      show Dn p e below s _ _ _ (T27.setTop (mkF m 31 #[.val (.ref a), .val (.double mm), .second, .val (.int (1 : Int32))] [(.int (1 : Int32)), (.ref aX)]))
      have Vc_aX_31 := V_X
      obtain ⟨cl_aX_31, Ar_aX_31, q_aX_31, S_aX_31, N_aX_31, H_aX_31, G_aX_31⟩ := Vc_aX_31
      have hin31 : ¬ ((1 : Int32) < 0 ∨ cl_aX_31.slots.size ≤ ((1 : Int32)).toNatClampNeg) := inb_of S_aX_31 ⟨by decide, by decide⟩
      have hat31 : cl_aX_31.slots[((1 : Int32)).toNatClampNeg]? = some (.double y1) := H_aX_31.at hin31 rfl
      refine Dn.st (fun _ kk => X27.daload hx (j := (1 : Int32)) (v := (.double y1)) (by rw [e27]; exact Ar_aX_31.1) (State.isArrayOf_alike hZ.alike Ar_aX_31.2.1) Ar_aX_31.2.2 hin31 hat31 (g := (mkF m 31 #[.val (.ref a), .val (.double mm), .second, .val (.int (1 : Int32))] [(.int (1 : Int32)), (.ref aX)])) rfl rfl (hb hby d1_31) _ (kk)) ?_
      show Dn p e below s _ _ _ (T27.setTop (mkF m 32 #[.val (.ref a), .val (.double mm), .second, .val (.int (1 : Int32))] [(.double y1)]))
      exact Dn.ret X27 hlk hx hret rfl (Or.inr (Or.inr (Or.inl ⟨rfl, rfl, _, rfl⟩))) (hb hby d1_32) (by rw [e27]; exact ⟨congrArg (fun z => some (Value.double z)) (by unfold own_bin; rw [if_pos hc17, if_neg hc17_2]), N0, rfl⟩) (by decide) (by decide)
  · refine Dn.st (fun _ kk => XS.ifYes X11.here hx rfl (pc0 := 17) (pc' := 26) rfl (hb hby d1_17) rfl ((if0 _ _).trans (flt hc17).2.2.2) (by decide) (by decide) (XS.aloadN X11.here hx rfl (hb hby d1_26) rfl rfl (kk))) ?_
    show Dn p e below s _ _ _ (T11.setTop (mkF m 27 #[.val (.ref a), .val (.double mm), .second, .val (.int (0 : Int32))] [(.ref a)]))
    obtain ⟨T27, X27, e27, st27⟩ := getF X11 hx hZ hown (host := "") (Or.inl (hw _ (List.mem_of_getElem? (i := 13) rfl))) Via.refl e11 F_by (g := (mkF m 27 #[.val (.ref a), .val (.double mm), .second, .val (.int (0 : Int32))] [(.ref a)])) rfl rfl (hb hby d1_27)
    refine Dn.st st27 ?_
    show Dn p e below s _ _ _ (T27.setTop (mkF m 30 #[.val (.ref a), .val (.double mm), .second, .val (.int (0 : Int32))] [(.ref aX)]))
    refine Dn.st (fun _ kk => XS.iloadN X27.here hx rfl (hb hby d1_30) rfl  (kk)) ?_
    show Dn p e below s _ _ _ (T27.setTop (mkF m 31 #[.val (.ref a), .val (.double mm), .second, .val (.int (0 : Int32))] [(.int (0 : Int32)), (.ref aX)]))
    have Vc_aX_31 := V_X
    obtain ⟨cl_aX_31, Ar_aX_31, q_aX_31, S_aX_31, N_aX_31, H_aX_31, G_aX_31⟩ := Vc_aX_31
    have hin31 : ¬ ((0 : Int32) < 0 ∨ cl_aX_31.slots.size ≤ ((0 : Int32)).toNatClampNeg) := inb_of S_aX_31 ⟨by decide, by decide⟩
    have hat31 : cl_aX_31.slots[((0 : Int32)).toNatClampNeg]? = some (.double y0) := H_aX_31.at hin31 rfl
    refine Dn.st (fun _ kk => X27.daload hx (j := (0 : Int32)) (v := (.double y0)) (by rw [e27]; exact Ar_aX_31.1) (State.isArrayOf_alike hZ.alike Ar_aX_31.2.1) Ar_aX_31.2.2 hin31 hat31 (g := (mkF m 31 #[.val (.ref a), .val (.double mm), .second, .val (.int (0 : Int32))] [(.int (0 : Int32)), (.ref aX)])) rfl rfl (hb hby d1_31) _ (kk)) ?_
    show Dn p e below s _ _ _ (T27.setTop (mkF m 32 #[.val (.ref a), .val (.double mm), .second, .val (.int (0 : Int32))] [(.double y0)]))
    exact Dn.ret X27 hlk hx hret rfl (Or.inr (Or.inr (Or.inl ⟨rfl, rfl, _, rfl⟩))) (hb hby d1_32) (by rw [e27]; exact ⟨congrArg (fun z => some (Value.double z)) (by unfold own_bin; rw [if_neg hc17]), N0, rfl⟩) (by decide) (by decide)

theorem d2_0 : decode method_3_code 0 = .ok (.iload_n 0, 1) := by decide +kernel
theorem d2_1 : decode method_3_code 1 = .ok (.ifCond .ne 33, 3) := by decide +kernel
theorem d2_4 : decode method_3_code 4 = .ok (.iload_n 1, 1) := by decide +kernel
theorem d2_5 : decode method_3_code 5 = .ok (.ifCond .ne 7, 3) := by decide +kernel
theorem d2_8 : decode method_3_code 8 = .ok (.ldc2_w 38, 3) := by decide +kernel
theorem d2_11 : decode method_3_code 11 = .ok (.dreturn, 1) := by decide +kernel
theorem d2_12 : decode method_3_code 12 = .ok (.iload_n 1, 1) := by decide +kernel
theorem d2_13 : decode method_3_code 13 = .ok (.iconst 1, 1) := by decide +kernel
theorem d2_14 : decode method_3_code 14 = .ok (.if_icmp .ne 7, 3) := by decide +kernel
theorem d2_17 : decode method_3_code 17 = .ok (.ldc2_w 40, 3) := by decide +kernel
theorem d2_20 : decode method_3_code 20 = .ok (.dreturn, 1) := by decide +kernel
theorem d2_21 : decode method_3_code 21 = .ok (.iload_n 1, 1) := by decide +kernel
theorem d2_22 : decode method_3_code 22 = .ok (.iconst 2, 1) := by decide +kernel
theorem d2_23 : decode method_3_code 23 = .ok (.if_icmp .ne 7, 3) := by decide +kernel
theorem d2_26 : decode method_3_code 26 = .ok (.ldc2_w 42, 3) := by decide +kernel
theorem d2_29 : decode method_3_code 29 = .ok (.dreturn, 1) := by decide +kernel
theorem d2_30 : decode method_3_code 30 = .ok (.ldc2_w 44, 3) := by decide +kernel
theorem d2_33 : decode method_3_code 33 = .ok (.dreturn, 1) := by decide +kernel
theorem d2_34 : decode method_3_code 34 = .ok (.iload_n 0, 1) := by decide +kernel
theorem d2_35 : decode method_3_code 35 = .ok (.iconst 1, 1) := by decide +kernel
theorem d2_36 : decode method_3_code 36 = .ok (.if_icmp .ne 33, 3) := by decide +kernel
theorem d2_39 : decode method_3_code 39 = .ok (.iload_n 1, 1) := by decide +kernel
theorem d2_40 : decode method_3_code 40 = .ok (.ifCond .ne 7, 3) := by decide +kernel
theorem d2_43 : decode method_3_code 43 = .ok (.ldc2_w 46, 3) := by decide +kernel
theorem d2_46 : decode method_3_code 46 = .ok (.dreturn, 1) := by decide +kernel
theorem d2_47 : decode method_3_code 47 = .ok (.iload_n 1, 1) := by decide +kernel
theorem d2_48 : decode method_3_code 48 = .ok (.iconst 1, 1) := by decide +kernel
theorem d2_49 : decode method_3_code 49 = .ok (.if_icmp .ne 7, 3) := by decide +kernel
theorem d2_52 : decode method_3_code 52 = .ok (.ldc2_w 38, 3) := by decide +kernel
theorem d2_55 : decode method_3_code 55 = .ok (.dreturn, 1) := by decide +kernel
theorem d2_56 : decode method_3_code 56 = .ok (.iload_n 1, 1) := by decide +kernel
theorem d2_57 : decode method_3_code 57 = .ok (.iconst 2, 1) := by decide +kernel
theorem d2_58 : decode method_3_code 58 = .ok (.if_icmp .ne 7, 3) := by decide +kernel
theorem d2_61 : decode method_3_code 61 = .ok (.ldc2_w 40, 3) := by decide +kernel
theorem d2_64 : decode method_3_code 64 = .ok (.dreturn, 1) := by decide +kernel
theorem d2_65 : decode method_3_code 65 = .ok (.ldc2_w 42, 3) := by decide +kernel
theorem d2_68 : decode method_3_code 68 = .ok (.dreturn, 1) := by decide +kernel
theorem d2_69 : decode method_3_code 69 = .ok (.iload_n 1, 1) := by decide +kernel
theorem d2_70 : decode method_3_code 70 = .ok (.ifCond .ne 7, 3) := by decide +kernel
theorem d2_73 : decode method_3_code 73 = .ok (.ldc2_w 48, 3) := by decide +kernel
theorem d2_76 : decode method_3_code 76 = .ok (.dreturn, 1) := by decide +kernel
theorem d2_77 : decode method_3_code 77 = .ok (.iload_n 1, 1) := by decide +kernel
theorem d2_78 : decode method_3_code 78 = .ok (.iconst 1, 1) := by decide +kernel
theorem d2_79 : decode method_3_code 79 = .ok (.if_icmp .ne 7, 3) := by decide +kernel
theorem d2_82 : decode method_3_code 82 = .ok (.ldc2_w 46, 3) := by decide +kernel
theorem d2_85 : decode method_3_code 85 = .ok (.dreturn, 1) := by decide +kernel
theorem d2_86 : decode method_3_code 86 = .ok (.iload_n 1, 1) := by decide +kernel
theorem d2_87 : decode method_3_code 87 = .ok (.iconst 2, 1) := by decide +kernel
theorem d2_88 : decode method_3_code 88 = .ok (.if_icmp .ne 7, 3) := by decide +kernel
theorem d2_91 : decode method_3_code 91 = .ok (.ldc2_w 38, 3) := by decide +kernel
theorem d2_94 : decode method_3_code 94 = .ok (.dreturn, 1) := by decide +kernel
theorem d2_95 : decode method_3_code 95 = .ok (.ldc2_w 40, 3) := by decide +kernel
theorem d2_98 : decode method_3_code 98 = .ok (.dreturn, 1) := by decide +kernel
theorem pn1 : plainName "org/rupturecast/renewal/AperiodicityOfPinLaw" = true := by first | (simp [plainName, overriddenIn]; done) | decide +kernel
theorem ef2_rm2 (m : MethodId) (x0 : Int32) (x1 : Int32) : entryFrame m #[(.int x0), (.int x1)] 2 = mkF m 0 #[.val (.int x0), .val (.int x1)] [] := by first | (simp [entryFrame, mkF, argsToLocals, Value.category]; done) | rfl
def Q2 (Z : State) (kx : Int32) (bx : Int32) (h0 : Heap) (n0 : Nat) (v : Option Value) (h : Heap) (L : List Loc) : Prop := v = some (.double (own_exp kx bx)) ∧ Fr n0 L ∧ h = h0
set_option maxRecDepth 65536 in
set_option maxHeartbeats 40000000 in
theorem rm2 (l : Launch) (Z : State) (a0 : Array Value) (hw : ∀ d ∈ tables_1, d.before a0 Z = true) (ws : List Jvm.Cond) (kx : Int32) (bx : Int32) (h0 : Heap) (n0 : Nat) (Z0 : n0 ≤ h0.size) :
    MetFree l (⟨"org/rupturecast/renewal/AperiodicityOfPinLaw", "expected", "(II)D"⟩ : MethodName) (head1 (Jvm.Cond.code (⟨"org/rupturecast/renewal/AperiodicityOfPinLaw", "expected", "(II)D"⟩ : MethodName) method_3_code 2 (some .double) :: ws) ({ frames := 0, cells := 0, slots := 0, locals := 0 } : Room)) (fun aa UU => aa = #[(.int kx), (.int bx)] ∧ Z.Warmed39 UU.vm ∧ UU.heap = h0) (fun _ _ _ _ _ => True) (fun _ UU oo UU' => ∃ vv LL, oo = .returned vv ∧ Q2 Z kx bx h0 n0 vv UU'.heap LL ∧ FrameEnd UU oo UU' LL ({ frames := 0, cells := 0, slots := 0, locals := 0 } : Room).cells ({ frames := 0, cells := 0, slots := 0, locals := 0 } : Room).slots) := by
  refine MetFree.of_bodySF (plainFor_of_name pn1) hisR ?_
  intro p e s m args below meth c s₁ Bd hml0 hP hK
  obtain ⟨rfl, hZ, hh⟩ := hP
  have hx := Bd.exec
  have hby := Bd.bytes
  have hlk : meth.locks = false := BodyLoose.notSynchronized Bd
  have hret := Bd.returns
  have hml : c.maxLocals = 2 := hml0
  have hown : s.vm.findClass "org/rupturecast/renewal/AperiodicityOfPinLaw" = some m.cls := findClass_of_methodNamed Bd.named
  have hnm := (name_of_methodNamed Bd.named Bd.method).1
  have X0 : Stand p l e ({ frames := 0, cells := 0, slots := 0, locals := 0 } : Room) s m #[(.int kx), (.int bx)] below meth c s₁ [] 0 0 := Stand.of_body Bd
  have e0 : s₁.heap = h0 := by rw [← hh, Bd.state]; rfl
  have N0 := Fr.nil n0
  show Dn p e below s (Q2 Z kx bx h0 n0) ({ frames := 0, cells := 0, slots := 0, locals := 0 } : Room).cells ({ frames := 0, cells := 0, slots := 0, locals := 0 } : Room).slots (s₁.setTop (entryFrame m #[(.int kx), (.int bx)] 2))
  refine Dn.st (fun _ kk => castTop (ef2_rm2 m kx bx) kk) ?_
  show Dn p e below s _ _ _ (s₁.setTop (mkF m 0 #[.val (.int kx), .val (.int bx)] []))
  refine Dn.st (fun _ kk => XS.iloadN X0.here hx rfl (hb hby d2_0) rfl  (kk)) ?_
  show Dn p e below s _ _ _ (s₁.setTop (mkF m 1 #[.val (.int kx), .val (.int bx)] [(.int kx)]))
  by_cases hc1 : kx = (0 : Int32)
  · refine Dn.st (fun _ kk => XS.ifNo X0.here hx rfl (hb hby d2_1) rfl ((if0 _ _).trans (teq hc1).2) (XS.iloadN X0.here hx rfl (hb hby d2_4) rfl  (kk))) ?_
    show Dn p e below s _ _ _ (s₁.setTop (mkF m 5 #[.val (.int kx), .val (.int bx)] [(.int bx)]))
    by_cases hc5 : bx = (0 : Int32)
    · refine Dn.st (fun _ kk => XS.ifNo X0.here hx rfl (hb hby d2_5) rfl ((if0 _ _).trans (teq hc5).2) (X0.ldc2DoubleC hx hown (mvT hZ (hw _ (List.mem_of_getElem? (i := 19) rfl))) (g := (mkF m 8 #[.val (.int kx), .val (.int bx)] [])) rfl (hb hby d2_8) _ (kk))) ?_
      show Dn p e below s _ _ _ (s₁.setTop (mkF m 11 #[.val (.int kx), .val (.int bx)] [(.double (4600877379321698714 : UInt64))]))
      exact Dn.ret X0 hlk hx hret rfl (Or.inr (Or.inr (Or.inl ⟨rfl, rfl, _, rfl⟩))) (hb hby d2_11) (by rw [e0]; exact ⟨congrArg (fun z => some (Value.double z)) (by unfold own_exp; rw [if_pos hc1, if_pos hc5]), N0, rfl⟩) (by decide) (by decide)
    · refine Dn.st (fun _ kk => XS.ifYes X0.here hx rfl (pc0 := 5) (pc' := 12) rfl (hb hby d2_5) rfl ((if0 _ _).trans (feq hc5).2) (by decide) (by decide) (XS.iloadN X0.here hx rfl (hb hby d2_12) rfl  (XS.iconst X0.here hx rfl (hb hby d2_13) (kk)))) ?_
      show Dn p e below s _ _ _ (s₁.setTop (mkF m 14 #[.val (.int kx), .val (.int bx)] [(.int (1 : Int32)), (.int bx)]))
      by_cases hc14 : bx = (1 : Int32)
      · refine Dn.st (fun _ kk => XS.icmpNo X0.here hx rfl (hb hby d2_14) rfl (teq hc14).2 (X0.ldc2DoubleC hx hown (mvT hZ (hw _ (List.mem_of_getElem? (i := 27) rfl))) (g := (mkF m 17 #[.val (.int kx), .val (.int bx)] [])) rfl (hb hby d2_17) _ (kk))) ?_
        show Dn p e below s _ _ _ (s₁.setTop (mkF m 20 #[.val (.int kx), .val (.int bx)] [(.double (4599075939470750515 : UInt64))]))
        exact Dn.ret X0 hlk hx hret rfl (Or.inr (Or.inr (Or.inl ⟨rfl, rfl, _, rfl⟩))) (hb hby d2_20) (by rw [e0]; exact ⟨congrArg (fun z => some (Value.double z)) (by unfold own_exp; rw [if_pos hc1, if_neg hc5, if_pos hc14]), N0, rfl⟩) (by decide) (by decide)
      · refine Dn.st (fun _ kk => XS.icmpYes X0.here hx rfl (pc0 := 14) (pc' := 21) rfl (hb hby d2_14) rfl (feq hc14).2 (by decide) (by decide) (XS.iloadN X0.here hx rfl (hb hby d2_21) rfl  (XS.iconst X0.here hx rfl (hb hby d2_22) (kk)))) ?_
        show Dn p e below s _ _ _ (s₁.setTop (mkF m 23 #[.val (.int kx), .val (.int bx)] [(.int (2 : Int32)), (.int bx)]))
        by_cases hc23 : bx = (2 : Int32)
        · refine Dn.st (fun _ kk => XS.icmpNo X0.here hx rfl (hb hby d2_23) rfl (teq hc23).2 (X0.ldc2DoubleC hx hown (mvT hZ (hw _ (List.mem_of_getElem? (i := 24) rfl))) (g := (mkF m 26 #[.val (.int kx), .val (.int bx)] [])) rfl (hb hby d2_26) _ (kk))) ?_
          show Dn p e below s _ _ _ (s₁.setTop (mkF m 29 #[.val (.int kx), .val (.int bx)] [(.double (4596373779694328218 : UInt64))]))
          exact Dn.ret X0 hlk hx hret rfl (Or.inr (Or.inr (Or.inl ⟨rfl, rfl, _, rfl⟩))) (hb hby d2_29) (by rw [e0]; exact ⟨congrArg (fun z => some (Value.double z)) (by unfold own_exp; rw [if_pos hc1, if_neg hc5, if_neg hc14, if_pos hc23]), N0, rfl⟩) (by decide) (by decide)
        · refine Dn.st (fun _ kk => XS.icmpYes X0.here hx rfl (pc0 := 23) (pc' := 30) rfl (hb hby d2_23) rfl (feq hc23).2 (by decide) (by decide) (X0.ldc2DoubleC hx hown (mvT hZ (hw _ (List.mem_of_getElem? (i := 29) rfl))) (g := (mkF m 30 #[.val (.int kx), .val (.int bx)] [])) rfl (hb hby d2_30) _ (kk))) ?_
          show Dn p e below s _ _ _ (s₁.setTop (mkF m 33 #[.val (.int kx), .val (.int bx)] [(.double (4591870180066957722 : UInt64))]))
          exact Dn.ret X0 hlk hx hret rfl (Or.inr (Or.inr (Or.inl ⟨rfl, rfl, _, rfl⟩))) (hb hby d2_33) (by rw [e0]; exact ⟨congrArg (fun z => some (Value.double z)) (by unfold own_exp; rw [if_pos hc1, if_neg hc5, if_neg hc14, if_neg hc23]), N0, rfl⟩) (by decide) (by decide)
  · refine Dn.st (fun _ kk => XS.ifYes X0.here hx rfl (pc0 := 1) (pc' := 34) rfl (hb hby d2_1) rfl ((if0 _ _).trans (feq hc1).2) (by decide) (by decide) (XS.iloadN X0.here hx rfl (hb hby d2_34) rfl  (XS.iconst X0.here hx rfl (hb hby d2_35) (kk)))) ?_
    show Dn p e below s _ _ _ (s₁.setTop (mkF m 36 #[.val (.int kx), .val (.int bx)] [(.int (1 : Int32)), (.int kx)]))
    by_cases hc36 : kx = (1 : Int32)
    · refine Dn.st (fun _ kk => XS.icmpNo X0.here hx rfl (hb hby d2_36) rfl (teq hc36).2 (XS.iloadN X0.here hx rfl (hb hby d2_39) rfl  (kk))) ?_
      show Dn p e below s _ _ _ (s₁.setTop (mkF m 40 #[.val (.int kx), .val (.int bx)] [(.int bx)]))
      by_cases hc40 : bx = (0 : Int32)
      · refine Dn.st (fun _ kk => XS.ifNo X0.here hx rfl (hb hby d2_40) rfl ((if0 _ _).trans (teq hc40).2) (X0.ldc2DoubleC hx hown (mvT hZ (hw _ (List.mem_of_getElem? (i := 30) rfl))) (g := (mkF m 43 #[.val (.int kx), .val (.int bx)] [])) rfl (hb hby d2_43) _ (kk))) ?_
        show Dn p e below s _ _ _ (s₁.setTop (mkF m 46 #[.val (.int kx), .val (.int bx)] [(.double (4602678819172646912 : UInt64))]))
        exact Dn.ret X0 hlk hx hret rfl (Or.inr (Or.inr (Or.inl ⟨rfl, rfl, _, rfl⟩))) (hb hby d2_46) (by rw [e0]; exact ⟨congrArg (fun z => some (Value.double z)) (by unfold own_exp; rw [if_neg hc1, if_pos hc36, if_pos hc40]), N0, rfl⟩) (by decide) (by decide)
      · refine Dn.st (fun _ kk => XS.ifYes X0.here hx rfl (pc0 := 40) (pc' := 47) rfl (hb hby d2_40) rfl ((if0 _ _).trans (feq hc40).2) (by decide) (by decide) (XS.iloadN X0.here hx rfl (hb hby d2_47) rfl  (XS.iconst X0.here hx rfl (hb hby d2_48) (kk)))) ?_
        show Dn p e below s _ _ _ (s₁.setTop (mkF m 49 #[.val (.int kx), .val (.int bx)] [(.int (1 : Int32)), (.int bx)]))
        by_cases hc49 : bx = (1 : Int32)
        · refine Dn.st (fun _ kk => XS.icmpNo X0.here hx rfl (hb hby d2_49) rfl (teq hc49).2 (X0.ldc2DoubleC hx hown (mvT hZ (hw _ (List.mem_of_getElem? (i := 19) rfl))) (g := (mkF m 52 #[.val (.int kx), .val (.int bx)] [])) rfl (hb hby d2_52) _ (kk))) ?_
          show Dn p e below s _ _ _ (s₁.setTop (mkF m 55 #[.val (.int kx), .val (.int bx)] [(.double (4600877379321698714 : UInt64))]))
          exact Dn.ret X0 hlk hx hret rfl (Or.inr (Or.inr (Or.inl ⟨rfl, rfl, _, rfl⟩))) (hb hby d2_55) (by rw [e0]; exact ⟨congrArg (fun z => some (Value.double z)) (by unfold own_exp; rw [if_neg hc1, if_pos hc36, if_neg hc40, if_pos hc49]), N0, rfl⟩) (by decide) (by decide)
        · refine Dn.st (fun _ kk => XS.icmpYes X0.here hx rfl (pc0 := 49) (pc' := 56) rfl (hb hby d2_49) rfl (feq hc49).2 (by decide) (by decide) (XS.iloadN X0.here hx rfl (hb hby d2_56) rfl  (XS.iconst X0.here hx rfl (hb hby d2_57) (kk)))) ?_
          show Dn p e below s _ _ _ (s₁.setTop (mkF m 58 #[.val (.int kx), .val (.int bx)] [(.int (2 : Int32)), (.int bx)]))
          by_cases hc58 : bx = (2 : Int32)
          · refine Dn.st (fun _ kk => XS.icmpNo X0.here hx rfl (hb hby d2_58) rfl (teq hc58).2 (X0.ldc2DoubleC hx hown (mvT hZ (hw _ (List.mem_of_getElem? (i := 27) rfl))) (g := (mkF m 61 #[.val (.int kx), .val (.int bx)] [])) rfl (hb hby d2_61) _ (kk))) ?_
            show Dn p e below s _ _ _ (s₁.setTop (mkF m 64 #[.val (.int kx), .val (.int bx)] [(.double (4599075939470750515 : UInt64))]))
            exact Dn.ret X0 hlk hx hret rfl (Or.inr (Or.inr (Or.inl ⟨rfl, rfl, _, rfl⟩))) (hb hby d2_64) (by rw [e0]; exact ⟨congrArg (fun z => some (Value.double z)) (by unfold own_exp; rw [if_neg hc1, if_pos hc36, if_neg hc40, if_neg hc49, if_pos hc58]), N0, rfl⟩) (by decide) (by decide)
          · refine Dn.st (fun _ kk => XS.icmpYes X0.here hx rfl (pc0 := 58) (pc' := 65) rfl (hb hby d2_58) rfl (feq hc58).2 (by decide) (by decide) (X0.ldc2DoubleC hx hown (mvT hZ (hw _ (List.mem_of_getElem? (i := 24) rfl))) (g := (mkF m 65 #[.val (.int kx), .val (.int bx)] [])) rfl (hb hby d2_65) _ (kk))) ?_
            show Dn p e below s _ _ _ (s₁.setTop (mkF m 68 #[.val (.int kx), .val (.int bx)] [(.double (4596373779694328218 : UInt64))]))
            exact Dn.ret X0 hlk hx hret rfl (Or.inr (Or.inr (Or.inl ⟨rfl, rfl, _, rfl⟩))) (hb hby d2_68) (by rw [e0]; exact ⟨congrArg (fun z => some (Value.double z)) (by unfold own_exp; rw [if_neg hc1, if_pos hc36, if_neg hc40, if_neg hc49, if_neg hc58]), N0, rfl⟩) (by decide) (by decide)
    · refine Dn.st (fun _ kk => XS.icmpYes X0.here hx rfl (pc0 := 36) (pc' := 69) rfl (hb hby d2_36) rfl (feq hc36).2 (by decide) (by decide) (XS.iloadN X0.here hx rfl (hb hby d2_69) rfl  (kk))) ?_
      show Dn p e below s _ _ _ (s₁.setTop (mkF m 70 #[.val (.int kx), .val (.int bx)] [(.int bx)]))
      by_cases hc70 : bx = (0 : Int32)
      · refine Dn.st (fun _ kk => XS.ifNo X0.here hx rfl (hb hby d2_70) rfl ((if0 _ _).trans (teq hc70).2) (X0.ldc2DoubleC hx hown (mvT hZ (hw _ (List.mem_of_getElem? (i := 28) rfl))) (g := (mkF m 73 #[.val (.int kx), .val (.int bx)] [])) rfl (hb hby d2_73) _ (kk))) ?_
        show Dn p e below s _ _ _ (s₁.setTop (mkF m 76 #[.val (.int kx), .val (.int bx)] [(.double (4603579539098121011 : UInt64))]))
        exact Dn.ret X0 hlk hx hret rfl (Or.inr (Or.inr (Or.inl ⟨rfl, rfl, _, rfl⟩))) (hb hby d2_76) (by rw [e0]; exact ⟨congrArg (fun z => some (Value.double z)) (by unfold own_exp; rw [if_neg hc1, if_neg hc36, if_pos hc70]), N0, rfl⟩) (by decide) (by decide)
      · refine Dn.st (fun _ kk => XS.ifYes X0.here hx rfl (pc0 := 70) (pc' := 77) rfl (hb hby d2_70) rfl ((if0 _ _).trans (feq hc70).2) (by decide) (by decide) (XS.iloadN X0.here hx rfl (hb hby d2_77) rfl  (XS.iconst X0.here hx rfl (hb hby d2_78) (kk)))) ?_
        show Dn p e below s _ _ _ (s₁.setTop (mkF m 79 #[.val (.int kx), .val (.int bx)] [(.int (1 : Int32)), (.int bx)]))
        by_cases hc79 : bx = (1 : Int32)
        · refine Dn.st (fun _ kk => XS.icmpNo X0.here hx rfl (hb hby d2_79) rfl (teq hc79).2 (X0.ldc2DoubleC hx hown (mvT hZ (hw _ (List.mem_of_getElem? (i := 30) rfl))) (g := (mkF m 82 #[.val (.int kx), .val (.int bx)] [])) rfl (hb hby d2_82) _ (kk))) ?_
          show Dn p e below s _ _ _ (s₁.setTop (mkF m 85 #[.val (.int kx), .val (.int bx)] [(.double (4602678819172646912 : UInt64))]))
          exact Dn.ret X0 hlk hx hret rfl (Or.inr (Or.inr (Or.inl ⟨rfl, rfl, _, rfl⟩))) (hb hby d2_85) (by rw [e0]; exact ⟨congrArg (fun z => some (Value.double z)) (by unfold own_exp; rw [if_neg hc1, if_neg hc36, if_neg hc70, if_pos hc79]), N0, rfl⟩) (by decide) (by decide)
        · refine Dn.st (fun _ kk => XS.icmpYes X0.here hx rfl (pc0 := 79) (pc' := 86) rfl (hb hby d2_79) rfl (feq hc79).2 (by decide) (by decide) (XS.iloadN X0.here hx rfl (hb hby d2_86) rfl  (XS.iconst X0.here hx rfl (hb hby d2_87) (kk)))) ?_
          show Dn p e below s _ _ _ (s₁.setTop (mkF m 88 #[.val (.int kx), .val (.int bx)] [(.int (2 : Int32)), (.int bx)]))
          by_cases hc88 : bx = (2 : Int32)
          · refine Dn.st (fun _ kk => XS.icmpNo X0.here hx rfl (hb hby d2_88) rfl (teq hc88).2 (X0.ldc2DoubleC hx hown (mvT hZ (hw _ (List.mem_of_getElem? (i := 19) rfl))) (g := (mkF m 91 #[.val (.int kx), .val (.int bx)] [])) rfl (hb hby d2_91) _ (kk))) ?_
            show Dn p e below s _ _ _ (s₁.setTop (mkF m 94 #[.val (.int kx), .val (.int bx)] [(.double (4600877379321698714 : UInt64))]))
            exact Dn.ret X0 hlk hx hret rfl (Or.inr (Or.inr (Or.inl ⟨rfl, rfl, _, rfl⟩))) (hb hby d2_94) (by rw [e0]; exact ⟨congrArg (fun z => some (Value.double z)) (by unfold own_exp; rw [if_neg hc1, if_neg hc36, if_neg hc70, if_neg hc79, if_pos hc88]), N0, rfl⟩) (by decide) (by decide)
          · refine Dn.st (fun _ kk => XS.icmpYes X0.here hx rfl (pc0 := 88) (pc' := 95) rfl (hb hby d2_88) rfl (feq hc88).2 (by decide) (by decide) (X0.ldc2DoubleC hx hown (mvT hZ (hw _ (List.mem_of_getElem? (i := 27) rfl))) (g := (mkF m 95 #[.val (.int kx), .val (.int bx)] [])) rfl (hb hby d2_95) _ (kk))) ?_
            show Dn p e below s _ _ _ (s₁.setTop (mkF m 98 #[.val (.int kx), .val (.int bx)] [(.double (4599075939470750515 : UInt64))]))
            exact Dn.ret X0 hlk hx hret rfl (Or.inr (Or.inr (Or.inl ⟨rfl, rfl, _, rfl⟩))) (hb hby d2_98) (by rw [e0]; exact ⟨congrArg (fun z => some (Value.double z)) (by unfold own_exp; rw [if_neg hc1, if_neg hc36, if_neg hc70, if_neg hc79, if_neg hc88]), N0, rfl⟩) (by decide) (by decide)

theorem dc_4619229547803233485 : DS 50 7543529375845581 (4619229547803233485 : UInt64) := DS.lit (s := false) (c := 7543529375845581) (q := -50) (by decide +kernel) (by decide +kernel)
theorem dc_4619792497756654797 : DS 50 8106479329266893 (4619792497756654797 : UInt64) := DS.lit (s := false) (c := 8106479329266893) (q := -50) (by decide +kernel) (by decide +kernel)
theorem dc_4620355447710076109 : DS 50 8669429282688205 (4620355447710076109 : UInt64) := DS.lit (s := false) (c := 8669429282688205) (q := -50) (by decide +kernel) (by decide +kernel)
theorem pd0 : parseMethodDescriptor "(D)D" = some ⟨[.double], some .double⟩ := by decide +kernel
theorem pd1 : parseMethodDescriptor "(II)D" = some ⟨[.int, .int], some .double⟩ := by decide +kernel
theorem ef0_rm0 (m : MethodId) (x0 : Int32) (x1 : Int32) (x2 : Int32) : entryFrame m #[(.int x0), (.int x1), (.int x2)] maxLocals = mkF m 0 #[.val (.int x0), .val (.int x1), .val (.int x2), .unset, .unset, .unset, .unset, .unset] [] := by first | (simp [entryFrame, mkF, argsToLocals, Value.category, maxLocals]; done) | rfl
def Q0 (Z : State) (p0 : Int32) (p1 : Int32) (p2 : Int32) (aB aL aM aH aLx aMx aHx : Addr) (kB kaL kaM kaH : ClassId) (h0 : Heap) (n0 : Nat) (v : Option Value) (h : Heap) (L : List Loc) : Prop := v = some (.int 1) ∧ Fr n0 L
set_option maxRecDepth 65536 in
set_option maxHeartbeats 40000000 in
theorem rm0 (l : Launch) (Z : State) (a0 : Array Value) (hw : ∀ d ∈ tables_1, d.before a0 Z = true) (ws : List Jvm.Cond) (p0 : Int32) (p1 : Int32) (p2 : Int32) (aB aL aM aH aLx aMx aHx : Addr) (kB kaL kaM kaH : ClassId) (h0 : Heap) (n0 : Nat) (Z0 : n0 ≤ h0.size) (S_B : Sta Z h0 "org/rupturecast/renewal/Aperiodicity" "BIN_TOPS" "[D" (.ref aB)) (V_B : Arv Z h0 aB kB .double 3 [(.double (4619229547803233485 : UInt64)), (.double (4619792497756654797 : UInt64)), (.double (4620355447710076109 : UInt64))] (.double 0)) (S_LOW : Sta Z h0 "org/rupturecast/renewal/Aperiodicity" "LOW" "Lorg/rupturecast/renewal/Aperiodicity;" (.ref aL)) (E_LOW : Exa Z h0 aL "org/rupturecast/renewal/Aperiodicity") (F_LOW : Fld Z h0 aL "org/rupturecast/renewal/Aperiodicity" "byBin" "[D" (.ref aLx)) (V_LOW : Arv Z h0 aLx kaL .double 4 [(.double (4600877379321698714 : UInt64)), (.double (4599075939470750515 : UInt64)), (.double (4596373779694328218 : UInt64)), (.double (4591870180066957722 : UInt64))] (.double 0)) (S_MID : Sta Z h0 "org/rupturecast/renewal/Aperiodicity" "MID" "Lorg/rupturecast/renewal/Aperiodicity;" (.ref aM)) (E_MID : Exa Z h0 aM "org/rupturecast/renewal/Aperiodicity") (F_MID : Fld Z h0 aM "org/rupturecast/renewal/Aperiodicity" "byBin" "[D" (.ref aMx)) (V_MID : Arv Z h0 aMx kaM .double 4 [(.double (4602678819172646912 : UInt64)), (.double (4600877379321698714 : UInt64)), (.double (4599075939470750515 : UInt64)), (.double (4596373779694328218 : UInt64))] (.double 0)) (S_HIGH : Sta Z h0 "org/rupturecast/renewal/Aperiodicity" "HIGH" "Lorg/rupturecast/renewal/Aperiodicity;" (.ref aH)) (E_HIGH : Exa Z h0 aH "org/rupturecast/renewal/Aperiodicity") (F_HIGH : Fld Z h0 aH "org/rupturecast/renewal/Aperiodicity" "byBin" "[D" (.ref aHx)) (V_HIGH : Arv Z h0 aHx kaH .double 4 [(.double (4603579539098121011 : UInt64)), (.double (4602678819172646912 : UInt64)), (.double (4600877379321698714 : UInt64)), (.double (4599075939470750515 : UInt64))] (.double 0)) :
    MetFree l x (head1 (Jvm.Cond.code x code maxLocals ret :: ws) room_1) (fun aa UU => aa = #[(.int p0), (.int p1), (.int p2)] ∧ Z.Warmed39 UU.vm ∧ UU.heap = h0) (fun _ _ _ _ _ => True) (fun _ UU oo UU' => ∃ vv LL, oo = .returned vv ∧ Q0 Z p0 p1 p2 aB aL aM aH aLx aMx aHx kB kaL kaM kaH h0 n0 vv UU'.heap LL ∧ FrameEnd UU oo UU' LL 0 0) := by
  refine MetFree.of_bodySF (plainFor_of_name pn1) hisR ?_
  intro p e s m args below meth c s₁ Bd hml0 hP hK
  obtain ⟨rfl, hZ, hh⟩ := hP
  have hx := Bd.exec
  have hby := Bd.bytes
  have hlk : meth.locks = false := BodyLoose.notSynchronized Bd
  have hret := Bd.returns
  have hml : c.maxLocals = 8 := hml0
  have hown : s.vm.findClass "org/rupturecast/renewal/AperiodicityOfPinLaw" = some m.cls := findClass_of_methodNamed Bd.named
  have hnm := (name_of_methodNamed Bd.named Bd.method).1
  have X0 : Stand p l e room_1 s m #[(.int p0), (.int p1), (.int p2)] below meth c s₁ [] 0 0 := Stand.of_body Bd
  have e0 : s₁.heap = h0 := by rw [← hh, Bd.state]; rfl
  have N0 := Fr.nil n0
  show Dn p e below s (Q0 Z p0 p1 p2 aB aL aM aH aLx aMx aHx kB kaL kaM kaH h0 n0) 0 0 (s₁.setTop (entryFrame m #[(.int p0), (.int p1), (.int p2)] maxLocals))
  refine Dn.st (fun _ kk => castTop (ef0_rm0 m p0 p1 p2) kk) ?_
  show Dn p e below s _ _ _ (s₁.setTop (mkF m 0 #[.val (.int p0), .val (.int p1), .val (.int p2), .unset, .unset, .unset, .unset, .unset] []))
  refine Dn.st (fun _ kk => XS.iloadN X0.here hx rfl (hb hby at_0) rfl  (X0.ldcInt hx hown (mvT hZ (hw _ (List.mem_of_getElem? (i := 0) rfl))) (g := (mkF m 1 #[.val (.int p0), .val (.int p1), .val (.int p2), .unset, .unset, .unset, .unset, .unset] [(.int p0)])) rfl (hb hby at_1) _ (XS.iand X0.here hx rfl (hb hby at_3) rfl (kk)))) ?_
  show Dn p e below s _ _ _ (s₁.setTop (mkF m 4 #[.val (.int p0), .val (.int p1), .val (.int p2), .unset, .unset, .unset, .unset, .unset] [(.int (p0 &&& (2147483647 : Int32)))]))
  generalize hv3 : ((p0 &&& (2147483647 : Int32)) : Int32) = v3
  show Dn p e below s _ _ _ (s₁.setTop (mkF m 4 #[.val (.int p0), .val (.int p1), .val (.int p2), .unset, .unset, .unset, .unset, .unset] [(.int v3)]))
  refine Dn.st (fun _ kk => XS.iconst X0.here hx rfl (hb hby at_4) (iremM X0 hx rfl (hb hby at_5) rfl (by decide) (kk))) ?_
  show Dn p e below s _ _ _ (s₁.setTop (mkF m 6 #[.val (.int p0), .val (.int p1), .val (.int p2), .unset, .unset, .unset, .unset, .unset] [(.int (v3 % (3 : Int32)))]))
  generalize hv5 : ((v3 % (3 : Int32)) : Int32) = v5
  show Dn p e below s _ _ _ (s₁.setTop (mkF m 6 #[.val (.int p0), .val (.int p1), .val (.int p2), .unset, .unset, .unset, .unset, .unset] [(.int v5)]))
  refine Dn.st (fun _ kk => XS.istoreN X0.here hx rfl (hb hby at_6) rfl (l' := #[.val (.int p0), .val (.int p1), .val (.int p2), .val (.int v5), .unset, .unset, .unset, .unset]) rfl (XS.iloadN X0.here hx rfl (hb hby at_7) rfl  (kk))) ?_
  show Dn p e below s _ _ _ (s₁.setTop (mkF m 8 #[.val (.int p0), .val (.int p1), .val (.int p2), .val (.int v5), .unset, .unset, .unset, .unset] [(.int v5)]))
  by_cases hc8 : v5 = (0 : Int32)
  · refine Dn.st (fun _ kk => XS.ifNo X0.here hx rfl (hb hby at_8) rfl ((if0 _ _).trans (teq hc8).2) (kk)) ?_
    show Dn p e below s _ _ _ (s₁.setTop (mkF m 11 #[.val (.int p0), .val (.int p1), .val (.int p2), .val (.int v5), .unset, .unset, .unset, .unset] []))
    obtain ⟨T11, X11, e11, st11⟩ := getS2 X0 hx hZ hown (host := "") (Or.inl (hw _ (List.mem_of_getElem? (i := 1) rfl))) Via.refl e0 S_LOW (g := (mkF m 11 #[.val (.int p0), .val (.int p1), .val (.int p2), .val (.int v5), .unset, .unset, .unset, .unset] [])) rfl (hb hby at_11)
    refine Dn.st st11 ?_
    show Dn p e below s _ _ _ (T11.setTop (mkF m 14 #[.val (.int p0), .val (.int p1), .val (.int p2), .val (.int v5), .unset, .unset, .unset, .unset] [(.ref aL)]))
    refine Dn.st (fun _ kk => XS.astore X11.here hx rfl (hb hby at_14) rfl rfl (l' := #[.val (.int p0), .val (.int p1), .val (.int p2), .val (.int v5), .val (.ref aL), .unset, .unset, .unset]) rfl (XS.goto X11.here hx rfl (pc0 := 16) (pc' := 37) rfl (hb hby at_16) (by decide) (by decide) (XS.iloadN X11.here hx rfl (hb hby at_37) rfl  (XS.iconst X11.here hx rfl (hb hby at_38) (XS.iand X11.here hx rfl (hb hby at_39) rfl (kk)))))) ?_
    show Dn p e below s _ _ _ (T11.setTop (mkF m 40 #[.val (.int p0), .val (.int p1), .val (.int p2), .val (.int v5), .val (.ref aL), .unset, .unset, .unset] [(.int (p2 &&& (1 : Int32)))]))
    generalize hv39 : ((p2 &&& (1 : Int32)) : Int32) = v39
    show Dn p e below s _ _ _ (T11.setTop (mkF m 40 #[.val (.int p0), .val (.int p1), .val (.int p2), .val (.int v5), .val (.ref aL), .unset, .unset, .unset] [(.int v39)]))
    by_cases hc40 : v39 = (0 : Int32)
    · refine Dn.st (fun _ kk => XS.ifNo X11.here hx rfl (hb hby at_40) rfl ((if0 _ _).trans (teq hc40).2) (XS.iloadN X11.here hx rfl (hb hby at_43) rfl  (XS.sipush X11.here hx rfl (hb hby at_44) (iremM X11 hx rfl (hb hby at_47) rfl (by decide) (kk))))) ?_
      show Dn p e below s _ _ _ (T11.setTop (mkF m 48 #[.val (.int p0), .val (.int p1), .val (.int p2), .val (.int v5), .val (.ref aL), .unset, .unset, .unset] [(.int (p1 % (2000 : Int32)))]))
      generalize hv47 : ((p1 % (2000 : Int32)) : Int32) = v47
      show Dn p e below s _ _ _ (T11.setTop (mkF m 48 #[.val (.int p0), .val (.int p1), .val (.int p2), .val (.int v5), .val (.ref aL), .unset, .unset, .unset] [(.int v47)]))
      have d48 := DS.i2d v47
      refine Dn.st (fun _ kk => XS.i2dS X11.here hx rfl (hb hby at_48) rfl rfl (kk)) ?_
      show Dn p e below s _ _ _ (T11.setTop (mkF m 49 #[.val (.int p0), .val (.int p1), .val (.int p2), .val (.int v5), .val (.ref aL), .unset, .unset, .unset] [(.double (FP.i2d v47))]))
      generalize hv48 : ((FP.i2d v47) : UInt64) = v48 at d48 ⊢
      show Dn p e below s _ _ _ (T11.setTop (mkF m 49 #[.val (.int p0), .val (.int p1), .val (.int p2), .val (.int v5), .val (.ref aL), .unset, .unset, .unset] [(.double v48)]))
      refine Dn.st (fun _ kk => X11.ldc2DoubleC hx hown (mvT hZ (hw _ (List.mem_of_getElem? (i := 4) rfl))) (g := (mkF m 49 #[.val (.int p0), .val (.int p1), .val (.int p2), .val (.int v5), .val (.ref aL), .unset, .unset, .unset] [(.double v48)])) rfl (hb hby at_49) _ (kk)) ?_
      show Dn p e below s _ _ _ (T11.setTop (mkF m 52 #[.val (.int p0), .val (.int p1), .val (.int p2), .val (.int v5), .val (.ref aL), .unset, .unset, .unset] [(.double (4636737291354636288 : UInt64)), (.double v48)]))
      have nm := Jvm.Free.Fl.ddiv_out d48.nn own_f100 own_n100
      refine Dn.st (fun _ kk => XS.ddivS X11.here hx rfl (hb hby at_52) rfl nm rfl (kk)) ?_
      show Dn p e below s _ _ _ (T11.setTop (mkF m 53 #[.val (.int p0), .val (.int p1), .val (.int p2), .val (.int v5), .val (.ref aL), .unset, .unset, .unset] [(.double (FP.ddiv v48 (4636737291354636288 : UInt64)))]))
      generalize hv52 : ((FP.ddiv v48 (4636737291354636288 : UInt64)) : UInt64) = v52
      rw [hv52] at nm
      show Dn p e below s _ _ _ (T11.setTop (mkF m 53 #[.val (.int p0), .val (.int p1), .val (.int p2), .val (.int v5), .val (.ref aL), .unset, .unset, .unset] [(.double v52)]))
      refine Dn.st (fun _ kk => XS.dstore X11.here hx rfl (hb hby at_53) rfl (l' := #[.val (.int p0), .val (.int p1), .val (.int p2), .val (.int v5), .val (.ref aL), .val (.double v52), .second, .unset]) rfl (XS.goto X11.here hx rfl (pc0 := 55) (pc' := 62) rfl (hb hby at_55) (by decide) (by decide) (XS.dload X11.here hx rfl (hb hby at_62) rfl  (X11.ldc2DoubleC hx hown (mvT hZ (hw _ (List.mem_of_getElem? (i := 5) rfl))) (g := (mkF m 64 #[.val (.int p0), .val (.int p1), .val (.int p2), .val (.int v5), .val (.ref aL), .val (.double v52), .second, .unset] [(.double v52)])) rfl (hb hby at_64) _ (XS.dcmpS X11.here hx rfl (hb hby at_67) rfl (show cmpValue (FP.dcmp v52 (4619229547803233485 : UInt64)) .g = (own_o v52 (4619229547803233485 : UInt64)) from (own_og nm (DS.nn dc_4619229547803233485))) (kk)))))) ?_
      show Dn p e below s _ _ _ (T11.setTop (mkF m 68 #[.val (.int p0), .val (.int p1), .val (.int p2), .val (.int v5), .val (.ref aL), .val (.double v52), .second, .unset] [(.int (own_o v52 (4619229547803233485 : UInt64)))]))
      by_cases hc68 : (0 : Int32) < (own_o v52 (4619229547803233485 : UInt64))
      · refine Dn.st (fun _ kk => XS.ifYes X11.here hx rfl (pc0 := 68) (pc' := 77) rfl (hb hby at_68) rfl ((if0 _ _).trans (tlt hc68).2.2.1) (by decide) (by decide) (XS.dload X11.here hx rfl (hb hby at_77) rfl  (X11.ldc2DoubleC hx hown (mvT hZ (hw _ (List.mem_of_getElem? (i := 22) rfl))) (g := (mkF m 79 #[.val (.int p0), .val (.int p1), .val (.int p2), .val (.int v5), .val (.ref aL), .val (.double v52), .second, .unset] [(.double v52)])) rfl (hb hby at_79) _ (XS.dcmpS X11.here hx rfl (hb hby at_82) rfl (show cmpValue (FP.dcmp v52 (4619792497756654797 : UInt64)) .g = (own_o v52 (4619792497756654797 : UInt64)) from (own_og nm (DS.nn dc_4619792497756654797))) (kk))))) ?_
        show Dn p e below s _ _ _ (T11.setTop (mkF m 83 #[.val (.int p0), .val (.int p1), .val (.int p2), .val (.int v5), .val (.ref aL), .val (.double v52), .second, .unset] [(.int (own_o v52 (4619792497756654797 : UInt64)))]))
        by_cases hc83 : (0 : Int32) < (own_o v52 (4619792497756654797 : UInt64))
        · refine Dn.st (fun _ kk => XS.ifYes X11.here hx rfl (pc0 := 83) (pc' := 92) rfl (hb hby at_83) rfl ((if0 _ _).trans (tlt hc83).2.2.1) (by decide) (by decide) (XS.dload X11.here hx rfl (hb hby at_92) rfl  (X11.ldc2DoubleC hx hown (mvT hZ (hw _ (List.mem_of_getElem? (i := 23) rfl))) (g := (mkF m 94 #[.val (.int p0), .val (.int p1), .val (.int p2), .val (.int v5), .val (.ref aL), .val (.double v52), .second, .unset] [(.double v52)])) rfl (hb hby at_94) _ (XS.dcmpS X11.here hx rfl (hb hby at_97) rfl (show cmpValue (FP.dcmp v52 (4620355447710076109 : UInt64)) .g = (own_o v52 (4620355447710076109 : UInt64)) from (own_og nm (DS.nn dc_4620355447710076109))) (kk))))) ?_
          show Dn p e below s _ _ _ (T11.setTop (mkF m 98 #[.val (.int p0), .val (.int p1), .val (.int p2), .val (.int v5), .val (.ref aL), .val (.double v52), .second, .unset] [(.int (own_o v52 (4620355447710076109 : UInt64)))]))
          by_cases hc98 : (0 : Int32) < (own_o v52 (4620355447710076109 : UInt64))
          · refine Dn.st (fun _ kk => XS.ifYes X11.here hx rfl (pc0 := 98) (pc' := 107) rfl (hb hby at_98) rfl ((if0 _ _).trans (tlt hc98).2.2.1) (by decide) (by decide) (XS.iconst X11.here hx rfl (hb hby at_107) (XS.istore X11.here hx rfl (hb hby at_108) rfl (l' := #[.val (.int p0), .val (.int p1), .val (.int p2), .val (.int v5), .val (.ref aL), .val (.double v52), .second, .val (.int (3 : Int32))]) rfl (XS.aload X11.here hx rfl (hb hby at_110) rfl rfl (XS.dload X11.here hx rfl (hb hby at_112) rfl  (kk)))))) ?_
            show Dn p e below s _ _ _ (T11.setTop (mkF m 114 #[.val (.int p0), .val (.int p1), .val (.int p2), .val (.int v5), .val (.ref aL), .val (.double v52), .second, .val (.int (3 : Int32))] [(.double v52), (.ref aL)]))
            obtain ⟨cq114, kq114, q114a, q114b, q114c⟩ := isOf hZ e11 E_LOW
            obtain ⟨_, _, ⟨T114, L114, k114, n114⟩, -, X114, ⟨Lc114, hQ114, l114, y114, z114⟩, st114⟩ := X11.virtualBack hx (y := (⟨"org/rupturecast/renewal/Aperiodicity", "of", "(D)D"⟩ : MethodName)) (z := (⟨"org/rupturecast/renewal/Aperiodicity", "of", "(D)D"⟩ : MethodName)) hown (mvT hZ (hw _ (List.mem_of_getElem? (i := 6) rfl))) (mvT hZ (hw _ (List.mem_of_getElem? (i := 7) rfl))) (notFace_of_selects (args := #[]) (mvT hZ (hw _ (List.mem_of_getElem? (i := 9) rfl)))) (mvT hZ (hw _ (List.mem_of_getElem? (i := 9) rfl))) (mvT hZ (hw _ (List.mem_of_getElem? (i := 8) rfl))) (by decide) (backOf (W := 0) (rm1 l Z a0 hw [] aL v52 aB aLx kB kaL (4600877379321698714 : UInt64) (4599075939470750515 : UInt64) (4596373779694328218 : UInt64) (4591870180066957722 : UInt64) h0 n0 Z0 S_B V_B F_LOW V_LOW) hZ (hw _ (List.mem_of_getElem? (i := 10) rfl)) (hw _ (List.mem_of_getElem? (i := 2) rfl)) (by decide) (by decide)) q114a q114c (g := (mkF m 114 #[.val (.int p0), .val (.int p1), .val (.int p2), .val (.int v5), .val (.ref aL), .val (.double v52), .second, .val (.int (3 : Int32))] [(.double v52), (.ref aL)])) rfl (by rw [hml]; rfl) (Steps.refl _) (argsL := [(.double v52)]) (rest := []) (lenOf pd0 rfl) rfl (by show 2 * 0 + _ ≤ _; exact Nat.le_of_eq rfl) (hb hby at_114) (fun _ _ => ⟨rfl, e11, (by decide : 0 + 0 ≤ _), (by decide : 0 + 0 ≤ _)⟩)
            dsimp only [Pt.U, Pt.locs, Pt.cells, Pt.slots] at X114 l114 y114 z114 st114 hQ114
            subst l114 y114 z114
            obtain ⟨hv114, Nq114, hh114⟩ := hQ114
            rw [show own_bin v52 (4600877379321698714 : UInt64) (4599075939470750515 : UInt64) (4596373779694328218 : UInt64) (4591870180066957722 : UInt64) = (4591870180066957722 : UInt64) by unfold own_bin; rw [if_pos hc68, if_pos hc83, if_pos hc98]] at hv114
            subst hv114
            have N114 := Fr.app N0 Nq114
            refine Dn.tr st114 ?_
            show Dn p e below s _ _ _ (T114.setTop (mkF m 117 #[.val (.int p0), .val (.int p1), .val (.int p2), .val (.int v5), .val (.ref aL), .val (.double v52), .second, .val (.int (3 : Int32))] [(.double (4591870180066957722 : UInt64))]))
            refine Dn.st (fun _ kk => XS.iloadN X114.here hx rfl (hb hby at_117) rfl  (XS.iload X114.here hx rfl (hb hby at_118) rfl  (kk))) ?_
            show Dn p e below s _ _ _ (T114.setTop (mkF m 120 #[.val (.int p0), .val (.int p1), .val (.int p2), .val (.int v5), .val (.ref aL), .val (.double v52), .second, .val (.int (3 : Int32))] [(.int (3 : Int32)), (.int v5), (.double (4591870180066957722 : UInt64))]))
            obtain ⟨_, _, ⟨T120, L120, k120, n120⟩, -, X120, ⟨Lc120, hQ120, l120, y120, z120⟩, st120⟩ := Jvm.LawKit.callS X114 hx (y := (⟨"org/rupturecast/renewal/AperiodicityOfPinLaw", "expected", "(II)D"⟩ : MethodName)) hown (mvT hZ (hw _ (List.mem_of_getElem? (i := 15) rfl))) (mvT hZ (hw _ (List.mem_of_getElem? (i := 16) rfl))) (mvT hZ (hw _ (List.mem_of_getElem? (i := 17) rfl))) (mvT hZ (hw _ (List.mem_of_getElem? (i := 18) rfl))) (by decide) (backOf (W := 2) (rm2 l Z a0 hw [] v5 (3 : Int32)  h0 n0 Z0 ) hZ (hw _ (List.mem_of_getElem? (i := 18) rfl)) (hw _ (List.mem_of_getElem? (i := 17) rfl)) (by decide) (by decide)) (g := (mkF m 120 #[.val (.int p0), .val (.int p1), .val (.int p2), .val (.int v5), .val (.ref aL), .val (.double v52), .second, .val (.int (3 : Int32))] [(.int (3 : Int32)), (.int v5), (.double (4591870180066957722 : UInt64))])) rfl (by rw [hml]; rfl) (argsL := [(.int v5), (.int (3 : Int32))]) (rest := [(.double (4591870180066957722 : UInt64))]) (lenOf pd1 rfl) rfl (by show 2 * 0 + _ ≤ _; exact Nat.le_of_eq rfl) (hb hby at_120) (fun _ _ => ⟨rfl, hh114, (by decide : 0 + 0 ≤ _), (by decide : 0 + 0 ≤ _)⟩)
            dsimp only [Pt.U, Pt.locs, Pt.cells, Pt.slots] at X120 l120 y120 z120 st120 hQ120
            subst l120 y120 z120
            obtain ⟨hv120, Nq120, hh120⟩ := hQ120
            rw [show own_exp v5 (3 : Int32) = (4591870180066957722 : UInt64) by unfold own_exp; rw [if_pos hc8, if_neg (by decide : ¬ ((3 : Int32) = 0)), if_neg (by decide : ¬ ((3 : Int32) = 1)), if_neg (by decide : ¬ ((3 : Int32) = 2))]] at hv120
            subst hv120
            have N120 := Fr.app N114 Nq120
            refine Dn.st st120 ?_
            show Dn p e below s _ _ _ (T120.setTop (mkF m 123 #[.val (.int p0), .val (.int p1), .val (.int p2), .val (.int v5), .val (.ref aL), .val (.double v52), .second, .val (.int (3 : Int32))] [(.double (4591870180066957722 : UInt64)), (.double (4591870180066957722 : UInt64))]))
            refine Dn.st (fun _ kk => XS.dcmpS X120.here hx rfl (hb hby at_123) rfl (show cmpValue (FP.dcmp (4591870180066957722 : UInt64) (4591870180066957722 : UInt64)) .l = (0 : Int32) from (by decide +kernel)) (kk)) ?_
            show Dn p e below s _ _ _ (T120.setTop (mkF m 124 #[.val (.int p0), .val (.int p1), .val (.int p2), .val (.int v5), .val (.ref aL), .val (.double v52), .second, .val (.int (3 : Int32))] [(.int (0 : Int32))]))
            have hc124 : (0 : Int32) = (0 : Int32) := by decide
            refine Dn.st (fun _ kk => XS.ifNo X120.here hx rfl (hb hby at_124) rfl ((if0 _ _).trans (teq hc124).2) (XS.iconst X120.here hx rfl (hb hby at_127) (XS.goto X120.here hx rfl (pc0 := 128) (pc' := 132) rfl (hb hby at_128) (by decide) (by decide) (kk)))) ?_
            show Dn p e below s _ _ _ (T120.setTop (mkF m 132 #[.val (.int p0), .val (.int p1), .val (.int p2), .val (.int v5), .val (.ref aL), .val (.double v52), .second, .val (.int (3 : Int32))] [(.int (1 : Int32))]))
            exact Dn.ret X120 hlk hx hret rfl (Or.inl ⟨rfl, Or.inr (Or.inl rfl), _, rfl⟩) (hb hby at_132) (by rw [hh120]; exact ⟨rfl, N120⟩) (by decide) (by decide)
          · refine Dn.st (fun _ kk => XS.ifNo X11.here hx rfl (hb hby at_98) rfl ((if0 _ _).trans (flt hc98).2.2.1) (XS.iconst X11.here hx rfl (hb hby at_101) (XS.istore X11.here hx rfl (hb hby at_102) rfl (l' := #[.val (.int p0), .val (.int p1), .val (.int p2), .val (.int v5), .val (.ref aL), .val (.double v52), .second, .val (.int (2 : Int32))]) rfl (XS.goto X11.here hx rfl (pc0 := 104) (pc' := 110) rfl (hb hby at_104) (by decide) (by decide) (XS.aload X11.here hx rfl (hb hby at_110) rfl rfl (XS.dload X11.here hx rfl (hb hby at_112) rfl  (kk))))))) ?_
            show Dn p e below s _ _ _ (T11.setTop (mkF m 114 #[.val (.int p0), .val (.int p1), .val (.int p2), .val (.int v5), .val (.ref aL), .val (.double v52), .second, .val (.int (2 : Int32))] [(.double v52), (.ref aL)]))
            obtain ⟨cq114, kq114, q114a, q114b, q114c⟩ := isOf hZ e11 E_LOW
            obtain ⟨_, _, ⟨T114, L114, k114, n114⟩, -, X114, ⟨Lc114, hQ114, l114, y114, z114⟩, st114⟩ := X11.virtualBack hx (y := (⟨"org/rupturecast/renewal/Aperiodicity", "of", "(D)D"⟩ : MethodName)) (z := (⟨"org/rupturecast/renewal/Aperiodicity", "of", "(D)D"⟩ : MethodName)) hown (mvT hZ (hw _ (List.mem_of_getElem? (i := 6) rfl))) (mvT hZ (hw _ (List.mem_of_getElem? (i := 7) rfl))) (notFace_of_selects (args := #[]) (mvT hZ (hw _ (List.mem_of_getElem? (i := 9) rfl)))) (mvT hZ (hw _ (List.mem_of_getElem? (i := 9) rfl))) (mvT hZ (hw _ (List.mem_of_getElem? (i := 8) rfl))) (by decide) (backOf (W := 0) (rm1 l Z a0 hw [] aL v52 aB aLx kB kaL (4600877379321698714 : UInt64) (4599075939470750515 : UInt64) (4596373779694328218 : UInt64) (4591870180066957722 : UInt64) h0 n0 Z0 S_B V_B F_LOW V_LOW) hZ (hw _ (List.mem_of_getElem? (i := 10) rfl)) (hw _ (List.mem_of_getElem? (i := 2) rfl)) (by decide) (by decide)) q114a q114c (g := (mkF m 114 #[.val (.int p0), .val (.int p1), .val (.int p2), .val (.int v5), .val (.ref aL), .val (.double v52), .second, .val (.int (2 : Int32))] [(.double v52), (.ref aL)])) rfl (by rw [hml]; rfl) (Steps.refl _) (argsL := [(.double v52)]) (rest := []) (lenOf pd0 rfl) rfl (by show 2 * 0 + _ ≤ _; exact Nat.le_of_eq rfl) (hb hby at_114) (fun _ _ => ⟨rfl, e11, (by decide : 0 + 0 ≤ _), (by decide : 0 + 0 ≤ _)⟩)
            dsimp only [Pt.U, Pt.locs, Pt.cells, Pt.slots] at X114 l114 y114 z114 st114 hQ114
            subst l114 y114 z114
            obtain ⟨hv114, Nq114, hh114⟩ := hQ114
            rw [show own_bin v52 (4600877379321698714 : UInt64) (4599075939470750515 : UInt64) (4596373779694328218 : UInt64) (4591870180066957722 : UInt64) = (4596373779694328218 : UInt64) by unfold own_bin; rw [if_pos hc68, if_pos hc83, if_neg hc98]] at hv114
            subst hv114
            have N114 := Fr.app N0 Nq114
            refine Dn.tr st114 ?_
            show Dn p e below s _ _ _ (T114.setTop (mkF m 117 #[.val (.int p0), .val (.int p1), .val (.int p2), .val (.int v5), .val (.ref aL), .val (.double v52), .second, .val (.int (2 : Int32))] [(.double (4596373779694328218 : UInt64))]))
            refine Dn.st (fun _ kk => XS.iloadN X114.here hx rfl (hb hby at_117) rfl  (XS.iload X114.here hx rfl (hb hby at_118) rfl  (kk))) ?_
            show Dn p e below s _ _ _ (T114.setTop (mkF m 120 #[.val (.int p0), .val (.int p1), .val (.int p2), .val (.int v5), .val (.ref aL), .val (.double v52), .second, .val (.int (2 : Int32))] [(.int (2 : Int32)), (.int v5), (.double (4596373779694328218 : UInt64))]))
            obtain ⟨_, _, ⟨T120, L120, k120, n120⟩, -, X120, ⟨Lc120, hQ120, l120, y120, z120⟩, st120⟩ := Jvm.LawKit.callS X114 hx (y := (⟨"org/rupturecast/renewal/AperiodicityOfPinLaw", "expected", "(II)D"⟩ : MethodName)) hown (mvT hZ (hw _ (List.mem_of_getElem? (i := 15) rfl))) (mvT hZ (hw _ (List.mem_of_getElem? (i := 16) rfl))) (mvT hZ (hw _ (List.mem_of_getElem? (i := 17) rfl))) (mvT hZ (hw _ (List.mem_of_getElem? (i := 18) rfl))) (by decide) (backOf (W := 2) (rm2 l Z a0 hw [] v5 (2 : Int32)  h0 n0 Z0 ) hZ (hw _ (List.mem_of_getElem? (i := 18) rfl)) (hw _ (List.mem_of_getElem? (i := 17) rfl)) (by decide) (by decide)) (g := (mkF m 120 #[.val (.int p0), .val (.int p1), .val (.int p2), .val (.int v5), .val (.ref aL), .val (.double v52), .second, .val (.int (2 : Int32))] [(.int (2 : Int32)), (.int v5), (.double (4596373779694328218 : UInt64))])) rfl (by rw [hml]; rfl) (argsL := [(.int v5), (.int (2 : Int32))]) (rest := [(.double (4596373779694328218 : UInt64))]) (lenOf pd1 rfl) rfl (by show 2 * 0 + _ ≤ _; exact Nat.le_of_eq rfl) (hb hby at_120) (fun _ _ => ⟨rfl, hh114, (by decide : 0 + 0 ≤ _), (by decide : 0 + 0 ≤ _)⟩)
            dsimp only [Pt.U, Pt.locs, Pt.cells, Pt.slots] at X120 l120 y120 z120 st120 hQ120
            subst l120 y120 z120
            obtain ⟨hv120, Nq120, hh120⟩ := hQ120
            rw [show own_exp v5 (2 : Int32) = (4596373779694328218 : UInt64) by unfold own_exp; rw [if_pos hc8, if_neg (by decide : ¬ ((2 : Int32) = 0)), if_neg (by decide : ¬ ((2 : Int32) = 1)), if_pos (rfl : (2 : Int32) = 2)]] at hv120
            subst hv120
            have N120 := Fr.app N114 Nq120
            refine Dn.st st120 ?_
            show Dn p e below s _ _ _ (T120.setTop (mkF m 123 #[.val (.int p0), .val (.int p1), .val (.int p2), .val (.int v5), .val (.ref aL), .val (.double v52), .second, .val (.int (2 : Int32))] [(.double (4596373779694328218 : UInt64)), (.double (4596373779694328218 : UInt64))]))
            refine Dn.st (fun _ kk => XS.dcmpS X120.here hx rfl (hb hby at_123) rfl (show cmpValue (FP.dcmp (4596373779694328218 : UInt64) (4596373779694328218 : UInt64)) .l = (0 : Int32) from (by decide +kernel)) (kk)) ?_
            show Dn p e below s _ _ _ (T120.setTop (mkF m 124 #[.val (.int p0), .val (.int p1), .val (.int p2), .val (.int v5), .val (.ref aL), .val (.double v52), .second, .val (.int (2 : Int32))] [(.int (0 : Int32))]))
            have hc124 : (0 : Int32) = (0 : Int32) := by decide
            refine Dn.st (fun _ kk => XS.ifNo X120.here hx rfl (hb hby at_124) rfl ((if0 _ _).trans (teq hc124).2) (XS.iconst X120.here hx rfl (hb hby at_127) (XS.goto X120.here hx rfl (pc0 := 128) (pc' := 132) rfl (hb hby at_128) (by decide) (by decide) (kk)))) ?_
            show Dn p e below s _ _ _ (T120.setTop (mkF m 132 #[.val (.int p0), .val (.int p1), .val (.int p2), .val (.int v5), .val (.ref aL), .val (.double v52), .second, .val (.int (2 : Int32))] [(.int (1 : Int32))]))
            exact Dn.ret X120 hlk hx hret rfl (Or.inl ⟨rfl, Or.inr (Or.inl rfl), _, rfl⟩) (hb hby at_132) (by rw [hh120]; exact ⟨rfl, N120⟩) (by decide) (by decide)
        · refine Dn.st (fun _ kk => XS.ifNo X11.here hx rfl (hb hby at_83) rfl ((if0 _ _).trans (flt hc83).2.2.1) (XS.iconst X11.here hx rfl (hb hby at_86) (XS.istore X11.here hx rfl (hb hby at_87) rfl (l' := #[.val (.int p0), .val (.int p1), .val (.int p2), .val (.int v5), .val (.ref aL), .val (.double v52), .second, .val (.int (1 : Int32))]) rfl (XS.goto X11.here hx rfl (pc0 := 89) (pc' := 110) rfl (hb hby at_89) (by decide) (by decide) (XS.aload X11.here hx rfl (hb hby at_110) rfl rfl (XS.dload X11.here hx rfl (hb hby at_112) rfl  (kk))))))) ?_
          show Dn p e below s _ _ _ (T11.setTop (mkF m 114 #[.val (.int p0), .val (.int p1), .val (.int p2), .val (.int v5), .val (.ref aL), .val (.double v52), .second, .val (.int (1 : Int32))] [(.double v52), (.ref aL)]))
          obtain ⟨cq114, kq114, q114a, q114b, q114c⟩ := isOf hZ e11 E_LOW
          obtain ⟨_, _, ⟨T114, L114, k114, n114⟩, -, X114, ⟨Lc114, hQ114, l114, y114, z114⟩, st114⟩ := X11.virtualBack hx (y := (⟨"org/rupturecast/renewal/Aperiodicity", "of", "(D)D"⟩ : MethodName)) (z := (⟨"org/rupturecast/renewal/Aperiodicity", "of", "(D)D"⟩ : MethodName)) hown (mvT hZ (hw _ (List.mem_of_getElem? (i := 6) rfl))) (mvT hZ (hw _ (List.mem_of_getElem? (i := 7) rfl))) (notFace_of_selects (args := #[]) (mvT hZ (hw _ (List.mem_of_getElem? (i := 9) rfl)))) (mvT hZ (hw _ (List.mem_of_getElem? (i := 9) rfl))) (mvT hZ (hw _ (List.mem_of_getElem? (i := 8) rfl))) (by decide) (backOf (W := 0) (rm1 l Z a0 hw [] aL v52 aB aLx kB kaL (4600877379321698714 : UInt64) (4599075939470750515 : UInt64) (4596373779694328218 : UInt64) (4591870180066957722 : UInt64) h0 n0 Z0 S_B V_B F_LOW V_LOW) hZ (hw _ (List.mem_of_getElem? (i := 10) rfl)) (hw _ (List.mem_of_getElem? (i := 2) rfl)) (by decide) (by decide)) q114a q114c (g := (mkF m 114 #[.val (.int p0), .val (.int p1), .val (.int p2), .val (.int v5), .val (.ref aL), .val (.double v52), .second, .val (.int (1 : Int32))] [(.double v52), (.ref aL)])) rfl (by rw [hml]; rfl) (Steps.refl _) (argsL := [(.double v52)]) (rest := []) (lenOf pd0 rfl) rfl (by show 2 * 0 + _ ≤ _; exact Nat.le_of_eq rfl) (hb hby at_114) (fun _ _ => ⟨rfl, e11, (by decide : 0 + 0 ≤ _), (by decide : 0 + 0 ≤ _)⟩)
          dsimp only [Pt.U, Pt.locs, Pt.cells, Pt.slots] at X114 l114 y114 z114 st114 hQ114
          subst l114 y114 z114
          obtain ⟨hv114, Nq114, hh114⟩ := hQ114
          rw [show own_bin v52 (4600877379321698714 : UInt64) (4599075939470750515 : UInt64) (4596373779694328218 : UInt64) (4591870180066957722 : UInt64) = (4599075939470750515 : UInt64) by unfold own_bin; rw [if_pos hc68, if_neg hc83]] at hv114
          subst hv114
          have N114 := Fr.app N0 Nq114
          refine Dn.tr st114 ?_
          show Dn p e below s _ _ _ (T114.setTop (mkF m 117 #[.val (.int p0), .val (.int p1), .val (.int p2), .val (.int v5), .val (.ref aL), .val (.double v52), .second, .val (.int (1 : Int32))] [(.double (4599075939470750515 : UInt64))]))
          refine Dn.st (fun _ kk => XS.iloadN X114.here hx rfl (hb hby at_117) rfl  (XS.iload X114.here hx rfl (hb hby at_118) rfl  (kk))) ?_
          show Dn p e below s _ _ _ (T114.setTop (mkF m 120 #[.val (.int p0), .val (.int p1), .val (.int p2), .val (.int v5), .val (.ref aL), .val (.double v52), .second, .val (.int (1 : Int32))] [(.int (1 : Int32)), (.int v5), (.double (4599075939470750515 : UInt64))]))
          obtain ⟨_, _, ⟨T120, L120, k120, n120⟩, -, X120, ⟨Lc120, hQ120, l120, y120, z120⟩, st120⟩ := Jvm.LawKit.callS X114 hx (y := (⟨"org/rupturecast/renewal/AperiodicityOfPinLaw", "expected", "(II)D"⟩ : MethodName)) hown (mvT hZ (hw _ (List.mem_of_getElem? (i := 15) rfl))) (mvT hZ (hw _ (List.mem_of_getElem? (i := 16) rfl))) (mvT hZ (hw _ (List.mem_of_getElem? (i := 17) rfl))) (mvT hZ (hw _ (List.mem_of_getElem? (i := 18) rfl))) (by decide) (backOf (W := 2) (rm2 l Z a0 hw [] v5 (1 : Int32)  h0 n0 Z0 ) hZ (hw _ (List.mem_of_getElem? (i := 18) rfl)) (hw _ (List.mem_of_getElem? (i := 17) rfl)) (by decide) (by decide)) (g := (mkF m 120 #[.val (.int p0), .val (.int p1), .val (.int p2), .val (.int v5), .val (.ref aL), .val (.double v52), .second, .val (.int (1 : Int32))] [(.int (1 : Int32)), (.int v5), (.double (4599075939470750515 : UInt64))])) rfl (by rw [hml]; rfl) (argsL := [(.int v5), (.int (1 : Int32))]) (rest := [(.double (4599075939470750515 : UInt64))]) (lenOf pd1 rfl) rfl (by show 2 * 0 + _ ≤ _; exact Nat.le_of_eq rfl) (hb hby at_120) (fun _ _ => ⟨rfl, hh114, (by decide : 0 + 0 ≤ _), (by decide : 0 + 0 ≤ _)⟩)
          dsimp only [Pt.U, Pt.locs, Pt.cells, Pt.slots] at X120 l120 y120 z120 st120 hQ120
          subst l120 y120 z120
          obtain ⟨hv120, Nq120, hh120⟩ := hQ120
          rw [show own_exp v5 (1 : Int32) = (4599075939470750515 : UInt64) by unfold own_exp; rw [if_pos hc8, if_neg (by decide : ¬ ((1 : Int32) = 0)), if_pos (rfl : (1 : Int32) = 1)]] at hv120
          subst hv120
          have N120 := Fr.app N114 Nq120
          refine Dn.st st120 ?_
          show Dn p e below s _ _ _ (T120.setTop (mkF m 123 #[.val (.int p0), .val (.int p1), .val (.int p2), .val (.int v5), .val (.ref aL), .val (.double v52), .second, .val (.int (1 : Int32))] [(.double (4599075939470750515 : UInt64)), (.double (4599075939470750515 : UInt64))]))
          refine Dn.st (fun _ kk => XS.dcmpS X120.here hx rfl (hb hby at_123) rfl (show cmpValue (FP.dcmp (4599075939470750515 : UInt64) (4599075939470750515 : UInt64)) .l = (0 : Int32) from (by decide +kernel)) (kk)) ?_
          show Dn p e below s _ _ _ (T120.setTop (mkF m 124 #[.val (.int p0), .val (.int p1), .val (.int p2), .val (.int v5), .val (.ref aL), .val (.double v52), .second, .val (.int (1 : Int32))] [(.int (0 : Int32))]))
          have hc124 : (0 : Int32) = (0 : Int32) := by decide
          refine Dn.st (fun _ kk => XS.ifNo X120.here hx rfl (hb hby at_124) rfl ((if0 _ _).trans (teq hc124).2) (XS.iconst X120.here hx rfl (hb hby at_127) (XS.goto X120.here hx rfl (pc0 := 128) (pc' := 132) rfl (hb hby at_128) (by decide) (by decide) (kk)))) ?_
          show Dn p e below s _ _ _ (T120.setTop (mkF m 132 #[.val (.int p0), .val (.int p1), .val (.int p2), .val (.int v5), .val (.ref aL), .val (.double v52), .second, .val (.int (1 : Int32))] [(.int (1 : Int32))]))
          exact Dn.ret X120 hlk hx hret rfl (Or.inl ⟨rfl, Or.inr (Or.inl rfl), _, rfl⟩) (hb hby at_132) (by rw [hh120]; exact ⟨rfl, N120⟩) (by decide) (by decide)
      · refine Dn.st (fun _ kk => XS.ifNo X11.here hx rfl (hb hby at_68) rfl ((if0 _ _).trans (flt hc68).2.2.1) (XS.iconst X11.here hx rfl (hb hby at_71) (XS.istore X11.here hx rfl (hb hby at_72) rfl (l' := #[.val (.int p0), .val (.int p1), .val (.int p2), .val (.int v5), .val (.ref aL), .val (.double v52), .second, .val (.int (0 : Int32))]) rfl (XS.goto X11.here hx rfl (pc0 := 74) (pc' := 110) rfl (hb hby at_74) (by decide) (by decide) (XS.aload X11.here hx rfl (hb hby at_110) rfl rfl (XS.dload X11.here hx rfl (hb hby at_112) rfl  (kk))))))) ?_
        show Dn p e below s _ _ _ (T11.setTop (mkF m 114 #[.val (.int p0), .val (.int p1), .val (.int p2), .val (.int v5), .val (.ref aL), .val (.double v52), .second, .val (.int (0 : Int32))] [(.double v52), (.ref aL)]))
        obtain ⟨cq114, kq114, q114a, q114b, q114c⟩ := isOf hZ e11 E_LOW
        obtain ⟨_, _, ⟨T114, L114, k114, n114⟩, -, X114, ⟨Lc114, hQ114, l114, y114, z114⟩, st114⟩ := X11.virtualBack hx (y := (⟨"org/rupturecast/renewal/Aperiodicity", "of", "(D)D"⟩ : MethodName)) (z := (⟨"org/rupturecast/renewal/Aperiodicity", "of", "(D)D"⟩ : MethodName)) hown (mvT hZ (hw _ (List.mem_of_getElem? (i := 6) rfl))) (mvT hZ (hw _ (List.mem_of_getElem? (i := 7) rfl))) (notFace_of_selects (args := #[]) (mvT hZ (hw _ (List.mem_of_getElem? (i := 9) rfl)))) (mvT hZ (hw _ (List.mem_of_getElem? (i := 9) rfl))) (mvT hZ (hw _ (List.mem_of_getElem? (i := 8) rfl))) (by decide) (backOf (W := 0) (rm1 l Z a0 hw [] aL v52 aB aLx kB kaL (4600877379321698714 : UInt64) (4599075939470750515 : UInt64) (4596373779694328218 : UInt64) (4591870180066957722 : UInt64) h0 n0 Z0 S_B V_B F_LOW V_LOW) hZ (hw _ (List.mem_of_getElem? (i := 10) rfl)) (hw _ (List.mem_of_getElem? (i := 2) rfl)) (by decide) (by decide)) q114a q114c (g := (mkF m 114 #[.val (.int p0), .val (.int p1), .val (.int p2), .val (.int v5), .val (.ref aL), .val (.double v52), .second, .val (.int (0 : Int32))] [(.double v52), (.ref aL)])) rfl (by rw [hml]; rfl) (Steps.refl _) (argsL := [(.double v52)]) (rest := []) (lenOf pd0 rfl) rfl (by show 2 * 0 + _ ≤ _; exact Nat.le_of_eq rfl) (hb hby at_114) (fun _ _ => ⟨rfl, e11, (by decide : 0 + 0 ≤ _), (by decide : 0 + 0 ≤ _)⟩)
        dsimp only [Pt.U, Pt.locs, Pt.cells, Pt.slots] at X114 l114 y114 z114 st114 hQ114
        subst l114 y114 z114
        obtain ⟨hv114, Nq114, hh114⟩ := hQ114
        rw [show own_bin v52 (4600877379321698714 : UInt64) (4599075939470750515 : UInt64) (4596373779694328218 : UInt64) (4591870180066957722 : UInt64) = (4600877379321698714 : UInt64) by unfold own_bin; rw [if_neg hc68]] at hv114
        subst hv114
        have N114 := Fr.app N0 Nq114
        refine Dn.tr st114 ?_
        show Dn p e below s _ _ _ (T114.setTop (mkF m 117 #[.val (.int p0), .val (.int p1), .val (.int p2), .val (.int v5), .val (.ref aL), .val (.double v52), .second, .val (.int (0 : Int32))] [(.double (4600877379321698714 : UInt64))]))
        refine Dn.st (fun _ kk => XS.iloadN X114.here hx rfl (hb hby at_117) rfl  (XS.iload X114.here hx rfl (hb hby at_118) rfl  (kk))) ?_
        show Dn p e below s _ _ _ (T114.setTop (mkF m 120 #[.val (.int p0), .val (.int p1), .val (.int p2), .val (.int v5), .val (.ref aL), .val (.double v52), .second, .val (.int (0 : Int32))] [(.int (0 : Int32)), (.int v5), (.double (4600877379321698714 : UInt64))]))
        obtain ⟨_, _, ⟨T120, L120, k120, n120⟩, -, X120, ⟨Lc120, hQ120, l120, y120, z120⟩, st120⟩ := Jvm.LawKit.callS X114 hx (y := (⟨"org/rupturecast/renewal/AperiodicityOfPinLaw", "expected", "(II)D"⟩ : MethodName)) hown (mvT hZ (hw _ (List.mem_of_getElem? (i := 15) rfl))) (mvT hZ (hw _ (List.mem_of_getElem? (i := 16) rfl))) (mvT hZ (hw _ (List.mem_of_getElem? (i := 17) rfl))) (mvT hZ (hw _ (List.mem_of_getElem? (i := 18) rfl))) (by decide) (backOf (W := 2) (rm2 l Z a0 hw [] v5 (0 : Int32)  h0 n0 Z0 ) hZ (hw _ (List.mem_of_getElem? (i := 18) rfl)) (hw _ (List.mem_of_getElem? (i := 17) rfl)) (by decide) (by decide)) (g := (mkF m 120 #[.val (.int p0), .val (.int p1), .val (.int p2), .val (.int v5), .val (.ref aL), .val (.double v52), .second, .val (.int (0 : Int32))] [(.int (0 : Int32)), (.int v5), (.double (4600877379321698714 : UInt64))])) rfl (by rw [hml]; rfl) (argsL := [(.int v5), (.int (0 : Int32))]) (rest := [(.double (4600877379321698714 : UInt64))]) (lenOf pd1 rfl) rfl (by show 2 * 0 + _ ≤ _; exact Nat.le_of_eq rfl) (hb hby at_120) (fun _ _ => ⟨rfl, hh114, (by decide : 0 + 0 ≤ _), (by decide : 0 + 0 ≤ _)⟩)
        dsimp only [Pt.U, Pt.locs, Pt.cells, Pt.slots] at X120 l120 y120 z120 st120 hQ120
        subst l120 y120 z120
        obtain ⟨hv120, Nq120, hh120⟩ := hQ120
        rw [show own_exp v5 (0 : Int32) = (4600877379321698714 : UInt64) by unfold own_exp; rw [if_pos hc8, if_pos (rfl : (0 : Int32) = 0)]] at hv120
        subst hv120
        have N120 := Fr.app N114 Nq120
        refine Dn.st st120 ?_
        show Dn p e below s _ _ _ (T120.setTop (mkF m 123 #[.val (.int p0), .val (.int p1), .val (.int p2), .val (.int v5), .val (.ref aL), .val (.double v52), .second, .val (.int (0 : Int32))] [(.double (4600877379321698714 : UInt64)), (.double (4600877379321698714 : UInt64))]))
        refine Dn.st (fun _ kk => XS.dcmpS X120.here hx rfl (hb hby at_123) rfl (show cmpValue (FP.dcmp (4600877379321698714 : UInt64) (4600877379321698714 : UInt64)) .l = (0 : Int32) from (by decide +kernel)) (kk)) ?_
        show Dn p e below s _ _ _ (T120.setTop (mkF m 124 #[.val (.int p0), .val (.int p1), .val (.int p2), .val (.int v5), .val (.ref aL), .val (.double v52), .second, .val (.int (0 : Int32))] [(.int (0 : Int32))]))
        have hc124 : (0 : Int32) = (0 : Int32) := by decide
        refine Dn.st (fun _ kk => XS.ifNo X120.here hx rfl (hb hby at_124) rfl ((if0 _ _).trans (teq hc124).2) (XS.iconst X120.here hx rfl (hb hby at_127) (XS.goto X120.here hx rfl (pc0 := 128) (pc' := 132) rfl (hb hby at_128) (by decide) (by decide) (kk)))) ?_
        show Dn p e below s _ _ _ (T120.setTop (mkF m 132 #[.val (.int p0), .val (.int p1), .val (.int p2), .val (.int v5), .val (.ref aL), .val (.double v52), .second, .val (.int (0 : Int32))] [(.int (1 : Int32))]))
        exact Dn.ret X120 hlk hx hret rfl (Or.inl ⟨rfl, Or.inr (Or.inl rfl), _, rfl⟩) (hb hby at_132) (by rw [hh120]; exact ⟨rfl, N120⟩) (by decide) (by decide)
    · refine Dn.st (fun _ kk => XS.ifYes X11.here hx rfl (pc0 := 40) (pc' := 58) rfl (hb hby at_40) rfl ((if0 _ _).trans (feq hc40).2) (by decide) (by decide) (XS.iloadN X11.here hx rfl (hb hby at_58) rfl  (kk))) ?_
      show Dn p e below s _ _ _ (T11.setTop (mkF m 59 #[.val (.int p0), .val (.int p1), .val (.int p2), .val (.int v5), .val (.ref aL), .unset, .unset, .unset] [(.int p1)]))
      have d59 := DS.i2d p1
      refine Dn.st (fun _ kk => XS.i2dS X11.here hx rfl (hb hby at_59) rfl rfl (kk)) ?_
      show Dn p e below s _ _ _ (T11.setTop (mkF m 60 #[.val (.int p0), .val (.int p1), .val (.int p2), .val (.int v5), .val (.ref aL), .unset, .unset, .unset] [(.double (FP.i2d p1))]))
      generalize hv59 : ((FP.i2d p1) : UInt64) = v59 at d59 ⊢
      have nm := d59.nn
      show Dn p e below s _ _ _ (T11.setTop (mkF m 60 #[.val (.int p0), .val (.int p1), .val (.int p2), .val (.int v5), .val (.ref aL), .unset, .unset, .unset] [(.double v59)]))
      refine Dn.st (fun _ kk => XS.dstore X11.here hx rfl (hb hby at_60) rfl (l' := #[.val (.int p0), .val (.int p1), .val (.int p2), .val (.int v5), .val (.ref aL), .val (.double v59), .second, .unset]) rfl (XS.dload X11.here hx rfl (hb hby at_62) rfl  (X11.ldc2DoubleC hx hown (mvT hZ (hw _ (List.mem_of_getElem? (i := 5) rfl))) (g := (mkF m 64 #[.val (.int p0), .val (.int p1), .val (.int p2), .val (.int v5), .val (.ref aL), .val (.double v59), .second, .unset] [(.double v59)])) rfl (hb hby at_64) _ (XS.dcmpS X11.here hx rfl (hb hby at_67) rfl (show cmpValue (FP.dcmp v59 (4619229547803233485 : UInt64)) .g = (own_o v59 (4619229547803233485 : UInt64)) from (own_og nm (DS.nn dc_4619229547803233485))) (kk))))) ?_
      show Dn p e below s _ _ _ (T11.setTop (mkF m 68 #[.val (.int p0), .val (.int p1), .val (.int p2), .val (.int v5), .val (.ref aL), .val (.double v59), .second, .unset] [(.int (own_o v59 (4619229547803233485 : UInt64)))]))
      by_cases hc68 : (0 : Int32) < (own_o v59 (4619229547803233485 : UInt64))
      · refine Dn.st (fun _ kk => XS.ifYes X11.here hx rfl (pc0 := 68) (pc' := 77) rfl (hb hby at_68) rfl ((if0 _ _).trans (tlt hc68).2.2.1) (by decide) (by decide) (XS.dload X11.here hx rfl (hb hby at_77) rfl  (X11.ldc2DoubleC hx hown (mvT hZ (hw _ (List.mem_of_getElem? (i := 22) rfl))) (g := (mkF m 79 #[.val (.int p0), .val (.int p1), .val (.int p2), .val (.int v5), .val (.ref aL), .val (.double v59), .second, .unset] [(.double v59)])) rfl (hb hby at_79) _ (XS.dcmpS X11.here hx rfl (hb hby at_82) rfl (show cmpValue (FP.dcmp v59 (4619792497756654797 : UInt64)) .g = (own_o v59 (4619792497756654797 : UInt64)) from (own_og nm (DS.nn dc_4619792497756654797))) (kk))))) ?_
        show Dn p e below s _ _ _ (T11.setTop (mkF m 83 #[.val (.int p0), .val (.int p1), .val (.int p2), .val (.int v5), .val (.ref aL), .val (.double v59), .second, .unset] [(.int (own_o v59 (4619792497756654797 : UInt64)))]))
        by_cases hc83 : (0 : Int32) < (own_o v59 (4619792497756654797 : UInt64))
        · refine Dn.st (fun _ kk => XS.ifYes X11.here hx rfl (pc0 := 83) (pc' := 92) rfl (hb hby at_83) rfl ((if0 _ _).trans (tlt hc83).2.2.1) (by decide) (by decide) (XS.dload X11.here hx rfl (hb hby at_92) rfl  (X11.ldc2DoubleC hx hown (mvT hZ (hw _ (List.mem_of_getElem? (i := 23) rfl))) (g := (mkF m 94 #[.val (.int p0), .val (.int p1), .val (.int p2), .val (.int v5), .val (.ref aL), .val (.double v59), .second, .unset] [(.double v59)])) rfl (hb hby at_94) _ (XS.dcmpS X11.here hx rfl (hb hby at_97) rfl (show cmpValue (FP.dcmp v59 (4620355447710076109 : UInt64)) .g = (own_o v59 (4620355447710076109 : UInt64)) from (own_og nm (DS.nn dc_4620355447710076109))) (kk))))) ?_
          show Dn p e below s _ _ _ (T11.setTop (mkF m 98 #[.val (.int p0), .val (.int p1), .val (.int p2), .val (.int v5), .val (.ref aL), .val (.double v59), .second, .unset] [(.int (own_o v59 (4620355447710076109 : UInt64)))]))
          by_cases hc98 : (0 : Int32) < (own_o v59 (4620355447710076109 : UInt64))
          · refine Dn.st (fun _ kk => XS.ifYes X11.here hx rfl (pc0 := 98) (pc' := 107) rfl (hb hby at_98) rfl ((if0 _ _).trans (tlt hc98).2.2.1) (by decide) (by decide) (XS.iconst X11.here hx rfl (hb hby at_107) (XS.istore X11.here hx rfl (hb hby at_108) rfl (l' := #[.val (.int p0), .val (.int p1), .val (.int p2), .val (.int v5), .val (.ref aL), .val (.double v59), .second, .val (.int (3 : Int32))]) rfl (XS.aload X11.here hx rfl (hb hby at_110) rfl rfl (XS.dload X11.here hx rfl (hb hby at_112) rfl  (kk)))))) ?_
            show Dn p e below s _ _ _ (T11.setTop (mkF m 114 #[.val (.int p0), .val (.int p1), .val (.int p2), .val (.int v5), .val (.ref aL), .val (.double v59), .second, .val (.int (3 : Int32))] [(.double v59), (.ref aL)]))
            obtain ⟨cq114, kq114, q114a, q114b, q114c⟩ := isOf hZ e11 E_LOW
            obtain ⟨_, _, ⟨T114, L114, k114, n114⟩, -, X114, ⟨Lc114, hQ114, l114, y114, z114⟩, st114⟩ := X11.virtualBack hx (y := (⟨"org/rupturecast/renewal/Aperiodicity", "of", "(D)D"⟩ : MethodName)) (z := (⟨"org/rupturecast/renewal/Aperiodicity", "of", "(D)D"⟩ : MethodName)) hown (mvT hZ (hw _ (List.mem_of_getElem? (i := 6) rfl))) (mvT hZ (hw _ (List.mem_of_getElem? (i := 7) rfl))) (notFace_of_selects (args := #[]) (mvT hZ (hw _ (List.mem_of_getElem? (i := 9) rfl)))) (mvT hZ (hw _ (List.mem_of_getElem? (i := 9) rfl))) (mvT hZ (hw _ (List.mem_of_getElem? (i := 8) rfl))) (by decide) (backOf (W := 0) (rm1 l Z a0 hw [] aL v59 aB aLx kB kaL (4600877379321698714 : UInt64) (4599075939470750515 : UInt64) (4596373779694328218 : UInt64) (4591870180066957722 : UInt64) h0 n0 Z0 S_B V_B F_LOW V_LOW) hZ (hw _ (List.mem_of_getElem? (i := 10) rfl)) (hw _ (List.mem_of_getElem? (i := 2) rfl)) (by decide) (by decide)) q114a q114c (g := (mkF m 114 #[.val (.int p0), .val (.int p1), .val (.int p2), .val (.int v5), .val (.ref aL), .val (.double v59), .second, .val (.int (3 : Int32))] [(.double v59), (.ref aL)])) rfl (by rw [hml]; rfl) (Steps.refl _) (argsL := [(.double v59)]) (rest := []) (lenOf pd0 rfl) rfl (by show 2 * 0 + _ ≤ _; exact Nat.le_of_eq rfl) (hb hby at_114) (fun _ _ => ⟨rfl, e11, (by decide : 0 + 0 ≤ _), (by decide : 0 + 0 ≤ _)⟩)
            dsimp only [Pt.U, Pt.locs, Pt.cells, Pt.slots] at X114 l114 y114 z114 st114 hQ114
            subst l114 y114 z114
            obtain ⟨hv114, Nq114, hh114⟩ := hQ114
            rw [show own_bin v59 (4600877379321698714 : UInt64) (4599075939470750515 : UInt64) (4596373779694328218 : UInt64) (4591870180066957722 : UInt64) = (4591870180066957722 : UInt64) by unfold own_bin; rw [if_pos hc68, if_pos hc83, if_pos hc98]] at hv114
            subst hv114
            have N114 := Fr.app N0 Nq114
            refine Dn.tr st114 ?_
            show Dn p e below s _ _ _ (T114.setTop (mkF m 117 #[.val (.int p0), .val (.int p1), .val (.int p2), .val (.int v5), .val (.ref aL), .val (.double v59), .second, .val (.int (3 : Int32))] [(.double (4591870180066957722 : UInt64))]))
            refine Dn.st (fun _ kk => XS.iloadN X114.here hx rfl (hb hby at_117) rfl  (XS.iload X114.here hx rfl (hb hby at_118) rfl  (kk))) ?_
            show Dn p e below s _ _ _ (T114.setTop (mkF m 120 #[.val (.int p0), .val (.int p1), .val (.int p2), .val (.int v5), .val (.ref aL), .val (.double v59), .second, .val (.int (3 : Int32))] [(.int (3 : Int32)), (.int v5), (.double (4591870180066957722 : UInt64))]))
            obtain ⟨_, _, ⟨T120, L120, k120, n120⟩, -, X120, ⟨Lc120, hQ120, l120, y120, z120⟩, st120⟩ := Jvm.LawKit.callS X114 hx (y := (⟨"org/rupturecast/renewal/AperiodicityOfPinLaw", "expected", "(II)D"⟩ : MethodName)) hown (mvT hZ (hw _ (List.mem_of_getElem? (i := 15) rfl))) (mvT hZ (hw _ (List.mem_of_getElem? (i := 16) rfl))) (mvT hZ (hw _ (List.mem_of_getElem? (i := 17) rfl))) (mvT hZ (hw _ (List.mem_of_getElem? (i := 18) rfl))) (by decide) (backOf (W := 2) (rm2 l Z a0 hw [] v5 (3 : Int32)  h0 n0 Z0 ) hZ (hw _ (List.mem_of_getElem? (i := 18) rfl)) (hw _ (List.mem_of_getElem? (i := 17) rfl)) (by decide) (by decide)) (g := (mkF m 120 #[.val (.int p0), .val (.int p1), .val (.int p2), .val (.int v5), .val (.ref aL), .val (.double v59), .second, .val (.int (3 : Int32))] [(.int (3 : Int32)), (.int v5), (.double (4591870180066957722 : UInt64))])) rfl (by rw [hml]; rfl) (argsL := [(.int v5), (.int (3 : Int32))]) (rest := [(.double (4591870180066957722 : UInt64))]) (lenOf pd1 rfl) rfl (by show 2 * 0 + _ ≤ _; exact Nat.le_of_eq rfl) (hb hby at_120) (fun _ _ => ⟨rfl, hh114, (by decide : 0 + 0 ≤ _), (by decide : 0 + 0 ≤ _)⟩)
            dsimp only [Pt.U, Pt.locs, Pt.cells, Pt.slots] at X120 l120 y120 z120 st120 hQ120
            subst l120 y120 z120
            obtain ⟨hv120, Nq120, hh120⟩ := hQ120
            rw [show own_exp v5 (3 : Int32) = (4591870180066957722 : UInt64) by unfold own_exp; rw [if_pos hc8, if_neg (by decide : ¬ ((3 : Int32) = 0)), if_neg (by decide : ¬ ((3 : Int32) = 1)), if_neg (by decide : ¬ ((3 : Int32) = 2))]] at hv120
            subst hv120
            have N120 := Fr.app N114 Nq120
            refine Dn.st st120 ?_
            show Dn p e below s _ _ _ (T120.setTop (mkF m 123 #[.val (.int p0), .val (.int p1), .val (.int p2), .val (.int v5), .val (.ref aL), .val (.double v59), .second, .val (.int (3 : Int32))] [(.double (4591870180066957722 : UInt64)), (.double (4591870180066957722 : UInt64))]))
            refine Dn.st (fun _ kk => XS.dcmpS X120.here hx rfl (hb hby at_123) rfl (show cmpValue (FP.dcmp (4591870180066957722 : UInt64) (4591870180066957722 : UInt64)) .l = (0 : Int32) from (by decide +kernel)) (kk)) ?_
            show Dn p e below s _ _ _ (T120.setTop (mkF m 124 #[.val (.int p0), .val (.int p1), .val (.int p2), .val (.int v5), .val (.ref aL), .val (.double v59), .second, .val (.int (3 : Int32))] [(.int (0 : Int32))]))
            have hc124 : (0 : Int32) = (0 : Int32) := by decide
            refine Dn.st (fun _ kk => XS.ifNo X120.here hx rfl (hb hby at_124) rfl ((if0 _ _).trans (teq hc124).2) (XS.iconst X120.here hx rfl (hb hby at_127) (XS.goto X120.here hx rfl (pc0 := 128) (pc' := 132) rfl (hb hby at_128) (by decide) (by decide) (kk)))) ?_
            show Dn p e below s _ _ _ (T120.setTop (mkF m 132 #[.val (.int p0), .val (.int p1), .val (.int p2), .val (.int v5), .val (.ref aL), .val (.double v59), .second, .val (.int (3 : Int32))] [(.int (1 : Int32))]))
            exact Dn.ret X120 hlk hx hret rfl (Or.inl ⟨rfl, Or.inr (Or.inl rfl), _, rfl⟩) (hb hby at_132) (by rw [hh120]; exact ⟨rfl, N120⟩) (by decide) (by decide)
          · refine Dn.st (fun _ kk => XS.ifNo X11.here hx rfl (hb hby at_98) rfl ((if0 _ _).trans (flt hc98).2.2.1) (XS.iconst X11.here hx rfl (hb hby at_101) (XS.istore X11.here hx rfl (hb hby at_102) rfl (l' := #[.val (.int p0), .val (.int p1), .val (.int p2), .val (.int v5), .val (.ref aL), .val (.double v59), .second, .val (.int (2 : Int32))]) rfl (XS.goto X11.here hx rfl (pc0 := 104) (pc' := 110) rfl (hb hby at_104) (by decide) (by decide) (XS.aload X11.here hx rfl (hb hby at_110) rfl rfl (XS.dload X11.here hx rfl (hb hby at_112) rfl  (kk))))))) ?_
            show Dn p e below s _ _ _ (T11.setTop (mkF m 114 #[.val (.int p0), .val (.int p1), .val (.int p2), .val (.int v5), .val (.ref aL), .val (.double v59), .second, .val (.int (2 : Int32))] [(.double v59), (.ref aL)]))
            obtain ⟨cq114, kq114, q114a, q114b, q114c⟩ := isOf hZ e11 E_LOW
            obtain ⟨_, _, ⟨T114, L114, k114, n114⟩, -, X114, ⟨Lc114, hQ114, l114, y114, z114⟩, st114⟩ := X11.virtualBack hx (y := (⟨"org/rupturecast/renewal/Aperiodicity", "of", "(D)D"⟩ : MethodName)) (z := (⟨"org/rupturecast/renewal/Aperiodicity", "of", "(D)D"⟩ : MethodName)) hown (mvT hZ (hw _ (List.mem_of_getElem? (i := 6) rfl))) (mvT hZ (hw _ (List.mem_of_getElem? (i := 7) rfl))) (notFace_of_selects (args := #[]) (mvT hZ (hw _ (List.mem_of_getElem? (i := 9) rfl)))) (mvT hZ (hw _ (List.mem_of_getElem? (i := 9) rfl))) (mvT hZ (hw _ (List.mem_of_getElem? (i := 8) rfl))) (by decide) (backOf (W := 0) (rm1 l Z a0 hw [] aL v59 aB aLx kB kaL (4600877379321698714 : UInt64) (4599075939470750515 : UInt64) (4596373779694328218 : UInt64) (4591870180066957722 : UInt64) h0 n0 Z0 S_B V_B F_LOW V_LOW) hZ (hw _ (List.mem_of_getElem? (i := 10) rfl)) (hw _ (List.mem_of_getElem? (i := 2) rfl)) (by decide) (by decide)) q114a q114c (g := (mkF m 114 #[.val (.int p0), .val (.int p1), .val (.int p2), .val (.int v5), .val (.ref aL), .val (.double v59), .second, .val (.int (2 : Int32))] [(.double v59), (.ref aL)])) rfl (by rw [hml]; rfl) (Steps.refl _) (argsL := [(.double v59)]) (rest := []) (lenOf pd0 rfl) rfl (by show 2 * 0 + _ ≤ _; exact Nat.le_of_eq rfl) (hb hby at_114) (fun _ _ => ⟨rfl, e11, (by decide : 0 + 0 ≤ _), (by decide : 0 + 0 ≤ _)⟩)
            dsimp only [Pt.U, Pt.locs, Pt.cells, Pt.slots] at X114 l114 y114 z114 st114 hQ114
            subst l114 y114 z114
            obtain ⟨hv114, Nq114, hh114⟩ := hQ114
            rw [show own_bin v59 (4600877379321698714 : UInt64) (4599075939470750515 : UInt64) (4596373779694328218 : UInt64) (4591870180066957722 : UInt64) = (4596373779694328218 : UInt64) by unfold own_bin; rw [if_pos hc68, if_pos hc83, if_neg hc98]] at hv114
            subst hv114
            have N114 := Fr.app N0 Nq114
            refine Dn.tr st114 ?_
            show Dn p e below s _ _ _ (T114.setTop (mkF m 117 #[.val (.int p0), .val (.int p1), .val (.int p2), .val (.int v5), .val (.ref aL), .val (.double v59), .second, .val (.int (2 : Int32))] [(.double (4596373779694328218 : UInt64))]))
            refine Dn.st (fun _ kk => XS.iloadN X114.here hx rfl (hb hby at_117) rfl  (XS.iload X114.here hx rfl (hb hby at_118) rfl  (kk))) ?_
            show Dn p e below s _ _ _ (T114.setTop (mkF m 120 #[.val (.int p0), .val (.int p1), .val (.int p2), .val (.int v5), .val (.ref aL), .val (.double v59), .second, .val (.int (2 : Int32))] [(.int (2 : Int32)), (.int v5), (.double (4596373779694328218 : UInt64))]))
            obtain ⟨_, _, ⟨T120, L120, k120, n120⟩, -, X120, ⟨Lc120, hQ120, l120, y120, z120⟩, st120⟩ := Jvm.LawKit.callS X114 hx (y := (⟨"org/rupturecast/renewal/AperiodicityOfPinLaw", "expected", "(II)D"⟩ : MethodName)) hown (mvT hZ (hw _ (List.mem_of_getElem? (i := 15) rfl))) (mvT hZ (hw _ (List.mem_of_getElem? (i := 16) rfl))) (mvT hZ (hw _ (List.mem_of_getElem? (i := 17) rfl))) (mvT hZ (hw _ (List.mem_of_getElem? (i := 18) rfl))) (by decide) (backOf (W := 2) (rm2 l Z a0 hw [] v5 (2 : Int32)  h0 n0 Z0 ) hZ (hw _ (List.mem_of_getElem? (i := 18) rfl)) (hw _ (List.mem_of_getElem? (i := 17) rfl)) (by decide) (by decide)) (g := (mkF m 120 #[.val (.int p0), .val (.int p1), .val (.int p2), .val (.int v5), .val (.ref aL), .val (.double v59), .second, .val (.int (2 : Int32))] [(.int (2 : Int32)), (.int v5), (.double (4596373779694328218 : UInt64))])) rfl (by rw [hml]; rfl) (argsL := [(.int v5), (.int (2 : Int32))]) (rest := [(.double (4596373779694328218 : UInt64))]) (lenOf pd1 rfl) rfl (by show 2 * 0 + _ ≤ _; exact Nat.le_of_eq rfl) (hb hby at_120) (fun _ _ => ⟨rfl, hh114, (by decide : 0 + 0 ≤ _), (by decide : 0 + 0 ≤ _)⟩)
            dsimp only [Pt.U, Pt.locs, Pt.cells, Pt.slots] at X120 l120 y120 z120 st120 hQ120
            subst l120 y120 z120
            obtain ⟨hv120, Nq120, hh120⟩ := hQ120
            rw [show own_exp v5 (2 : Int32) = (4596373779694328218 : UInt64) by unfold own_exp; rw [if_pos hc8, if_neg (by decide : ¬ ((2 : Int32) = 0)), if_neg (by decide : ¬ ((2 : Int32) = 1)), if_pos (rfl : (2 : Int32) = 2)]] at hv120
            subst hv120
            have N120 := Fr.app N114 Nq120
            refine Dn.st st120 ?_
            show Dn p e below s _ _ _ (T120.setTop (mkF m 123 #[.val (.int p0), .val (.int p1), .val (.int p2), .val (.int v5), .val (.ref aL), .val (.double v59), .second, .val (.int (2 : Int32))] [(.double (4596373779694328218 : UInt64)), (.double (4596373779694328218 : UInt64))]))
            refine Dn.st (fun _ kk => XS.dcmpS X120.here hx rfl (hb hby at_123) rfl (show cmpValue (FP.dcmp (4596373779694328218 : UInt64) (4596373779694328218 : UInt64)) .l = (0 : Int32) from (by decide +kernel)) (kk)) ?_
            show Dn p e below s _ _ _ (T120.setTop (mkF m 124 #[.val (.int p0), .val (.int p1), .val (.int p2), .val (.int v5), .val (.ref aL), .val (.double v59), .second, .val (.int (2 : Int32))] [(.int (0 : Int32))]))
            have hc124 : (0 : Int32) = (0 : Int32) := by decide
            refine Dn.st (fun _ kk => XS.ifNo X120.here hx rfl (hb hby at_124) rfl ((if0 _ _).trans (teq hc124).2) (XS.iconst X120.here hx rfl (hb hby at_127) (XS.goto X120.here hx rfl (pc0 := 128) (pc' := 132) rfl (hb hby at_128) (by decide) (by decide) (kk)))) ?_
            show Dn p e below s _ _ _ (T120.setTop (mkF m 132 #[.val (.int p0), .val (.int p1), .val (.int p2), .val (.int v5), .val (.ref aL), .val (.double v59), .second, .val (.int (2 : Int32))] [(.int (1 : Int32))]))
            exact Dn.ret X120 hlk hx hret rfl (Or.inl ⟨rfl, Or.inr (Or.inl rfl), _, rfl⟩) (hb hby at_132) (by rw [hh120]; exact ⟨rfl, N120⟩) (by decide) (by decide)
        · refine Dn.st (fun _ kk => XS.ifNo X11.here hx rfl (hb hby at_83) rfl ((if0 _ _).trans (flt hc83).2.2.1) (XS.iconst X11.here hx rfl (hb hby at_86) (XS.istore X11.here hx rfl (hb hby at_87) rfl (l' := #[.val (.int p0), .val (.int p1), .val (.int p2), .val (.int v5), .val (.ref aL), .val (.double v59), .second, .val (.int (1 : Int32))]) rfl (XS.goto X11.here hx rfl (pc0 := 89) (pc' := 110) rfl (hb hby at_89) (by decide) (by decide) (XS.aload X11.here hx rfl (hb hby at_110) rfl rfl (XS.dload X11.here hx rfl (hb hby at_112) rfl  (kk))))))) ?_
          show Dn p e below s _ _ _ (T11.setTop (mkF m 114 #[.val (.int p0), .val (.int p1), .val (.int p2), .val (.int v5), .val (.ref aL), .val (.double v59), .second, .val (.int (1 : Int32))] [(.double v59), (.ref aL)]))
          obtain ⟨cq114, kq114, q114a, q114b, q114c⟩ := isOf hZ e11 E_LOW
          obtain ⟨_, _, ⟨T114, L114, k114, n114⟩, -, X114, ⟨Lc114, hQ114, l114, y114, z114⟩, st114⟩ := X11.virtualBack hx (y := (⟨"org/rupturecast/renewal/Aperiodicity", "of", "(D)D"⟩ : MethodName)) (z := (⟨"org/rupturecast/renewal/Aperiodicity", "of", "(D)D"⟩ : MethodName)) hown (mvT hZ (hw _ (List.mem_of_getElem? (i := 6) rfl))) (mvT hZ (hw _ (List.mem_of_getElem? (i := 7) rfl))) (notFace_of_selects (args := #[]) (mvT hZ (hw _ (List.mem_of_getElem? (i := 9) rfl)))) (mvT hZ (hw _ (List.mem_of_getElem? (i := 9) rfl))) (mvT hZ (hw _ (List.mem_of_getElem? (i := 8) rfl))) (by decide) (backOf (W := 0) (rm1 l Z a0 hw [] aL v59 aB aLx kB kaL (4600877379321698714 : UInt64) (4599075939470750515 : UInt64) (4596373779694328218 : UInt64) (4591870180066957722 : UInt64) h0 n0 Z0 S_B V_B F_LOW V_LOW) hZ (hw _ (List.mem_of_getElem? (i := 10) rfl)) (hw _ (List.mem_of_getElem? (i := 2) rfl)) (by decide) (by decide)) q114a q114c (g := (mkF m 114 #[.val (.int p0), .val (.int p1), .val (.int p2), .val (.int v5), .val (.ref aL), .val (.double v59), .second, .val (.int (1 : Int32))] [(.double v59), (.ref aL)])) rfl (by rw [hml]; rfl) (Steps.refl _) (argsL := [(.double v59)]) (rest := []) (lenOf pd0 rfl) rfl (by show 2 * 0 + _ ≤ _; exact Nat.le_of_eq rfl) (hb hby at_114) (fun _ _ => ⟨rfl, e11, (by decide : 0 + 0 ≤ _), (by decide : 0 + 0 ≤ _)⟩)
          dsimp only [Pt.U, Pt.locs, Pt.cells, Pt.slots] at X114 l114 y114 z114 st114 hQ114
          subst l114 y114 z114
          obtain ⟨hv114, Nq114, hh114⟩ := hQ114
          rw [show own_bin v59 (4600877379321698714 : UInt64) (4599075939470750515 : UInt64) (4596373779694328218 : UInt64) (4591870180066957722 : UInt64) = (4599075939470750515 : UInt64) by unfold own_bin; rw [if_pos hc68, if_neg hc83]] at hv114
          subst hv114
          have N114 := Fr.app N0 Nq114
          refine Dn.tr st114 ?_
          show Dn p e below s _ _ _ (T114.setTop (mkF m 117 #[.val (.int p0), .val (.int p1), .val (.int p2), .val (.int v5), .val (.ref aL), .val (.double v59), .second, .val (.int (1 : Int32))] [(.double (4599075939470750515 : UInt64))]))
          refine Dn.st (fun _ kk => XS.iloadN X114.here hx rfl (hb hby at_117) rfl  (XS.iload X114.here hx rfl (hb hby at_118) rfl  (kk))) ?_
          show Dn p e below s _ _ _ (T114.setTop (mkF m 120 #[.val (.int p0), .val (.int p1), .val (.int p2), .val (.int v5), .val (.ref aL), .val (.double v59), .second, .val (.int (1 : Int32))] [(.int (1 : Int32)), (.int v5), (.double (4599075939470750515 : UInt64))]))
          obtain ⟨_, _, ⟨T120, L120, k120, n120⟩, -, X120, ⟨Lc120, hQ120, l120, y120, z120⟩, st120⟩ := Jvm.LawKit.callS X114 hx (y := (⟨"org/rupturecast/renewal/AperiodicityOfPinLaw", "expected", "(II)D"⟩ : MethodName)) hown (mvT hZ (hw _ (List.mem_of_getElem? (i := 15) rfl))) (mvT hZ (hw _ (List.mem_of_getElem? (i := 16) rfl))) (mvT hZ (hw _ (List.mem_of_getElem? (i := 17) rfl))) (mvT hZ (hw _ (List.mem_of_getElem? (i := 18) rfl))) (by decide) (backOf (W := 2) (rm2 l Z a0 hw [] v5 (1 : Int32)  h0 n0 Z0 ) hZ (hw _ (List.mem_of_getElem? (i := 18) rfl)) (hw _ (List.mem_of_getElem? (i := 17) rfl)) (by decide) (by decide)) (g := (mkF m 120 #[.val (.int p0), .val (.int p1), .val (.int p2), .val (.int v5), .val (.ref aL), .val (.double v59), .second, .val (.int (1 : Int32))] [(.int (1 : Int32)), (.int v5), (.double (4599075939470750515 : UInt64))])) rfl (by rw [hml]; rfl) (argsL := [(.int v5), (.int (1 : Int32))]) (rest := [(.double (4599075939470750515 : UInt64))]) (lenOf pd1 rfl) rfl (by show 2 * 0 + _ ≤ _; exact Nat.le_of_eq rfl) (hb hby at_120) (fun _ _ => ⟨rfl, hh114, (by decide : 0 + 0 ≤ _), (by decide : 0 + 0 ≤ _)⟩)
          dsimp only [Pt.U, Pt.locs, Pt.cells, Pt.slots] at X120 l120 y120 z120 st120 hQ120
          subst l120 y120 z120
          obtain ⟨hv120, Nq120, hh120⟩ := hQ120
          rw [show own_exp v5 (1 : Int32) = (4599075939470750515 : UInt64) by unfold own_exp; rw [if_pos hc8, if_neg (by decide : ¬ ((1 : Int32) = 0)), if_pos (rfl : (1 : Int32) = 1)]] at hv120
          subst hv120
          have N120 := Fr.app N114 Nq120
          refine Dn.st st120 ?_
          show Dn p e below s _ _ _ (T120.setTop (mkF m 123 #[.val (.int p0), .val (.int p1), .val (.int p2), .val (.int v5), .val (.ref aL), .val (.double v59), .second, .val (.int (1 : Int32))] [(.double (4599075939470750515 : UInt64)), (.double (4599075939470750515 : UInt64))]))
          refine Dn.st (fun _ kk => XS.dcmpS X120.here hx rfl (hb hby at_123) rfl (show cmpValue (FP.dcmp (4599075939470750515 : UInt64) (4599075939470750515 : UInt64)) .l = (0 : Int32) from (by decide +kernel)) (kk)) ?_
          show Dn p e below s _ _ _ (T120.setTop (mkF m 124 #[.val (.int p0), .val (.int p1), .val (.int p2), .val (.int v5), .val (.ref aL), .val (.double v59), .second, .val (.int (1 : Int32))] [(.int (0 : Int32))]))
          have hc124 : (0 : Int32) = (0 : Int32) := by decide
          refine Dn.st (fun _ kk => XS.ifNo X120.here hx rfl (hb hby at_124) rfl ((if0 _ _).trans (teq hc124).2) (XS.iconst X120.here hx rfl (hb hby at_127) (XS.goto X120.here hx rfl (pc0 := 128) (pc' := 132) rfl (hb hby at_128) (by decide) (by decide) (kk)))) ?_
          show Dn p e below s _ _ _ (T120.setTop (mkF m 132 #[.val (.int p0), .val (.int p1), .val (.int p2), .val (.int v5), .val (.ref aL), .val (.double v59), .second, .val (.int (1 : Int32))] [(.int (1 : Int32))]))
          exact Dn.ret X120 hlk hx hret rfl (Or.inl ⟨rfl, Or.inr (Or.inl rfl), _, rfl⟩) (hb hby at_132) (by rw [hh120]; exact ⟨rfl, N120⟩) (by decide) (by decide)
      · refine Dn.st (fun _ kk => XS.ifNo X11.here hx rfl (hb hby at_68) rfl ((if0 _ _).trans (flt hc68).2.2.1) (XS.iconst X11.here hx rfl (hb hby at_71) (XS.istore X11.here hx rfl (hb hby at_72) rfl (l' := #[.val (.int p0), .val (.int p1), .val (.int p2), .val (.int v5), .val (.ref aL), .val (.double v59), .second, .val (.int (0 : Int32))]) rfl (XS.goto X11.here hx rfl (pc0 := 74) (pc' := 110) rfl (hb hby at_74) (by decide) (by decide) (XS.aload X11.here hx rfl (hb hby at_110) rfl rfl (XS.dload X11.here hx rfl (hb hby at_112) rfl  (kk))))))) ?_
        show Dn p e below s _ _ _ (T11.setTop (mkF m 114 #[.val (.int p0), .val (.int p1), .val (.int p2), .val (.int v5), .val (.ref aL), .val (.double v59), .second, .val (.int (0 : Int32))] [(.double v59), (.ref aL)]))
        obtain ⟨cq114, kq114, q114a, q114b, q114c⟩ := isOf hZ e11 E_LOW
        obtain ⟨_, _, ⟨T114, L114, k114, n114⟩, -, X114, ⟨Lc114, hQ114, l114, y114, z114⟩, st114⟩ := X11.virtualBack hx (y := (⟨"org/rupturecast/renewal/Aperiodicity", "of", "(D)D"⟩ : MethodName)) (z := (⟨"org/rupturecast/renewal/Aperiodicity", "of", "(D)D"⟩ : MethodName)) hown (mvT hZ (hw _ (List.mem_of_getElem? (i := 6) rfl))) (mvT hZ (hw _ (List.mem_of_getElem? (i := 7) rfl))) (notFace_of_selects (args := #[]) (mvT hZ (hw _ (List.mem_of_getElem? (i := 9) rfl)))) (mvT hZ (hw _ (List.mem_of_getElem? (i := 9) rfl))) (mvT hZ (hw _ (List.mem_of_getElem? (i := 8) rfl))) (by decide) (backOf (W := 0) (rm1 l Z a0 hw [] aL v59 aB aLx kB kaL (4600877379321698714 : UInt64) (4599075939470750515 : UInt64) (4596373779694328218 : UInt64) (4591870180066957722 : UInt64) h0 n0 Z0 S_B V_B F_LOW V_LOW) hZ (hw _ (List.mem_of_getElem? (i := 10) rfl)) (hw _ (List.mem_of_getElem? (i := 2) rfl)) (by decide) (by decide)) q114a q114c (g := (mkF m 114 #[.val (.int p0), .val (.int p1), .val (.int p2), .val (.int v5), .val (.ref aL), .val (.double v59), .second, .val (.int (0 : Int32))] [(.double v59), (.ref aL)])) rfl (by rw [hml]; rfl) (Steps.refl _) (argsL := [(.double v59)]) (rest := []) (lenOf pd0 rfl) rfl (by show 2 * 0 + _ ≤ _; exact Nat.le_of_eq rfl) (hb hby at_114) (fun _ _ => ⟨rfl, e11, (by decide : 0 + 0 ≤ _), (by decide : 0 + 0 ≤ _)⟩)
        dsimp only [Pt.U, Pt.locs, Pt.cells, Pt.slots] at X114 l114 y114 z114 st114 hQ114
        subst l114 y114 z114
        obtain ⟨hv114, Nq114, hh114⟩ := hQ114
        rw [show own_bin v59 (4600877379321698714 : UInt64) (4599075939470750515 : UInt64) (4596373779694328218 : UInt64) (4591870180066957722 : UInt64) = (4600877379321698714 : UInt64) by unfold own_bin; rw [if_neg hc68]] at hv114
        subst hv114
        have N114 := Fr.app N0 Nq114
        refine Dn.tr st114 ?_
        show Dn p e below s _ _ _ (T114.setTop (mkF m 117 #[.val (.int p0), .val (.int p1), .val (.int p2), .val (.int v5), .val (.ref aL), .val (.double v59), .second, .val (.int (0 : Int32))] [(.double (4600877379321698714 : UInt64))]))
        refine Dn.st (fun _ kk => XS.iloadN X114.here hx rfl (hb hby at_117) rfl  (XS.iload X114.here hx rfl (hb hby at_118) rfl  (kk))) ?_
        show Dn p e below s _ _ _ (T114.setTop (mkF m 120 #[.val (.int p0), .val (.int p1), .val (.int p2), .val (.int v5), .val (.ref aL), .val (.double v59), .second, .val (.int (0 : Int32))] [(.int (0 : Int32)), (.int v5), (.double (4600877379321698714 : UInt64))]))
        obtain ⟨_, _, ⟨T120, L120, k120, n120⟩, -, X120, ⟨Lc120, hQ120, l120, y120, z120⟩, st120⟩ := Jvm.LawKit.callS X114 hx (y := (⟨"org/rupturecast/renewal/AperiodicityOfPinLaw", "expected", "(II)D"⟩ : MethodName)) hown (mvT hZ (hw _ (List.mem_of_getElem? (i := 15) rfl))) (mvT hZ (hw _ (List.mem_of_getElem? (i := 16) rfl))) (mvT hZ (hw _ (List.mem_of_getElem? (i := 17) rfl))) (mvT hZ (hw _ (List.mem_of_getElem? (i := 18) rfl))) (by decide) (backOf (W := 2) (rm2 l Z a0 hw [] v5 (0 : Int32)  h0 n0 Z0 ) hZ (hw _ (List.mem_of_getElem? (i := 18) rfl)) (hw _ (List.mem_of_getElem? (i := 17) rfl)) (by decide) (by decide)) (g := (mkF m 120 #[.val (.int p0), .val (.int p1), .val (.int p2), .val (.int v5), .val (.ref aL), .val (.double v59), .second, .val (.int (0 : Int32))] [(.int (0 : Int32)), (.int v5), (.double (4600877379321698714 : UInt64))])) rfl (by rw [hml]; rfl) (argsL := [(.int v5), (.int (0 : Int32))]) (rest := [(.double (4600877379321698714 : UInt64))]) (lenOf pd1 rfl) rfl (by show 2 * 0 + _ ≤ _; exact Nat.le_of_eq rfl) (hb hby at_120) (fun _ _ => ⟨rfl, hh114, (by decide : 0 + 0 ≤ _), (by decide : 0 + 0 ≤ _)⟩)
        dsimp only [Pt.U, Pt.locs, Pt.cells, Pt.slots] at X120 l120 y120 z120 st120 hQ120
        subst l120 y120 z120
        obtain ⟨hv120, Nq120, hh120⟩ := hQ120
        rw [show own_exp v5 (0 : Int32) = (4600877379321698714 : UInt64) by unfold own_exp; rw [if_pos hc8, if_pos (rfl : (0 : Int32) = 0)]] at hv120
        subst hv120
        have N120 := Fr.app N114 Nq120
        refine Dn.st st120 ?_
        show Dn p e below s _ _ _ (T120.setTop (mkF m 123 #[.val (.int p0), .val (.int p1), .val (.int p2), .val (.int v5), .val (.ref aL), .val (.double v59), .second, .val (.int (0 : Int32))] [(.double (4600877379321698714 : UInt64)), (.double (4600877379321698714 : UInt64))]))
        refine Dn.st (fun _ kk => XS.dcmpS X120.here hx rfl (hb hby at_123) rfl (show cmpValue (FP.dcmp (4600877379321698714 : UInt64) (4600877379321698714 : UInt64)) .l = (0 : Int32) from (by decide +kernel)) (kk)) ?_
        show Dn p e below s _ _ _ (T120.setTop (mkF m 124 #[.val (.int p0), .val (.int p1), .val (.int p2), .val (.int v5), .val (.ref aL), .val (.double v59), .second, .val (.int (0 : Int32))] [(.int (0 : Int32))]))
        have hc124 : (0 : Int32) = (0 : Int32) := by decide
        refine Dn.st (fun _ kk => XS.ifNo X120.here hx rfl (hb hby at_124) rfl ((if0 _ _).trans (teq hc124).2) (XS.iconst X120.here hx rfl (hb hby at_127) (XS.goto X120.here hx rfl (pc0 := 128) (pc' := 132) rfl (hb hby at_128) (by decide) (by decide) (kk)))) ?_
        show Dn p e below s _ _ _ (T120.setTop (mkF m 132 #[.val (.int p0), .val (.int p1), .val (.int p2), .val (.int v5), .val (.ref aL), .val (.double v59), .second, .val (.int (0 : Int32))] [(.int (1 : Int32))]))
        exact Dn.ret X120 hlk hx hret rfl (Or.inl ⟨rfl, Or.inr (Or.inl rfl), _, rfl⟩) (hb hby at_132) (by rw [hh120]; exact ⟨rfl, N120⟩) (by decide) (by decide)
  · refine Dn.st (fun _ kk => XS.ifYes X0.here hx rfl (pc0 := 8) (pc' := 19) rfl (hb hby at_8) rfl ((if0 _ _).trans (feq hc8).2) (by decide) (by decide) (XS.iloadN X0.here hx rfl (hb hby at_19) rfl  (XS.iconst X0.here hx rfl (hb hby at_20) (kk)))) ?_
    show Dn p e below s _ _ _ (s₁.setTop (mkF m 21 #[.val (.int p0), .val (.int p1), .val (.int p2), .val (.int v5), .unset, .unset, .unset, .unset] [(.int (1 : Int32)), (.int v5)]))
    by_cases hc21 : v5 = (1 : Int32)
    · refine Dn.st (fun _ kk => XS.icmpNo X0.here hx rfl (hb hby at_21) rfl (teq hc21).2 (kk)) ?_
      show Dn p e below s _ _ _ (s₁.setTop (mkF m 24 #[.val (.int p0), .val (.int p1), .val (.int p2), .val (.int v5), .unset, .unset, .unset, .unset] []))
      obtain ⟨T24, X24, e24, st24⟩ := getS2 X0 hx hZ hown (host := "") (Or.inl (hw _ (List.mem_of_getElem? (i := 20) rfl))) Via.refl e0 S_MID (g := (mkF m 24 #[.val (.int p0), .val (.int p1), .val (.int p2), .val (.int v5), .unset, .unset, .unset, .unset] [])) rfl (hb hby at_24)
      refine Dn.st st24 ?_
      show Dn p e below s _ _ _ (T24.setTop (mkF m 27 #[.val (.int p0), .val (.int p1), .val (.int p2), .val (.int v5), .unset, .unset, .unset, .unset] [(.ref aM)]))
      refine Dn.st (fun _ kk => XS.astore X24.here hx rfl (hb hby at_27) rfl rfl (l' := #[.val (.int p0), .val (.int p1), .val (.int p2), .val (.int v5), .val (.ref aM), .unset, .unset, .unset]) rfl (XS.goto X24.here hx rfl (pc0 := 29) (pc' := 37) rfl (hb hby at_29) (by decide) (by decide) (XS.iloadN X24.here hx rfl (hb hby at_37) rfl  (XS.iconst X24.here hx rfl (hb hby at_38) (XS.iand X24.here hx rfl (hb hby at_39) rfl (kk)))))) ?_
      show Dn p e below s _ _ _ (T24.setTop (mkF m 40 #[.val (.int p0), .val (.int p1), .val (.int p2), .val (.int v5), .val (.ref aM), .unset, .unset, .unset] [(.int (p2 &&& (1 : Int32)))]))
      generalize hv39 : ((p2 &&& (1 : Int32)) : Int32) = v39
      show Dn p e below s _ _ _ (T24.setTop (mkF m 40 #[.val (.int p0), .val (.int p1), .val (.int p2), .val (.int v5), .val (.ref aM), .unset, .unset, .unset] [(.int v39)]))
      by_cases hc40 : v39 = (0 : Int32)
      · refine Dn.st (fun _ kk => XS.ifNo X24.here hx rfl (hb hby at_40) rfl ((if0 _ _).trans (teq hc40).2) (XS.iloadN X24.here hx rfl (hb hby at_43) rfl  (XS.sipush X24.here hx rfl (hb hby at_44) (iremM X24 hx rfl (hb hby at_47) rfl (by decide) (kk))))) ?_
        show Dn p e below s _ _ _ (T24.setTop (mkF m 48 #[.val (.int p0), .val (.int p1), .val (.int p2), .val (.int v5), .val (.ref aM), .unset, .unset, .unset] [(.int (p1 % (2000 : Int32)))]))
        generalize hv47 : ((p1 % (2000 : Int32)) : Int32) = v47
        show Dn p e below s _ _ _ (T24.setTop (mkF m 48 #[.val (.int p0), .val (.int p1), .val (.int p2), .val (.int v5), .val (.ref aM), .unset, .unset, .unset] [(.int v47)]))
        have d48 := DS.i2d v47
        refine Dn.st (fun _ kk => XS.i2dS X24.here hx rfl (hb hby at_48) rfl rfl (kk)) ?_
        show Dn p e below s _ _ _ (T24.setTop (mkF m 49 #[.val (.int p0), .val (.int p1), .val (.int p2), .val (.int v5), .val (.ref aM), .unset, .unset, .unset] [(.double (FP.i2d v47))]))
        generalize hv48 : ((FP.i2d v47) : UInt64) = v48 at d48 ⊢
        show Dn p e below s _ _ _ (T24.setTop (mkF m 49 #[.val (.int p0), .val (.int p1), .val (.int p2), .val (.int v5), .val (.ref aM), .unset, .unset, .unset] [(.double v48)]))
        refine Dn.st (fun _ kk => X24.ldc2DoubleC hx hown (mvT hZ (hw _ (List.mem_of_getElem? (i := 4) rfl))) (g := (mkF m 49 #[.val (.int p0), .val (.int p1), .val (.int p2), .val (.int v5), .val (.ref aM), .unset, .unset, .unset] [(.double v48)])) rfl (hb hby at_49) _ (kk)) ?_
        show Dn p e below s _ _ _ (T24.setTop (mkF m 52 #[.val (.int p0), .val (.int p1), .val (.int p2), .val (.int v5), .val (.ref aM), .unset, .unset, .unset] [(.double (4636737291354636288 : UInt64)), (.double v48)]))
        have nm := Jvm.Free.Fl.ddiv_out d48.nn own_f100 own_n100
        refine Dn.st (fun _ kk => XS.ddivS X24.here hx rfl (hb hby at_52) rfl nm rfl (kk)) ?_
        show Dn p e below s _ _ _ (T24.setTop (mkF m 53 #[.val (.int p0), .val (.int p1), .val (.int p2), .val (.int v5), .val (.ref aM), .unset, .unset, .unset] [(.double (FP.ddiv v48 (4636737291354636288 : UInt64)))]))
        generalize hv52 : ((FP.ddiv v48 (4636737291354636288 : UInt64)) : UInt64) = v52
        rw [hv52] at nm
        show Dn p e below s _ _ _ (T24.setTop (mkF m 53 #[.val (.int p0), .val (.int p1), .val (.int p2), .val (.int v5), .val (.ref aM), .unset, .unset, .unset] [(.double v52)]))
        refine Dn.st (fun _ kk => XS.dstore X24.here hx rfl (hb hby at_53) rfl (l' := #[.val (.int p0), .val (.int p1), .val (.int p2), .val (.int v5), .val (.ref aM), .val (.double v52), .second, .unset]) rfl (XS.goto X24.here hx rfl (pc0 := 55) (pc' := 62) rfl (hb hby at_55) (by decide) (by decide) (XS.dload X24.here hx rfl (hb hby at_62) rfl  (X24.ldc2DoubleC hx hown (mvT hZ (hw _ (List.mem_of_getElem? (i := 5) rfl))) (g := (mkF m 64 #[.val (.int p0), .val (.int p1), .val (.int p2), .val (.int v5), .val (.ref aM), .val (.double v52), .second, .unset] [(.double v52)])) rfl (hb hby at_64) _ (XS.dcmpS X24.here hx rfl (hb hby at_67) rfl (show cmpValue (FP.dcmp v52 (4619229547803233485 : UInt64)) .g = (own_o v52 (4619229547803233485 : UInt64)) from (own_og nm (DS.nn dc_4619229547803233485))) (kk)))))) ?_
        show Dn p e below s _ _ _ (T24.setTop (mkF m 68 #[.val (.int p0), .val (.int p1), .val (.int p2), .val (.int v5), .val (.ref aM), .val (.double v52), .second, .unset] [(.int (own_o v52 (4619229547803233485 : UInt64)))]))
        by_cases hc68 : (0 : Int32) < (own_o v52 (4619229547803233485 : UInt64))
        · refine Dn.st (fun _ kk => XS.ifYes X24.here hx rfl (pc0 := 68) (pc' := 77) rfl (hb hby at_68) rfl ((if0 _ _).trans (tlt hc68).2.2.1) (by decide) (by decide) (XS.dload X24.here hx rfl (hb hby at_77) rfl  (X24.ldc2DoubleC hx hown (mvT hZ (hw _ (List.mem_of_getElem? (i := 22) rfl))) (g := (mkF m 79 #[.val (.int p0), .val (.int p1), .val (.int p2), .val (.int v5), .val (.ref aM), .val (.double v52), .second, .unset] [(.double v52)])) rfl (hb hby at_79) _ (XS.dcmpS X24.here hx rfl (hb hby at_82) rfl (show cmpValue (FP.dcmp v52 (4619792497756654797 : UInt64)) .g = (own_o v52 (4619792497756654797 : UInt64)) from (own_og nm (DS.nn dc_4619792497756654797))) (kk))))) ?_
          show Dn p e below s _ _ _ (T24.setTop (mkF m 83 #[.val (.int p0), .val (.int p1), .val (.int p2), .val (.int v5), .val (.ref aM), .val (.double v52), .second, .unset] [(.int (own_o v52 (4619792497756654797 : UInt64)))]))
          by_cases hc83 : (0 : Int32) < (own_o v52 (4619792497756654797 : UInt64))
          · refine Dn.st (fun _ kk => XS.ifYes X24.here hx rfl (pc0 := 83) (pc' := 92) rfl (hb hby at_83) rfl ((if0 _ _).trans (tlt hc83).2.2.1) (by decide) (by decide) (XS.dload X24.here hx rfl (hb hby at_92) rfl  (X24.ldc2DoubleC hx hown (mvT hZ (hw _ (List.mem_of_getElem? (i := 23) rfl))) (g := (mkF m 94 #[.val (.int p0), .val (.int p1), .val (.int p2), .val (.int v5), .val (.ref aM), .val (.double v52), .second, .unset] [(.double v52)])) rfl (hb hby at_94) _ (XS.dcmpS X24.here hx rfl (hb hby at_97) rfl (show cmpValue (FP.dcmp v52 (4620355447710076109 : UInt64)) .g = (own_o v52 (4620355447710076109 : UInt64)) from (own_og nm (DS.nn dc_4620355447710076109))) (kk))))) ?_
            show Dn p e below s _ _ _ (T24.setTop (mkF m 98 #[.val (.int p0), .val (.int p1), .val (.int p2), .val (.int v5), .val (.ref aM), .val (.double v52), .second, .unset] [(.int (own_o v52 (4620355447710076109 : UInt64)))]))
            by_cases hc98 : (0 : Int32) < (own_o v52 (4620355447710076109 : UInt64))
            · refine Dn.st (fun _ kk => XS.ifYes X24.here hx rfl (pc0 := 98) (pc' := 107) rfl (hb hby at_98) rfl ((if0 _ _).trans (tlt hc98).2.2.1) (by decide) (by decide) (XS.iconst X24.here hx rfl (hb hby at_107) (XS.istore X24.here hx rfl (hb hby at_108) rfl (l' := #[.val (.int p0), .val (.int p1), .val (.int p2), .val (.int v5), .val (.ref aM), .val (.double v52), .second, .val (.int (3 : Int32))]) rfl (XS.aload X24.here hx rfl (hb hby at_110) rfl rfl (XS.dload X24.here hx rfl (hb hby at_112) rfl  (kk)))))) ?_
              show Dn p e below s _ _ _ (T24.setTop (mkF m 114 #[.val (.int p0), .val (.int p1), .val (.int p2), .val (.int v5), .val (.ref aM), .val (.double v52), .second, .val (.int (3 : Int32))] [(.double v52), (.ref aM)]))
              obtain ⟨cq114, kq114, q114a, q114b, q114c⟩ := isOf hZ e24 E_MID
              obtain ⟨_, _, ⟨T114, L114, k114, n114⟩, -, X114, ⟨Lc114, hQ114, l114, y114, z114⟩, st114⟩ := X24.virtualBack hx (y := (⟨"org/rupturecast/renewal/Aperiodicity", "of", "(D)D"⟩ : MethodName)) (z := (⟨"org/rupturecast/renewal/Aperiodicity", "of", "(D)D"⟩ : MethodName)) hown (mvT hZ (hw _ (List.mem_of_getElem? (i := 6) rfl))) (mvT hZ (hw _ (List.mem_of_getElem? (i := 7) rfl))) (notFace_of_selects (args := #[]) (mvT hZ (hw _ (List.mem_of_getElem? (i := 9) rfl)))) (mvT hZ (hw _ (List.mem_of_getElem? (i := 9) rfl))) (mvT hZ (hw _ (List.mem_of_getElem? (i := 8) rfl))) (by decide) (backOf (W := 0) (rm1 l Z a0 hw [] aM v52 aB aMx kB kaM (4602678819172646912 : UInt64) (4600877379321698714 : UInt64) (4599075939470750515 : UInt64) (4596373779694328218 : UInt64) h0 n0 Z0 S_B V_B F_MID V_MID) hZ (hw _ (List.mem_of_getElem? (i := 10) rfl)) (hw _ (List.mem_of_getElem? (i := 2) rfl)) (by decide) (by decide)) q114a q114c (g := (mkF m 114 #[.val (.int p0), .val (.int p1), .val (.int p2), .val (.int v5), .val (.ref aM), .val (.double v52), .second, .val (.int (3 : Int32))] [(.double v52), (.ref aM)])) rfl (by rw [hml]; rfl) (Steps.refl _) (argsL := [(.double v52)]) (rest := []) (lenOf pd0 rfl) rfl (by show 2 * 0 + _ ≤ _; exact Nat.le_of_eq rfl) (hb hby at_114) (fun _ _ => ⟨rfl, e24, (by decide : 0 + 0 ≤ _), (by decide : 0 + 0 ≤ _)⟩)
              dsimp only [Pt.U, Pt.locs, Pt.cells, Pt.slots] at X114 l114 y114 z114 st114 hQ114
              subst l114 y114 z114
              obtain ⟨hv114, Nq114, hh114⟩ := hQ114
              rw [show own_bin v52 (4602678819172646912 : UInt64) (4600877379321698714 : UInt64) (4599075939470750515 : UInt64) (4596373779694328218 : UInt64) = (4596373779694328218 : UInt64) by unfold own_bin; rw [if_pos hc68, if_pos hc83, if_pos hc98]] at hv114
              subst hv114
              have N114 := Fr.app N0 Nq114
              refine Dn.tr st114 ?_
              show Dn p e below s _ _ _ (T114.setTop (mkF m 117 #[.val (.int p0), .val (.int p1), .val (.int p2), .val (.int v5), .val (.ref aM), .val (.double v52), .second, .val (.int (3 : Int32))] [(.double (4596373779694328218 : UInt64))]))
              refine Dn.st (fun _ kk => XS.iloadN X114.here hx rfl (hb hby at_117) rfl  (XS.iload X114.here hx rfl (hb hby at_118) rfl  (kk))) ?_
              show Dn p e below s _ _ _ (T114.setTop (mkF m 120 #[.val (.int p0), .val (.int p1), .val (.int p2), .val (.int v5), .val (.ref aM), .val (.double v52), .second, .val (.int (3 : Int32))] [(.int (3 : Int32)), (.int v5), (.double (4596373779694328218 : UInt64))]))
              obtain ⟨_, _, ⟨T120, L120, k120, n120⟩, -, X120, ⟨Lc120, hQ120, l120, y120, z120⟩, st120⟩ := Jvm.LawKit.callS X114 hx (y := (⟨"org/rupturecast/renewal/AperiodicityOfPinLaw", "expected", "(II)D"⟩ : MethodName)) hown (mvT hZ (hw _ (List.mem_of_getElem? (i := 15) rfl))) (mvT hZ (hw _ (List.mem_of_getElem? (i := 16) rfl))) (mvT hZ (hw _ (List.mem_of_getElem? (i := 17) rfl))) (mvT hZ (hw _ (List.mem_of_getElem? (i := 18) rfl))) (by decide) (backOf (W := 2) (rm2 l Z a0 hw [] v5 (3 : Int32)  h0 n0 Z0 ) hZ (hw _ (List.mem_of_getElem? (i := 18) rfl)) (hw _ (List.mem_of_getElem? (i := 17) rfl)) (by decide) (by decide)) (g := (mkF m 120 #[.val (.int p0), .val (.int p1), .val (.int p2), .val (.int v5), .val (.ref aM), .val (.double v52), .second, .val (.int (3 : Int32))] [(.int (3 : Int32)), (.int v5), (.double (4596373779694328218 : UInt64))])) rfl (by rw [hml]; rfl) (argsL := [(.int v5), (.int (3 : Int32))]) (rest := [(.double (4596373779694328218 : UInt64))]) (lenOf pd1 rfl) rfl (by show 2 * 0 + _ ≤ _; exact Nat.le_of_eq rfl) (hb hby at_120) (fun _ _ => ⟨rfl, hh114, (by decide : 0 + 0 ≤ _), (by decide : 0 + 0 ≤ _)⟩)
              dsimp only [Pt.U, Pt.locs, Pt.cells, Pt.slots] at X120 l120 y120 z120 st120 hQ120
              subst l120 y120 z120
              obtain ⟨hv120, Nq120, hh120⟩ := hQ120
              rw [show own_exp v5 (3 : Int32) = (4596373779694328218 : UInt64) by unfold own_exp; rw [if_neg hc8, if_pos hc21, if_neg (by decide : ¬ ((3 : Int32) = 0)), if_neg (by decide : ¬ ((3 : Int32) = 1)), if_neg (by decide : ¬ ((3 : Int32) = 2))]] at hv120
              subst hv120
              have N120 := Fr.app N114 Nq120
              refine Dn.st st120 ?_
              show Dn p e below s _ _ _ (T120.setTop (mkF m 123 #[.val (.int p0), .val (.int p1), .val (.int p2), .val (.int v5), .val (.ref aM), .val (.double v52), .second, .val (.int (3 : Int32))] [(.double (4596373779694328218 : UInt64)), (.double (4596373779694328218 : UInt64))]))
              refine Dn.st (fun _ kk => XS.dcmpS X120.here hx rfl (hb hby at_123) rfl (show cmpValue (FP.dcmp (4596373779694328218 : UInt64) (4596373779694328218 : UInt64)) .l = (0 : Int32) from (by decide +kernel)) (kk)) ?_
              show Dn p e below s _ _ _ (T120.setTop (mkF m 124 #[.val (.int p0), .val (.int p1), .val (.int p2), .val (.int v5), .val (.ref aM), .val (.double v52), .second, .val (.int (3 : Int32))] [(.int (0 : Int32))]))
              have hc124 : (0 : Int32) = (0 : Int32) := by decide
              refine Dn.st (fun _ kk => XS.ifNo X120.here hx rfl (hb hby at_124) rfl ((if0 _ _).trans (teq hc124).2) (XS.iconst X120.here hx rfl (hb hby at_127) (XS.goto X120.here hx rfl (pc0 := 128) (pc' := 132) rfl (hb hby at_128) (by decide) (by decide) (kk)))) ?_
              show Dn p e below s _ _ _ (T120.setTop (mkF m 132 #[.val (.int p0), .val (.int p1), .val (.int p2), .val (.int v5), .val (.ref aM), .val (.double v52), .second, .val (.int (3 : Int32))] [(.int (1 : Int32))]))
              exact Dn.ret X120 hlk hx hret rfl (Or.inl ⟨rfl, Or.inr (Or.inl rfl), _, rfl⟩) (hb hby at_132) (by rw [hh120]; exact ⟨rfl, N120⟩) (by decide) (by decide)
            · refine Dn.st (fun _ kk => XS.ifNo X24.here hx rfl (hb hby at_98) rfl ((if0 _ _).trans (flt hc98).2.2.1) (XS.iconst X24.here hx rfl (hb hby at_101) (XS.istore X24.here hx rfl (hb hby at_102) rfl (l' := #[.val (.int p0), .val (.int p1), .val (.int p2), .val (.int v5), .val (.ref aM), .val (.double v52), .second, .val (.int (2 : Int32))]) rfl (XS.goto X24.here hx rfl (pc0 := 104) (pc' := 110) rfl (hb hby at_104) (by decide) (by decide) (XS.aload X24.here hx rfl (hb hby at_110) rfl rfl (XS.dload X24.here hx rfl (hb hby at_112) rfl  (kk))))))) ?_
              show Dn p e below s _ _ _ (T24.setTop (mkF m 114 #[.val (.int p0), .val (.int p1), .val (.int p2), .val (.int v5), .val (.ref aM), .val (.double v52), .second, .val (.int (2 : Int32))] [(.double v52), (.ref aM)]))
              obtain ⟨cq114, kq114, q114a, q114b, q114c⟩ := isOf hZ e24 E_MID
              obtain ⟨_, _, ⟨T114, L114, k114, n114⟩, -, X114, ⟨Lc114, hQ114, l114, y114, z114⟩, st114⟩ := X24.virtualBack hx (y := (⟨"org/rupturecast/renewal/Aperiodicity", "of", "(D)D"⟩ : MethodName)) (z := (⟨"org/rupturecast/renewal/Aperiodicity", "of", "(D)D"⟩ : MethodName)) hown (mvT hZ (hw _ (List.mem_of_getElem? (i := 6) rfl))) (mvT hZ (hw _ (List.mem_of_getElem? (i := 7) rfl))) (notFace_of_selects (args := #[]) (mvT hZ (hw _ (List.mem_of_getElem? (i := 9) rfl)))) (mvT hZ (hw _ (List.mem_of_getElem? (i := 9) rfl))) (mvT hZ (hw _ (List.mem_of_getElem? (i := 8) rfl))) (by decide) (backOf (W := 0) (rm1 l Z a0 hw [] aM v52 aB aMx kB kaM (4602678819172646912 : UInt64) (4600877379321698714 : UInt64) (4599075939470750515 : UInt64) (4596373779694328218 : UInt64) h0 n0 Z0 S_B V_B F_MID V_MID) hZ (hw _ (List.mem_of_getElem? (i := 10) rfl)) (hw _ (List.mem_of_getElem? (i := 2) rfl)) (by decide) (by decide)) q114a q114c (g := (mkF m 114 #[.val (.int p0), .val (.int p1), .val (.int p2), .val (.int v5), .val (.ref aM), .val (.double v52), .second, .val (.int (2 : Int32))] [(.double v52), (.ref aM)])) rfl (by rw [hml]; rfl) (Steps.refl _) (argsL := [(.double v52)]) (rest := []) (lenOf pd0 rfl) rfl (by show 2 * 0 + _ ≤ _; exact Nat.le_of_eq rfl) (hb hby at_114) (fun _ _ => ⟨rfl, e24, (by decide : 0 + 0 ≤ _), (by decide : 0 + 0 ≤ _)⟩)
              dsimp only [Pt.U, Pt.locs, Pt.cells, Pt.slots] at X114 l114 y114 z114 st114 hQ114
              subst l114 y114 z114
              obtain ⟨hv114, Nq114, hh114⟩ := hQ114
              rw [show own_bin v52 (4602678819172646912 : UInt64) (4600877379321698714 : UInt64) (4599075939470750515 : UInt64) (4596373779694328218 : UInt64) = (4599075939470750515 : UInt64) by unfold own_bin; rw [if_pos hc68, if_pos hc83, if_neg hc98]] at hv114
              subst hv114
              have N114 := Fr.app N0 Nq114
              refine Dn.tr st114 ?_
              show Dn p e below s _ _ _ (T114.setTop (mkF m 117 #[.val (.int p0), .val (.int p1), .val (.int p2), .val (.int v5), .val (.ref aM), .val (.double v52), .second, .val (.int (2 : Int32))] [(.double (4599075939470750515 : UInt64))]))
              refine Dn.st (fun _ kk => XS.iloadN X114.here hx rfl (hb hby at_117) rfl  (XS.iload X114.here hx rfl (hb hby at_118) rfl  (kk))) ?_
              show Dn p e below s _ _ _ (T114.setTop (mkF m 120 #[.val (.int p0), .val (.int p1), .val (.int p2), .val (.int v5), .val (.ref aM), .val (.double v52), .second, .val (.int (2 : Int32))] [(.int (2 : Int32)), (.int v5), (.double (4599075939470750515 : UInt64))]))
              obtain ⟨_, _, ⟨T120, L120, k120, n120⟩, -, X120, ⟨Lc120, hQ120, l120, y120, z120⟩, st120⟩ := Jvm.LawKit.callS X114 hx (y := (⟨"org/rupturecast/renewal/AperiodicityOfPinLaw", "expected", "(II)D"⟩ : MethodName)) hown (mvT hZ (hw _ (List.mem_of_getElem? (i := 15) rfl))) (mvT hZ (hw _ (List.mem_of_getElem? (i := 16) rfl))) (mvT hZ (hw _ (List.mem_of_getElem? (i := 17) rfl))) (mvT hZ (hw _ (List.mem_of_getElem? (i := 18) rfl))) (by decide) (backOf (W := 2) (rm2 l Z a0 hw [] v5 (2 : Int32)  h0 n0 Z0 ) hZ (hw _ (List.mem_of_getElem? (i := 18) rfl)) (hw _ (List.mem_of_getElem? (i := 17) rfl)) (by decide) (by decide)) (g := (mkF m 120 #[.val (.int p0), .val (.int p1), .val (.int p2), .val (.int v5), .val (.ref aM), .val (.double v52), .second, .val (.int (2 : Int32))] [(.int (2 : Int32)), (.int v5), (.double (4599075939470750515 : UInt64))])) rfl (by rw [hml]; rfl) (argsL := [(.int v5), (.int (2 : Int32))]) (rest := [(.double (4599075939470750515 : UInt64))]) (lenOf pd1 rfl) rfl (by show 2 * 0 + _ ≤ _; exact Nat.le_of_eq rfl) (hb hby at_120) (fun _ _ => ⟨rfl, hh114, (by decide : 0 + 0 ≤ _), (by decide : 0 + 0 ≤ _)⟩)
              dsimp only [Pt.U, Pt.locs, Pt.cells, Pt.slots] at X120 l120 y120 z120 st120 hQ120
              subst l120 y120 z120
              obtain ⟨hv120, Nq120, hh120⟩ := hQ120
              rw [show own_exp v5 (2 : Int32) = (4599075939470750515 : UInt64) by unfold own_exp; rw [if_neg hc8, if_pos hc21, if_neg (by decide : ¬ ((2 : Int32) = 0)), if_neg (by decide : ¬ ((2 : Int32) = 1)), if_pos (rfl : (2 : Int32) = 2)]] at hv120
              subst hv120
              have N120 := Fr.app N114 Nq120
              refine Dn.st st120 ?_
              show Dn p e below s _ _ _ (T120.setTop (mkF m 123 #[.val (.int p0), .val (.int p1), .val (.int p2), .val (.int v5), .val (.ref aM), .val (.double v52), .second, .val (.int (2 : Int32))] [(.double (4599075939470750515 : UInt64)), (.double (4599075939470750515 : UInt64))]))
              refine Dn.st (fun _ kk => XS.dcmpS X120.here hx rfl (hb hby at_123) rfl (show cmpValue (FP.dcmp (4599075939470750515 : UInt64) (4599075939470750515 : UInt64)) .l = (0 : Int32) from (by decide +kernel)) (kk)) ?_
              show Dn p e below s _ _ _ (T120.setTop (mkF m 124 #[.val (.int p0), .val (.int p1), .val (.int p2), .val (.int v5), .val (.ref aM), .val (.double v52), .second, .val (.int (2 : Int32))] [(.int (0 : Int32))]))
              have hc124 : (0 : Int32) = (0 : Int32) := by decide
              refine Dn.st (fun _ kk => XS.ifNo X120.here hx rfl (hb hby at_124) rfl ((if0 _ _).trans (teq hc124).2) (XS.iconst X120.here hx rfl (hb hby at_127) (XS.goto X120.here hx rfl (pc0 := 128) (pc' := 132) rfl (hb hby at_128) (by decide) (by decide) (kk)))) ?_
              show Dn p e below s _ _ _ (T120.setTop (mkF m 132 #[.val (.int p0), .val (.int p1), .val (.int p2), .val (.int v5), .val (.ref aM), .val (.double v52), .second, .val (.int (2 : Int32))] [(.int (1 : Int32))]))
              exact Dn.ret X120 hlk hx hret rfl (Or.inl ⟨rfl, Or.inr (Or.inl rfl), _, rfl⟩) (hb hby at_132) (by rw [hh120]; exact ⟨rfl, N120⟩) (by decide) (by decide)
          · refine Dn.st (fun _ kk => XS.ifNo X24.here hx rfl (hb hby at_83) rfl ((if0 _ _).trans (flt hc83).2.2.1) (XS.iconst X24.here hx rfl (hb hby at_86) (XS.istore X24.here hx rfl (hb hby at_87) rfl (l' := #[.val (.int p0), .val (.int p1), .val (.int p2), .val (.int v5), .val (.ref aM), .val (.double v52), .second, .val (.int (1 : Int32))]) rfl (XS.goto X24.here hx rfl (pc0 := 89) (pc' := 110) rfl (hb hby at_89) (by decide) (by decide) (XS.aload X24.here hx rfl (hb hby at_110) rfl rfl (XS.dload X24.here hx rfl (hb hby at_112) rfl  (kk))))))) ?_
            show Dn p e below s _ _ _ (T24.setTop (mkF m 114 #[.val (.int p0), .val (.int p1), .val (.int p2), .val (.int v5), .val (.ref aM), .val (.double v52), .second, .val (.int (1 : Int32))] [(.double v52), (.ref aM)]))
            obtain ⟨cq114, kq114, q114a, q114b, q114c⟩ := isOf hZ e24 E_MID
            obtain ⟨_, _, ⟨T114, L114, k114, n114⟩, -, X114, ⟨Lc114, hQ114, l114, y114, z114⟩, st114⟩ := X24.virtualBack hx (y := (⟨"org/rupturecast/renewal/Aperiodicity", "of", "(D)D"⟩ : MethodName)) (z := (⟨"org/rupturecast/renewal/Aperiodicity", "of", "(D)D"⟩ : MethodName)) hown (mvT hZ (hw _ (List.mem_of_getElem? (i := 6) rfl))) (mvT hZ (hw _ (List.mem_of_getElem? (i := 7) rfl))) (notFace_of_selects (args := #[]) (mvT hZ (hw _ (List.mem_of_getElem? (i := 9) rfl)))) (mvT hZ (hw _ (List.mem_of_getElem? (i := 9) rfl))) (mvT hZ (hw _ (List.mem_of_getElem? (i := 8) rfl))) (by decide) (backOf (W := 0) (rm1 l Z a0 hw [] aM v52 aB aMx kB kaM (4602678819172646912 : UInt64) (4600877379321698714 : UInt64) (4599075939470750515 : UInt64) (4596373779694328218 : UInt64) h0 n0 Z0 S_B V_B F_MID V_MID) hZ (hw _ (List.mem_of_getElem? (i := 10) rfl)) (hw _ (List.mem_of_getElem? (i := 2) rfl)) (by decide) (by decide)) q114a q114c (g := (mkF m 114 #[.val (.int p0), .val (.int p1), .val (.int p2), .val (.int v5), .val (.ref aM), .val (.double v52), .second, .val (.int (1 : Int32))] [(.double v52), (.ref aM)])) rfl (by rw [hml]; rfl) (Steps.refl _) (argsL := [(.double v52)]) (rest := []) (lenOf pd0 rfl) rfl (by show 2 * 0 + _ ≤ _; exact Nat.le_of_eq rfl) (hb hby at_114) (fun _ _ => ⟨rfl, e24, (by decide : 0 + 0 ≤ _), (by decide : 0 + 0 ≤ _)⟩)
            dsimp only [Pt.U, Pt.locs, Pt.cells, Pt.slots] at X114 l114 y114 z114 st114 hQ114
            subst l114 y114 z114
            obtain ⟨hv114, Nq114, hh114⟩ := hQ114
            rw [show own_bin v52 (4602678819172646912 : UInt64) (4600877379321698714 : UInt64) (4599075939470750515 : UInt64) (4596373779694328218 : UInt64) = (4600877379321698714 : UInt64) by unfold own_bin; rw [if_pos hc68, if_neg hc83]] at hv114
            subst hv114
            have N114 := Fr.app N0 Nq114
            refine Dn.tr st114 ?_
            show Dn p e below s _ _ _ (T114.setTop (mkF m 117 #[.val (.int p0), .val (.int p1), .val (.int p2), .val (.int v5), .val (.ref aM), .val (.double v52), .second, .val (.int (1 : Int32))] [(.double (4600877379321698714 : UInt64))]))
            refine Dn.st (fun _ kk => XS.iloadN X114.here hx rfl (hb hby at_117) rfl  (XS.iload X114.here hx rfl (hb hby at_118) rfl  (kk))) ?_
            show Dn p e below s _ _ _ (T114.setTop (mkF m 120 #[.val (.int p0), .val (.int p1), .val (.int p2), .val (.int v5), .val (.ref aM), .val (.double v52), .second, .val (.int (1 : Int32))] [(.int (1 : Int32)), (.int v5), (.double (4600877379321698714 : UInt64))]))
            obtain ⟨_, _, ⟨T120, L120, k120, n120⟩, -, X120, ⟨Lc120, hQ120, l120, y120, z120⟩, st120⟩ := Jvm.LawKit.callS X114 hx (y := (⟨"org/rupturecast/renewal/AperiodicityOfPinLaw", "expected", "(II)D"⟩ : MethodName)) hown (mvT hZ (hw _ (List.mem_of_getElem? (i := 15) rfl))) (mvT hZ (hw _ (List.mem_of_getElem? (i := 16) rfl))) (mvT hZ (hw _ (List.mem_of_getElem? (i := 17) rfl))) (mvT hZ (hw _ (List.mem_of_getElem? (i := 18) rfl))) (by decide) (backOf (W := 2) (rm2 l Z a0 hw [] v5 (1 : Int32)  h0 n0 Z0 ) hZ (hw _ (List.mem_of_getElem? (i := 18) rfl)) (hw _ (List.mem_of_getElem? (i := 17) rfl)) (by decide) (by decide)) (g := (mkF m 120 #[.val (.int p0), .val (.int p1), .val (.int p2), .val (.int v5), .val (.ref aM), .val (.double v52), .second, .val (.int (1 : Int32))] [(.int (1 : Int32)), (.int v5), (.double (4600877379321698714 : UInt64))])) rfl (by rw [hml]; rfl) (argsL := [(.int v5), (.int (1 : Int32))]) (rest := [(.double (4600877379321698714 : UInt64))]) (lenOf pd1 rfl) rfl (by show 2 * 0 + _ ≤ _; exact Nat.le_of_eq rfl) (hb hby at_120) (fun _ _ => ⟨rfl, hh114, (by decide : 0 + 0 ≤ _), (by decide : 0 + 0 ≤ _)⟩)
            dsimp only [Pt.U, Pt.locs, Pt.cells, Pt.slots] at X120 l120 y120 z120 st120 hQ120
            subst l120 y120 z120
            obtain ⟨hv120, Nq120, hh120⟩ := hQ120
            rw [show own_exp v5 (1 : Int32) = (4600877379321698714 : UInt64) by unfold own_exp; rw [if_neg hc8, if_pos hc21, if_neg (by decide : ¬ ((1 : Int32) = 0)), if_pos (rfl : (1 : Int32) = 1)]] at hv120
            subst hv120
            have N120 := Fr.app N114 Nq120
            refine Dn.st st120 ?_
            show Dn p e below s _ _ _ (T120.setTop (mkF m 123 #[.val (.int p0), .val (.int p1), .val (.int p2), .val (.int v5), .val (.ref aM), .val (.double v52), .second, .val (.int (1 : Int32))] [(.double (4600877379321698714 : UInt64)), (.double (4600877379321698714 : UInt64))]))
            refine Dn.st (fun _ kk => XS.dcmpS X120.here hx rfl (hb hby at_123) rfl (show cmpValue (FP.dcmp (4600877379321698714 : UInt64) (4600877379321698714 : UInt64)) .l = (0 : Int32) from (by decide +kernel)) (kk)) ?_
            show Dn p e below s _ _ _ (T120.setTop (mkF m 124 #[.val (.int p0), .val (.int p1), .val (.int p2), .val (.int v5), .val (.ref aM), .val (.double v52), .second, .val (.int (1 : Int32))] [(.int (0 : Int32))]))
            have hc124 : (0 : Int32) = (0 : Int32) := by decide
            refine Dn.st (fun _ kk => XS.ifNo X120.here hx rfl (hb hby at_124) rfl ((if0 _ _).trans (teq hc124).2) (XS.iconst X120.here hx rfl (hb hby at_127) (XS.goto X120.here hx rfl (pc0 := 128) (pc' := 132) rfl (hb hby at_128) (by decide) (by decide) (kk)))) ?_
            show Dn p e below s _ _ _ (T120.setTop (mkF m 132 #[.val (.int p0), .val (.int p1), .val (.int p2), .val (.int v5), .val (.ref aM), .val (.double v52), .second, .val (.int (1 : Int32))] [(.int (1 : Int32))]))
            exact Dn.ret X120 hlk hx hret rfl (Or.inl ⟨rfl, Or.inr (Or.inl rfl), _, rfl⟩) (hb hby at_132) (by rw [hh120]; exact ⟨rfl, N120⟩) (by decide) (by decide)
        · refine Dn.st (fun _ kk => XS.ifNo X24.here hx rfl (hb hby at_68) rfl ((if0 _ _).trans (flt hc68).2.2.1) (XS.iconst X24.here hx rfl (hb hby at_71) (XS.istore X24.here hx rfl (hb hby at_72) rfl (l' := #[.val (.int p0), .val (.int p1), .val (.int p2), .val (.int v5), .val (.ref aM), .val (.double v52), .second, .val (.int (0 : Int32))]) rfl (XS.goto X24.here hx rfl (pc0 := 74) (pc' := 110) rfl (hb hby at_74) (by decide) (by decide) (XS.aload X24.here hx rfl (hb hby at_110) rfl rfl (XS.dload X24.here hx rfl (hb hby at_112) rfl  (kk))))))) ?_
          show Dn p e below s _ _ _ (T24.setTop (mkF m 114 #[.val (.int p0), .val (.int p1), .val (.int p2), .val (.int v5), .val (.ref aM), .val (.double v52), .second, .val (.int (0 : Int32))] [(.double v52), (.ref aM)]))
          obtain ⟨cq114, kq114, q114a, q114b, q114c⟩ := isOf hZ e24 E_MID
          obtain ⟨_, _, ⟨T114, L114, k114, n114⟩, -, X114, ⟨Lc114, hQ114, l114, y114, z114⟩, st114⟩ := X24.virtualBack hx (y := (⟨"org/rupturecast/renewal/Aperiodicity", "of", "(D)D"⟩ : MethodName)) (z := (⟨"org/rupturecast/renewal/Aperiodicity", "of", "(D)D"⟩ : MethodName)) hown (mvT hZ (hw _ (List.mem_of_getElem? (i := 6) rfl))) (mvT hZ (hw _ (List.mem_of_getElem? (i := 7) rfl))) (notFace_of_selects (args := #[]) (mvT hZ (hw _ (List.mem_of_getElem? (i := 9) rfl)))) (mvT hZ (hw _ (List.mem_of_getElem? (i := 9) rfl))) (mvT hZ (hw _ (List.mem_of_getElem? (i := 8) rfl))) (by decide) (backOf (W := 0) (rm1 l Z a0 hw [] aM v52 aB aMx kB kaM (4602678819172646912 : UInt64) (4600877379321698714 : UInt64) (4599075939470750515 : UInt64) (4596373779694328218 : UInt64) h0 n0 Z0 S_B V_B F_MID V_MID) hZ (hw _ (List.mem_of_getElem? (i := 10) rfl)) (hw _ (List.mem_of_getElem? (i := 2) rfl)) (by decide) (by decide)) q114a q114c (g := (mkF m 114 #[.val (.int p0), .val (.int p1), .val (.int p2), .val (.int v5), .val (.ref aM), .val (.double v52), .second, .val (.int (0 : Int32))] [(.double v52), (.ref aM)])) rfl (by rw [hml]; rfl) (Steps.refl _) (argsL := [(.double v52)]) (rest := []) (lenOf pd0 rfl) rfl (by show 2 * 0 + _ ≤ _; exact Nat.le_of_eq rfl) (hb hby at_114) (fun _ _ => ⟨rfl, e24, (by decide : 0 + 0 ≤ _), (by decide : 0 + 0 ≤ _)⟩)
          dsimp only [Pt.U, Pt.locs, Pt.cells, Pt.slots] at X114 l114 y114 z114 st114 hQ114
          subst l114 y114 z114
          obtain ⟨hv114, Nq114, hh114⟩ := hQ114
          rw [show own_bin v52 (4602678819172646912 : UInt64) (4600877379321698714 : UInt64) (4599075939470750515 : UInt64) (4596373779694328218 : UInt64) = (4602678819172646912 : UInt64) by unfold own_bin; rw [if_neg hc68]] at hv114
          subst hv114
          have N114 := Fr.app N0 Nq114
          refine Dn.tr st114 ?_
          show Dn p e below s _ _ _ (T114.setTop (mkF m 117 #[.val (.int p0), .val (.int p1), .val (.int p2), .val (.int v5), .val (.ref aM), .val (.double v52), .second, .val (.int (0 : Int32))] [(.double (4602678819172646912 : UInt64))]))
          refine Dn.st (fun _ kk => XS.iloadN X114.here hx rfl (hb hby at_117) rfl  (XS.iload X114.here hx rfl (hb hby at_118) rfl  (kk))) ?_
          show Dn p e below s _ _ _ (T114.setTop (mkF m 120 #[.val (.int p0), .val (.int p1), .val (.int p2), .val (.int v5), .val (.ref aM), .val (.double v52), .second, .val (.int (0 : Int32))] [(.int (0 : Int32)), (.int v5), (.double (4602678819172646912 : UInt64))]))
          obtain ⟨_, _, ⟨T120, L120, k120, n120⟩, -, X120, ⟨Lc120, hQ120, l120, y120, z120⟩, st120⟩ := Jvm.LawKit.callS X114 hx (y := (⟨"org/rupturecast/renewal/AperiodicityOfPinLaw", "expected", "(II)D"⟩ : MethodName)) hown (mvT hZ (hw _ (List.mem_of_getElem? (i := 15) rfl))) (mvT hZ (hw _ (List.mem_of_getElem? (i := 16) rfl))) (mvT hZ (hw _ (List.mem_of_getElem? (i := 17) rfl))) (mvT hZ (hw _ (List.mem_of_getElem? (i := 18) rfl))) (by decide) (backOf (W := 2) (rm2 l Z a0 hw [] v5 (0 : Int32)  h0 n0 Z0 ) hZ (hw _ (List.mem_of_getElem? (i := 18) rfl)) (hw _ (List.mem_of_getElem? (i := 17) rfl)) (by decide) (by decide)) (g := (mkF m 120 #[.val (.int p0), .val (.int p1), .val (.int p2), .val (.int v5), .val (.ref aM), .val (.double v52), .second, .val (.int (0 : Int32))] [(.int (0 : Int32)), (.int v5), (.double (4602678819172646912 : UInt64))])) rfl (by rw [hml]; rfl) (argsL := [(.int v5), (.int (0 : Int32))]) (rest := [(.double (4602678819172646912 : UInt64))]) (lenOf pd1 rfl) rfl (by show 2 * 0 + _ ≤ _; exact Nat.le_of_eq rfl) (hb hby at_120) (fun _ _ => ⟨rfl, hh114, (by decide : 0 + 0 ≤ _), (by decide : 0 + 0 ≤ _)⟩)
          dsimp only [Pt.U, Pt.locs, Pt.cells, Pt.slots] at X120 l120 y120 z120 st120 hQ120
          subst l120 y120 z120
          obtain ⟨hv120, Nq120, hh120⟩ := hQ120
          rw [show own_exp v5 (0 : Int32) = (4602678819172646912 : UInt64) by unfold own_exp; rw [if_neg hc8, if_pos hc21, if_pos (rfl : (0 : Int32) = 0)]] at hv120
          subst hv120
          have N120 := Fr.app N114 Nq120
          refine Dn.st st120 ?_
          show Dn p e below s _ _ _ (T120.setTop (mkF m 123 #[.val (.int p0), .val (.int p1), .val (.int p2), .val (.int v5), .val (.ref aM), .val (.double v52), .second, .val (.int (0 : Int32))] [(.double (4602678819172646912 : UInt64)), (.double (4602678819172646912 : UInt64))]))
          refine Dn.st (fun _ kk => XS.dcmpS X120.here hx rfl (hb hby at_123) rfl (show cmpValue (FP.dcmp (4602678819172646912 : UInt64) (4602678819172646912 : UInt64)) .l = (0 : Int32) from (by decide +kernel)) (kk)) ?_
          show Dn p e below s _ _ _ (T120.setTop (mkF m 124 #[.val (.int p0), .val (.int p1), .val (.int p2), .val (.int v5), .val (.ref aM), .val (.double v52), .second, .val (.int (0 : Int32))] [(.int (0 : Int32))]))
          have hc124 : (0 : Int32) = (0 : Int32) := by decide
          refine Dn.st (fun _ kk => XS.ifNo X120.here hx rfl (hb hby at_124) rfl ((if0 _ _).trans (teq hc124).2) (XS.iconst X120.here hx rfl (hb hby at_127) (XS.goto X120.here hx rfl (pc0 := 128) (pc' := 132) rfl (hb hby at_128) (by decide) (by decide) (kk)))) ?_
          show Dn p e below s _ _ _ (T120.setTop (mkF m 132 #[.val (.int p0), .val (.int p1), .val (.int p2), .val (.int v5), .val (.ref aM), .val (.double v52), .second, .val (.int (0 : Int32))] [(.int (1 : Int32))]))
          exact Dn.ret X120 hlk hx hret rfl (Or.inl ⟨rfl, Or.inr (Or.inl rfl), _, rfl⟩) (hb hby at_132) (by rw [hh120]; exact ⟨rfl, N120⟩) (by decide) (by decide)
      · refine Dn.st (fun _ kk => XS.ifYes X24.here hx rfl (pc0 := 40) (pc' := 58) rfl (hb hby at_40) rfl ((if0 _ _).trans (feq hc40).2) (by decide) (by decide) (XS.iloadN X24.here hx rfl (hb hby at_58) rfl  (kk))) ?_
        show Dn p e below s _ _ _ (T24.setTop (mkF m 59 #[.val (.int p0), .val (.int p1), .val (.int p2), .val (.int v5), .val (.ref aM), .unset, .unset, .unset] [(.int p1)]))
        have d59 := DS.i2d p1
        refine Dn.st (fun _ kk => XS.i2dS X24.here hx rfl (hb hby at_59) rfl rfl (kk)) ?_
        show Dn p e below s _ _ _ (T24.setTop (mkF m 60 #[.val (.int p0), .val (.int p1), .val (.int p2), .val (.int v5), .val (.ref aM), .unset, .unset, .unset] [(.double (FP.i2d p1))]))
        generalize hv59 : ((FP.i2d p1) : UInt64) = v59 at d59 ⊢
        have nm := d59.nn
        show Dn p e below s _ _ _ (T24.setTop (mkF m 60 #[.val (.int p0), .val (.int p1), .val (.int p2), .val (.int v5), .val (.ref aM), .unset, .unset, .unset] [(.double v59)]))
        refine Dn.st (fun _ kk => XS.dstore X24.here hx rfl (hb hby at_60) rfl (l' := #[.val (.int p0), .val (.int p1), .val (.int p2), .val (.int v5), .val (.ref aM), .val (.double v59), .second, .unset]) rfl (XS.dload X24.here hx rfl (hb hby at_62) rfl  (X24.ldc2DoubleC hx hown (mvT hZ (hw _ (List.mem_of_getElem? (i := 5) rfl))) (g := (mkF m 64 #[.val (.int p0), .val (.int p1), .val (.int p2), .val (.int v5), .val (.ref aM), .val (.double v59), .second, .unset] [(.double v59)])) rfl (hb hby at_64) _ (XS.dcmpS X24.here hx rfl (hb hby at_67) rfl (show cmpValue (FP.dcmp v59 (4619229547803233485 : UInt64)) .g = (own_o v59 (4619229547803233485 : UInt64)) from (own_og nm (DS.nn dc_4619229547803233485))) (kk))))) ?_
        show Dn p e below s _ _ _ (T24.setTop (mkF m 68 #[.val (.int p0), .val (.int p1), .val (.int p2), .val (.int v5), .val (.ref aM), .val (.double v59), .second, .unset] [(.int (own_o v59 (4619229547803233485 : UInt64)))]))
        by_cases hc68 : (0 : Int32) < (own_o v59 (4619229547803233485 : UInt64))
        · refine Dn.st (fun _ kk => XS.ifYes X24.here hx rfl (pc0 := 68) (pc' := 77) rfl (hb hby at_68) rfl ((if0 _ _).trans (tlt hc68).2.2.1) (by decide) (by decide) (XS.dload X24.here hx rfl (hb hby at_77) rfl  (X24.ldc2DoubleC hx hown (mvT hZ (hw _ (List.mem_of_getElem? (i := 22) rfl))) (g := (mkF m 79 #[.val (.int p0), .val (.int p1), .val (.int p2), .val (.int v5), .val (.ref aM), .val (.double v59), .second, .unset] [(.double v59)])) rfl (hb hby at_79) _ (XS.dcmpS X24.here hx rfl (hb hby at_82) rfl (show cmpValue (FP.dcmp v59 (4619792497756654797 : UInt64)) .g = (own_o v59 (4619792497756654797 : UInt64)) from (own_og nm (DS.nn dc_4619792497756654797))) (kk))))) ?_
          show Dn p e below s _ _ _ (T24.setTop (mkF m 83 #[.val (.int p0), .val (.int p1), .val (.int p2), .val (.int v5), .val (.ref aM), .val (.double v59), .second, .unset] [(.int (own_o v59 (4619792497756654797 : UInt64)))]))
          by_cases hc83 : (0 : Int32) < (own_o v59 (4619792497756654797 : UInt64))
          · refine Dn.st (fun _ kk => XS.ifYes X24.here hx rfl (pc0 := 83) (pc' := 92) rfl (hb hby at_83) rfl ((if0 _ _).trans (tlt hc83).2.2.1) (by decide) (by decide) (XS.dload X24.here hx rfl (hb hby at_92) rfl  (X24.ldc2DoubleC hx hown (mvT hZ (hw _ (List.mem_of_getElem? (i := 23) rfl))) (g := (mkF m 94 #[.val (.int p0), .val (.int p1), .val (.int p2), .val (.int v5), .val (.ref aM), .val (.double v59), .second, .unset] [(.double v59)])) rfl (hb hby at_94) _ (XS.dcmpS X24.here hx rfl (hb hby at_97) rfl (show cmpValue (FP.dcmp v59 (4620355447710076109 : UInt64)) .g = (own_o v59 (4620355447710076109 : UInt64)) from (own_og nm (DS.nn dc_4620355447710076109))) (kk))))) ?_
            show Dn p e below s _ _ _ (T24.setTop (mkF m 98 #[.val (.int p0), .val (.int p1), .val (.int p2), .val (.int v5), .val (.ref aM), .val (.double v59), .second, .unset] [(.int (own_o v59 (4620355447710076109 : UInt64)))]))
            by_cases hc98 : (0 : Int32) < (own_o v59 (4620355447710076109 : UInt64))
            · refine Dn.st (fun _ kk => XS.ifYes X24.here hx rfl (pc0 := 98) (pc' := 107) rfl (hb hby at_98) rfl ((if0 _ _).trans (tlt hc98).2.2.1) (by decide) (by decide) (XS.iconst X24.here hx rfl (hb hby at_107) (XS.istore X24.here hx rfl (hb hby at_108) rfl (l' := #[.val (.int p0), .val (.int p1), .val (.int p2), .val (.int v5), .val (.ref aM), .val (.double v59), .second, .val (.int (3 : Int32))]) rfl (XS.aload X24.here hx rfl (hb hby at_110) rfl rfl (XS.dload X24.here hx rfl (hb hby at_112) rfl  (kk)))))) ?_
              show Dn p e below s _ _ _ (T24.setTop (mkF m 114 #[.val (.int p0), .val (.int p1), .val (.int p2), .val (.int v5), .val (.ref aM), .val (.double v59), .second, .val (.int (3 : Int32))] [(.double v59), (.ref aM)]))
              obtain ⟨cq114, kq114, q114a, q114b, q114c⟩ := isOf hZ e24 E_MID
              obtain ⟨_, _, ⟨T114, L114, k114, n114⟩, -, X114, ⟨Lc114, hQ114, l114, y114, z114⟩, st114⟩ := X24.virtualBack hx (y := (⟨"org/rupturecast/renewal/Aperiodicity", "of", "(D)D"⟩ : MethodName)) (z := (⟨"org/rupturecast/renewal/Aperiodicity", "of", "(D)D"⟩ : MethodName)) hown (mvT hZ (hw _ (List.mem_of_getElem? (i := 6) rfl))) (mvT hZ (hw _ (List.mem_of_getElem? (i := 7) rfl))) (notFace_of_selects (args := #[]) (mvT hZ (hw _ (List.mem_of_getElem? (i := 9) rfl)))) (mvT hZ (hw _ (List.mem_of_getElem? (i := 9) rfl))) (mvT hZ (hw _ (List.mem_of_getElem? (i := 8) rfl))) (by decide) (backOf (W := 0) (rm1 l Z a0 hw [] aM v59 aB aMx kB kaM (4602678819172646912 : UInt64) (4600877379321698714 : UInt64) (4599075939470750515 : UInt64) (4596373779694328218 : UInt64) h0 n0 Z0 S_B V_B F_MID V_MID) hZ (hw _ (List.mem_of_getElem? (i := 10) rfl)) (hw _ (List.mem_of_getElem? (i := 2) rfl)) (by decide) (by decide)) q114a q114c (g := (mkF m 114 #[.val (.int p0), .val (.int p1), .val (.int p2), .val (.int v5), .val (.ref aM), .val (.double v59), .second, .val (.int (3 : Int32))] [(.double v59), (.ref aM)])) rfl (by rw [hml]; rfl) (Steps.refl _) (argsL := [(.double v59)]) (rest := []) (lenOf pd0 rfl) rfl (by show 2 * 0 + _ ≤ _; exact Nat.le_of_eq rfl) (hb hby at_114) (fun _ _ => ⟨rfl, e24, (by decide : 0 + 0 ≤ _), (by decide : 0 + 0 ≤ _)⟩)
              dsimp only [Pt.U, Pt.locs, Pt.cells, Pt.slots] at X114 l114 y114 z114 st114 hQ114
              subst l114 y114 z114
              obtain ⟨hv114, Nq114, hh114⟩ := hQ114
              rw [show own_bin v59 (4602678819172646912 : UInt64) (4600877379321698714 : UInt64) (4599075939470750515 : UInt64) (4596373779694328218 : UInt64) = (4596373779694328218 : UInt64) by unfold own_bin; rw [if_pos hc68, if_pos hc83, if_pos hc98]] at hv114
              subst hv114
              have N114 := Fr.app N0 Nq114
              refine Dn.tr st114 ?_
              show Dn p e below s _ _ _ (T114.setTop (mkF m 117 #[.val (.int p0), .val (.int p1), .val (.int p2), .val (.int v5), .val (.ref aM), .val (.double v59), .second, .val (.int (3 : Int32))] [(.double (4596373779694328218 : UInt64))]))
              refine Dn.st (fun _ kk => XS.iloadN X114.here hx rfl (hb hby at_117) rfl  (XS.iload X114.here hx rfl (hb hby at_118) rfl  (kk))) ?_
              show Dn p e below s _ _ _ (T114.setTop (mkF m 120 #[.val (.int p0), .val (.int p1), .val (.int p2), .val (.int v5), .val (.ref aM), .val (.double v59), .second, .val (.int (3 : Int32))] [(.int (3 : Int32)), (.int v5), (.double (4596373779694328218 : UInt64))]))
              obtain ⟨_, _, ⟨T120, L120, k120, n120⟩, -, X120, ⟨Lc120, hQ120, l120, y120, z120⟩, st120⟩ := Jvm.LawKit.callS X114 hx (y := (⟨"org/rupturecast/renewal/AperiodicityOfPinLaw", "expected", "(II)D"⟩ : MethodName)) hown (mvT hZ (hw _ (List.mem_of_getElem? (i := 15) rfl))) (mvT hZ (hw _ (List.mem_of_getElem? (i := 16) rfl))) (mvT hZ (hw _ (List.mem_of_getElem? (i := 17) rfl))) (mvT hZ (hw _ (List.mem_of_getElem? (i := 18) rfl))) (by decide) (backOf (W := 2) (rm2 l Z a0 hw [] v5 (3 : Int32)  h0 n0 Z0 ) hZ (hw _ (List.mem_of_getElem? (i := 18) rfl)) (hw _ (List.mem_of_getElem? (i := 17) rfl)) (by decide) (by decide)) (g := (mkF m 120 #[.val (.int p0), .val (.int p1), .val (.int p2), .val (.int v5), .val (.ref aM), .val (.double v59), .second, .val (.int (3 : Int32))] [(.int (3 : Int32)), (.int v5), (.double (4596373779694328218 : UInt64))])) rfl (by rw [hml]; rfl) (argsL := [(.int v5), (.int (3 : Int32))]) (rest := [(.double (4596373779694328218 : UInt64))]) (lenOf pd1 rfl) rfl (by show 2 * 0 + _ ≤ _; exact Nat.le_of_eq rfl) (hb hby at_120) (fun _ _ => ⟨rfl, hh114, (by decide : 0 + 0 ≤ _), (by decide : 0 + 0 ≤ _)⟩)
              dsimp only [Pt.U, Pt.locs, Pt.cells, Pt.slots] at X120 l120 y120 z120 st120 hQ120
              subst l120 y120 z120
              obtain ⟨hv120, Nq120, hh120⟩ := hQ120
              rw [show own_exp v5 (3 : Int32) = (4596373779694328218 : UInt64) by unfold own_exp; rw [if_neg hc8, if_pos hc21, if_neg (by decide : ¬ ((3 : Int32) = 0)), if_neg (by decide : ¬ ((3 : Int32) = 1)), if_neg (by decide : ¬ ((3 : Int32) = 2))]] at hv120
              subst hv120
              have N120 := Fr.app N114 Nq120
              refine Dn.st st120 ?_
              show Dn p e below s _ _ _ (T120.setTop (mkF m 123 #[.val (.int p0), .val (.int p1), .val (.int p2), .val (.int v5), .val (.ref aM), .val (.double v59), .second, .val (.int (3 : Int32))] [(.double (4596373779694328218 : UInt64)), (.double (4596373779694328218 : UInt64))]))
              refine Dn.st (fun _ kk => XS.dcmpS X120.here hx rfl (hb hby at_123) rfl (show cmpValue (FP.dcmp (4596373779694328218 : UInt64) (4596373779694328218 : UInt64)) .l = (0 : Int32) from (by decide +kernel)) (kk)) ?_
              show Dn p e below s _ _ _ (T120.setTop (mkF m 124 #[.val (.int p0), .val (.int p1), .val (.int p2), .val (.int v5), .val (.ref aM), .val (.double v59), .second, .val (.int (3 : Int32))] [(.int (0 : Int32))]))
              have hc124 : (0 : Int32) = (0 : Int32) := by decide
              refine Dn.st (fun _ kk => XS.ifNo X120.here hx rfl (hb hby at_124) rfl ((if0 _ _).trans (teq hc124).2) (XS.iconst X120.here hx rfl (hb hby at_127) (XS.goto X120.here hx rfl (pc0 := 128) (pc' := 132) rfl (hb hby at_128) (by decide) (by decide) (kk)))) ?_
              show Dn p e below s _ _ _ (T120.setTop (mkF m 132 #[.val (.int p0), .val (.int p1), .val (.int p2), .val (.int v5), .val (.ref aM), .val (.double v59), .second, .val (.int (3 : Int32))] [(.int (1 : Int32))]))
              exact Dn.ret X120 hlk hx hret rfl (Or.inl ⟨rfl, Or.inr (Or.inl rfl), _, rfl⟩) (hb hby at_132) (by rw [hh120]; exact ⟨rfl, N120⟩) (by decide) (by decide)
            · refine Dn.st (fun _ kk => XS.ifNo X24.here hx rfl (hb hby at_98) rfl ((if0 _ _).trans (flt hc98).2.2.1) (XS.iconst X24.here hx rfl (hb hby at_101) (XS.istore X24.here hx rfl (hb hby at_102) rfl (l' := #[.val (.int p0), .val (.int p1), .val (.int p2), .val (.int v5), .val (.ref aM), .val (.double v59), .second, .val (.int (2 : Int32))]) rfl (XS.goto X24.here hx rfl (pc0 := 104) (pc' := 110) rfl (hb hby at_104) (by decide) (by decide) (XS.aload X24.here hx rfl (hb hby at_110) rfl rfl (XS.dload X24.here hx rfl (hb hby at_112) rfl  (kk))))))) ?_
              show Dn p e below s _ _ _ (T24.setTop (mkF m 114 #[.val (.int p0), .val (.int p1), .val (.int p2), .val (.int v5), .val (.ref aM), .val (.double v59), .second, .val (.int (2 : Int32))] [(.double v59), (.ref aM)]))
              obtain ⟨cq114, kq114, q114a, q114b, q114c⟩ := isOf hZ e24 E_MID
              obtain ⟨_, _, ⟨T114, L114, k114, n114⟩, -, X114, ⟨Lc114, hQ114, l114, y114, z114⟩, st114⟩ := X24.virtualBack hx (y := (⟨"org/rupturecast/renewal/Aperiodicity", "of", "(D)D"⟩ : MethodName)) (z := (⟨"org/rupturecast/renewal/Aperiodicity", "of", "(D)D"⟩ : MethodName)) hown (mvT hZ (hw _ (List.mem_of_getElem? (i := 6) rfl))) (mvT hZ (hw _ (List.mem_of_getElem? (i := 7) rfl))) (notFace_of_selects (args := #[]) (mvT hZ (hw _ (List.mem_of_getElem? (i := 9) rfl)))) (mvT hZ (hw _ (List.mem_of_getElem? (i := 9) rfl))) (mvT hZ (hw _ (List.mem_of_getElem? (i := 8) rfl))) (by decide) (backOf (W := 0) (rm1 l Z a0 hw [] aM v59 aB aMx kB kaM (4602678819172646912 : UInt64) (4600877379321698714 : UInt64) (4599075939470750515 : UInt64) (4596373779694328218 : UInt64) h0 n0 Z0 S_B V_B F_MID V_MID) hZ (hw _ (List.mem_of_getElem? (i := 10) rfl)) (hw _ (List.mem_of_getElem? (i := 2) rfl)) (by decide) (by decide)) q114a q114c (g := (mkF m 114 #[.val (.int p0), .val (.int p1), .val (.int p2), .val (.int v5), .val (.ref aM), .val (.double v59), .second, .val (.int (2 : Int32))] [(.double v59), (.ref aM)])) rfl (by rw [hml]; rfl) (Steps.refl _) (argsL := [(.double v59)]) (rest := []) (lenOf pd0 rfl) rfl (by show 2 * 0 + _ ≤ _; exact Nat.le_of_eq rfl) (hb hby at_114) (fun _ _ => ⟨rfl, e24, (by decide : 0 + 0 ≤ _), (by decide : 0 + 0 ≤ _)⟩)
              dsimp only [Pt.U, Pt.locs, Pt.cells, Pt.slots] at X114 l114 y114 z114 st114 hQ114
              subst l114 y114 z114
              obtain ⟨hv114, Nq114, hh114⟩ := hQ114
              rw [show own_bin v59 (4602678819172646912 : UInt64) (4600877379321698714 : UInt64) (4599075939470750515 : UInt64) (4596373779694328218 : UInt64) = (4599075939470750515 : UInt64) by unfold own_bin; rw [if_pos hc68, if_pos hc83, if_neg hc98]] at hv114
              subst hv114
              have N114 := Fr.app N0 Nq114
              refine Dn.tr st114 ?_
              show Dn p e below s _ _ _ (T114.setTop (mkF m 117 #[.val (.int p0), .val (.int p1), .val (.int p2), .val (.int v5), .val (.ref aM), .val (.double v59), .second, .val (.int (2 : Int32))] [(.double (4599075939470750515 : UInt64))]))
              refine Dn.st (fun _ kk => XS.iloadN X114.here hx rfl (hb hby at_117) rfl  (XS.iload X114.here hx rfl (hb hby at_118) rfl  (kk))) ?_
              show Dn p e below s _ _ _ (T114.setTop (mkF m 120 #[.val (.int p0), .val (.int p1), .val (.int p2), .val (.int v5), .val (.ref aM), .val (.double v59), .second, .val (.int (2 : Int32))] [(.int (2 : Int32)), (.int v5), (.double (4599075939470750515 : UInt64))]))
              obtain ⟨_, _, ⟨T120, L120, k120, n120⟩, -, X120, ⟨Lc120, hQ120, l120, y120, z120⟩, st120⟩ := Jvm.LawKit.callS X114 hx (y := (⟨"org/rupturecast/renewal/AperiodicityOfPinLaw", "expected", "(II)D"⟩ : MethodName)) hown (mvT hZ (hw _ (List.mem_of_getElem? (i := 15) rfl))) (mvT hZ (hw _ (List.mem_of_getElem? (i := 16) rfl))) (mvT hZ (hw _ (List.mem_of_getElem? (i := 17) rfl))) (mvT hZ (hw _ (List.mem_of_getElem? (i := 18) rfl))) (by decide) (backOf (W := 2) (rm2 l Z a0 hw [] v5 (2 : Int32)  h0 n0 Z0 ) hZ (hw _ (List.mem_of_getElem? (i := 18) rfl)) (hw _ (List.mem_of_getElem? (i := 17) rfl)) (by decide) (by decide)) (g := (mkF m 120 #[.val (.int p0), .val (.int p1), .val (.int p2), .val (.int v5), .val (.ref aM), .val (.double v59), .second, .val (.int (2 : Int32))] [(.int (2 : Int32)), (.int v5), (.double (4599075939470750515 : UInt64))])) rfl (by rw [hml]; rfl) (argsL := [(.int v5), (.int (2 : Int32))]) (rest := [(.double (4599075939470750515 : UInt64))]) (lenOf pd1 rfl) rfl (by show 2 * 0 + _ ≤ _; exact Nat.le_of_eq rfl) (hb hby at_120) (fun _ _ => ⟨rfl, hh114, (by decide : 0 + 0 ≤ _), (by decide : 0 + 0 ≤ _)⟩)
              dsimp only [Pt.U, Pt.locs, Pt.cells, Pt.slots] at X120 l120 y120 z120 st120 hQ120
              subst l120 y120 z120
              obtain ⟨hv120, Nq120, hh120⟩ := hQ120
              rw [show own_exp v5 (2 : Int32) = (4599075939470750515 : UInt64) by unfold own_exp; rw [if_neg hc8, if_pos hc21, if_neg (by decide : ¬ ((2 : Int32) = 0)), if_neg (by decide : ¬ ((2 : Int32) = 1)), if_pos (rfl : (2 : Int32) = 2)]] at hv120
              subst hv120
              have N120 := Fr.app N114 Nq120
              refine Dn.st st120 ?_
              show Dn p e below s _ _ _ (T120.setTop (mkF m 123 #[.val (.int p0), .val (.int p1), .val (.int p2), .val (.int v5), .val (.ref aM), .val (.double v59), .second, .val (.int (2 : Int32))] [(.double (4599075939470750515 : UInt64)), (.double (4599075939470750515 : UInt64))]))
              refine Dn.st (fun _ kk => XS.dcmpS X120.here hx rfl (hb hby at_123) rfl (show cmpValue (FP.dcmp (4599075939470750515 : UInt64) (4599075939470750515 : UInt64)) .l = (0 : Int32) from (by decide +kernel)) (kk)) ?_
              show Dn p e below s _ _ _ (T120.setTop (mkF m 124 #[.val (.int p0), .val (.int p1), .val (.int p2), .val (.int v5), .val (.ref aM), .val (.double v59), .second, .val (.int (2 : Int32))] [(.int (0 : Int32))]))
              have hc124 : (0 : Int32) = (0 : Int32) := by decide
              refine Dn.st (fun _ kk => XS.ifNo X120.here hx rfl (hb hby at_124) rfl ((if0 _ _).trans (teq hc124).2) (XS.iconst X120.here hx rfl (hb hby at_127) (XS.goto X120.here hx rfl (pc0 := 128) (pc' := 132) rfl (hb hby at_128) (by decide) (by decide) (kk)))) ?_
              show Dn p e below s _ _ _ (T120.setTop (mkF m 132 #[.val (.int p0), .val (.int p1), .val (.int p2), .val (.int v5), .val (.ref aM), .val (.double v59), .second, .val (.int (2 : Int32))] [(.int (1 : Int32))]))
              exact Dn.ret X120 hlk hx hret rfl (Or.inl ⟨rfl, Or.inr (Or.inl rfl), _, rfl⟩) (hb hby at_132) (by rw [hh120]; exact ⟨rfl, N120⟩) (by decide) (by decide)
          · refine Dn.st (fun _ kk => XS.ifNo X24.here hx rfl (hb hby at_83) rfl ((if0 _ _).trans (flt hc83).2.2.1) (XS.iconst X24.here hx rfl (hb hby at_86) (XS.istore X24.here hx rfl (hb hby at_87) rfl (l' := #[.val (.int p0), .val (.int p1), .val (.int p2), .val (.int v5), .val (.ref aM), .val (.double v59), .second, .val (.int (1 : Int32))]) rfl (XS.goto X24.here hx rfl (pc0 := 89) (pc' := 110) rfl (hb hby at_89) (by decide) (by decide) (XS.aload X24.here hx rfl (hb hby at_110) rfl rfl (XS.dload X24.here hx rfl (hb hby at_112) rfl  (kk))))))) ?_
            show Dn p e below s _ _ _ (T24.setTop (mkF m 114 #[.val (.int p0), .val (.int p1), .val (.int p2), .val (.int v5), .val (.ref aM), .val (.double v59), .second, .val (.int (1 : Int32))] [(.double v59), (.ref aM)]))
            obtain ⟨cq114, kq114, q114a, q114b, q114c⟩ := isOf hZ e24 E_MID
            obtain ⟨_, _, ⟨T114, L114, k114, n114⟩, -, X114, ⟨Lc114, hQ114, l114, y114, z114⟩, st114⟩ := X24.virtualBack hx (y := (⟨"org/rupturecast/renewal/Aperiodicity", "of", "(D)D"⟩ : MethodName)) (z := (⟨"org/rupturecast/renewal/Aperiodicity", "of", "(D)D"⟩ : MethodName)) hown (mvT hZ (hw _ (List.mem_of_getElem? (i := 6) rfl))) (mvT hZ (hw _ (List.mem_of_getElem? (i := 7) rfl))) (notFace_of_selects (args := #[]) (mvT hZ (hw _ (List.mem_of_getElem? (i := 9) rfl)))) (mvT hZ (hw _ (List.mem_of_getElem? (i := 9) rfl))) (mvT hZ (hw _ (List.mem_of_getElem? (i := 8) rfl))) (by decide) (backOf (W := 0) (rm1 l Z a0 hw [] aM v59 aB aMx kB kaM (4602678819172646912 : UInt64) (4600877379321698714 : UInt64) (4599075939470750515 : UInt64) (4596373779694328218 : UInt64) h0 n0 Z0 S_B V_B F_MID V_MID) hZ (hw _ (List.mem_of_getElem? (i := 10) rfl)) (hw _ (List.mem_of_getElem? (i := 2) rfl)) (by decide) (by decide)) q114a q114c (g := (mkF m 114 #[.val (.int p0), .val (.int p1), .val (.int p2), .val (.int v5), .val (.ref aM), .val (.double v59), .second, .val (.int (1 : Int32))] [(.double v59), (.ref aM)])) rfl (by rw [hml]; rfl) (Steps.refl _) (argsL := [(.double v59)]) (rest := []) (lenOf pd0 rfl) rfl (by show 2 * 0 + _ ≤ _; exact Nat.le_of_eq rfl) (hb hby at_114) (fun _ _ => ⟨rfl, e24, (by decide : 0 + 0 ≤ _), (by decide : 0 + 0 ≤ _)⟩)
            dsimp only [Pt.U, Pt.locs, Pt.cells, Pt.slots] at X114 l114 y114 z114 st114 hQ114
            subst l114 y114 z114
            obtain ⟨hv114, Nq114, hh114⟩ := hQ114
            rw [show own_bin v59 (4602678819172646912 : UInt64) (4600877379321698714 : UInt64) (4599075939470750515 : UInt64) (4596373779694328218 : UInt64) = (4600877379321698714 : UInt64) by unfold own_bin; rw [if_pos hc68, if_neg hc83]] at hv114
            subst hv114
            have N114 := Fr.app N0 Nq114
            refine Dn.tr st114 ?_
            show Dn p e below s _ _ _ (T114.setTop (mkF m 117 #[.val (.int p0), .val (.int p1), .val (.int p2), .val (.int v5), .val (.ref aM), .val (.double v59), .second, .val (.int (1 : Int32))] [(.double (4600877379321698714 : UInt64))]))
            refine Dn.st (fun _ kk => XS.iloadN X114.here hx rfl (hb hby at_117) rfl  (XS.iload X114.here hx rfl (hb hby at_118) rfl  (kk))) ?_
            show Dn p e below s _ _ _ (T114.setTop (mkF m 120 #[.val (.int p0), .val (.int p1), .val (.int p2), .val (.int v5), .val (.ref aM), .val (.double v59), .second, .val (.int (1 : Int32))] [(.int (1 : Int32)), (.int v5), (.double (4600877379321698714 : UInt64))]))
            obtain ⟨_, _, ⟨T120, L120, k120, n120⟩, -, X120, ⟨Lc120, hQ120, l120, y120, z120⟩, st120⟩ := Jvm.LawKit.callS X114 hx (y := (⟨"org/rupturecast/renewal/AperiodicityOfPinLaw", "expected", "(II)D"⟩ : MethodName)) hown (mvT hZ (hw _ (List.mem_of_getElem? (i := 15) rfl))) (mvT hZ (hw _ (List.mem_of_getElem? (i := 16) rfl))) (mvT hZ (hw _ (List.mem_of_getElem? (i := 17) rfl))) (mvT hZ (hw _ (List.mem_of_getElem? (i := 18) rfl))) (by decide) (backOf (W := 2) (rm2 l Z a0 hw [] v5 (1 : Int32)  h0 n0 Z0 ) hZ (hw _ (List.mem_of_getElem? (i := 18) rfl)) (hw _ (List.mem_of_getElem? (i := 17) rfl)) (by decide) (by decide)) (g := (mkF m 120 #[.val (.int p0), .val (.int p1), .val (.int p2), .val (.int v5), .val (.ref aM), .val (.double v59), .second, .val (.int (1 : Int32))] [(.int (1 : Int32)), (.int v5), (.double (4600877379321698714 : UInt64))])) rfl (by rw [hml]; rfl) (argsL := [(.int v5), (.int (1 : Int32))]) (rest := [(.double (4600877379321698714 : UInt64))]) (lenOf pd1 rfl) rfl (by show 2 * 0 + _ ≤ _; exact Nat.le_of_eq rfl) (hb hby at_120) (fun _ _ => ⟨rfl, hh114, (by decide : 0 + 0 ≤ _), (by decide : 0 + 0 ≤ _)⟩)
            dsimp only [Pt.U, Pt.locs, Pt.cells, Pt.slots] at X120 l120 y120 z120 st120 hQ120
            subst l120 y120 z120
            obtain ⟨hv120, Nq120, hh120⟩ := hQ120
            rw [show own_exp v5 (1 : Int32) = (4600877379321698714 : UInt64) by unfold own_exp; rw [if_neg hc8, if_pos hc21, if_neg (by decide : ¬ ((1 : Int32) = 0)), if_pos (rfl : (1 : Int32) = 1)]] at hv120
            subst hv120
            have N120 := Fr.app N114 Nq120
            refine Dn.st st120 ?_
            show Dn p e below s _ _ _ (T120.setTop (mkF m 123 #[.val (.int p0), .val (.int p1), .val (.int p2), .val (.int v5), .val (.ref aM), .val (.double v59), .second, .val (.int (1 : Int32))] [(.double (4600877379321698714 : UInt64)), (.double (4600877379321698714 : UInt64))]))
            refine Dn.st (fun _ kk => XS.dcmpS X120.here hx rfl (hb hby at_123) rfl (show cmpValue (FP.dcmp (4600877379321698714 : UInt64) (4600877379321698714 : UInt64)) .l = (0 : Int32) from (by decide +kernel)) (kk)) ?_
            show Dn p e below s _ _ _ (T120.setTop (mkF m 124 #[.val (.int p0), .val (.int p1), .val (.int p2), .val (.int v5), .val (.ref aM), .val (.double v59), .second, .val (.int (1 : Int32))] [(.int (0 : Int32))]))
            have hc124 : (0 : Int32) = (0 : Int32) := by decide
            refine Dn.st (fun _ kk => XS.ifNo X120.here hx rfl (hb hby at_124) rfl ((if0 _ _).trans (teq hc124).2) (XS.iconst X120.here hx rfl (hb hby at_127) (XS.goto X120.here hx rfl (pc0 := 128) (pc' := 132) rfl (hb hby at_128) (by decide) (by decide) (kk)))) ?_
            show Dn p e below s _ _ _ (T120.setTop (mkF m 132 #[.val (.int p0), .val (.int p1), .val (.int p2), .val (.int v5), .val (.ref aM), .val (.double v59), .second, .val (.int (1 : Int32))] [(.int (1 : Int32))]))
            exact Dn.ret X120 hlk hx hret rfl (Or.inl ⟨rfl, Or.inr (Or.inl rfl), _, rfl⟩) (hb hby at_132) (by rw [hh120]; exact ⟨rfl, N120⟩) (by decide) (by decide)
        · refine Dn.st (fun _ kk => XS.ifNo X24.here hx rfl (hb hby at_68) rfl ((if0 _ _).trans (flt hc68).2.2.1) (XS.iconst X24.here hx rfl (hb hby at_71) (XS.istore X24.here hx rfl (hb hby at_72) rfl (l' := #[.val (.int p0), .val (.int p1), .val (.int p2), .val (.int v5), .val (.ref aM), .val (.double v59), .second, .val (.int (0 : Int32))]) rfl (XS.goto X24.here hx rfl (pc0 := 74) (pc' := 110) rfl (hb hby at_74) (by decide) (by decide) (XS.aload X24.here hx rfl (hb hby at_110) rfl rfl (XS.dload X24.here hx rfl (hb hby at_112) rfl  (kk))))))) ?_
          show Dn p e below s _ _ _ (T24.setTop (mkF m 114 #[.val (.int p0), .val (.int p1), .val (.int p2), .val (.int v5), .val (.ref aM), .val (.double v59), .second, .val (.int (0 : Int32))] [(.double v59), (.ref aM)]))
          obtain ⟨cq114, kq114, q114a, q114b, q114c⟩ := isOf hZ e24 E_MID
          obtain ⟨_, _, ⟨T114, L114, k114, n114⟩, -, X114, ⟨Lc114, hQ114, l114, y114, z114⟩, st114⟩ := X24.virtualBack hx (y := (⟨"org/rupturecast/renewal/Aperiodicity", "of", "(D)D"⟩ : MethodName)) (z := (⟨"org/rupturecast/renewal/Aperiodicity", "of", "(D)D"⟩ : MethodName)) hown (mvT hZ (hw _ (List.mem_of_getElem? (i := 6) rfl))) (mvT hZ (hw _ (List.mem_of_getElem? (i := 7) rfl))) (notFace_of_selects (args := #[]) (mvT hZ (hw _ (List.mem_of_getElem? (i := 9) rfl)))) (mvT hZ (hw _ (List.mem_of_getElem? (i := 9) rfl))) (mvT hZ (hw _ (List.mem_of_getElem? (i := 8) rfl))) (by decide) (backOf (W := 0) (rm1 l Z a0 hw [] aM v59 aB aMx kB kaM (4602678819172646912 : UInt64) (4600877379321698714 : UInt64) (4599075939470750515 : UInt64) (4596373779694328218 : UInt64) h0 n0 Z0 S_B V_B F_MID V_MID) hZ (hw _ (List.mem_of_getElem? (i := 10) rfl)) (hw _ (List.mem_of_getElem? (i := 2) rfl)) (by decide) (by decide)) q114a q114c (g := (mkF m 114 #[.val (.int p0), .val (.int p1), .val (.int p2), .val (.int v5), .val (.ref aM), .val (.double v59), .second, .val (.int (0 : Int32))] [(.double v59), (.ref aM)])) rfl (by rw [hml]; rfl) (Steps.refl _) (argsL := [(.double v59)]) (rest := []) (lenOf pd0 rfl) rfl (by show 2 * 0 + _ ≤ _; exact Nat.le_of_eq rfl) (hb hby at_114) (fun _ _ => ⟨rfl, e24, (by decide : 0 + 0 ≤ _), (by decide : 0 + 0 ≤ _)⟩)
          dsimp only [Pt.U, Pt.locs, Pt.cells, Pt.slots] at X114 l114 y114 z114 st114 hQ114
          subst l114 y114 z114
          obtain ⟨hv114, Nq114, hh114⟩ := hQ114
          rw [show own_bin v59 (4602678819172646912 : UInt64) (4600877379321698714 : UInt64) (4599075939470750515 : UInt64) (4596373779694328218 : UInt64) = (4602678819172646912 : UInt64) by unfold own_bin; rw [if_neg hc68]] at hv114
          subst hv114
          have N114 := Fr.app N0 Nq114
          refine Dn.tr st114 ?_
          show Dn p e below s _ _ _ (T114.setTop (mkF m 117 #[.val (.int p0), .val (.int p1), .val (.int p2), .val (.int v5), .val (.ref aM), .val (.double v59), .second, .val (.int (0 : Int32))] [(.double (4602678819172646912 : UInt64))]))
          refine Dn.st (fun _ kk => XS.iloadN X114.here hx rfl (hb hby at_117) rfl  (XS.iload X114.here hx rfl (hb hby at_118) rfl  (kk))) ?_
          show Dn p e below s _ _ _ (T114.setTop (mkF m 120 #[.val (.int p0), .val (.int p1), .val (.int p2), .val (.int v5), .val (.ref aM), .val (.double v59), .second, .val (.int (0 : Int32))] [(.int (0 : Int32)), (.int v5), (.double (4602678819172646912 : UInt64))]))
          obtain ⟨_, _, ⟨T120, L120, k120, n120⟩, -, X120, ⟨Lc120, hQ120, l120, y120, z120⟩, st120⟩ := Jvm.LawKit.callS X114 hx (y := (⟨"org/rupturecast/renewal/AperiodicityOfPinLaw", "expected", "(II)D"⟩ : MethodName)) hown (mvT hZ (hw _ (List.mem_of_getElem? (i := 15) rfl))) (mvT hZ (hw _ (List.mem_of_getElem? (i := 16) rfl))) (mvT hZ (hw _ (List.mem_of_getElem? (i := 17) rfl))) (mvT hZ (hw _ (List.mem_of_getElem? (i := 18) rfl))) (by decide) (backOf (W := 2) (rm2 l Z a0 hw [] v5 (0 : Int32)  h0 n0 Z0 ) hZ (hw _ (List.mem_of_getElem? (i := 18) rfl)) (hw _ (List.mem_of_getElem? (i := 17) rfl)) (by decide) (by decide)) (g := (mkF m 120 #[.val (.int p0), .val (.int p1), .val (.int p2), .val (.int v5), .val (.ref aM), .val (.double v59), .second, .val (.int (0 : Int32))] [(.int (0 : Int32)), (.int v5), (.double (4602678819172646912 : UInt64))])) rfl (by rw [hml]; rfl) (argsL := [(.int v5), (.int (0 : Int32))]) (rest := [(.double (4602678819172646912 : UInt64))]) (lenOf pd1 rfl) rfl (by show 2 * 0 + _ ≤ _; exact Nat.le_of_eq rfl) (hb hby at_120) (fun _ _ => ⟨rfl, hh114, (by decide : 0 + 0 ≤ _), (by decide : 0 + 0 ≤ _)⟩)
          dsimp only [Pt.U, Pt.locs, Pt.cells, Pt.slots] at X120 l120 y120 z120 st120 hQ120
          subst l120 y120 z120
          obtain ⟨hv120, Nq120, hh120⟩ := hQ120
          rw [show own_exp v5 (0 : Int32) = (4602678819172646912 : UInt64) by unfold own_exp; rw [if_neg hc8, if_pos hc21, if_pos (rfl : (0 : Int32) = 0)]] at hv120
          subst hv120
          have N120 := Fr.app N114 Nq120
          refine Dn.st st120 ?_
          show Dn p e below s _ _ _ (T120.setTop (mkF m 123 #[.val (.int p0), .val (.int p1), .val (.int p2), .val (.int v5), .val (.ref aM), .val (.double v59), .second, .val (.int (0 : Int32))] [(.double (4602678819172646912 : UInt64)), (.double (4602678819172646912 : UInt64))]))
          refine Dn.st (fun _ kk => XS.dcmpS X120.here hx rfl (hb hby at_123) rfl (show cmpValue (FP.dcmp (4602678819172646912 : UInt64) (4602678819172646912 : UInt64)) .l = (0 : Int32) from (by decide +kernel)) (kk)) ?_
          show Dn p e below s _ _ _ (T120.setTop (mkF m 124 #[.val (.int p0), .val (.int p1), .val (.int p2), .val (.int v5), .val (.ref aM), .val (.double v59), .second, .val (.int (0 : Int32))] [(.int (0 : Int32))]))
          have hc124 : (0 : Int32) = (0 : Int32) := by decide
          refine Dn.st (fun _ kk => XS.ifNo X120.here hx rfl (hb hby at_124) rfl ((if0 _ _).trans (teq hc124).2) (XS.iconst X120.here hx rfl (hb hby at_127) (XS.goto X120.here hx rfl (pc0 := 128) (pc' := 132) rfl (hb hby at_128) (by decide) (by decide) (kk)))) ?_
          show Dn p e below s _ _ _ (T120.setTop (mkF m 132 #[.val (.int p0), .val (.int p1), .val (.int p2), .val (.int v5), .val (.ref aM), .val (.double v59), .second, .val (.int (0 : Int32))] [(.int (1 : Int32))]))
          exact Dn.ret X120 hlk hx hret rfl (Or.inl ⟨rfl, Or.inr (Or.inl rfl), _, rfl⟩) (hb hby at_132) (by rw [hh120]; exact ⟨rfl, N120⟩) (by decide) (by decide)
    · refine Dn.st (fun _ kk => XS.icmpYes X0.here hx rfl (pc0 := 21) (pc' := 32) rfl (hb hby at_21) rfl (feq hc21).2 (by decide) (by decide) (kk)) ?_
      show Dn p e below s _ _ _ (s₁.setTop (mkF m 32 #[.val (.int p0), .val (.int p1), .val (.int p2), .val (.int v5), .unset, .unset, .unset, .unset] []))
      obtain ⟨T32, X32, e32, st32⟩ := getS2 X0 hx hZ hown (host := "") (Or.inl (hw _ (List.mem_of_getElem? (i := 25) rfl))) Via.refl e0 S_HIGH (g := (mkF m 32 #[.val (.int p0), .val (.int p1), .val (.int p2), .val (.int v5), .unset, .unset, .unset, .unset] [])) rfl (hb hby at_32)
      refine Dn.st st32 ?_
      show Dn p e below s _ _ _ (T32.setTop (mkF m 35 #[.val (.int p0), .val (.int p1), .val (.int p2), .val (.int v5), .unset, .unset, .unset, .unset] [(.ref aH)]))
      refine Dn.st (fun _ kk => XS.astore X32.here hx rfl (hb hby at_35) rfl rfl (l' := #[.val (.int p0), .val (.int p1), .val (.int p2), .val (.int v5), .val (.ref aH), .unset, .unset, .unset]) rfl (XS.iloadN X32.here hx rfl (hb hby at_37) rfl  (XS.iconst X32.here hx rfl (hb hby at_38) (XS.iand X32.here hx rfl (hb hby at_39) rfl (kk))))) ?_
      show Dn p e below s _ _ _ (T32.setTop (mkF m 40 #[.val (.int p0), .val (.int p1), .val (.int p2), .val (.int v5), .val (.ref aH), .unset, .unset, .unset] [(.int (p2 &&& (1 : Int32)))]))
      generalize hv39 : ((p2 &&& (1 : Int32)) : Int32) = v39
      show Dn p e below s _ _ _ (T32.setTop (mkF m 40 #[.val (.int p0), .val (.int p1), .val (.int p2), .val (.int v5), .val (.ref aH), .unset, .unset, .unset] [(.int v39)]))
      by_cases hc40 : v39 = (0 : Int32)
      · refine Dn.st (fun _ kk => XS.ifNo X32.here hx rfl (hb hby at_40) rfl ((if0 _ _).trans (teq hc40).2) (XS.iloadN X32.here hx rfl (hb hby at_43) rfl  (XS.sipush X32.here hx rfl (hb hby at_44) (iremM X32 hx rfl (hb hby at_47) rfl (by decide) (kk))))) ?_
        show Dn p e below s _ _ _ (T32.setTop (mkF m 48 #[.val (.int p0), .val (.int p1), .val (.int p2), .val (.int v5), .val (.ref aH), .unset, .unset, .unset] [(.int (p1 % (2000 : Int32)))]))
        generalize hv47 : ((p1 % (2000 : Int32)) : Int32) = v47
        show Dn p e below s _ _ _ (T32.setTop (mkF m 48 #[.val (.int p0), .val (.int p1), .val (.int p2), .val (.int v5), .val (.ref aH), .unset, .unset, .unset] [(.int v47)]))
        have d48 := DS.i2d v47
        refine Dn.st (fun _ kk => XS.i2dS X32.here hx rfl (hb hby at_48) rfl rfl (kk)) ?_
        show Dn p e below s _ _ _ (T32.setTop (mkF m 49 #[.val (.int p0), .val (.int p1), .val (.int p2), .val (.int v5), .val (.ref aH), .unset, .unset, .unset] [(.double (FP.i2d v47))]))
        generalize hv48 : ((FP.i2d v47) : UInt64) = v48 at d48 ⊢
        show Dn p e below s _ _ _ (T32.setTop (mkF m 49 #[.val (.int p0), .val (.int p1), .val (.int p2), .val (.int v5), .val (.ref aH), .unset, .unset, .unset] [(.double v48)]))
        refine Dn.st (fun _ kk => X32.ldc2DoubleC hx hown (mvT hZ (hw _ (List.mem_of_getElem? (i := 4) rfl))) (g := (mkF m 49 #[.val (.int p0), .val (.int p1), .val (.int p2), .val (.int v5), .val (.ref aH), .unset, .unset, .unset] [(.double v48)])) rfl (hb hby at_49) _ (kk)) ?_
        show Dn p e below s _ _ _ (T32.setTop (mkF m 52 #[.val (.int p0), .val (.int p1), .val (.int p2), .val (.int v5), .val (.ref aH), .unset, .unset, .unset] [(.double (4636737291354636288 : UInt64)), (.double v48)]))
        have nm := Jvm.Free.Fl.ddiv_out d48.nn own_f100 own_n100
        refine Dn.st (fun _ kk => XS.ddivS X32.here hx rfl (hb hby at_52) rfl nm rfl (kk)) ?_
        show Dn p e below s _ _ _ (T32.setTop (mkF m 53 #[.val (.int p0), .val (.int p1), .val (.int p2), .val (.int v5), .val (.ref aH), .unset, .unset, .unset] [(.double (FP.ddiv v48 (4636737291354636288 : UInt64)))]))
        generalize hv52 : ((FP.ddiv v48 (4636737291354636288 : UInt64)) : UInt64) = v52
        rw [hv52] at nm
        show Dn p e below s _ _ _ (T32.setTop (mkF m 53 #[.val (.int p0), .val (.int p1), .val (.int p2), .val (.int v5), .val (.ref aH), .unset, .unset, .unset] [(.double v52)]))
        refine Dn.st (fun _ kk => XS.dstore X32.here hx rfl (hb hby at_53) rfl (l' := #[.val (.int p0), .val (.int p1), .val (.int p2), .val (.int v5), .val (.ref aH), .val (.double v52), .second, .unset]) rfl (XS.goto X32.here hx rfl (pc0 := 55) (pc' := 62) rfl (hb hby at_55) (by decide) (by decide) (XS.dload X32.here hx rfl (hb hby at_62) rfl  (X32.ldc2DoubleC hx hown (mvT hZ (hw _ (List.mem_of_getElem? (i := 5) rfl))) (g := (mkF m 64 #[.val (.int p0), .val (.int p1), .val (.int p2), .val (.int v5), .val (.ref aH), .val (.double v52), .second, .unset] [(.double v52)])) rfl (hb hby at_64) _ (XS.dcmpS X32.here hx rfl (hb hby at_67) rfl (show cmpValue (FP.dcmp v52 (4619229547803233485 : UInt64)) .g = (own_o v52 (4619229547803233485 : UInt64)) from (own_og nm (DS.nn dc_4619229547803233485))) (kk)))))) ?_
        show Dn p e below s _ _ _ (T32.setTop (mkF m 68 #[.val (.int p0), .val (.int p1), .val (.int p2), .val (.int v5), .val (.ref aH), .val (.double v52), .second, .unset] [(.int (own_o v52 (4619229547803233485 : UInt64)))]))
        by_cases hc68 : (0 : Int32) < (own_o v52 (4619229547803233485 : UInt64))
        · refine Dn.st (fun _ kk => XS.ifYes X32.here hx rfl (pc0 := 68) (pc' := 77) rfl (hb hby at_68) rfl ((if0 _ _).trans (tlt hc68).2.2.1) (by decide) (by decide) (XS.dload X32.here hx rfl (hb hby at_77) rfl  (X32.ldc2DoubleC hx hown (mvT hZ (hw _ (List.mem_of_getElem? (i := 22) rfl))) (g := (mkF m 79 #[.val (.int p0), .val (.int p1), .val (.int p2), .val (.int v5), .val (.ref aH), .val (.double v52), .second, .unset] [(.double v52)])) rfl (hb hby at_79) _ (XS.dcmpS X32.here hx rfl (hb hby at_82) rfl (show cmpValue (FP.dcmp v52 (4619792497756654797 : UInt64)) .g = (own_o v52 (4619792497756654797 : UInt64)) from (own_og nm (DS.nn dc_4619792497756654797))) (kk))))) ?_
          show Dn p e below s _ _ _ (T32.setTop (mkF m 83 #[.val (.int p0), .val (.int p1), .val (.int p2), .val (.int v5), .val (.ref aH), .val (.double v52), .second, .unset] [(.int (own_o v52 (4619792497756654797 : UInt64)))]))
          by_cases hc83 : (0 : Int32) < (own_o v52 (4619792497756654797 : UInt64))
          · refine Dn.st (fun _ kk => XS.ifYes X32.here hx rfl (pc0 := 83) (pc' := 92) rfl (hb hby at_83) rfl ((if0 _ _).trans (tlt hc83).2.2.1) (by decide) (by decide) (XS.dload X32.here hx rfl (hb hby at_92) rfl  (X32.ldc2DoubleC hx hown (mvT hZ (hw _ (List.mem_of_getElem? (i := 23) rfl))) (g := (mkF m 94 #[.val (.int p0), .val (.int p1), .val (.int p2), .val (.int v5), .val (.ref aH), .val (.double v52), .second, .unset] [(.double v52)])) rfl (hb hby at_94) _ (XS.dcmpS X32.here hx rfl (hb hby at_97) rfl (show cmpValue (FP.dcmp v52 (4620355447710076109 : UInt64)) .g = (own_o v52 (4620355447710076109 : UInt64)) from (own_og nm (DS.nn dc_4620355447710076109))) (kk))))) ?_
            show Dn p e below s _ _ _ (T32.setTop (mkF m 98 #[.val (.int p0), .val (.int p1), .val (.int p2), .val (.int v5), .val (.ref aH), .val (.double v52), .second, .unset] [(.int (own_o v52 (4620355447710076109 : UInt64)))]))
            by_cases hc98 : (0 : Int32) < (own_o v52 (4620355447710076109 : UInt64))
            · refine Dn.st (fun _ kk => XS.ifYes X32.here hx rfl (pc0 := 98) (pc' := 107) rfl (hb hby at_98) rfl ((if0 _ _).trans (tlt hc98).2.2.1) (by decide) (by decide) (XS.iconst X32.here hx rfl (hb hby at_107) (XS.istore X32.here hx rfl (hb hby at_108) rfl (l' := #[.val (.int p0), .val (.int p1), .val (.int p2), .val (.int v5), .val (.ref aH), .val (.double v52), .second, .val (.int (3 : Int32))]) rfl (XS.aload X32.here hx rfl (hb hby at_110) rfl rfl (XS.dload X32.here hx rfl (hb hby at_112) rfl  (kk)))))) ?_
              show Dn p e below s _ _ _ (T32.setTop (mkF m 114 #[.val (.int p0), .val (.int p1), .val (.int p2), .val (.int v5), .val (.ref aH), .val (.double v52), .second, .val (.int (3 : Int32))] [(.double v52), (.ref aH)]))
              obtain ⟨cq114, kq114, q114a, q114b, q114c⟩ := isOf hZ e32 E_HIGH
              obtain ⟨_, _, ⟨T114, L114, k114, n114⟩, -, X114, ⟨Lc114, hQ114, l114, y114, z114⟩, st114⟩ := X32.virtualBack hx (y := (⟨"org/rupturecast/renewal/Aperiodicity", "of", "(D)D"⟩ : MethodName)) (z := (⟨"org/rupturecast/renewal/Aperiodicity", "of", "(D)D"⟩ : MethodName)) hown (mvT hZ (hw _ (List.mem_of_getElem? (i := 6) rfl))) (mvT hZ (hw _ (List.mem_of_getElem? (i := 7) rfl))) (notFace_of_selects (args := #[]) (mvT hZ (hw _ (List.mem_of_getElem? (i := 9) rfl)))) (mvT hZ (hw _ (List.mem_of_getElem? (i := 9) rfl))) (mvT hZ (hw _ (List.mem_of_getElem? (i := 8) rfl))) (by decide) (backOf (W := 0) (rm1 l Z a0 hw [] aH v52 aB aHx kB kaH (4603579539098121011 : UInt64) (4602678819172646912 : UInt64) (4600877379321698714 : UInt64) (4599075939470750515 : UInt64) h0 n0 Z0 S_B V_B F_HIGH V_HIGH) hZ (hw _ (List.mem_of_getElem? (i := 10) rfl)) (hw _ (List.mem_of_getElem? (i := 2) rfl)) (by decide) (by decide)) q114a q114c (g := (mkF m 114 #[.val (.int p0), .val (.int p1), .val (.int p2), .val (.int v5), .val (.ref aH), .val (.double v52), .second, .val (.int (3 : Int32))] [(.double v52), (.ref aH)])) rfl (by rw [hml]; rfl) (Steps.refl _) (argsL := [(.double v52)]) (rest := []) (lenOf pd0 rfl) rfl (by show 2 * 0 + _ ≤ _; exact Nat.le_of_eq rfl) (hb hby at_114) (fun _ _ => ⟨rfl, e32, (by decide : 0 + 0 ≤ _), (by decide : 0 + 0 ≤ _)⟩)
              dsimp only [Pt.U, Pt.locs, Pt.cells, Pt.slots] at X114 l114 y114 z114 st114 hQ114
              subst l114 y114 z114
              obtain ⟨hv114, Nq114, hh114⟩ := hQ114
              rw [show own_bin v52 (4603579539098121011 : UInt64) (4602678819172646912 : UInt64) (4600877379321698714 : UInt64) (4599075939470750515 : UInt64) = (4599075939470750515 : UInt64) by unfold own_bin; rw [if_pos hc68, if_pos hc83, if_pos hc98]] at hv114
              subst hv114
              have N114 := Fr.app N0 Nq114
              refine Dn.tr st114 ?_
              show Dn p e below s _ _ _ (T114.setTop (mkF m 117 #[.val (.int p0), .val (.int p1), .val (.int p2), .val (.int v5), .val (.ref aH), .val (.double v52), .second, .val (.int (3 : Int32))] [(.double (4599075939470750515 : UInt64))]))
              refine Dn.st (fun _ kk => XS.iloadN X114.here hx rfl (hb hby at_117) rfl  (XS.iload X114.here hx rfl (hb hby at_118) rfl  (kk))) ?_
              show Dn p e below s _ _ _ (T114.setTop (mkF m 120 #[.val (.int p0), .val (.int p1), .val (.int p2), .val (.int v5), .val (.ref aH), .val (.double v52), .second, .val (.int (3 : Int32))] [(.int (3 : Int32)), (.int v5), (.double (4599075939470750515 : UInt64))]))
              obtain ⟨_, _, ⟨T120, L120, k120, n120⟩, -, X120, ⟨Lc120, hQ120, l120, y120, z120⟩, st120⟩ := Jvm.LawKit.callS X114 hx (y := (⟨"org/rupturecast/renewal/AperiodicityOfPinLaw", "expected", "(II)D"⟩ : MethodName)) hown (mvT hZ (hw _ (List.mem_of_getElem? (i := 15) rfl))) (mvT hZ (hw _ (List.mem_of_getElem? (i := 16) rfl))) (mvT hZ (hw _ (List.mem_of_getElem? (i := 17) rfl))) (mvT hZ (hw _ (List.mem_of_getElem? (i := 18) rfl))) (by decide) (backOf (W := 2) (rm2 l Z a0 hw [] v5 (3 : Int32)  h0 n0 Z0 ) hZ (hw _ (List.mem_of_getElem? (i := 18) rfl)) (hw _ (List.mem_of_getElem? (i := 17) rfl)) (by decide) (by decide)) (g := (mkF m 120 #[.val (.int p0), .val (.int p1), .val (.int p2), .val (.int v5), .val (.ref aH), .val (.double v52), .second, .val (.int (3 : Int32))] [(.int (3 : Int32)), (.int v5), (.double (4599075939470750515 : UInt64))])) rfl (by rw [hml]; rfl) (argsL := [(.int v5), (.int (3 : Int32))]) (rest := [(.double (4599075939470750515 : UInt64))]) (lenOf pd1 rfl) rfl (by show 2 * 0 + _ ≤ _; exact Nat.le_of_eq rfl) (hb hby at_120) (fun _ _ => ⟨rfl, hh114, (by decide : 0 + 0 ≤ _), (by decide : 0 + 0 ≤ _)⟩)
              dsimp only [Pt.U, Pt.locs, Pt.cells, Pt.slots] at X120 l120 y120 z120 st120 hQ120
              subst l120 y120 z120
              obtain ⟨hv120, Nq120, hh120⟩ := hQ120
              rw [show own_exp v5 (3 : Int32) = (4599075939470750515 : UInt64) by unfold own_exp; rw [if_neg hc8, if_neg hc21, if_neg (by decide : ¬ ((3 : Int32) = 0)), if_neg (by decide : ¬ ((3 : Int32) = 1)), if_neg (by decide : ¬ ((3 : Int32) = 2))]] at hv120
              subst hv120
              have N120 := Fr.app N114 Nq120
              refine Dn.st st120 ?_
              show Dn p e below s _ _ _ (T120.setTop (mkF m 123 #[.val (.int p0), .val (.int p1), .val (.int p2), .val (.int v5), .val (.ref aH), .val (.double v52), .second, .val (.int (3 : Int32))] [(.double (4599075939470750515 : UInt64)), (.double (4599075939470750515 : UInt64))]))
              refine Dn.st (fun _ kk => XS.dcmpS X120.here hx rfl (hb hby at_123) rfl (show cmpValue (FP.dcmp (4599075939470750515 : UInt64) (4599075939470750515 : UInt64)) .l = (0 : Int32) from (by decide +kernel)) (kk)) ?_
              show Dn p e below s _ _ _ (T120.setTop (mkF m 124 #[.val (.int p0), .val (.int p1), .val (.int p2), .val (.int v5), .val (.ref aH), .val (.double v52), .second, .val (.int (3 : Int32))] [(.int (0 : Int32))]))
              have hc124 : (0 : Int32) = (0 : Int32) := by decide
              refine Dn.st (fun _ kk => XS.ifNo X120.here hx rfl (hb hby at_124) rfl ((if0 _ _).trans (teq hc124).2) (XS.iconst X120.here hx rfl (hb hby at_127) (XS.goto X120.here hx rfl (pc0 := 128) (pc' := 132) rfl (hb hby at_128) (by decide) (by decide) (kk)))) ?_
              show Dn p e below s _ _ _ (T120.setTop (mkF m 132 #[.val (.int p0), .val (.int p1), .val (.int p2), .val (.int v5), .val (.ref aH), .val (.double v52), .second, .val (.int (3 : Int32))] [(.int (1 : Int32))]))
              exact Dn.ret X120 hlk hx hret rfl (Or.inl ⟨rfl, Or.inr (Or.inl rfl), _, rfl⟩) (hb hby at_132) (by rw [hh120]; exact ⟨rfl, N120⟩) (by decide) (by decide)
            · refine Dn.st (fun _ kk => XS.ifNo X32.here hx rfl (hb hby at_98) rfl ((if0 _ _).trans (flt hc98).2.2.1) (XS.iconst X32.here hx rfl (hb hby at_101) (XS.istore X32.here hx rfl (hb hby at_102) rfl (l' := #[.val (.int p0), .val (.int p1), .val (.int p2), .val (.int v5), .val (.ref aH), .val (.double v52), .second, .val (.int (2 : Int32))]) rfl (XS.goto X32.here hx rfl (pc0 := 104) (pc' := 110) rfl (hb hby at_104) (by decide) (by decide) (XS.aload X32.here hx rfl (hb hby at_110) rfl rfl (XS.dload X32.here hx rfl (hb hby at_112) rfl  (kk))))))) ?_
              show Dn p e below s _ _ _ (T32.setTop (mkF m 114 #[.val (.int p0), .val (.int p1), .val (.int p2), .val (.int v5), .val (.ref aH), .val (.double v52), .second, .val (.int (2 : Int32))] [(.double v52), (.ref aH)]))
              obtain ⟨cq114, kq114, q114a, q114b, q114c⟩ := isOf hZ e32 E_HIGH
              obtain ⟨_, _, ⟨T114, L114, k114, n114⟩, -, X114, ⟨Lc114, hQ114, l114, y114, z114⟩, st114⟩ := X32.virtualBack hx (y := (⟨"org/rupturecast/renewal/Aperiodicity", "of", "(D)D"⟩ : MethodName)) (z := (⟨"org/rupturecast/renewal/Aperiodicity", "of", "(D)D"⟩ : MethodName)) hown (mvT hZ (hw _ (List.mem_of_getElem? (i := 6) rfl))) (mvT hZ (hw _ (List.mem_of_getElem? (i := 7) rfl))) (notFace_of_selects (args := #[]) (mvT hZ (hw _ (List.mem_of_getElem? (i := 9) rfl)))) (mvT hZ (hw _ (List.mem_of_getElem? (i := 9) rfl))) (mvT hZ (hw _ (List.mem_of_getElem? (i := 8) rfl))) (by decide) (backOf (W := 0) (rm1 l Z a0 hw [] aH v52 aB aHx kB kaH (4603579539098121011 : UInt64) (4602678819172646912 : UInt64) (4600877379321698714 : UInt64) (4599075939470750515 : UInt64) h0 n0 Z0 S_B V_B F_HIGH V_HIGH) hZ (hw _ (List.mem_of_getElem? (i := 10) rfl)) (hw _ (List.mem_of_getElem? (i := 2) rfl)) (by decide) (by decide)) q114a q114c (g := (mkF m 114 #[.val (.int p0), .val (.int p1), .val (.int p2), .val (.int v5), .val (.ref aH), .val (.double v52), .second, .val (.int (2 : Int32))] [(.double v52), (.ref aH)])) rfl (by rw [hml]; rfl) (Steps.refl _) (argsL := [(.double v52)]) (rest := []) (lenOf pd0 rfl) rfl (by show 2 * 0 + _ ≤ _; exact Nat.le_of_eq rfl) (hb hby at_114) (fun _ _ => ⟨rfl, e32, (by decide : 0 + 0 ≤ _), (by decide : 0 + 0 ≤ _)⟩)
              dsimp only [Pt.U, Pt.locs, Pt.cells, Pt.slots] at X114 l114 y114 z114 st114 hQ114
              subst l114 y114 z114
              obtain ⟨hv114, Nq114, hh114⟩ := hQ114
              rw [show own_bin v52 (4603579539098121011 : UInt64) (4602678819172646912 : UInt64) (4600877379321698714 : UInt64) (4599075939470750515 : UInt64) = (4600877379321698714 : UInt64) by unfold own_bin; rw [if_pos hc68, if_pos hc83, if_neg hc98]] at hv114
              subst hv114
              have N114 := Fr.app N0 Nq114
              refine Dn.tr st114 ?_
              show Dn p e below s _ _ _ (T114.setTop (mkF m 117 #[.val (.int p0), .val (.int p1), .val (.int p2), .val (.int v5), .val (.ref aH), .val (.double v52), .second, .val (.int (2 : Int32))] [(.double (4600877379321698714 : UInt64))]))
              refine Dn.st (fun _ kk => XS.iloadN X114.here hx rfl (hb hby at_117) rfl  (XS.iload X114.here hx rfl (hb hby at_118) rfl  (kk))) ?_
              show Dn p e below s _ _ _ (T114.setTop (mkF m 120 #[.val (.int p0), .val (.int p1), .val (.int p2), .val (.int v5), .val (.ref aH), .val (.double v52), .second, .val (.int (2 : Int32))] [(.int (2 : Int32)), (.int v5), (.double (4600877379321698714 : UInt64))]))
              obtain ⟨_, _, ⟨T120, L120, k120, n120⟩, -, X120, ⟨Lc120, hQ120, l120, y120, z120⟩, st120⟩ := Jvm.LawKit.callS X114 hx (y := (⟨"org/rupturecast/renewal/AperiodicityOfPinLaw", "expected", "(II)D"⟩ : MethodName)) hown (mvT hZ (hw _ (List.mem_of_getElem? (i := 15) rfl))) (mvT hZ (hw _ (List.mem_of_getElem? (i := 16) rfl))) (mvT hZ (hw _ (List.mem_of_getElem? (i := 17) rfl))) (mvT hZ (hw _ (List.mem_of_getElem? (i := 18) rfl))) (by decide) (backOf (W := 2) (rm2 l Z a0 hw [] v5 (2 : Int32)  h0 n0 Z0 ) hZ (hw _ (List.mem_of_getElem? (i := 18) rfl)) (hw _ (List.mem_of_getElem? (i := 17) rfl)) (by decide) (by decide)) (g := (mkF m 120 #[.val (.int p0), .val (.int p1), .val (.int p2), .val (.int v5), .val (.ref aH), .val (.double v52), .second, .val (.int (2 : Int32))] [(.int (2 : Int32)), (.int v5), (.double (4600877379321698714 : UInt64))])) rfl (by rw [hml]; rfl) (argsL := [(.int v5), (.int (2 : Int32))]) (rest := [(.double (4600877379321698714 : UInt64))]) (lenOf pd1 rfl) rfl (by show 2 * 0 + _ ≤ _; exact Nat.le_of_eq rfl) (hb hby at_120) (fun _ _ => ⟨rfl, hh114, (by decide : 0 + 0 ≤ _), (by decide : 0 + 0 ≤ _)⟩)
              dsimp only [Pt.U, Pt.locs, Pt.cells, Pt.slots] at X120 l120 y120 z120 st120 hQ120
              subst l120 y120 z120
              obtain ⟨hv120, Nq120, hh120⟩ := hQ120
              rw [show own_exp v5 (2 : Int32) = (4600877379321698714 : UInt64) by unfold own_exp; rw [if_neg hc8, if_neg hc21, if_neg (by decide : ¬ ((2 : Int32) = 0)), if_neg (by decide : ¬ ((2 : Int32) = 1)), if_pos (rfl : (2 : Int32) = 2)]] at hv120
              subst hv120
              have N120 := Fr.app N114 Nq120
              refine Dn.st st120 ?_
              show Dn p e below s _ _ _ (T120.setTop (mkF m 123 #[.val (.int p0), .val (.int p1), .val (.int p2), .val (.int v5), .val (.ref aH), .val (.double v52), .second, .val (.int (2 : Int32))] [(.double (4600877379321698714 : UInt64)), (.double (4600877379321698714 : UInt64))]))
              refine Dn.st (fun _ kk => XS.dcmpS X120.here hx rfl (hb hby at_123) rfl (show cmpValue (FP.dcmp (4600877379321698714 : UInt64) (4600877379321698714 : UInt64)) .l = (0 : Int32) from (by decide +kernel)) (kk)) ?_
              show Dn p e below s _ _ _ (T120.setTop (mkF m 124 #[.val (.int p0), .val (.int p1), .val (.int p2), .val (.int v5), .val (.ref aH), .val (.double v52), .second, .val (.int (2 : Int32))] [(.int (0 : Int32))]))
              have hc124 : (0 : Int32) = (0 : Int32) := by decide
              refine Dn.st (fun _ kk => XS.ifNo X120.here hx rfl (hb hby at_124) rfl ((if0 _ _).trans (teq hc124).2) (XS.iconst X120.here hx rfl (hb hby at_127) (XS.goto X120.here hx rfl (pc0 := 128) (pc' := 132) rfl (hb hby at_128) (by decide) (by decide) (kk)))) ?_
              show Dn p e below s _ _ _ (T120.setTop (mkF m 132 #[.val (.int p0), .val (.int p1), .val (.int p2), .val (.int v5), .val (.ref aH), .val (.double v52), .second, .val (.int (2 : Int32))] [(.int (1 : Int32))]))
              exact Dn.ret X120 hlk hx hret rfl (Or.inl ⟨rfl, Or.inr (Or.inl rfl), _, rfl⟩) (hb hby at_132) (by rw [hh120]; exact ⟨rfl, N120⟩) (by decide) (by decide)
          · refine Dn.st (fun _ kk => XS.ifNo X32.here hx rfl (hb hby at_83) rfl ((if0 _ _).trans (flt hc83).2.2.1) (XS.iconst X32.here hx rfl (hb hby at_86) (XS.istore X32.here hx rfl (hb hby at_87) rfl (l' := #[.val (.int p0), .val (.int p1), .val (.int p2), .val (.int v5), .val (.ref aH), .val (.double v52), .second, .val (.int (1 : Int32))]) rfl (XS.goto X32.here hx rfl (pc0 := 89) (pc' := 110) rfl (hb hby at_89) (by decide) (by decide) (XS.aload X32.here hx rfl (hb hby at_110) rfl rfl (XS.dload X32.here hx rfl (hb hby at_112) rfl  (kk))))))) ?_
            show Dn p e below s _ _ _ (T32.setTop (mkF m 114 #[.val (.int p0), .val (.int p1), .val (.int p2), .val (.int v5), .val (.ref aH), .val (.double v52), .second, .val (.int (1 : Int32))] [(.double v52), (.ref aH)]))
            obtain ⟨cq114, kq114, q114a, q114b, q114c⟩ := isOf hZ e32 E_HIGH
            obtain ⟨_, _, ⟨T114, L114, k114, n114⟩, -, X114, ⟨Lc114, hQ114, l114, y114, z114⟩, st114⟩ := X32.virtualBack hx (y := (⟨"org/rupturecast/renewal/Aperiodicity", "of", "(D)D"⟩ : MethodName)) (z := (⟨"org/rupturecast/renewal/Aperiodicity", "of", "(D)D"⟩ : MethodName)) hown (mvT hZ (hw _ (List.mem_of_getElem? (i := 6) rfl))) (mvT hZ (hw _ (List.mem_of_getElem? (i := 7) rfl))) (notFace_of_selects (args := #[]) (mvT hZ (hw _ (List.mem_of_getElem? (i := 9) rfl)))) (mvT hZ (hw _ (List.mem_of_getElem? (i := 9) rfl))) (mvT hZ (hw _ (List.mem_of_getElem? (i := 8) rfl))) (by decide) (backOf (W := 0) (rm1 l Z a0 hw [] aH v52 aB aHx kB kaH (4603579539098121011 : UInt64) (4602678819172646912 : UInt64) (4600877379321698714 : UInt64) (4599075939470750515 : UInt64) h0 n0 Z0 S_B V_B F_HIGH V_HIGH) hZ (hw _ (List.mem_of_getElem? (i := 10) rfl)) (hw _ (List.mem_of_getElem? (i := 2) rfl)) (by decide) (by decide)) q114a q114c (g := (mkF m 114 #[.val (.int p0), .val (.int p1), .val (.int p2), .val (.int v5), .val (.ref aH), .val (.double v52), .second, .val (.int (1 : Int32))] [(.double v52), (.ref aH)])) rfl (by rw [hml]; rfl) (Steps.refl _) (argsL := [(.double v52)]) (rest := []) (lenOf pd0 rfl) rfl (by show 2 * 0 + _ ≤ _; exact Nat.le_of_eq rfl) (hb hby at_114) (fun _ _ => ⟨rfl, e32, (by decide : 0 + 0 ≤ _), (by decide : 0 + 0 ≤ _)⟩)
            dsimp only [Pt.U, Pt.locs, Pt.cells, Pt.slots] at X114 l114 y114 z114 st114 hQ114
            subst l114 y114 z114
            obtain ⟨hv114, Nq114, hh114⟩ := hQ114
            rw [show own_bin v52 (4603579539098121011 : UInt64) (4602678819172646912 : UInt64) (4600877379321698714 : UInt64) (4599075939470750515 : UInt64) = (4602678819172646912 : UInt64) by unfold own_bin; rw [if_pos hc68, if_neg hc83]] at hv114
            subst hv114
            have N114 := Fr.app N0 Nq114
            refine Dn.tr st114 ?_
            show Dn p e below s _ _ _ (T114.setTop (mkF m 117 #[.val (.int p0), .val (.int p1), .val (.int p2), .val (.int v5), .val (.ref aH), .val (.double v52), .second, .val (.int (1 : Int32))] [(.double (4602678819172646912 : UInt64))]))
            refine Dn.st (fun _ kk => XS.iloadN X114.here hx rfl (hb hby at_117) rfl  (XS.iload X114.here hx rfl (hb hby at_118) rfl  (kk))) ?_
            show Dn p e below s _ _ _ (T114.setTop (mkF m 120 #[.val (.int p0), .val (.int p1), .val (.int p2), .val (.int v5), .val (.ref aH), .val (.double v52), .second, .val (.int (1 : Int32))] [(.int (1 : Int32)), (.int v5), (.double (4602678819172646912 : UInt64))]))
            obtain ⟨_, _, ⟨T120, L120, k120, n120⟩, -, X120, ⟨Lc120, hQ120, l120, y120, z120⟩, st120⟩ := Jvm.LawKit.callS X114 hx (y := (⟨"org/rupturecast/renewal/AperiodicityOfPinLaw", "expected", "(II)D"⟩ : MethodName)) hown (mvT hZ (hw _ (List.mem_of_getElem? (i := 15) rfl))) (mvT hZ (hw _ (List.mem_of_getElem? (i := 16) rfl))) (mvT hZ (hw _ (List.mem_of_getElem? (i := 17) rfl))) (mvT hZ (hw _ (List.mem_of_getElem? (i := 18) rfl))) (by decide) (backOf (W := 2) (rm2 l Z a0 hw [] v5 (1 : Int32)  h0 n0 Z0 ) hZ (hw _ (List.mem_of_getElem? (i := 18) rfl)) (hw _ (List.mem_of_getElem? (i := 17) rfl)) (by decide) (by decide)) (g := (mkF m 120 #[.val (.int p0), .val (.int p1), .val (.int p2), .val (.int v5), .val (.ref aH), .val (.double v52), .second, .val (.int (1 : Int32))] [(.int (1 : Int32)), (.int v5), (.double (4602678819172646912 : UInt64))])) rfl (by rw [hml]; rfl) (argsL := [(.int v5), (.int (1 : Int32))]) (rest := [(.double (4602678819172646912 : UInt64))]) (lenOf pd1 rfl) rfl (by show 2 * 0 + _ ≤ _; exact Nat.le_of_eq rfl) (hb hby at_120) (fun _ _ => ⟨rfl, hh114, (by decide : 0 + 0 ≤ _), (by decide : 0 + 0 ≤ _)⟩)
            dsimp only [Pt.U, Pt.locs, Pt.cells, Pt.slots] at X120 l120 y120 z120 st120 hQ120
            subst l120 y120 z120
            obtain ⟨hv120, Nq120, hh120⟩ := hQ120
            rw [show own_exp v5 (1 : Int32) = (4602678819172646912 : UInt64) by unfold own_exp; rw [if_neg hc8, if_neg hc21, if_neg (by decide : ¬ ((1 : Int32) = 0)), if_pos (rfl : (1 : Int32) = 1)]] at hv120
            subst hv120
            have N120 := Fr.app N114 Nq120
            refine Dn.st st120 ?_
            show Dn p e below s _ _ _ (T120.setTop (mkF m 123 #[.val (.int p0), .val (.int p1), .val (.int p2), .val (.int v5), .val (.ref aH), .val (.double v52), .second, .val (.int (1 : Int32))] [(.double (4602678819172646912 : UInt64)), (.double (4602678819172646912 : UInt64))]))
            refine Dn.st (fun _ kk => XS.dcmpS X120.here hx rfl (hb hby at_123) rfl (show cmpValue (FP.dcmp (4602678819172646912 : UInt64) (4602678819172646912 : UInt64)) .l = (0 : Int32) from (by decide +kernel)) (kk)) ?_
            show Dn p e below s _ _ _ (T120.setTop (mkF m 124 #[.val (.int p0), .val (.int p1), .val (.int p2), .val (.int v5), .val (.ref aH), .val (.double v52), .second, .val (.int (1 : Int32))] [(.int (0 : Int32))]))
            have hc124 : (0 : Int32) = (0 : Int32) := by decide
            refine Dn.st (fun _ kk => XS.ifNo X120.here hx rfl (hb hby at_124) rfl ((if0 _ _).trans (teq hc124).2) (XS.iconst X120.here hx rfl (hb hby at_127) (XS.goto X120.here hx rfl (pc0 := 128) (pc' := 132) rfl (hb hby at_128) (by decide) (by decide) (kk)))) ?_
            show Dn p e below s _ _ _ (T120.setTop (mkF m 132 #[.val (.int p0), .val (.int p1), .val (.int p2), .val (.int v5), .val (.ref aH), .val (.double v52), .second, .val (.int (1 : Int32))] [(.int (1 : Int32))]))
            exact Dn.ret X120 hlk hx hret rfl (Or.inl ⟨rfl, Or.inr (Or.inl rfl), _, rfl⟩) (hb hby at_132) (by rw [hh120]; exact ⟨rfl, N120⟩) (by decide) (by decide)
        · refine Dn.st (fun _ kk => XS.ifNo X32.here hx rfl (hb hby at_68) rfl ((if0 _ _).trans (flt hc68).2.2.1) (XS.iconst X32.here hx rfl (hb hby at_71) (XS.istore X32.here hx rfl (hb hby at_72) rfl (l' := #[.val (.int p0), .val (.int p1), .val (.int p2), .val (.int v5), .val (.ref aH), .val (.double v52), .second, .val (.int (0 : Int32))]) rfl (XS.goto X32.here hx rfl (pc0 := 74) (pc' := 110) rfl (hb hby at_74) (by decide) (by decide) (XS.aload X32.here hx rfl (hb hby at_110) rfl rfl (XS.dload X32.here hx rfl (hb hby at_112) rfl  (kk))))))) ?_
          show Dn p e below s _ _ _ (T32.setTop (mkF m 114 #[.val (.int p0), .val (.int p1), .val (.int p2), .val (.int v5), .val (.ref aH), .val (.double v52), .second, .val (.int (0 : Int32))] [(.double v52), (.ref aH)]))
          obtain ⟨cq114, kq114, q114a, q114b, q114c⟩ := isOf hZ e32 E_HIGH
          obtain ⟨_, _, ⟨T114, L114, k114, n114⟩, -, X114, ⟨Lc114, hQ114, l114, y114, z114⟩, st114⟩ := X32.virtualBack hx (y := (⟨"org/rupturecast/renewal/Aperiodicity", "of", "(D)D"⟩ : MethodName)) (z := (⟨"org/rupturecast/renewal/Aperiodicity", "of", "(D)D"⟩ : MethodName)) hown (mvT hZ (hw _ (List.mem_of_getElem? (i := 6) rfl))) (mvT hZ (hw _ (List.mem_of_getElem? (i := 7) rfl))) (notFace_of_selects (args := #[]) (mvT hZ (hw _ (List.mem_of_getElem? (i := 9) rfl)))) (mvT hZ (hw _ (List.mem_of_getElem? (i := 9) rfl))) (mvT hZ (hw _ (List.mem_of_getElem? (i := 8) rfl))) (by decide) (backOf (W := 0) (rm1 l Z a0 hw [] aH v52 aB aHx kB kaH (4603579539098121011 : UInt64) (4602678819172646912 : UInt64) (4600877379321698714 : UInt64) (4599075939470750515 : UInt64) h0 n0 Z0 S_B V_B F_HIGH V_HIGH) hZ (hw _ (List.mem_of_getElem? (i := 10) rfl)) (hw _ (List.mem_of_getElem? (i := 2) rfl)) (by decide) (by decide)) q114a q114c (g := (mkF m 114 #[.val (.int p0), .val (.int p1), .val (.int p2), .val (.int v5), .val (.ref aH), .val (.double v52), .second, .val (.int (0 : Int32))] [(.double v52), (.ref aH)])) rfl (by rw [hml]; rfl) (Steps.refl _) (argsL := [(.double v52)]) (rest := []) (lenOf pd0 rfl) rfl (by show 2 * 0 + _ ≤ _; exact Nat.le_of_eq rfl) (hb hby at_114) (fun _ _ => ⟨rfl, e32, (by decide : 0 + 0 ≤ _), (by decide : 0 + 0 ≤ _)⟩)
          dsimp only [Pt.U, Pt.locs, Pt.cells, Pt.slots] at X114 l114 y114 z114 st114 hQ114
          subst l114 y114 z114
          obtain ⟨hv114, Nq114, hh114⟩ := hQ114
          rw [show own_bin v52 (4603579539098121011 : UInt64) (4602678819172646912 : UInt64) (4600877379321698714 : UInt64) (4599075939470750515 : UInt64) = (4603579539098121011 : UInt64) by unfold own_bin; rw [if_neg hc68]] at hv114
          subst hv114
          have N114 := Fr.app N0 Nq114
          refine Dn.tr st114 ?_
          show Dn p e below s _ _ _ (T114.setTop (mkF m 117 #[.val (.int p0), .val (.int p1), .val (.int p2), .val (.int v5), .val (.ref aH), .val (.double v52), .second, .val (.int (0 : Int32))] [(.double (4603579539098121011 : UInt64))]))
          refine Dn.st (fun _ kk => XS.iloadN X114.here hx rfl (hb hby at_117) rfl  (XS.iload X114.here hx rfl (hb hby at_118) rfl  (kk))) ?_
          show Dn p e below s _ _ _ (T114.setTop (mkF m 120 #[.val (.int p0), .val (.int p1), .val (.int p2), .val (.int v5), .val (.ref aH), .val (.double v52), .second, .val (.int (0 : Int32))] [(.int (0 : Int32)), (.int v5), (.double (4603579539098121011 : UInt64))]))
          obtain ⟨_, _, ⟨T120, L120, k120, n120⟩, -, X120, ⟨Lc120, hQ120, l120, y120, z120⟩, st120⟩ := Jvm.LawKit.callS X114 hx (y := (⟨"org/rupturecast/renewal/AperiodicityOfPinLaw", "expected", "(II)D"⟩ : MethodName)) hown (mvT hZ (hw _ (List.mem_of_getElem? (i := 15) rfl))) (mvT hZ (hw _ (List.mem_of_getElem? (i := 16) rfl))) (mvT hZ (hw _ (List.mem_of_getElem? (i := 17) rfl))) (mvT hZ (hw _ (List.mem_of_getElem? (i := 18) rfl))) (by decide) (backOf (W := 2) (rm2 l Z a0 hw [] v5 (0 : Int32)  h0 n0 Z0 ) hZ (hw _ (List.mem_of_getElem? (i := 18) rfl)) (hw _ (List.mem_of_getElem? (i := 17) rfl)) (by decide) (by decide)) (g := (mkF m 120 #[.val (.int p0), .val (.int p1), .val (.int p2), .val (.int v5), .val (.ref aH), .val (.double v52), .second, .val (.int (0 : Int32))] [(.int (0 : Int32)), (.int v5), (.double (4603579539098121011 : UInt64))])) rfl (by rw [hml]; rfl) (argsL := [(.int v5), (.int (0 : Int32))]) (rest := [(.double (4603579539098121011 : UInt64))]) (lenOf pd1 rfl) rfl (by show 2 * 0 + _ ≤ _; exact Nat.le_of_eq rfl) (hb hby at_120) (fun _ _ => ⟨rfl, hh114, (by decide : 0 + 0 ≤ _), (by decide : 0 + 0 ≤ _)⟩)
          dsimp only [Pt.U, Pt.locs, Pt.cells, Pt.slots] at X120 l120 y120 z120 st120 hQ120
          subst l120 y120 z120
          obtain ⟨hv120, Nq120, hh120⟩ := hQ120
          rw [show own_exp v5 (0 : Int32) = (4603579539098121011 : UInt64) by unfold own_exp; rw [if_neg hc8, if_neg hc21, if_pos (rfl : (0 : Int32) = 0)]] at hv120
          subst hv120
          have N120 := Fr.app N114 Nq120
          refine Dn.st st120 ?_
          show Dn p e below s _ _ _ (T120.setTop (mkF m 123 #[.val (.int p0), .val (.int p1), .val (.int p2), .val (.int v5), .val (.ref aH), .val (.double v52), .second, .val (.int (0 : Int32))] [(.double (4603579539098121011 : UInt64)), (.double (4603579539098121011 : UInt64))]))
          refine Dn.st (fun _ kk => XS.dcmpS X120.here hx rfl (hb hby at_123) rfl (show cmpValue (FP.dcmp (4603579539098121011 : UInt64) (4603579539098121011 : UInt64)) .l = (0 : Int32) from (by decide +kernel)) (kk)) ?_
          show Dn p e below s _ _ _ (T120.setTop (mkF m 124 #[.val (.int p0), .val (.int p1), .val (.int p2), .val (.int v5), .val (.ref aH), .val (.double v52), .second, .val (.int (0 : Int32))] [(.int (0 : Int32))]))
          have hc124 : (0 : Int32) = (0 : Int32) := by decide
          refine Dn.st (fun _ kk => XS.ifNo X120.here hx rfl (hb hby at_124) rfl ((if0 _ _).trans (teq hc124).2) (XS.iconst X120.here hx rfl (hb hby at_127) (XS.goto X120.here hx rfl (pc0 := 128) (pc' := 132) rfl (hb hby at_128) (by decide) (by decide) (kk)))) ?_
          show Dn p e below s _ _ _ (T120.setTop (mkF m 132 #[.val (.int p0), .val (.int p1), .val (.int p2), .val (.int v5), .val (.ref aH), .val (.double v52), .second, .val (.int (0 : Int32))] [(.int (1 : Int32))]))
          exact Dn.ret X120 hlk hx hret rfl (Or.inl ⟨rfl, Or.inr (Or.inl rfl), _, rfl⟩) (hb hby at_132) (by rw [hh120]; exact ⟨rfl, N120⟩) (by decide) (by decide)
      · refine Dn.st (fun _ kk => XS.ifYes X32.here hx rfl (pc0 := 40) (pc' := 58) rfl (hb hby at_40) rfl ((if0 _ _).trans (feq hc40).2) (by decide) (by decide) (XS.iloadN X32.here hx rfl (hb hby at_58) rfl  (kk))) ?_
        show Dn p e below s _ _ _ (T32.setTop (mkF m 59 #[.val (.int p0), .val (.int p1), .val (.int p2), .val (.int v5), .val (.ref aH), .unset, .unset, .unset] [(.int p1)]))
        have d59 := DS.i2d p1
        refine Dn.st (fun _ kk => XS.i2dS X32.here hx rfl (hb hby at_59) rfl rfl (kk)) ?_
        show Dn p e below s _ _ _ (T32.setTop (mkF m 60 #[.val (.int p0), .val (.int p1), .val (.int p2), .val (.int v5), .val (.ref aH), .unset, .unset, .unset] [(.double (FP.i2d p1))]))
        generalize hv59 : ((FP.i2d p1) : UInt64) = v59 at d59 ⊢
        have nm := d59.nn
        show Dn p e below s _ _ _ (T32.setTop (mkF m 60 #[.val (.int p0), .val (.int p1), .val (.int p2), .val (.int v5), .val (.ref aH), .unset, .unset, .unset] [(.double v59)]))
        refine Dn.st (fun _ kk => XS.dstore X32.here hx rfl (hb hby at_60) rfl (l' := #[.val (.int p0), .val (.int p1), .val (.int p2), .val (.int v5), .val (.ref aH), .val (.double v59), .second, .unset]) rfl (XS.dload X32.here hx rfl (hb hby at_62) rfl  (X32.ldc2DoubleC hx hown (mvT hZ (hw _ (List.mem_of_getElem? (i := 5) rfl))) (g := (mkF m 64 #[.val (.int p0), .val (.int p1), .val (.int p2), .val (.int v5), .val (.ref aH), .val (.double v59), .second, .unset] [(.double v59)])) rfl (hb hby at_64) _ (XS.dcmpS X32.here hx rfl (hb hby at_67) rfl (show cmpValue (FP.dcmp v59 (4619229547803233485 : UInt64)) .g = (own_o v59 (4619229547803233485 : UInt64)) from (own_og nm (DS.nn dc_4619229547803233485))) (kk))))) ?_
        show Dn p e below s _ _ _ (T32.setTop (mkF m 68 #[.val (.int p0), .val (.int p1), .val (.int p2), .val (.int v5), .val (.ref aH), .val (.double v59), .second, .unset] [(.int (own_o v59 (4619229547803233485 : UInt64)))]))
        by_cases hc68 : (0 : Int32) < (own_o v59 (4619229547803233485 : UInt64))
        · refine Dn.st (fun _ kk => XS.ifYes X32.here hx rfl (pc0 := 68) (pc' := 77) rfl (hb hby at_68) rfl ((if0 _ _).trans (tlt hc68).2.2.1) (by decide) (by decide) (XS.dload X32.here hx rfl (hb hby at_77) rfl  (X32.ldc2DoubleC hx hown (mvT hZ (hw _ (List.mem_of_getElem? (i := 22) rfl))) (g := (mkF m 79 #[.val (.int p0), .val (.int p1), .val (.int p2), .val (.int v5), .val (.ref aH), .val (.double v59), .second, .unset] [(.double v59)])) rfl (hb hby at_79) _ (XS.dcmpS X32.here hx rfl (hb hby at_82) rfl (show cmpValue (FP.dcmp v59 (4619792497756654797 : UInt64)) .g = (own_o v59 (4619792497756654797 : UInt64)) from (own_og nm (DS.nn dc_4619792497756654797))) (kk))))) ?_
          show Dn p e below s _ _ _ (T32.setTop (mkF m 83 #[.val (.int p0), .val (.int p1), .val (.int p2), .val (.int v5), .val (.ref aH), .val (.double v59), .second, .unset] [(.int (own_o v59 (4619792497756654797 : UInt64)))]))
          by_cases hc83 : (0 : Int32) < (own_o v59 (4619792497756654797 : UInt64))
          · refine Dn.st (fun _ kk => XS.ifYes X32.here hx rfl (pc0 := 83) (pc' := 92) rfl (hb hby at_83) rfl ((if0 _ _).trans (tlt hc83).2.2.1) (by decide) (by decide) (XS.dload X32.here hx rfl (hb hby at_92) rfl  (X32.ldc2DoubleC hx hown (mvT hZ (hw _ (List.mem_of_getElem? (i := 23) rfl))) (g := (mkF m 94 #[.val (.int p0), .val (.int p1), .val (.int p2), .val (.int v5), .val (.ref aH), .val (.double v59), .second, .unset] [(.double v59)])) rfl (hb hby at_94) _ (XS.dcmpS X32.here hx rfl (hb hby at_97) rfl (show cmpValue (FP.dcmp v59 (4620355447710076109 : UInt64)) .g = (own_o v59 (4620355447710076109 : UInt64)) from (own_og nm (DS.nn dc_4620355447710076109))) (kk))))) ?_
            show Dn p e below s _ _ _ (T32.setTop (mkF m 98 #[.val (.int p0), .val (.int p1), .val (.int p2), .val (.int v5), .val (.ref aH), .val (.double v59), .second, .unset] [(.int (own_o v59 (4620355447710076109 : UInt64)))]))
            by_cases hc98 : (0 : Int32) < (own_o v59 (4620355447710076109 : UInt64))
            · refine Dn.st (fun _ kk => XS.ifYes X32.here hx rfl (pc0 := 98) (pc' := 107) rfl (hb hby at_98) rfl ((if0 _ _).trans (tlt hc98).2.2.1) (by decide) (by decide) (XS.iconst X32.here hx rfl (hb hby at_107) (XS.istore X32.here hx rfl (hb hby at_108) rfl (l' := #[.val (.int p0), .val (.int p1), .val (.int p2), .val (.int v5), .val (.ref aH), .val (.double v59), .second, .val (.int (3 : Int32))]) rfl (XS.aload X32.here hx rfl (hb hby at_110) rfl rfl (XS.dload X32.here hx rfl (hb hby at_112) rfl  (kk)))))) ?_
              show Dn p e below s _ _ _ (T32.setTop (mkF m 114 #[.val (.int p0), .val (.int p1), .val (.int p2), .val (.int v5), .val (.ref aH), .val (.double v59), .second, .val (.int (3 : Int32))] [(.double v59), (.ref aH)]))
              obtain ⟨cq114, kq114, q114a, q114b, q114c⟩ := isOf hZ e32 E_HIGH
              obtain ⟨_, _, ⟨T114, L114, k114, n114⟩, -, X114, ⟨Lc114, hQ114, l114, y114, z114⟩, st114⟩ := X32.virtualBack hx (y := (⟨"org/rupturecast/renewal/Aperiodicity", "of", "(D)D"⟩ : MethodName)) (z := (⟨"org/rupturecast/renewal/Aperiodicity", "of", "(D)D"⟩ : MethodName)) hown (mvT hZ (hw _ (List.mem_of_getElem? (i := 6) rfl))) (mvT hZ (hw _ (List.mem_of_getElem? (i := 7) rfl))) (notFace_of_selects (args := #[]) (mvT hZ (hw _ (List.mem_of_getElem? (i := 9) rfl)))) (mvT hZ (hw _ (List.mem_of_getElem? (i := 9) rfl))) (mvT hZ (hw _ (List.mem_of_getElem? (i := 8) rfl))) (by decide) (backOf (W := 0) (rm1 l Z a0 hw [] aH v59 aB aHx kB kaH (4603579539098121011 : UInt64) (4602678819172646912 : UInt64) (4600877379321698714 : UInt64) (4599075939470750515 : UInt64) h0 n0 Z0 S_B V_B F_HIGH V_HIGH) hZ (hw _ (List.mem_of_getElem? (i := 10) rfl)) (hw _ (List.mem_of_getElem? (i := 2) rfl)) (by decide) (by decide)) q114a q114c (g := (mkF m 114 #[.val (.int p0), .val (.int p1), .val (.int p2), .val (.int v5), .val (.ref aH), .val (.double v59), .second, .val (.int (3 : Int32))] [(.double v59), (.ref aH)])) rfl (by rw [hml]; rfl) (Steps.refl _) (argsL := [(.double v59)]) (rest := []) (lenOf pd0 rfl) rfl (by show 2 * 0 + _ ≤ _; exact Nat.le_of_eq rfl) (hb hby at_114) (fun _ _ => ⟨rfl, e32, (by decide : 0 + 0 ≤ _), (by decide : 0 + 0 ≤ _)⟩)
              dsimp only [Pt.U, Pt.locs, Pt.cells, Pt.slots] at X114 l114 y114 z114 st114 hQ114
              subst l114 y114 z114
              obtain ⟨hv114, Nq114, hh114⟩ := hQ114
              rw [show own_bin v59 (4603579539098121011 : UInt64) (4602678819172646912 : UInt64) (4600877379321698714 : UInt64) (4599075939470750515 : UInt64) = (4599075939470750515 : UInt64) by unfold own_bin; rw [if_pos hc68, if_pos hc83, if_pos hc98]] at hv114
              subst hv114
              have N114 := Fr.app N0 Nq114
              refine Dn.tr st114 ?_
              show Dn p e below s _ _ _ (T114.setTop (mkF m 117 #[.val (.int p0), .val (.int p1), .val (.int p2), .val (.int v5), .val (.ref aH), .val (.double v59), .second, .val (.int (3 : Int32))] [(.double (4599075939470750515 : UInt64))]))
              refine Dn.st (fun _ kk => XS.iloadN X114.here hx rfl (hb hby at_117) rfl  (XS.iload X114.here hx rfl (hb hby at_118) rfl  (kk))) ?_
              show Dn p e below s _ _ _ (T114.setTop (mkF m 120 #[.val (.int p0), .val (.int p1), .val (.int p2), .val (.int v5), .val (.ref aH), .val (.double v59), .second, .val (.int (3 : Int32))] [(.int (3 : Int32)), (.int v5), (.double (4599075939470750515 : UInt64))]))
              obtain ⟨_, _, ⟨T120, L120, k120, n120⟩, -, X120, ⟨Lc120, hQ120, l120, y120, z120⟩, st120⟩ := Jvm.LawKit.callS X114 hx (y := (⟨"org/rupturecast/renewal/AperiodicityOfPinLaw", "expected", "(II)D"⟩ : MethodName)) hown (mvT hZ (hw _ (List.mem_of_getElem? (i := 15) rfl))) (mvT hZ (hw _ (List.mem_of_getElem? (i := 16) rfl))) (mvT hZ (hw _ (List.mem_of_getElem? (i := 17) rfl))) (mvT hZ (hw _ (List.mem_of_getElem? (i := 18) rfl))) (by decide) (backOf (W := 2) (rm2 l Z a0 hw [] v5 (3 : Int32)  h0 n0 Z0 ) hZ (hw _ (List.mem_of_getElem? (i := 18) rfl)) (hw _ (List.mem_of_getElem? (i := 17) rfl)) (by decide) (by decide)) (g := (mkF m 120 #[.val (.int p0), .val (.int p1), .val (.int p2), .val (.int v5), .val (.ref aH), .val (.double v59), .second, .val (.int (3 : Int32))] [(.int (3 : Int32)), (.int v5), (.double (4599075939470750515 : UInt64))])) rfl (by rw [hml]; rfl) (argsL := [(.int v5), (.int (3 : Int32))]) (rest := [(.double (4599075939470750515 : UInt64))]) (lenOf pd1 rfl) rfl (by show 2 * 0 + _ ≤ _; exact Nat.le_of_eq rfl) (hb hby at_120) (fun _ _ => ⟨rfl, hh114, (by decide : 0 + 0 ≤ _), (by decide : 0 + 0 ≤ _)⟩)
              dsimp only [Pt.U, Pt.locs, Pt.cells, Pt.slots] at X120 l120 y120 z120 st120 hQ120
              subst l120 y120 z120
              obtain ⟨hv120, Nq120, hh120⟩ := hQ120
              rw [show own_exp v5 (3 : Int32) = (4599075939470750515 : UInt64) by unfold own_exp; rw [if_neg hc8, if_neg hc21, if_neg (by decide : ¬ ((3 : Int32) = 0)), if_neg (by decide : ¬ ((3 : Int32) = 1)), if_neg (by decide : ¬ ((3 : Int32) = 2))]] at hv120
              subst hv120
              have N120 := Fr.app N114 Nq120
              refine Dn.st st120 ?_
              show Dn p e below s _ _ _ (T120.setTop (mkF m 123 #[.val (.int p0), .val (.int p1), .val (.int p2), .val (.int v5), .val (.ref aH), .val (.double v59), .second, .val (.int (3 : Int32))] [(.double (4599075939470750515 : UInt64)), (.double (4599075939470750515 : UInt64))]))
              refine Dn.st (fun _ kk => XS.dcmpS X120.here hx rfl (hb hby at_123) rfl (show cmpValue (FP.dcmp (4599075939470750515 : UInt64) (4599075939470750515 : UInt64)) .l = (0 : Int32) from (by decide +kernel)) (kk)) ?_
              show Dn p e below s _ _ _ (T120.setTop (mkF m 124 #[.val (.int p0), .val (.int p1), .val (.int p2), .val (.int v5), .val (.ref aH), .val (.double v59), .second, .val (.int (3 : Int32))] [(.int (0 : Int32))]))
              have hc124 : (0 : Int32) = (0 : Int32) := by decide
              refine Dn.st (fun _ kk => XS.ifNo X120.here hx rfl (hb hby at_124) rfl ((if0 _ _).trans (teq hc124).2) (XS.iconst X120.here hx rfl (hb hby at_127) (XS.goto X120.here hx rfl (pc0 := 128) (pc' := 132) rfl (hb hby at_128) (by decide) (by decide) (kk)))) ?_
              show Dn p e below s _ _ _ (T120.setTop (mkF m 132 #[.val (.int p0), .val (.int p1), .val (.int p2), .val (.int v5), .val (.ref aH), .val (.double v59), .second, .val (.int (3 : Int32))] [(.int (1 : Int32))]))
              exact Dn.ret X120 hlk hx hret rfl (Or.inl ⟨rfl, Or.inr (Or.inl rfl), _, rfl⟩) (hb hby at_132) (by rw [hh120]; exact ⟨rfl, N120⟩) (by decide) (by decide)
            · refine Dn.st (fun _ kk => XS.ifNo X32.here hx rfl (hb hby at_98) rfl ((if0 _ _).trans (flt hc98).2.2.1) (XS.iconst X32.here hx rfl (hb hby at_101) (XS.istore X32.here hx rfl (hb hby at_102) rfl (l' := #[.val (.int p0), .val (.int p1), .val (.int p2), .val (.int v5), .val (.ref aH), .val (.double v59), .second, .val (.int (2 : Int32))]) rfl (XS.goto X32.here hx rfl (pc0 := 104) (pc' := 110) rfl (hb hby at_104) (by decide) (by decide) (XS.aload X32.here hx rfl (hb hby at_110) rfl rfl (XS.dload X32.here hx rfl (hb hby at_112) rfl  (kk))))))) ?_
              show Dn p e below s _ _ _ (T32.setTop (mkF m 114 #[.val (.int p0), .val (.int p1), .val (.int p2), .val (.int v5), .val (.ref aH), .val (.double v59), .second, .val (.int (2 : Int32))] [(.double v59), (.ref aH)]))
              obtain ⟨cq114, kq114, q114a, q114b, q114c⟩ := isOf hZ e32 E_HIGH
              obtain ⟨_, _, ⟨T114, L114, k114, n114⟩, -, X114, ⟨Lc114, hQ114, l114, y114, z114⟩, st114⟩ := X32.virtualBack hx (y := (⟨"org/rupturecast/renewal/Aperiodicity", "of", "(D)D"⟩ : MethodName)) (z := (⟨"org/rupturecast/renewal/Aperiodicity", "of", "(D)D"⟩ : MethodName)) hown (mvT hZ (hw _ (List.mem_of_getElem? (i := 6) rfl))) (mvT hZ (hw _ (List.mem_of_getElem? (i := 7) rfl))) (notFace_of_selects (args := #[]) (mvT hZ (hw _ (List.mem_of_getElem? (i := 9) rfl)))) (mvT hZ (hw _ (List.mem_of_getElem? (i := 9) rfl))) (mvT hZ (hw _ (List.mem_of_getElem? (i := 8) rfl))) (by decide) (backOf (W := 0) (rm1 l Z a0 hw [] aH v59 aB aHx kB kaH (4603579539098121011 : UInt64) (4602678819172646912 : UInt64) (4600877379321698714 : UInt64) (4599075939470750515 : UInt64) h0 n0 Z0 S_B V_B F_HIGH V_HIGH) hZ (hw _ (List.mem_of_getElem? (i := 10) rfl)) (hw _ (List.mem_of_getElem? (i := 2) rfl)) (by decide) (by decide)) q114a q114c (g := (mkF m 114 #[.val (.int p0), .val (.int p1), .val (.int p2), .val (.int v5), .val (.ref aH), .val (.double v59), .second, .val (.int (2 : Int32))] [(.double v59), (.ref aH)])) rfl (by rw [hml]; rfl) (Steps.refl _) (argsL := [(.double v59)]) (rest := []) (lenOf pd0 rfl) rfl (by show 2 * 0 + _ ≤ _; exact Nat.le_of_eq rfl) (hb hby at_114) (fun _ _ => ⟨rfl, e32, (by decide : 0 + 0 ≤ _), (by decide : 0 + 0 ≤ _)⟩)
              dsimp only [Pt.U, Pt.locs, Pt.cells, Pt.slots] at X114 l114 y114 z114 st114 hQ114
              subst l114 y114 z114
              obtain ⟨hv114, Nq114, hh114⟩ := hQ114
              rw [show own_bin v59 (4603579539098121011 : UInt64) (4602678819172646912 : UInt64) (4600877379321698714 : UInt64) (4599075939470750515 : UInt64) = (4600877379321698714 : UInt64) by unfold own_bin; rw [if_pos hc68, if_pos hc83, if_neg hc98]] at hv114
              subst hv114
              have N114 := Fr.app N0 Nq114
              refine Dn.tr st114 ?_
              show Dn p e below s _ _ _ (T114.setTop (mkF m 117 #[.val (.int p0), .val (.int p1), .val (.int p2), .val (.int v5), .val (.ref aH), .val (.double v59), .second, .val (.int (2 : Int32))] [(.double (4600877379321698714 : UInt64))]))
              refine Dn.st (fun _ kk => XS.iloadN X114.here hx rfl (hb hby at_117) rfl  (XS.iload X114.here hx rfl (hb hby at_118) rfl  (kk))) ?_
              show Dn p e below s _ _ _ (T114.setTop (mkF m 120 #[.val (.int p0), .val (.int p1), .val (.int p2), .val (.int v5), .val (.ref aH), .val (.double v59), .second, .val (.int (2 : Int32))] [(.int (2 : Int32)), (.int v5), (.double (4600877379321698714 : UInt64))]))
              obtain ⟨_, _, ⟨T120, L120, k120, n120⟩, -, X120, ⟨Lc120, hQ120, l120, y120, z120⟩, st120⟩ := Jvm.LawKit.callS X114 hx (y := (⟨"org/rupturecast/renewal/AperiodicityOfPinLaw", "expected", "(II)D"⟩ : MethodName)) hown (mvT hZ (hw _ (List.mem_of_getElem? (i := 15) rfl))) (mvT hZ (hw _ (List.mem_of_getElem? (i := 16) rfl))) (mvT hZ (hw _ (List.mem_of_getElem? (i := 17) rfl))) (mvT hZ (hw _ (List.mem_of_getElem? (i := 18) rfl))) (by decide) (backOf (W := 2) (rm2 l Z a0 hw [] v5 (2 : Int32)  h0 n0 Z0 ) hZ (hw _ (List.mem_of_getElem? (i := 18) rfl)) (hw _ (List.mem_of_getElem? (i := 17) rfl)) (by decide) (by decide)) (g := (mkF m 120 #[.val (.int p0), .val (.int p1), .val (.int p2), .val (.int v5), .val (.ref aH), .val (.double v59), .second, .val (.int (2 : Int32))] [(.int (2 : Int32)), (.int v5), (.double (4600877379321698714 : UInt64))])) rfl (by rw [hml]; rfl) (argsL := [(.int v5), (.int (2 : Int32))]) (rest := [(.double (4600877379321698714 : UInt64))]) (lenOf pd1 rfl) rfl (by show 2 * 0 + _ ≤ _; exact Nat.le_of_eq rfl) (hb hby at_120) (fun _ _ => ⟨rfl, hh114, (by decide : 0 + 0 ≤ _), (by decide : 0 + 0 ≤ _)⟩)
              dsimp only [Pt.U, Pt.locs, Pt.cells, Pt.slots] at X120 l120 y120 z120 st120 hQ120
              subst l120 y120 z120
              obtain ⟨hv120, Nq120, hh120⟩ := hQ120
              rw [show own_exp v5 (2 : Int32) = (4600877379321698714 : UInt64) by unfold own_exp; rw [if_neg hc8, if_neg hc21, if_neg (by decide : ¬ ((2 : Int32) = 0)), if_neg (by decide : ¬ ((2 : Int32) = 1)), if_pos (rfl : (2 : Int32) = 2)]] at hv120
              subst hv120
              have N120 := Fr.app N114 Nq120
              refine Dn.st st120 ?_
              show Dn p e below s _ _ _ (T120.setTop (mkF m 123 #[.val (.int p0), .val (.int p1), .val (.int p2), .val (.int v5), .val (.ref aH), .val (.double v59), .second, .val (.int (2 : Int32))] [(.double (4600877379321698714 : UInt64)), (.double (4600877379321698714 : UInt64))]))
              refine Dn.st (fun _ kk => XS.dcmpS X120.here hx rfl (hb hby at_123) rfl (show cmpValue (FP.dcmp (4600877379321698714 : UInt64) (4600877379321698714 : UInt64)) .l = (0 : Int32) from (by decide +kernel)) (kk)) ?_
              show Dn p e below s _ _ _ (T120.setTop (mkF m 124 #[.val (.int p0), .val (.int p1), .val (.int p2), .val (.int v5), .val (.ref aH), .val (.double v59), .second, .val (.int (2 : Int32))] [(.int (0 : Int32))]))
              have hc124 : (0 : Int32) = (0 : Int32) := by decide
              refine Dn.st (fun _ kk => XS.ifNo X120.here hx rfl (hb hby at_124) rfl ((if0 _ _).trans (teq hc124).2) (XS.iconst X120.here hx rfl (hb hby at_127) (XS.goto X120.here hx rfl (pc0 := 128) (pc' := 132) rfl (hb hby at_128) (by decide) (by decide) (kk)))) ?_
              show Dn p e below s _ _ _ (T120.setTop (mkF m 132 #[.val (.int p0), .val (.int p1), .val (.int p2), .val (.int v5), .val (.ref aH), .val (.double v59), .second, .val (.int (2 : Int32))] [(.int (1 : Int32))]))
              exact Dn.ret X120 hlk hx hret rfl (Or.inl ⟨rfl, Or.inr (Or.inl rfl), _, rfl⟩) (hb hby at_132) (by rw [hh120]; exact ⟨rfl, N120⟩) (by decide) (by decide)
          · refine Dn.st (fun _ kk => XS.ifNo X32.here hx rfl (hb hby at_83) rfl ((if0 _ _).trans (flt hc83).2.2.1) (XS.iconst X32.here hx rfl (hb hby at_86) (XS.istore X32.here hx rfl (hb hby at_87) rfl (l' := #[.val (.int p0), .val (.int p1), .val (.int p2), .val (.int v5), .val (.ref aH), .val (.double v59), .second, .val (.int (1 : Int32))]) rfl (XS.goto X32.here hx rfl (pc0 := 89) (pc' := 110) rfl (hb hby at_89) (by decide) (by decide) (XS.aload X32.here hx rfl (hb hby at_110) rfl rfl (XS.dload X32.here hx rfl (hb hby at_112) rfl  (kk))))))) ?_
            show Dn p e below s _ _ _ (T32.setTop (mkF m 114 #[.val (.int p0), .val (.int p1), .val (.int p2), .val (.int v5), .val (.ref aH), .val (.double v59), .second, .val (.int (1 : Int32))] [(.double v59), (.ref aH)]))
            obtain ⟨cq114, kq114, q114a, q114b, q114c⟩ := isOf hZ e32 E_HIGH
            obtain ⟨_, _, ⟨T114, L114, k114, n114⟩, -, X114, ⟨Lc114, hQ114, l114, y114, z114⟩, st114⟩ := X32.virtualBack hx (y := (⟨"org/rupturecast/renewal/Aperiodicity", "of", "(D)D"⟩ : MethodName)) (z := (⟨"org/rupturecast/renewal/Aperiodicity", "of", "(D)D"⟩ : MethodName)) hown (mvT hZ (hw _ (List.mem_of_getElem? (i := 6) rfl))) (mvT hZ (hw _ (List.mem_of_getElem? (i := 7) rfl))) (notFace_of_selects (args := #[]) (mvT hZ (hw _ (List.mem_of_getElem? (i := 9) rfl)))) (mvT hZ (hw _ (List.mem_of_getElem? (i := 9) rfl))) (mvT hZ (hw _ (List.mem_of_getElem? (i := 8) rfl))) (by decide) (backOf (W := 0) (rm1 l Z a0 hw [] aH v59 aB aHx kB kaH (4603579539098121011 : UInt64) (4602678819172646912 : UInt64) (4600877379321698714 : UInt64) (4599075939470750515 : UInt64) h0 n0 Z0 S_B V_B F_HIGH V_HIGH) hZ (hw _ (List.mem_of_getElem? (i := 10) rfl)) (hw _ (List.mem_of_getElem? (i := 2) rfl)) (by decide) (by decide)) q114a q114c (g := (mkF m 114 #[.val (.int p0), .val (.int p1), .val (.int p2), .val (.int v5), .val (.ref aH), .val (.double v59), .second, .val (.int (1 : Int32))] [(.double v59), (.ref aH)])) rfl (by rw [hml]; rfl) (Steps.refl _) (argsL := [(.double v59)]) (rest := []) (lenOf pd0 rfl) rfl (by show 2 * 0 + _ ≤ _; exact Nat.le_of_eq rfl) (hb hby at_114) (fun _ _ => ⟨rfl, e32, (by decide : 0 + 0 ≤ _), (by decide : 0 + 0 ≤ _)⟩)
            dsimp only [Pt.U, Pt.locs, Pt.cells, Pt.slots] at X114 l114 y114 z114 st114 hQ114
            subst l114 y114 z114
            obtain ⟨hv114, Nq114, hh114⟩ := hQ114
            rw [show own_bin v59 (4603579539098121011 : UInt64) (4602678819172646912 : UInt64) (4600877379321698714 : UInt64) (4599075939470750515 : UInt64) = (4602678819172646912 : UInt64) by unfold own_bin; rw [if_pos hc68, if_neg hc83]] at hv114
            subst hv114
            have N114 := Fr.app N0 Nq114
            refine Dn.tr st114 ?_
            show Dn p e below s _ _ _ (T114.setTop (mkF m 117 #[.val (.int p0), .val (.int p1), .val (.int p2), .val (.int v5), .val (.ref aH), .val (.double v59), .second, .val (.int (1 : Int32))] [(.double (4602678819172646912 : UInt64))]))
            refine Dn.st (fun _ kk => XS.iloadN X114.here hx rfl (hb hby at_117) rfl  (XS.iload X114.here hx rfl (hb hby at_118) rfl  (kk))) ?_
            show Dn p e below s _ _ _ (T114.setTop (mkF m 120 #[.val (.int p0), .val (.int p1), .val (.int p2), .val (.int v5), .val (.ref aH), .val (.double v59), .second, .val (.int (1 : Int32))] [(.int (1 : Int32)), (.int v5), (.double (4602678819172646912 : UInt64))]))
            obtain ⟨_, _, ⟨T120, L120, k120, n120⟩, -, X120, ⟨Lc120, hQ120, l120, y120, z120⟩, st120⟩ := Jvm.LawKit.callS X114 hx (y := (⟨"org/rupturecast/renewal/AperiodicityOfPinLaw", "expected", "(II)D"⟩ : MethodName)) hown (mvT hZ (hw _ (List.mem_of_getElem? (i := 15) rfl))) (mvT hZ (hw _ (List.mem_of_getElem? (i := 16) rfl))) (mvT hZ (hw _ (List.mem_of_getElem? (i := 17) rfl))) (mvT hZ (hw _ (List.mem_of_getElem? (i := 18) rfl))) (by decide) (backOf (W := 2) (rm2 l Z a0 hw [] v5 (1 : Int32)  h0 n0 Z0 ) hZ (hw _ (List.mem_of_getElem? (i := 18) rfl)) (hw _ (List.mem_of_getElem? (i := 17) rfl)) (by decide) (by decide)) (g := (mkF m 120 #[.val (.int p0), .val (.int p1), .val (.int p2), .val (.int v5), .val (.ref aH), .val (.double v59), .second, .val (.int (1 : Int32))] [(.int (1 : Int32)), (.int v5), (.double (4602678819172646912 : UInt64))])) rfl (by rw [hml]; rfl) (argsL := [(.int v5), (.int (1 : Int32))]) (rest := [(.double (4602678819172646912 : UInt64))]) (lenOf pd1 rfl) rfl (by show 2 * 0 + _ ≤ _; exact Nat.le_of_eq rfl) (hb hby at_120) (fun _ _ => ⟨rfl, hh114, (by decide : 0 + 0 ≤ _), (by decide : 0 + 0 ≤ _)⟩)
            dsimp only [Pt.U, Pt.locs, Pt.cells, Pt.slots] at X120 l120 y120 z120 st120 hQ120
            subst l120 y120 z120
            obtain ⟨hv120, Nq120, hh120⟩ := hQ120
            rw [show own_exp v5 (1 : Int32) = (4602678819172646912 : UInt64) by unfold own_exp; rw [if_neg hc8, if_neg hc21, if_neg (by decide : ¬ ((1 : Int32) = 0)), if_pos (rfl : (1 : Int32) = 1)]] at hv120
            subst hv120
            have N120 := Fr.app N114 Nq120
            refine Dn.st st120 ?_
            show Dn p e below s _ _ _ (T120.setTop (mkF m 123 #[.val (.int p0), .val (.int p1), .val (.int p2), .val (.int v5), .val (.ref aH), .val (.double v59), .second, .val (.int (1 : Int32))] [(.double (4602678819172646912 : UInt64)), (.double (4602678819172646912 : UInt64))]))
            refine Dn.st (fun _ kk => XS.dcmpS X120.here hx rfl (hb hby at_123) rfl (show cmpValue (FP.dcmp (4602678819172646912 : UInt64) (4602678819172646912 : UInt64)) .l = (0 : Int32) from (by decide +kernel)) (kk)) ?_
            show Dn p e below s _ _ _ (T120.setTop (mkF m 124 #[.val (.int p0), .val (.int p1), .val (.int p2), .val (.int v5), .val (.ref aH), .val (.double v59), .second, .val (.int (1 : Int32))] [(.int (0 : Int32))]))
            have hc124 : (0 : Int32) = (0 : Int32) := by decide
            refine Dn.st (fun _ kk => XS.ifNo X120.here hx rfl (hb hby at_124) rfl ((if0 _ _).trans (teq hc124).2) (XS.iconst X120.here hx rfl (hb hby at_127) (XS.goto X120.here hx rfl (pc0 := 128) (pc' := 132) rfl (hb hby at_128) (by decide) (by decide) (kk)))) ?_
            show Dn p e below s _ _ _ (T120.setTop (mkF m 132 #[.val (.int p0), .val (.int p1), .val (.int p2), .val (.int v5), .val (.ref aH), .val (.double v59), .second, .val (.int (1 : Int32))] [(.int (1 : Int32))]))
            exact Dn.ret X120 hlk hx hret rfl (Or.inl ⟨rfl, Or.inr (Or.inl rfl), _, rfl⟩) (hb hby at_132) (by rw [hh120]; exact ⟨rfl, N120⟩) (by decide) (by decide)
        · refine Dn.st (fun _ kk => XS.ifNo X32.here hx rfl (hb hby at_68) rfl ((if0 _ _).trans (flt hc68).2.2.1) (XS.iconst X32.here hx rfl (hb hby at_71) (XS.istore X32.here hx rfl (hb hby at_72) rfl (l' := #[.val (.int p0), .val (.int p1), .val (.int p2), .val (.int v5), .val (.ref aH), .val (.double v59), .second, .val (.int (0 : Int32))]) rfl (XS.goto X32.here hx rfl (pc0 := 74) (pc' := 110) rfl (hb hby at_74) (by decide) (by decide) (XS.aload X32.here hx rfl (hb hby at_110) rfl rfl (XS.dload X32.here hx rfl (hb hby at_112) rfl  (kk))))))) ?_
          show Dn p e below s _ _ _ (T32.setTop (mkF m 114 #[.val (.int p0), .val (.int p1), .val (.int p2), .val (.int v5), .val (.ref aH), .val (.double v59), .second, .val (.int (0 : Int32))] [(.double v59), (.ref aH)]))
          obtain ⟨cq114, kq114, q114a, q114b, q114c⟩ := isOf hZ e32 E_HIGH
          obtain ⟨_, _, ⟨T114, L114, k114, n114⟩, -, X114, ⟨Lc114, hQ114, l114, y114, z114⟩, st114⟩ := X32.virtualBack hx (y := (⟨"org/rupturecast/renewal/Aperiodicity", "of", "(D)D"⟩ : MethodName)) (z := (⟨"org/rupturecast/renewal/Aperiodicity", "of", "(D)D"⟩ : MethodName)) hown (mvT hZ (hw _ (List.mem_of_getElem? (i := 6) rfl))) (mvT hZ (hw _ (List.mem_of_getElem? (i := 7) rfl))) (notFace_of_selects (args := #[]) (mvT hZ (hw _ (List.mem_of_getElem? (i := 9) rfl)))) (mvT hZ (hw _ (List.mem_of_getElem? (i := 9) rfl))) (mvT hZ (hw _ (List.mem_of_getElem? (i := 8) rfl))) (by decide) (backOf (W := 0) (rm1 l Z a0 hw [] aH v59 aB aHx kB kaH (4603579539098121011 : UInt64) (4602678819172646912 : UInt64) (4600877379321698714 : UInt64) (4599075939470750515 : UInt64) h0 n0 Z0 S_B V_B F_HIGH V_HIGH) hZ (hw _ (List.mem_of_getElem? (i := 10) rfl)) (hw _ (List.mem_of_getElem? (i := 2) rfl)) (by decide) (by decide)) q114a q114c (g := (mkF m 114 #[.val (.int p0), .val (.int p1), .val (.int p2), .val (.int v5), .val (.ref aH), .val (.double v59), .second, .val (.int (0 : Int32))] [(.double v59), (.ref aH)])) rfl (by rw [hml]; rfl) (Steps.refl _) (argsL := [(.double v59)]) (rest := []) (lenOf pd0 rfl) rfl (by show 2 * 0 + _ ≤ _; exact Nat.le_of_eq rfl) (hb hby at_114) (fun _ _ => ⟨rfl, e32, (by decide : 0 + 0 ≤ _), (by decide : 0 + 0 ≤ _)⟩)
          dsimp only [Pt.U, Pt.locs, Pt.cells, Pt.slots] at X114 l114 y114 z114 st114 hQ114
          subst l114 y114 z114
          obtain ⟨hv114, Nq114, hh114⟩ := hQ114
          rw [show own_bin v59 (4603579539098121011 : UInt64) (4602678819172646912 : UInt64) (4600877379321698714 : UInt64) (4599075939470750515 : UInt64) = (4603579539098121011 : UInt64) by unfold own_bin; rw [if_neg hc68]] at hv114
          subst hv114
          have N114 := Fr.app N0 Nq114
          refine Dn.tr st114 ?_
          show Dn p e below s _ _ _ (T114.setTop (mkF m 117 #[.val (.int p0), .val (.int p1), .val (.int p2), .val (.int v5), .val (.ref aH), .val (.double v59), .second, .val (.int (0 : Int32))] [(.double (4603579539098121011 : UInt64))]))
          refine Dn.st (fun _ kk => XS.iloadN X114.here hx rfl (hb hby at_117) rfl  (XS.iload X114.here hx rfl (hb hby at_118) rfl  (kk))) ?_
          show Dn p e below s _ _ _ (T114.setTop (mkF m 120 #[.val (.int p0), .val (.int p1), .val (.int p2), .val (.int v5), .val (.ref aH), .val (.double v59), .second, .val (.int (0 : Int32))] [(.int (0 : Int32)), (.int v5), (.double (4603579539098121011 : UInt64))]))
          obtain ⟨_, _, ⟨T120, L120, k120, n120⟩, -, X120, ⟨Lc120, hQ120, l120, y120, z120⟩, st120⟩ := Jvm.LawKit.callS X114 hx (y := (⟨"org/rupturecast/renewal/AperiodicityOfPinLaw", "expected", "(II)D"⟩ : MethodName)) hown (mvT hZ (hw _ (List.mem_of_getElem? (i := 15) rfl))) (mvT hZ (hw _ (List.mem_of_getElem? (i := 16) rfl))) (mvT hZ (hw _ (List.mem_of_getElem? (i := 17) rfl))) (mvT hZ (hw _ (List.mem_of_getElem? (i := 18) rfl))) (by decide) (backOf (W := 2) (rm2 l Z a0 hw [] v5 (0 : Int32)  h0 n0 Z0 ) hZ (hw _ (List.mem_of_getElem? (i := 18) rfl)) (hw _ (List.mem_of_getElem? (i := 17) rfl)) (by decide) (by decide)) (g := (mkF m 120 #[.val (.int p0), .val (.int p1), .val (.int p2), .val (.int v5), .val (.ref aH), .val (.double v59), .second, .val (.int (0 : Int32))] [(.int (0 : Int32)), (.int v5), (.double (4603579539098121011 : UInt64))])) rfl (by rw [hml]; rfl) (argsL := [(.int v5), (.int (0 : Int32))]) (rest := [(.double (4603579539098121011 : UInt64))]) (lenOf pd1 rfl) rfl (by show 2 * 0 + _ ≤ _; exact Nat.le_of_eq rfl) (hb hby at_120) (fun _ _ => ⟨rfl, hh114, (by decide : 0 + 0 ≤ _), (by decide : 0 + 0 ≤ _)⟩)
          dsimp only [Pt.U, Pt.locs, Pt.cells, Pt.slots] at X120 l120 y120 z120 st120 hQ120
          subst l120 y120 z120
          obtain ⟨hv120, Nq120, hh120⟩ := hQ120
          rw [show own_exp v5 (0 : Int32) = (4603579539098121011 : UInt64) by unfold own_exp; rw [if_neg hc8, if_neg hc21, if_pos (rfl : (0 : Int32) = 0)]] at hv120
          subst hv120
          have N120 := Fr.app N114 Nq120
          refine Dn.st st120 ?_
          show Dn p e below s _ _ _ (T120.setTop (mkF m 123 #[.val (.int p0), .val (.int p1), .val (.int p2), .val (.int v5), .val (.ref aH), .val (.double v59), .second, .val (.int (0 : Int32))] [(.double (4603579539098121011 : UInt64)), (.double (4603579539098121011 : UInt64))]))
          refine Dn.st (fun _ kk => XS.dcmpS X120.here hx rfl (hb hby at_123) rfl (show cmpValue (FP.dcmp (4603579539098121011 : UInt64) (4603579539098121011 : UInt64)) .l = (0 : Int32) from (by decide +kernel)) (kk)) ?_
          show Dn p e below s _ _ _ (T120.setTop (mkF m 124 #[.val (.int p0), .val (.int p1), .val (.int p2), .val (.int v5), .val (.ref aH), .val (.double v59), .second, .val (.int (0 : Int32))] [(.int (0 : Int32))]))
          have hc124 : (0 : Int32) = (0 : Int32) := by decide
          refine Dn.st (fun _ kk => XS.ifNo X120.here hx rfl (hb hby at_124) rfl ((if0 _ _).trans (teq hc124).2) (XS.iconst X120.here hx rfl (hb hby at_127) (XS.goto X120.here hx rfl (pc0 := 128) (pc' := 132) rfl (hb hby at_128) (by decide) (by decide) (kk)))) ?_
          show Dn p e below s _ _ _ (T120.setTop (mkF m 132 #[.val (.int p0), .val (.int p1), .val (.int p2), .val (.int v5), .val (.ref aH), .val (.double v59), .second, .val (.int (0 : Int32))] [(.int (1 : Int32))]))
          exact Dn.ret X120 hlk hx hret rfl (Or.inl ⟨rfl, Or.inr (Or.inl rfl), _, rfl⟩) (hb hby at_132) (by rw [hh120]; exact ⟨rfl, N120⟩) (by decide) (by decide)

set_option maxRecDepth 65536 in
set_option maxHeartbeats 40000000 in
theorem comes_1 {Post : Tables → Env → Array Value → State → Outcome → State → Prop} (hpost : ∀ tb e args s v u, (limb_1_1.after args s (.returned v) u = true ∧ limb_1_2.after args s (.returned v) u = true ∧ True) → FrameEnd s (.returned v) u (Jvm.fieldLocs frame_1_writes args s ++ Jvm.arrayLocs frame_1_arrays args s ++ Jvm.staticLocs frame_1_statics s) 0 0 → Post tb e args s (.returned v) u) :
    ArmFor flags0 classFile x code maxLocals ret World_1 tables_1 room_1 Calls_1 rest_1 Pre_1 Post := by
  intro l hfl _ _ p e ha hc hk s m args below hf hA hF happ hP
  obtain ⟨hcalls, hrest, hpre⟩ := hP
  obtain ⟨-, -, -, hnamed, -, -, -, hat⟩ := (Spec.applies_iff hf).mp happ
  obtain ⟨hg, hn⟩ := and_e (Cond.before_iff.mp (show (Jvm.Cond.and given_1 narrow_1).before args s = true from hpre))
  obtain ⟨g1a, g1b⟩ := and_e hg
  obtain ⟨g2a, g2b⟩ := and_e g1b
  obtain ⟨g3a, g3b⟩ := and_e g2b
  obtain ⟨g4a, g4b⟩ := and_e hn
  obtain ⟨g5a, g5b⟩ := and_e g4b
  obtain ⟨g6a, g6b⟩ := and_e g5b
  obtain ⟨g7a, g7b⟩ := and_e g6b
  obtain ⟨g8a, g8b⟩ := and_e g7b
  obtain ⟨g9a, g9b⟩ := and_e g8b
  obtain ⟨g10a, g10b⟩ := and_e g9b
  obtain ⟨g11a, g11b⟩ := and_e g10b
  obtain ⟨g12a, g12b⟩ := and_e g11b
  obtain ⟨g13a, g13b⟩ := and_e g12b
  obtain ⟨g14a, g14b⟩ := and_e g13b
  obtain ⟨g15a, g15b⟩ := and_e g14b
  obtain ⟨g16a, g16b⟩ := and_e g15b
  obtain ⟨g17a, g17b⟩ := and_e g16b
  obtain ⟨g18a, g18b⟩ := and_e g17b
  obtain ⟨g19a, g19b⟩ := and_e g18b
  obtain ⟨g20a, g20b⟩ := and_e g19b
  obtain ⟨g21a, g21b⟩ := and_e g20b
  obtain ⟨g22a, g22b⟩ := and_e g21b
  obtain ⟨g23a, g23b⟩ := and_e g22b
  obtain ⟨g24a, g24b⟩ := and_e g23b
  obtain ⟨g25a, g25b⟩ := and_e g24b
  obtain ⟨g26a, g26b⟩ := and_e g25b
  obtain ⟨g27a, g27b⟩ := and_e g26b
  obtain ⟨g28a, g28b⟩ := and_e g27b
  obtain ⟨w0, w1, w2, rfl⟩ : ∃ w0 w1 w2 : Value, args = #[w0, w1, w2] := by
    have hs : args.size = 3 := by simpa [Cond.value, given_1] using g1a
    obtain ⟨L⟩ := args
    match L, hs with
    | [w0, w1, w2], _ => exact ⟨w0, w1, w2, rfl⟩
  have hw := fun d (hd : d ∈ tables_1) => atoms_spec (ws := Jvm.Cond.code x code maxLocals ret :: tables_1) hat d (List.mem_cons_of_mem _ hd)
  have hfit : Fit s := fun {y c} hc i hi => by
    obtain ⟨ha, rfl⟩ := Array.getElem?_eq_some_iff.mp hc
    have q := List.all_eq_true.mp ((Array.all_eq_true_iff_forall_mem.mp hF) _ (Array.getElem_mem ha)) i (List.mem_range.mpr hi)
    simpa [Array.getElem?_eq_getElem hi] using q
  obtain ⟨i0, ei0⟩ := is_v g2a
  obtain rfl : w0 = (.int i0) := Option.some.inj ei0
  obtain ⟨i1, ei1⟩ := is_v g3a
  obtain rfl : w1 = (.int i1) := Option.some.inj ei1
  obtain ⟨i2, ei2⟩ := is_v g3b
  obtain rfl : w2 = (.int i2) := Option.some.inj ei2
  obtain ⟨a_LOW, v_LOW⟩ := exa_v g4a
  have S_LOW := Sta.start v_LOW (Or.inr ⟨(hw _ (List.mem_of_getElem? (i := 2) rfl)), (hw _ (List.mem_of_getElem? (i := 3) rfl))⟩)
  have E_LOW := Exa.start v_LOW g4a
  obtain ⟨a_BIN_TOPS, v_BIN_TOPS⟩ := arr_v g5a
  have S_BIN_TOPS := Sta.start v_BIN_TOPS (Or.inr ⟨(hw _ (List.mem_of_getElem? (i := 2) rfl)), (hw _ (List.mem_of_getElem? (i := 12) rfl))⟩)
  obtain ⟨a_LOW_byBin, v_LOW_byBin⟩ := arr_v g8a
  have F_LOW_byBin := Fld.start ((fld_at v_LOW).symm.trans v_LOW_byBin)
  obtain ⟨a_MID, v_MID⟩ := exa_v g11a
  have S_MID := Sta.start v_MID (Or.inr ⟨(hw _ (List.mem_of_getElem? (i := 2) rfl)), (hw _ (List.mem_of_getElem? (i := 21) rfl))⟩)
  have E_MID := Exa.start v_MID g11a
  obtain ⟨a_MID_byBin, v_MID_byBin⟩ := arr_v g14a
  have F_MID_byBin := Fld.start ((fld_at v_MID).symm.trans v_MID_byBin)
  obtain ⟨a_HIGH, v_HIGH⟩ := exa_v g17a
  have S_HIGH := Sta.start v_HIGH (Or.inr ⟨(hw _ (List.mem_of_getElem? (i := 2) rfl)), (hw _ (List.mem_of_getElem? (i := 26) rfl))⟩)
  have E_HIGH := Exa.start v_HIGH g17a
  obtain ⟨a_HIGH_byBin, v_HIGH_byBin⟩ := arr_v g18a
  have F_HIGH_byBin := Fld.start ((fld_at v_HIGH).symm.trans v_HIGH_byBin)
  obtain ⟨cl_BIN_TOPS, A_BIN_TOPS, q_BIN_TOPS, e_BIN_TOPS⟩ := own_arr v_BIN_TOPS g5a g6a
  have V_BIN_TOPS : Arv s s.heap a_BIN_TOPS cl_BIN_TOPS.cls .double 3 [(.double 4619229547803233485), (.double 4619792497756654797), (.double 4620355447710076109)] (.double 0) := Arv.start hfit A_BIN_TOPS q_BIN_TOPS e_BIN_TOPS (by decide) rfl ⟨own_el v_BIN_TOPS A_BIN_TOPS g7a rfl rfl, own_el v_BIN_TOPS A_BIN_TOPS g12a rfl rfl, own_el v_BIN_TOPS A_BIN_TOPS g13a rfl rfl, trivial⟩
  obtain ⟨cl_LOW_byBin, A_LOW_byBin, q_LOW_byBin, e_LOW_byBin⟩ := own_arr v_LOW_byBin g8a g9a
  have V_LOW_byBin : Arv s s.heap a_LOW_byBin cl_LOW_byBin.cls .double 4 [(.double 4600877379321698714), (.double 4599075939470750515), (.double 4596373779694328218), (.double 4591870180066957722)] (.double 0) := Arv.start hfit A_LOW_byBin q_LOW_byBin e_LOW_byBin (by decide) rfl ⟨own_el v_LOW_byBin A_LOW_byBin g10a rfl rfl, own_el v_LOW_byBin A_LOW_byBin g24a rfl rfl, own_el v_LOW_byBin A_LOW_byBin g28a rfl rfl, own_el v_LOW_byBin A_LOW_byBin g22a rfl rfl, trivial⟩
  obtain ⟨cl_MID_byBin, A_MID_byBin, q_MID_byBin, e_MID_byBin⟩ := own_arr v_MID_byBin g14a g15a
  have V_MID_byBin : Arv s s.heap a_MID_byBin cl_MID_byBin.cls .double 4 [(.double 4602678819172646912), (.double 4600877379321698714), (.double 4599075939470750515), (.double 4596373779694328218)] (.double 0) := Arv.start hfit A_MID_byBin q_MID_byBin e_MID_byBin (by decide) rfl ⟨own_el v_MID_byBin A_MID_byBin g23a rfl rfl, own_el v_MID_byBin A_MID_byBin g26a rfl rfl, own_el v_MID_byBin A_MID_byBin g28b rfl rfl, own_el v_MID_byBin A_MID_byBin g16a rfl rfl, trivial⟩
  obtain ⟨cl_HIGH_byBin, A_HIGH_byBin, q_HIGH_byBin, e_HIGH_byBin⟩ := own_arr v_HIGH_byBin g18a g19a
  have V_HIGH_byBin : Arv s s.heap a_HIGH_byBin cl_HIGH_byBin.cls .double 4 [(.double 4603579539098121011), (.double 4602678819172646912), (.double 4600877379321698714), (.double 4599075939470750515)] (.double 0) := Arv.start hfit A_HIGH_byBin q_HIGH_byBin e_HIGH_byBin (by decide) rfl ⟨own_el v_HIGH_byBin A_HIGH_byBin g21a rfl rfl, own_el v_HIGH_byBin A_HIGH_byBin g25a rfl rfl, own_el v_HIGH_byBin A_HIGH_byBin g27a rfl rfl, own_el v_HIGH_byBin A_HIGH_byBin g20a rfl rfl, trivial⟩
  obtain ⟨n, o, h1, h2, h3, _, L, rfl, ⟨rfl, N⟩, hq⟩ := rm0 l s _ hw tables_1 i0 i1 i2 a_BIN_TOPS a_LOW a_MID a_HIGH a_LOW_byBin a_MID_byBin a_HIGH_byBin cl_BIN_TOPS.cls cl_LOW_byBin.cls cl_MID_byBin.cls cl_HIGH_byBin.cls s.heap s.heap.size (Nat.le_refl _) S_BIN_TOPS V_BIN_TOPS S_LOW E_LOW F_LOW_byBin V_LOW_byBin S_MID E_MID F_MID_byBin V_MID_byBin S_HIGH E_HIGH F_HIGH_byBin V_HIGH_byBin p e ha hc hk s m _ below hf ((Spec.applies_iff_loose hf).mp happ).1 ⟨rfl, State.Warmed39.refl s, rfl⟩ trivial
  refine ⟨n, _, h1, h2, h3, hpost _ _ _ _ _ _ ⟨Cond.after_iff.mpr rfl, Cond.after_iff.mpr (eq_i res_at (Term.int_eval (1)) rfl), trivial⟩ ⟨hq.1, hq.2.1, (hq.2.2.sift fun y hy => Or.inr (N y hy)).mono (by decide) (by decide)⟩⟩
theorem main_1_1 : Claimed_1_1 := comes_1 fun _ _ _ _ _ _ h hF => ⟨h.1, hF⟩
theorem main_1_2 : Claimed_1_2 := comes_1 fun _ _ _ _ _ _ h hF => ⟨h.2.1, hF⟩
end Jvm.Pilot.@@N@@
namespace Jvm.Pilot.@@N@@
open Jvm Jvm.ClassFile Sem Op Lib Jvm.Free Jvm.Stand Jvm.Pilot.@@N@@.Jvm.D
/-! MADE BY PROGRAM (witnessworld.py) out of the Statement's table words and the real class files: 14 classes; the members and pool entries that the words name. The judged class is class 1, her method 1. -/
namespace start1
open Jvm.ClassFile
def u (s : String) : CpInfo := .utf8 (stringToUtf16 s)
/-- a pool by its gaps: so many unusable entries, then the entry; so many at the end -/
def gap : Nat → List CpInfo → List CpInfo
  | 0, r => r
  | n + 1, r => .unusable :: gap n r
def poolList (es : List (Nat × CpInfo)) (last : Nat) : List CpInfo := es.foldr (fun e r => gap e.1 (e.2 :: r)) (gap last [])
def pool (es : List (Nat × CpInfo)) (last : Nat) : Array CpInfo := ⟨poolList es last⟩
def fileOf (pool : Array CpInfo) (this : Nat) (attrs : Array Attribute := #[]) (ms : Array MethodInfo := #[]) (fl : Nat := 33) (sup : Nat := 0) (ifs : Array Nat := #[]) (fds : Array FieldInfo := #[]) : ClassFile where
  minorVersion := 0
  majorVersion := 65
  constantPool := pool
  accessFlags := fl
  thisClass := this
  superClass := sup
  interfaces := ifs
  fields := fds
  methods := ms
  attributes := attrs
def plain (name : String) (sup : Option ClassId) : Class where
  name := name
  kind := .ordinary
  loader := none
  accessFlags := 33
  super := sup
  interfaces := #[]
  cf := none
  fields := #[]
  methods := #[]
  instanceTypes := #[]
  staticTypes := #[]
  resolved := #[]
  callSites := []
  init := .initialized
  statics := none
  mirror := none

def pool0 : Array CpInfo := pool [(5, u "<init>"), (0, u "()V"), (1, .class_ 10), (1, u "java/lang/Object")] 113

def k0m0 : Method := { name := "<init>", desc := "()V", sig := { parameters := [], returnType := none }, accessFlags := 1, code := none }
/-- java/lang/Object -/
def k0 : Class := { plain "java/lang/Object" none with
  accessFlags := 33
  interfaces := #[]
  cf := some (fileOf pool0 8 #[] #[{ accessFlags := 1, nameIndex := 5, descriptorIndex := 6, attributes := #[] }] 33 0 #[] #[])
  fields := #[]
  methods := #[k0m0]
  instanceTypes := #[]
  staticTypes := #[]
  resolved := Array.replicate 124 none
  statics := none }

def pool1 : Array CpInfo := pool [(2, .class_ 4), (1, u "java/lang/Object"), (0, u "<init>"), (0, u "()V"), (0, .integer 2147483647), (0, .fieldref 9 10), (0, .class_ 11), (0, .nameAndType 12 13), (0, u "org/rupturecast/renewal/Aperiodicity"), (0, u "LOW"), (0, u "Lorg/rupturecast/renewal/Aperiodicity;"), (0, .fieldref 9 15), (0, .nameAndType 16 13), (0, u "MID"), (0, .fieldref 9 18), (0, .nameAndType 19 13), (0, u "HIGH"), (0, .double 4636737291354636288), (1, .double 4619229547803233485), (1, .double 4619792497756654797), (1, .double 4620355447710076109), (1, .methodref 9 29), (0, .nameAndType 30 31), (0, u "of"), (0, u "(D)D"), (0, .methodref 33 34), (0, .class_ 35), (0, .nameAndType 36 37), (0, u "org/rupturecast/renewal/AperiodicityOfPinLaw"), (0, u "expected"), (0, u "(II)D"), (0, .double 4600877379321698714), (1, .double 4599075939470750515), (1, .double 4596373779694328218), (1, .double 4591870180066957722), (1, .double 4602678819172646912), (1, .double 4603579539098121011), (3, u "law"), (0, u "(III)Z")] 3

def k1m0 : Method := { name := "<init>", desc := "()V", sig := { parameters := [], returnType := none }, accessFlags := 1, code := none }
def k1c1 : Code := { maxStack := 4, maxLocals := 8, code := code, exceptionTable := #[], attributes := #[] }
def k1m1 : Method := { name := "law", desc := "(III)Z", sig := { parameters := [.int, .int, .int], returnType := some .boolean }, accessFlags := 9, code := some k1c1 }
def k1c2 : Code := { maxStack := 2, maxLocals := 2, code := method_3_code, exceptionTable := #[], attributes := #[] }
def k1m2 : Method := { name := "expected", desc := "(II)D", sig := { parameters := [.int, .int], returnType := some .double }, accessFlags := 10, code := some k1c2 }
/-- org/rupturecast/renewal/AperiodicityOfPinLaw -/
def k1 : Class := { plain "org/rupturecast/renewal/AperiodicityOfPinLaw" (some 0) with
  accessFlags := 49
  interfaces := #[]
  cf := some (fileOf pool1 33 #[] #[{ accessFlags := 1, nameIndex := 5, descriptorIndex := 6, attributes := #[] }, { accessFlags := 9, nameIndex := 52, descriptorIndex := 53, attributes := #[] }, { accessFlags := 10, nameIndex := 36, descriptorIndex := 37, attributes := #[] }] 49 2 #[] #[])
  fields := #[]
  methods := #[k1m0, k1m1, k1m2]
  instanceTypes := #[]
  staticTypes := #[]
  resolved := Array.replicate 57 none
  statics := none }

def pool2 : Array CpInfo := pool [(1, .class_ 2), (0, u "java/lang/constant/Constable"), (0, .class_ 4), (0, u "java/lang/Object")] 6

/-- java/lang/constant/Constable -/
def k2 : Class := { plain "java/lang/constant/Constable" (some 0) with
  accessFlags := 1537
  interfaces := #[]
  cf := some (fileOf pool2 1 #[] #[] 1537 3 #[] #[])
  fields := #[]
  methods := #[]
  instanceTypes := #[]
  staticTypes := #[]
  resolved := Array.replicate 11 none
  statics := none }

def pool3 : Array CpInfo := pool [(1, .class_ 2), (0, u "java/lang/Comparable"), (0, .class_ 4), (0, u "java/lang/Object")] 7

/-- java/lang/Comparable -/
def k3 : Class := { plain "java/lang/Comparable" (some 0) with
  accessFlags := 1537
  interfaces := #[]
  cf := some (fileOf pool3 1 #[] #[] 1537 3 #[] #[])
  fields := #[]
  methods := #[]
  instanceTypes := #[]
  staticTypes := #[]
  resolved := Array.replicate 12 none
  statics := none }

def pool4 : Array CpInfo := pool [(1, .class_ 2), (0, u "java/io/Serializable"), (0, .class_ 4), (0, u "java/lang/Object")] 2

/-- java/io/Serializable -/
def k4 : Class := { plain "java/io/Serializable" (some 0) with
  accessFlags := 1537
  interfaces := #[]
  cf := some (fileOf pool4 1 #[] #[] 1537 3 #[] #[])
  fields := #[]
  methods := #[]
  instanceTypes := #[]
  staticTypes := #[]
  resolved := Array.replicate 7 none
  statics := none }

def pool5 : Array CpInfo := pool [(2, .class_ 4), (1, u "java/lang/Enum"), (0, u "name"), (0, u "Ljava/lang/String;"), (2, u "ordinal"), (0, u "I"), (1, .class_ 14), (1, u "java/lang/Object"), (4, u "hash"), (86, .class_ 108), (1, u "java/lang/Enum$EnumDesc"), (2, .class_ 112), (0, u "java/lang/constant/Constable"), (0, .class_ 114), (0, u "java/lang/Comparable"), (0, .class_ 116), (0, u "java/io/Serializable")] 87

/-- java/lang/Enum -/
def k5 : Class := { plain "java/lang/Enum" (some 0) with
  accessFlags := 1057
  interfaces := #[2, 3, 4]
  cf := some (fileOf pool5 2 #[.nestMembers #[106]] #[] 1057 12 #[111, 113, 115] #[{ accessFlags := 18, nameIndex := 5, descriptorIndex := 6, attributes := #[] }, { accessFlags := 18, nameIndex := 9, descriptorIndex := 10, attributes := #[] }, { accessFlags := 2, nameIndex := 19, descriptorIndex := 10, attributes := #[] }])
  fields := #[{ name := "name", type := (.object "java/lang/String"), accessFlags := 18, slot := 0, constantValue := 0 }, { name := "ordinal", type := .int, accessFlags := 18, slot := 1, constantValue := 0 }, { name := "hash", type := .int, accessFlags := 2, slot := 2, constantValue := 0 }]
  methods := #[]
  instanceTypes := #[(.object "java/lang/String"), .int, .int]
  staticTypes := #[]
  resolved := Array.replicate 204 none
  statics := none }

def pool6 : Array CpInfo := pool [(1, .class_ 2), (0, u "org/rupturecast/renewal/Aperiodicity"), (2, u "LOW"), (0, u "Lorg/rupturecast/renewal/Aperiodicity;"), (2, u "MID"), (2, u "HIGH"), (2, u "$VALUES"), (0, u "[Lorg/rupturecast/renewal/Aperiodicity;"), (6, .class_ 25), (1, u "java/lang/Enum"), (6, .fieldref 1 33), (0, .nameAndType 34 35), (0, u "byBin"), (0, u "[D"), (0, .fieldref 1 37), (0, .nameAndType 38 35), (0, u "BIN_TOPS"), (35, u "of"), (0, u "(D)D")] 6

def k6c0 : Code := { maxStack := 4, maxLocals := 4, code := prog_71_method_4_code, exceptionTable := #[], attributes := #[] }
def k6m0 : Method := { name := "of", desc := "(D)D", sig := { parameters := [.double], returnType := some .double }, accessFlags := 1, code := some k6c0 }
/-- org/rupturecast/renewal/Aperiodicity -/
def k6 : Class := { plain "org/rupturecast/renewal/Aperiodicity" (some 5) with
  accessFlags := 16433
  interfaces := #[]
  cf := some (fileOf pool6 1 #[] #[{ accessFlags := 1, nameIndex := 74, descriptorIndex := 75, attributes := #[] }] 16433 23 #[] #[{ accessFlags := 16409, nameIndex := 5, descriptorIndex := 6, attributes := #[] }, { accessFlags := 16409, nameIndex := 9, descriptorIndex := 6, attributes := #[] }, { accessFlags := 16409, nameIndex := 12, descriptorIndex := 6, attributes := #[] }, { accessFlags := 26, nameIndex := 38, descriptorIndex := 35, attributes := #[] }, { accessFlags := 18, nameIndex := 34, descriptorIndex := 35, attributes := #[] }, { accessFlags := 4122, nameIndex := 15, descriptorIndex := 16, attributes := #[] }])
  fields := #[{ name := "LOW", type := (.object "org/rupturecast/renewal/Aperiodicity"), accessFlags := 16409, slot := 0, constantValue := 0 }, { name := "MID", type := (.object "org/rupturecast/renewal/Aperiodicity"), accessFlags := 16409, slot := 1, constantValue := 0 }, { name := "HIGH", type := (.object "org/rupturecast/renewal/Aperiodicity"), accessFlags := 16409, slot := 2, constantValue := 0 }, { name := "BIN_TOPS", type := (.array .double), accessFlags := 26, slot := 3, constantValue := 0 }, { name := "byBin", type := (.array .double), accessFlags := 18, slot := 3, constantValue := 0 }, { name := "$VALUES", type := (.array (.object "org/rupturecast/renewal/Aperiodicity")), accessFlags := 4122, slot := 4, constantValue := 0 }]
  methods := #[k6m0]
  instanceTypes := #[(.object "java/lang/String"), .int, .int, (.array .double)]
  staticTypes := #[(.object "org/rupturecast/renewal/Aperiodicity"), (.object "org/rupturecast/renewal/Aperiodicity"), (.object "org/rupturecast/renewal/Aperiodicity"), (.array .double), (.array (.object "org/rupturecast/renewal/Aperiodicity"))]
  resolved := Array.replicate 82 none
  statics := some 0 }

def pool7 : Array CpInfo := pool [(1, u "java/lang/Cloneable"), (0, .class_ 1), (0, u "java/lang/Object"), (0, .class_ 3)] 3

/-- java/lang/Cloneable -/
def k7 : Class := { plain "java/lang/Cloneable" (some 0) with
  accessFlags := 1537
  interfaces := #[]
  cf := some (fileOf pool7 2 #[] #[] 1537 4 #[] #[])
  fields := #[]
  methods := #[]
  instanceTypes := #[]
  staticTypes := #[]
  resolved := Array.replicate 8 none
  statics := none }

/-- the primitive byte -/
def k8 : Class := { plain "byte" none with kind := .primitive 'B', accessFlags := 0x411 }
/-- [B -/
def k9 : Class := { plain "[B" (some 0) with kind := .array 8 .byte, interfaces := #[7, 4], accessFlags := 1041 }

/-- the primitive double -/
def k10 : Class := { plain "double" none with kind := .primitive 'D', accessFlags := 0x411 }
/-- [D -/
def k11 : Class := { plain "[D" (some 0) with kind := .array 10 .double, interfaces := #[7, 4], accessFlags := 1041 }

/-- the primitive int -/
def k12 : Class := { plain "int" none with kind := .primitive 'I', accessFlags := 0x411 }
/-- [I -/
def k13 : Class := { plain "[I" (some 0) with kind := .array 12 .int, interfaces := #[7, 4], accessFlags := 1041 }

def heap : Heap := #[{ cls := 6, slots := #[.ref 5, .ref 6, .ref 7, .ref 1, .null], vm := .statics 6 },
  { cls := 11, slots := #[.double 4619229547803233485, .double 4619792497756654797, .double 4620355447710076109], vm := .none },
  { cls := 11, slots := #[.double 4600877379321698714, .double 4599075939470750515, .double 4596373779694328218, .double 4591870180066957722], vm := .none },
  { cls := 11, slots := #[.double 4602678819172646912, .double 4600877379321698714, .double 4599075939470750515, .double 4596373779694328218], vm := .none },
  { cls := 11, slots := #[.double 4603579539098121011, .double 4602678819172646912, .double 4600877379321698714, .double 4599075939470750515], vm := .none },
  { cls := 6, slots := #[.null, .int 0, .int 0, .ref 2], vm := .none },
  { cls := 6, slots := #[.null, .int 1, .int 0, .ref 3], vm := .none },
  { cls := 6, slots := #[.null, .int 2, .int 0, .ref 4], vm := .none }]
def classes : Array Class := #[k0, k1, k2, k3, k4, k5, k6, k7, k8, k9, k10, k11, k12, k13]
def interned : List (Array UInt16 × Addr) := []
def slotsUsed : Nat := 32
def theMethod : MethodId := ⟨1, 1⟩
def args0 : Array Value := #[.int 5, .int 6, .int 7]
def aboutOver (below : List Frame) : State where
  vm := { classes := classes, interned := interned.toArray }
  heap := heap
  slotsUsed := slotsUsed
  threads := #[{ frames := .invoking theMethod args0 :: below }]
def below0 : List Frame := [.native { method := ⟨0, 0⟩, args := #[] }]
def about1 : State := aboutOver below0
def p0 : Program := .bare "" "" ""
def e0 : Env := launch0.env 0 0 0
theorem w_frames : about1.frames = Frame.invoking theMethod args0 :: below0 := rfl
set_option maxRecDepth 65536 in
theorem w_args : argsFit about1.vm theMethod args0 = true := by decide +kernel
set_option maxRecDepth 65536 in
theorem w_heap : heapFits about1 = true := by decide +kernel
set_option maxRecDepth 65536 in
theorem w_runnable : about1.curStatus? = some .runnable := by decide +kernel
set_option maxRecDepth 65536 in
theorem w_alone : about1.alone = true := by decide +kernel
set_option maxRecDepth 65536 in
theorem w_named : about1.methodNamed? x = some theMethod := by decide +kernel
set_option maxRecDepth 65536 in
theorem w_hears : about1.hears theMethod below0 = true := by decide +kernel
set_option maxRecDepth 65536 in
theorem w_ripe : about1.ripe theMethod args0 below0 = true := by decide +kernel
theorem w_running : about1.status = .running := rfl
set_option maxRecDepth 65536 in
theorem w_room : about1.hasRoom e0.platform room_1 = true :=
  launch0.hasRoom_least _ room_1 (by decide +kernel) (by decide +kernel) (by decide +kernel) (by decide +kernel) (by decide +kernel) (by decide +kernel)
theorem allAtoms_all (ts : List Jvm.Cond) (a : Array Jvm.Value) (st : Jvm.State) : (allAtoms ts).before a st = ts.all (fun c => c.before a st) := by
  induction ts with
  | nil => rfl
  | cons c t ih =>
    show (Jvm.Cond.and c (allAtoms t)).before a st = _
    rw [Jvm.Cond.before_and, ih, List.all_cons]
def words1 : List Jvm.Cond := Jvm.Cond.code x code maxLocals ret :: tables_1
/-- a 'code' word, met by the world's own term for the bytes: nothing is compared byte by byte -/
theorem code_word {y : MethodName} {bytes : ByteArray} {mx : Nat} {rt : Option FieldType} {a : Array Value} {s : State} {m : MethodId} {meth : Method} {c : Code} (h1 : s.methodNamed? y = some m) (h2 : s.vm.method? m = some meth) (h3 : meth.code = some c) (h4 : c.code = bytes)
    (h5 : (c.maxLocals == mx && c.exceptionTable.isEmpty && decide (c.maxStack ≤ mostOperands) && decide (meth.sig.returnType = rt) && !meth.locks && decide (parseMethodDescriptor y.desc = some meth.sig)) = true) : (Jvm.Cond.code y bytes mx rt).before a s = true := by
  simp only [Bool.and_eq_true, beq_iff_eq, Bool.not_eq_true', decide_eq_true_eq] at h5
  obtain ⟨⟨⟨⟨⟨g1, g2⟩, g3⟩, g4⟩, g5⟩, g6⟩ := h5
  simp [Cond.before, Cond.holds, Cond.value, h1, h2, h3, h4, g1, g2, g3, g4, g5, g6]
def isCode : Jvm.Cond → Bool
  | .code _ _ _ _ => true
  | _ => false
theorem all_split {L : List Jvm.Cond} {P : Jvm.Cond → Bool} (h1 : L.all (fun c => isCode c || P c) = true) (h2 : ∀ c ∈ L.filter isCode, P c = true) : L.all P = true := by
  refine List.all_eq_true.mpr fun c hc => ?_
  have h := List.all_eq_true.mp h1 c hc
  rcases Bool.eq_false_or_eq_true (isCode c) with hi | hi
  · exact h2 c (List.mem_filter.mpr ⟨hc, hi⟩)
  · simpa [hi] using h
set_option maxRecDepth 65536 in
theorem w_c0 : (Jvm.Cond.code x code maxLocals ret).before args0 about1 = true := code_word (m := ⟨1, 1⟩) (meth := k1m1) (c := k1c1) (by decide +kernel) rfl rfl rfl (by decide +kernel)
set_option maxRecDepth 65536 in
theorem w_c1 : (Jvm.Cond.code ({ cls := "org/rupturecast/renewal/Aperiodicity", name := "of", desc := "(D)D" } : Jvm.MethodName) prog_71_method_4_code (4 : Nat) (Option.some Jvm.ClassFile.FieldType.double)).before args0 about1 = true := code_word (m := ⟨6, 0⟩) (meth := k6m0) (c := k6c0) (by decide +kernel) rfl rfl rfl (by decide +kernel)
set_option maxRecDepth 65536 in
theorem w_c2 : (Jvm.Cond.code ({ cls := "org/rupturecast/renewal/AperiodicityOfPinLaw", name := "expected", desc := "(II)D" } : Jvm.MethodName) method_3_code (2 : Nat) (Option.some Jvm.ClassFile.FieldType.double)).before args0 about1 = true := code_word (m := ⟨1, 2⟩) (meth := k1m2) (c := k1c2) (by decide +kernel) rfl rfl rfl (by decide +kernel)
def codes1 : List Jvm.Cond := [Jvm.Cond.code x code maxLocals ret, Jvm.Cond.code ({ cls := "org/rupturecast/renewal/Aperiodicity", name := "of", desc := "(D)D" } : Jvm.MethodName) prog_71_method_4_code (4 : Nat) (Option.some Jvm.ClassFile.FieldType.double), Jvm.Cond.code ({ cls := "org/rupturecast/renewal/AperiodicityOfPinLaw", name := "expected", desc := "(II)D" } : Jvm.MethodName) method_3_code (2 : Nat) (Option.some Jvm.ClassFile.FieldType.double)]
set_option maxRecDepth 65536 in
theorem codes_eq : words1.filter isCode = codes1 := rfl
theorem w_codes : ∀ c ∈ words1.filter isCode, c.before args0 about1 = true := by
  rw [codes_eq]
  intro c hc
  simp only [codes1, List.mem_cons, List.not_mem_nil, or_false] at hc
  rcases hc with rfl | rfl | rfl
  · exact w_c0
  · exact w_c1
  · exact w_c2
set_option maxRecDepth 65536 in
theorem w_t1 : (words1.take 24).all (fun c => isCode c || c.before args0 about1) = true := by decide +kernel
set_option maxRecDepth 65536 in
theorem w_t2 : (words1.drop 24).all (fun c => isCode c || c.before args0 about1) = true := by decide +kernel
theorem w_tables : (allAtoms (Jvm.Cond.code x code maxLocals ret :: tables_1)).before args0 about1 = true := by
  rw [allAtoms_all]
  show words1.all (fun c => c.before args0 about1) = true
  refine all_split ?_ w_codes
  rw [← List.take_append_drop 24 words1, List.all_append, w_t1, w_t2]
  rfl
set_option maxRecDepth 65536 in
theorem w_case : (Jvm.Cond.and given_1 narrow_1).before args0 about1 = true := by decide +kernel
theorem w_applies : (headSpec (Jvm.Cond.code x code maxLocals ret :: tables_1) room_1).applies x e0.platform about1 = true :=
  (Spec.applies_iff w_frames).mpr ⟨w_running, w_runnable, w_alone, w_named, w_hears, w_ripe, w_room, w_tables⟩
theorem atStart : AtStart classFile x code maxLocals ret World_1 tables_1 room_1 Calls_1 rest_1 Pre_1 launch0 p0 e0 about1 theMethod args0 below0 :=
  ⟨lists_1, trivial, launch0.admits_env _ _ _, launch0.least_env, fairChoices_fair.cas, fairChoices_fair.clock, w_frames, w_args, w_heap, w_applies, trivial, trivial, w_case⟩
end start1
theorem witness_1 : WitnessClaimed_1 := ⟨start1.p0, start1.e0, start1.about1, start1.theMethod, start1.args0, start1.below0, start1.atStart⟩
end Jvm.Pilot.@@N@@
