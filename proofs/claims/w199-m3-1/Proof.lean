import JvmDerived
import JvmDerived.Pilot.@@N@@Statement
import JvmDerived.Pilot.@@N@@Code
set_option linter.unusedVariables false
set_option linter.unusedSimpArgs false
namespace Jvm.Pilot.@@N@@
open Jvm Jvm.ClassFile Sem Op Lib Jvm.Free Jvm.Stand Jvm.LawKit Jvm.RoadKit Bundle Jvm.Pilot.@@N@@.Jvm.D
section Own
variable {p : Program} {l : Launch} {e : Env} {R : Room} {s : State} {m : MethodId} {args : Array Value} {below : List Frame} {meth : Method} {c : Code} {T : State} {locs : List Loc} {cells slots : Nat}
/-- the run from A ends, returns what Q says, and has made and written no more than told -/
def Dn (p : Program) (e : Env) (below : List Frame) (s : State) (Q : Option Value → Heap → List Loc → Prop) (rc rs : Nat) (A : State) : Prop :=
  ∃ s₂ o, Steps p.tables e below A s₂ ∧ s₂.status = .running ∧ Ended s₂ below o ∧ ∃ v L, o = .returned v ∧ Q v s₂.heap L ∧ FrameEnd s o s₂ L rc rs
theorem Dn.st {Q : Option Value → Heap → List Loc → Prop} {rc rs : Nat} {A B : State} (h : ∀ t, Steps p.tables e below B t → Steps p.tables e below A t) (k : Dn p e below s Q rc rs B) : Dn p e below s Q rc rs A := by
  obtain ⟨s2, o, h1, h2⟩ := k; exact ⟨s2, o, h _ h1, h2⟩
theorem Dn.tr {Q : Option Value → Heap → List Loc → Prop} {rc rs : Nat} {A B : State} (h : Steps p.tables e below A B) (k : Dn p e below s Q rc rs B) : Dn p e below s Q rc rs A := by
  obtain ⟨s2, o, h1, h2⟩ := k; exact ⟨s2, o, h.trans h1, h2⟩
theorem Dn.ret (X : Stand p l e R s m args below meth c T locs cells slots) (hlk : meth.locks = false) (hx : p.tables.exec = Jvm.exec) {pc : Nat} {Ls : Array Slot} {w : Value} {t : FieldType} {i : Instr} {rest : List Value} (hret : meth.sig.returnType = some t) (hn : narrow t w = w)
    (hi : (i = .ireturn ∧ (t = .int ∨ t = .boolean ∨ t = .byte ∨ t = .char ∨ t = .short) ∧ ∃ z, w = .int z) ∨ (i = .lreturn ∧ t = .long ∧ ∃ z, w = .long z) ∨ (i = .dreturn ∧ t = .double ∧ ∃ z, w = .double z) ∨ (i = .freturn ∧ t = .float ∧ ∃ z, w = .float z) ∨ (i = .areturn ∧ t.isReference = true ∧ w.isRef = true))
    (hd : decode c.code pc = .ok (i, 1)) {Q : Option Value → Heap → List Loc → Prop} {rc rs : Nat} (hq : Q (some w) T.heap locs) (hc : cells ≤ rc) (hs : slots ≤ rs) : Dn p e below s Q rc rs (T.setTop (mkF m pc Ls (w :: rest))) := by
  obtain ⟨fs, hr, hrun, hended, hW, hsame⟩ := X.leave (v := some w) (fun h => by rw [hret] at h; cases h) hlk
  exact ⟨_, _, retOut X hx hret hn hi hd hr, hrun, hended, _, _, rfl, hq, ⟨_, rfl⟩, hW, hsame.mono hc hs⟩
theorem Dn.ret0 (X : Stand p l e R s m args below meth c T locs cells slots) (hlk : meth.locks = false) (hx : p.tables.exec = Jvm.exec) {pc : Nat} {Ls : Array Slot} (hret : meth.sig.returnType = none)
    (hd : decode c.code pc = .ok (.return_, 1)) {Q : Option Value → Heap → List Loc → Prop} {rc rs : Nat} (hq : Q none T.heap locs) (hc : cells ≤ rc) (hs : slots ≤ rs) : Dn p e below s Q rc rs (T.setTop (mkF m pc Ls [])) := by
  obtain ⟨fs, hr, hrun, hended, hW, hsame⟩ := X.leave (v := none) (fun _ => rfl) hlk
  exact ⟨_, _, X.returnOut hx hret hd hr, hrun, hended, _, _, rfl, hq, ⟨_, rfl⟩, hW, hsame.mono hc hs⟩
theorem own_iincW {tb : Tables} [Ours tb] {target : State} {g : JFrame} (h : At T m c below) (hx : tb.exec = Jvm.exec) (hg : g.method = m) {k : Nat} {cst : Int} {x : Int32} {l' : Array Slot} (hd : decode c.code g.pc = .ok (.iinc k cst, 6)) (hl : g.locals[k]? = some (.val (.int x))) (hl' : storeLocals g.locals k (.int (x + Int32.ofInt cst)) = some l')
    (hr : Steps tb e below (T.setTop { g with pc := g.pc + 6, locals := l' }) target) : Steps tb e below (T.setTop g) target := by
  subst hg
  jvm_step h [h.top, hx, hd, hl, hl']
  exact hr
theorem own_dremS {tb : Tables} [Ours tb] {target : State} {g : JFrame} (h : At T m c below) (hx : tb.exec = Jvm.exec) (hg : g.method = m) {x y v : UInt64} {rest : List Value} (hd : decode c.code g.pc = .ok (.drem, 1)) (hs : g.stack = .double y :: .double x :: rest) (hn : Jvm.Free.Fl.NoNaN64 (FP.drem x y)) (hv : FP.drem x y = v)
    (hr : Steps tb e below (T.setTop { g with pc := g.pc + 1, stack := .double v :: rest }) target) : Steps tb e below (T.setTop g) target := by
  subst hg; subst hv
  obtain ⟨gm, gp, gl, gs, gk, ge, gr⟩ := g
  simp only at hs hd
  subst hs
  jvm_step h [h.top, hx, hd, Op.drem.at_number h.top hn]
  exact hr
end Own
section Dyad
open Jvm.FP Jvm.FP.Core Jvm.Free.Fl
/-- the datum with its exponent moved by k -/
def sft (k : Nat) : Datum → Datum
  | .nan => .nan
  | .inf s => .inf s
  | .fin s c q => .fin s c (q + (k : Int))
/-- x is the number i / 2^k -/
def DS (k : Nat) (i : Int) (x : UInt64) : Prop := Whole i (sft k (val64 x))
theorem sft_zero (d : Datum) : sft 0 d = d := by
  cases d with
  | nan => rfl
  | inf s => rfl
  | fin s c q => show Datum.fin s c (q + ((0 : Nat) : Int)) = _; rw [Int.natCast_zero, Int.add_zero]
theorem sft_sum (k : Nat) (x y : Datum) : exactSum (sft k x) (sft k y) = sft k (exactSum x y) := by
  cases x with
  | nan => rfl
  | inf s =>
    cases y with
    | nan => rfl
    | inf t => show (if s = t then Datum.inf s else .nan) = sft k (if s = t then Datum.inf s else .nan); split <;> rfl
    | fin t d r => rfl
  | fin s c q =>
    cases y with
    | nan => rfl
    | inf t => rfl
    | fin t d r =>
      have h : min (q + (k : Int)) (r + k) = min q r + k := by omega
      have h1 : q + (k : Int) - (min q r + k) = q - min q r := by omega
      have h2 : r + (k : Int) - (min q r + k) = r - min q r := by omega
      have hu : sumUnits s c (q + k) t d (r + k) (min (q + k) (r + k)) = sumUnits s c q t d r (min q r) := by
        show signed s (c * 2 ^ (q + (k : Int) - min (q + k) (r + k)).toNat) + signed t (d * 2 ^ (r + (k : Int) - min (q + k) (r + k)).toNat) = signed s (c * 2 ^ (q - min q r).toNat) + signed t (d * 2 ^ (r - min q r).toNat)
        rw [h, h1, h2]
      show Datum.fin (sumSign s t (sumUnits s c (q + k) t d (r + k) (min (q + k) (r + k)))) (sumUnits s c (q + k) t d (r + k) (min (q + k) (r + k))).natAbs (min (q + k) (r + k)) = Datum.fin (sumSign s t (sumUnits s c q t d r (min q r))) (sumUnits s c q t d r (min q r)).natAbs (min q r + k)
      rw [hu, h]
theorem sft_negate (k : Nat) (x : Datum) : negate (sft k x) = sft k (negate x) := by cases x <;> rfl
theorem sft_product (k m : Nat) (x y : Datum) : exactProduct (sft k x) (sft m y) = sft (k + m) (exactProduct x y) := by
  cases x with
  | nan => rfl
  | inf s =>
    cases y with
    | nan => rfl
    | inf t => rfl
    | fin t d r => show (if d = 0 then Datum.nan else .inf (s != t)) = sft (k + m) (if d = 0 then Datum.nan else .inf (s != t)); split <;> rfl
  | fin s c q =>
    cases y with
    | nan => rfl
    | inf t => show (if c = 0 then Datum.nan else .inf (s != t)) = sft (k + m) (if c = 0 then Datum.nan else .inf (s != t)); split <;> rfl
    | fin t d r =>
      show Datum.fin (s != t) (c * d) (q + k + (r + m)) = Datum.fin (s != t) (c * d) (q + r + ((k + m : Nat) : Int))
      congr 1; omega
theorem sft_order (k : Nat) (x y : Datum) : order (sft k x) (sft k y) = order x y := by
  cases x with
  | nan => rfl
  | inf s => cases y <;> rfl
  | fin s c q =>
    cases y with
    | nan => rfl
    | inf t => rfl
    | fin t d r =>
      have h : min (q + (k : Int)) (r + k) = min q r + k := by omega
      have h1 : q + (k : Int) - (min q r + k) = q - min q r := by omega
      have h2 : r + (k : Int) - (min q r + k) = r - min q r := by omega
      show some (compare (signed s (c * 2 ^ (q + (k : Int) - min (q + k) (r + k)).toNat)) (signed t (d * 2 ^ (r + (k : Int) - min (q + k) (r + k)).toNat))) = some (compare (signed s (c * 2 ^ (q - min q r).toNat)) (signed t (d * 2 ^ (r - min q r).toNat)))
      rw [h, h1, h2]
theorem b64_qmin : b64.qmin = -1074 := by decide +kernel
theorem b64_qmax : b64.qmax = 971 := by decide +kernel
theorem b64_tails : b64.tails = 4503599627370496 := by decide +kernel
theorem fits64 (s : Bool) (c : Nat) (q : Int) : Core.fits b64 (.fin s c q) ↔ c < 2 ^ 53 ∧ -1074 ≤ q ∧ q ≤ 971 ∧ (q = -1074 ∨ 4503599627370496 ≤ c) := by
  show (c < 2 ^ 53 ∧ b64.qmin ≤ q ∧ q ≤ b64.qmax ∧ (q = b64.qmin ∨ b64.tails ≤ c)) ↔ _
  rw [b64_qmin, b64_qmax, b64_tails]
/-- n / 2^k is a double, for n up to 2^53 and k up to 1022 -/
theorem natFitS (s : Bool) {n k : Nat} (hk : k ≤ 1022) (hn : n ≤ 2 ^ 53) :
    ∃ c q, Core.fits b64 (.fin s c q) ∧ n * 2 ^ (-(k : Int) - q).toNat = c * 1 * 2 ^ (q - -(k : Int)).toNat := by
  by_cases h0 : n = 0
  · subst h0
    exact ⟨0, b64.qmin, zero_fits good_b64 s, by simp⟩
  · obtain ⟨c, q, hf, hv⟩ := natFit good_b64 wide_b64 s (show n ≤ 2 ^ b64.p from hn)
    rw [fits64] at hf
    have hq : -52 ≤ q := by
      refine Int.not_lt.mp fun hlt => ?_
      have e1 : (q - 0).toNat = 0 := by omega
      have e2 : (0 - q).toNat = 53 + ((0 - q).toNat - 53) := by omega
      rw [e1, e2, Nat.pow_add] at hv
      have p := Nat.two_pow_pos ((0 - q).toNat - 53)
      have : 2 ^ 53 * 1 ≤ 2 ^ 53 * 2 ^ ((0 - q).toNat - 53) := Nat.mul_le_mul_left _ p
      have : 1 * (2 ^ 53 * 2 ^ ((0 - q).toNat - 53)) ≤ n * (2 ^ 53 * 2 ^ ((0 - q).toNat - 53)) := Nat.mul_le_mul_right _ (by omega)
      omega
    refine ⟨c, q - k, (fits64 _ _ _).mpr ⟨hf.1, by omega, by omega, Or.inr (hf.2.2.2.resolve_left (by omega))⟩, ?_⟩
    rw [show -(k : Int) - (q - k) = 0 - q by omega, show q - k - -(k : Int) = q - 0 by omega]
    exact hv
theorem whole_signed {i : Int} {s : Bool} {c : Nat} {q : Int} (h : Whole i (.fin s c q)) : signed s i.natAbs = i := by
  by_cases hi : i = 0
  · rw [hi]; exact signed_zero s
  · rw [whole_sign h hi]; unfold signed
    by_cases h : i < 0 <;> simp [h] <;> omega
theorem ds_round {k : Nat} {i : Int} {d : Datum} (hk : k ≤ 1022) (hi : i.natAbs ≤ 2 ^ 53) (h : Whole i (sft k d)) : Whole i (sft k (Core.round b64 d)) := by
  cases d with
  | nan => exact h.elim
  | inf s => exact h.elim
  | fin s c q =>
    have hs := whole_signed h
    have h1 := whole_natAbs h
    obtain ⟨c', q', hfit, hv⟩ := natFitS s hk hi
    have e1 : Core.round b64 (.fin s c q) = roundRatio b64 s i.natAbs 1 (-(k : Int)) := by
      refine roundRatio_congr (by decide) (by decide) ?_
      rw [show q - -(k : Int) = q + k by omega, show -(k : Int) - q = -(q + k) by omega]
      simpa using h1
    rw [e1, roundRatio_exact good_b64 (by decide) hfit hv]
    show signed s (c' * 2 ^ (q' + (k : Int)).toNat) = i * _
    rw [show -(k : Int) - q' = -(q' + k) by omega, show q' - -(k : Int) = q' + k by omega, Nat.mul_one] at hv
    rw [← hv, signed_mul, hs]
theorem DS.nn {k : Nat} {i : Int} {x : UInt64} (h : DS k i x) : NoNaN64 x := val64_no.mpr fun q => by
  unfold DS at h; rw [q] at h; exact h.elim
theorem DS.fin {k : Nat} {i : Int} {x : UInt64} (h : DS k i x) : ∃ s c q, val64 x = .fin s c q ∧ Whole i (.fin s c (q + (k : Int))) := by
  unfold DS at h
  cases e : val64 x with
  | nan => rw [e] at h; exact h.elim
  | inf s => rw [e] at h; exact h.elim
  | fin s c q => rw [e] at h; exact ⟨s, c, q, rfl, h⟩
theorem DS.lit {k : Nat} {i : Int} {x : UInt64} {s : Bool} {c : Nat} {q : Int} (hv : val64 x = .fin s c q) (he : signed s (c * 2 ^ (q + (k : Int)).toNat) = i * ((2 ^ (-(q + (k : Int))).toNat : Nat) : Int)) : DS k i x := by
  unfold DS; rw [hv]; exact he
theorem DS.i2d (v : Int32) : DS 0 v.toInt (FP.i2d v) := by unfold DS; rw [sft_zero]; exact i2d_int v
theorem DS.l2d {v : Int64} (h : v.toInt.natAbs ≤ 2 ^ 53) : DS 0 v.toInt (FP.l2d v) := by unfold DS; rw [sft_zero]; exact l2d_int h
theorem DS.dint {i : Int} {x : UInt64} (h : DS 0 i x) : DInt i x := by unfold DS at h; rw [sft_zero] at h; exact h
theorem DS.zero (k : Nat) : DS k 0 0 := DS.lit (s := false) (c := 0) (q := -1074) (by decide +kernel) (by rw [Nat.zero_mul, Int.zero_mul]; rfl)
theorem DS.add {k : Nat} {i j : Int} {x y : UInt64} (hx : DS k i x) (hy : DS k j y) (hb : (i + j).natAbs ≤ 2 ^ 53) (hk : k ≤ 1022) : DS k (i + j) (FP.dadd x y) := by
  show Whole _ (sft k (val64 (Core.dadd x y)))
  rw [val64_dadd]; refine ds_round hk hb ?_; rw [← sft_sum]; exact whole_sum hx hy
theorem DS.sub {k : Nat} {i j : Int} {x y : UInt64} (hx : DS k i x) (hy : DS k j y) (hb : (i - j).natAbs ≤ 2 ^ 53) (hk : k ≤ 1022) : DS k (i - j) (FP.dsub x y) := by
  show Whole _ (sft k (val64 (Core.dsub x y)))
  rw [val64_dsub]; refine ds_round hk hb ?_; rw [← sft_sum, ← sft_negate, Int.sub_eq_add_neg]; exact whole_sum hx (whole_negate hy)
theorem DS.mul {k m : Nat} {i j : Int} {x y : UInt64} (hx : DS k i x) (hy : DS m j y) (hb : (i * j).natAbs ≤ 2 ^ 53) (hk : k + m ≤ 1022) : DS (k + m) (i * j) (FP.dmul x y) := by
  show Whole _ (sft (k + m) (val64 (Core.dmul x y)))
  rw [val64_dmul]; refine ds_round hk hb ?_; rw [← sft_product]; exact whole_product hx hy
theorem DS.cmp {k : Nat} {i j : Int} {x y : UInt64} (hx : DS k i x) (hy : DS k j y) : FP.dcmp x y = some (compare i j) := by
  show order (val64 x) (val64 y) = _
  rw [← sft_order k]; exact order_whole hx hy
/-- what dcmp pushes -/
def c3 (i j : Int) : Int32 := if i < j then -1 else if i = j then 0 else 1
theorem c3_lt (i j : Int) : c3 i j < 0 ↔ i < j := by unfold c3; split <;> (try split) <;> simp_all <;> first | decide | omega
theorem c3_gt (i j : Int) : 0 < c3 i j ↔ j < i := by unfold c3; split <;> (try split) <;> simp_all <;> first | decide | omega
theorem c3_eq (i j : Int) : c3 i j = 0 ↔ i = j := by unfold c3; split <;> (try split) <;> simp_all <;> first | decide | omega
theorem cmpV_int (i j : Int) (o : CmpOp) : cmpValue (some (compare i j)) o = c3 i j := by
  unfold c3
  by_cases h1 : i < j
  · have : compare i j = .lt := by simp [compare, compareOfLessAndEq, h1]
    rw [this, if_pos h1]; cases o <;> rfl
  · by_cases h2 : i = j
    · have : compare i j = .eq := by simp [compare, compareOfLessAndEq, h2]
      rw [this, if_neg h1, if_pos h2]; cases o <;> rfl
    · have : compare i j = .gt := by simp [compare, compareOfLessAndEq, h1, h2]
      rw [this, if_neg h1, if_neg h2]; cases o <;> rfl
theorem DS.cmpV {k : Nat} {i j : Int} {x y : UInt64} (hx : DS k i x) (hy : DS k j y) (o : CmpOp) : cmpValue (FP.dcmp x y) o = c3 i j := by rw [hx.cmp hy]; exact cmpV_int i j o
theorem whole_iff {i : Int} {s : Bool} {c : Nat} {q : Int} {N : Nat} (h : 0 ≤ q + N) : Whole i (.fin s c q) ↔ signed s c * ((2 ^ (q + N).toNat : Nat) : Int) = i * ((2 ^ N : Nat) : Int) := by
  show signed s (c * 2 ^ q.toNat) = i * ((2 ^ (-q).toNat : Nat) : Int) ↔ _
  rw [signed_mul]
  have e : q.toNat + N = (q + N).toNat + (-q).toNat := by omega
  have p1 : ((2 ^ N : Nat) : Int) ≠ 0 := by have := Nat.two_pow_pos N; omega
  have p2 : ((2 ^ (-q).toNat : Nat) : Int) ≠ 0 := by have := Nat.two_pow_pos (-q).toNat; omega
  have e1 : signed s c * ((2 ^ q.toNat : Nat) : Int) * ((2 ^ N : Nat) : Int) = signed s c * ((2 ^ (q + N).toNat : Nat) : Int) * ((2 ^ (-q).toNat : Nat) : Int) := by
    rw [Int.mul_assoc, Int.mul_assoc, ← Int.natCast_mul, ← Int.natCast_mul, ← Nat.pow_add, ← Nat.pow_add, e]
  constructor
  · intro hh
    refine Int.eq_of_mul_eq_mul_right p2 ?_
    rw [← e1, hh]; ac_rfl
  · intro hh
    refine Int.eq_of_mul_eq_mul_right p1 ?_
    rw [e1, hh]; ac_rfl
theorem DS.up {k : Nat} {i : Int} {x : UInt64} (h : DS k i x) (m : Nat) : DS (k + m) (i * ((2 ^ m : Nat) : Int)) x := by
  obtain ⟨s, c, q, e, hw⟩ := h.fin
  unfold DS; rw [e]
  show Whole _ (.fin s c (q + ((k + m : Nat) : Int)))
  rw [whole_iff (N := (-q).toNat) (by omega)]
  rw [whole_iff (N := (-q).toNat + m) (by omega)] at hw
  rw [show q + (k : Int) + (((-q).toNat + m : Nat) : Int) = q + ((k + m : Nat) : Int) + ((-q).toNat : Nat) by omega] at hw
  rw [hw, Nat.pow_add, Int.natCast_mul]; ac_rfl
theorem DS.cast {k k' : Nat} {i i' : Int} {x : UInt64} (h : DS k i x) (e1 : k = k') (e2 : i = i') : DS k' i' x := e1 ▸ e2 ▸ h
/-- the quotient, as the rounding of a ratio of whole numbers -/
theorem ds_quot {k m : Nat} {i j : Int} {x y : UInt64} (hx : DS k i x) (hy : DS m j y) (hj : j ≠ 0) :
    ∃ s t, signed s i.natAbs = i ∧ signed t j.natAbs = j ∧ val64 (FP.ddiv x y) = roundRatio b64 (s != t) i.natAbs j.natAbs ((m : Int) - k) := by
  obtain ⟨s, c, q, e, hw⟩ := hx.fin
  obtain ⟨t, d, r, e', hw'⟩ := hy.fin
  have hd : d ≠ 0 := fun z => hj ((whole_zero hw').mp z)
  have h1 := whole_natAbs hw
  have h2 := whole_natAbs hw'
  refine ⟨s, t, whole_signed hw, whole_signed hw', ?_⟩
  show val64 (Core.ddiv x y) = _
  rw [val64_ddiv, e, e']
  show (if d = 0 then _ else roundRatio b64 (s != t) c d (q - r)) = _
  rw [if_neg hd]
  have hj' : 0 < j.natAbs := by omega
  rw [roundRatio_congr (A' := i.natAbs) (B' := d) (e' := -(k : Int) - r) (by omega) (by omega) (by
    rw [show q - r - (-(k : Int) - r) = q + k by omega, show -(k : Int) - r - (q - r) = -(q + k) by omega, Nat.mul_right_comm, h1]; ac_rfl)]
  refine roundRatio_congr (by omega) hj' ?_
  rw [show -(k : Int) - r - ((m : Int) - k) = -(r + m) by omega, show (m : Int) - k - (-(k : Int) - r) = r + m by omega, Nat.mul_assoc, ← h2]; ac_rfl
theorem DS.div {k m n : Nat} {i j Q : Int} {x y : UInt64} (hx : DS k i x) (hy : DS m j y) (hj : j ≠ 0) (hQ : i * ((2 ^ (m + n) : Nat) : Int) = Q * j * ((2 ^ k : Nat) : Int)) (hb : Q.natAbs ≤ 2 ^ 53) (hn : n ≤ 1022) : DS n Q (FP.ddiv x y) := by
  obtain ⟨s, t, hs, ht, hv⟩ := ds_quot hx hy hj
  obtain ⟨c', q', hfit, hf⟩ := natFitS (s != t) hn hb
  have hj' : 0 < j.natAbs := by omega
  have hQn : i.natAbs * 2 ^ (m + n) = Q.natAbs * j.natAbs * 2 ^ k := by
    have := congrArg Int.natAbs hQ
    rwa [Int.natAbs_mul, Int.natAbs_mul, Int.natAbs_mul, Int.natAbs_natCast, Int.natAbs_natCast] at this
  have e1 : roundRatio b64 (s != t) i.natAbs j.natAbs ((m : Int) - k) = roundRatio b64 (s != t) Q.natAbs 1 (-(n : Int)) := by
    refine roundRatio_congr hj' (by decide) ?_
    rw [Nat.mul_one]
    have ea : m + n = ((m : Int) - k - -(n : Int)).toNat + min (m + n) k := by omega
    have eb : k = (-(n : Int) - ((m : Int) - k)).toNat + min (m + n) k := by omega
    generalize ((m : Int) - k - -(n : Int)).toNat = u at ea ⊢
    generalize (-(n : Int) - ((m : Int) - k)).toNat = w at eb ⊢
    have hQ2 : i.natAbs * 2 ^ (u + min (m + n) k) = Q.natAbs * j.natAbs * 2 ^ (w + min (m + n) k) := by rw [← ea, ← eb]; exact hQn
    rw [Nat.pow_add, Nat.pow_add, ← Nat.mul_assoc, ← Nat.mul_assoc] at hQ2
    exact Nat.eq_of_mul_eq_mul_right (Nat.two_pow_pos _) hQ2
  rw [e1, roundRatio_exact good_b64 (by decide) hfit hf] at hv
  unfold DS; rw [hv]
  show signed (s != t) (c' * 2 ^ (q' + (n : Int)).toNat) = Q * _
  rw [show -(n : Int) - q' = -(q' + n) by omega, show q' - -(n : Int) = q' + n by omega, Nat.mul_one] at hf
  rw [← hf, signed_mul]
  congr 1
  have hp : (0 : Int) < ((2 ^ (m + n) : Nat) : Int) := by have := Nat.two_pow_pos (m + n); omega
  have hp2 : (0 : Int) < ((2 ^ k : Nat) : Int) := by have := Nat.two_pow_pos k; omega
  generalize ((2 ^ (m + n) : Nat) : Int) = P1 at hQ hp
  generalize ((2 ^ k : Nat) : Int) = P2 at hQ hp2
  -- the sign of the quotient
  have key : signed (s != t) (Q.natAbs * (j.natAbs * j.natAbs)) = Q * (j.natAbs * j.natAbs : Nat) := by
    have e2 : signed (s != t) (i.natAbs * j.natAbs) = i * j := by rw [signed_xor, hs, ht]
    have e3 : i.natAbs * P1.natAbs = Q.natAbs * j.natAbs * P2.natAbs := by
      have := congrArg Int.natAbs hQ
      rwa [Int.natAbs_mul, Int.natAbs_mul, Int.natAbs_mul] at this
    have e4 : signed (s != t) (Q.natAbs * (j.natAbs * j.natAbs)) * P2 = Q * (j.natAbs * j.natAbs : Nat) * P2 := by
      have p2 : P2 = (P2.natAbs : Int) := by omega
      have p1 : P1 = (P1.natAbs : Int) := by omega
      calc signed (s != t) (Q.natAbs * (j.natAbs * j.natAbs)) * P2
          = signed (s != t) (Q.natAbs * (j.natAbs * j.natAbs) * P2.natAbs) := by rw [signed_mul _ (Q.natAbs * (j.natAbs * j.natAbs)), ← p2]
        _ = signed (s != t) (i.natAbs * j.natAbs * P1.natAbs) := by
            congr 1
            calc Q.natAbs * (j.natAbs * j.natAbs) * P2.natAbs = (Q.natAbs * j.natAbs * P2.natAbs) * j.natAbs := by ac_rfl
              _ = i.natAbs * j.natAbs * P1.natAbs := by rw [← e3]; ac_rfl
        _ = i * j * P1 := by rw [signed_mul, e2, ← p1]
        _ = (i * P1) * j := by ac_rfl
        _ = Q * (j * j) * P2 := by rw [hQ]; ac_rfl
        _ = Q * (j.natAbs * j.natAbs : Nat) * P2 := by rw [Int.natCast_mul, Int.natAbs_mul_self' j]
    exact Int.eq_of_mul_eq_mul_right (by omega) e4
  rw [signed_mul] at key
  exact Int.eq_of_mul_eq_mul_right (by have : 0 < j.natAbs * j.natAbs := Nat.mul_pos hj' hj'; omega) key
/-- by a power of two -/
theorem DS.divp {k t : Nat} {i : Int} {x y : UInt64} (hx : DS k i x) (hy : DS 0 ((2 ^ t : Nat) : Int) y) (hb : i.natAbs ≤ 2 ^ 53) (hn : k + t ≤ 1022) : DS (k + t) i (FP.ddiv x y) :=
  DS.div hx hy (by have := Nat.two_pow_pos t; omega) (by rw [Nat.zero_add, Nat.pow_add, Int.natCast_mul]; ac_rfl) hb hn
theorem sft_rem (k : Nat) (x y : Datum) : exactRemainder (sft k x) (sft k y) = sft k (exactRemainder x y) := by
  cases x with
  | nan => rfl
  | inf s => rfl
  | fin s c q =>
    cases y with
    | nan => rfl
    | inf t => rfl
    | fin t d r =>
      have h : min (q + (k : Int)) (r + k) = min q r + k := by omega
      have h1 : q + (k : Int) - (min q r + k) = q - min q r := by omega
      have h2 : r + (k : Int) - (min q r + k) = r - min q r := by omega
      show (if d = 0 then Datum.nan else .fin s (c * 2 ^ (q + (k : Int) - min (q + k) (r + k)).toNat % (d * 2 ^ (r + (k : Int) - min (q + k) (r + k)).toNat)) (min (q + k) (r + k))) = sft k (if d = 0 then Datum.nan else .fin s (c * 2 ^ (q - min q r).toNat % (d * 2 ^ (r - min q r).toNat)) (min q r))
      rw [h, h1, h2]; split <;> rfl
theorem signed_tmod {s : Bool} {i : Int} (hs : signed s i.natAbs = i) (j : Int) : signed s (i.natAbs % j.natAbs) = i.tmod j := by
  cases i with
  | ofNat a =>
    have e : Int.tmod (Int.ofNat a) j = ((a % j.natAbs : Nat) : Int) := by cases j <;> rfl
    rw [e]; show signed s (a % j.natAbs) = _
    have hs' : signed s a = (a : Int) := hs
    cases s with
    | false => rfl
    | true =>
      have h0 : a = 0 := by
        have : -(a : Int) = (a : Int) := hs'
        omega
      subst h0; rw [Nat.zero_mod]; rfl
  | negSucc a =>
    have e : Int.tmod (Int.negSucc a) j = -(((a + 1) % j.natAbs : Nat) : Int) := by cases j <;> rfl
    rw [e]; show signed s ((a + 1) % j.natAbs) = _
    cases s with
    | true => rfl
    | false =>
      have : ((a + 1 : Nat) : Int) = Int.negSucc a := hs
      omega
theorem whole_rem {i j : Int} {x y : Datum} (hx : Whole i x) (hy : Whole j y) (hj : j ≠ 0) : Whole (i.tmod j) (exactRemainder x y) := by
  cases x with
  | nan => exact hx.elim
  | inf => exact hx.elim
  | fin s c q =>
  cases y with
  | nan => exact hy.elim
  | inf => exact hy.elim
  | fin t d r =>
    have hd : d ≠ 0 := fun z => hj ((whole_zero hy).mp z)
    have h1 := congrArg Int.natAbs (whole_units hx (e := min q r) (by omega))
    have h2 := congrArg Int.natAbs (whole_units hy (e := min q r) (by omega))
    rw [Int.natAbs_mul, Int.natAbs_mul, Int.natAbs_natCast, Int.natAbs_natCast, natAbs_signed] at h1 h2
    show Whole _ (if d = 0 then _ else Datum.fin s (inUnits c q (min q r) % inUnits d r (min q r)) (min q r))
    rw [if_neg hd]
    show signed s (inUnits c q (min q r) % inUnits d r (min q r) * 2 ^ (min q r).toNat) = i.tmod j * ((2 ^ (-(min q r)).toNat : Nat) : Int)
    rw [← Nat.mul_mod_mul_right, h1, h2, Nat.mul_mod_mul_right, signed_mul, signed_tmod (whole_signed hx)]
theorem DS.rem {k : Nat} {i j : Int} {x y : UInt64} (hx : DS k i x) (hy : DS k j y) (hj : j ≠ 0) (hb : (i.tmod j).natAbs ≤ 2 ^ 53) (hk : k ≤ 1022) : DS k (i.tmod j) (FP.drem x y) := by
  show Whole _ (sft k (val64 (Core.drem x y)))
  rw [val64_drem]; refine ds_round hk hb ?_; rw [← sft_rem]; exact whole_rem hx hy hj
end Dyad
theorem own_mul {a b A B : Int} (h1 : -A ≤ a) (h2 : a ≤ A) (h3 : -B ≤ b) (h4 : b ≤ B) : -(A * B) ≤ a * b ∧ a * b ≤ A * B := by
  have e : (a * b).natAbs ≤ A.natAbs * B.natAbs := by rw [Int.natAbs_mul]; exact Nat.mul_le_mul (by omega) (by omega)
  have hA : 0 ≤ A := by omega
  have hB : 0 ≤ B := by omega
  have e2 : ((A.natAbs * B.natAbs : Nat) : Int) = A * B := by rw [Int.natCast_mul, Int.natAbs_of_nonneg hA, Int.natAbs_of_nonneg hB]
  omega

theorem d1_0 : decode method_2_code 0 = .ok (.iload_n 0, 1) := by decide +kernel
theorem d1_1 : decode method_2_code 1 = .ok (.bipush 12, 2) := by decide +kernel
theorem d1_3 : decode method_2_code 3 = .ok (.ishl, 1) := by decide +kernel
theorem d1_4 : decode method_2_code 4 = .ok (.bipush 12, 2) := by decide +kernel
theorem d1_6 : decode method_2_code 6 = .ok (.ishr, 1) := by decide +kernel
theorem d1_7 : decode method_2_code 7 = .ok (.ireturn, 1) := by decide +kernel
theorem pn0 : plainName "org/rupturecast/faults/VectorDotPinLaw" = true := by first | (simp [plainName, overriddenIn]; done) | decide +kernel
theorem ef1_rm1 (m : MethodId) (x0 : Int32) : entryFrame m #[(.int x0)] 1 = mkF m 0 #[.val (.int x0)] [] := by first | (simp [entryFrame, mkF, argsToLocals, Value.category]; done) | rfl
def Q1 (Z : State) (pp : Int32) (h0 : Heap) (n0 : Nat) (v : Option Value) (h : Heap) (L : List Loc) : Prop := ∃ z : Int32, v = some (.int z) ∧ (-524288 ≤ z.toInt ∧ z.toInt ≤ 524288) ∧ Fr n0 L ∧ h = h0
set_option maxRecDepth 65536 in
set_option maxHeartbeats 40000000 in
theorem rm1 (l : Launch) (Z : State) (a0 : Array Value) (hw : ∀ d ∈ tables_1, d.before a0 Z = true) (ws : List Jvm.Cond) (pp : Int32) (h0 : Heap) (n0 : Nat) (Z0 : n0 ≤ h0.size) :
    MetFree l (⟨"org/rupturecast/faults/VectorDotPinLaw", "coord", "(I)I"⟩ : MethodName) (head1 (Jvm.Cond.code (⟨"org/rupturecast/faults/VectorDotPinLaw", "coord", "(I)I"⟩ : MethodName) method_2_code 1 (some .int) :: ws) ({ frames := 0, cells := 0, slots := 0, locals := 0 } : Room)) (fun aa UU => aa = #[(.int pp)] ∧ Z.Warmed39 UU.vm ∧ UU.heap = h0) (fun _ _ _ _ _ => True) (fun _ UU oo UU' => ∃ vv LL, oo = .returned vv ∧ Q1 Z pp h0 n0 vv UU'.heap LL ∧ FrameEnd UU oo UU' LL ({ frames := 0, cells := 0, slots := 0, locals := 0 } : Room).cells ({ frames := 0, cells := 0, slots := 0, locals := 0 } : Room).slots) := by
  refine MetFree.of_bodySF (plainFor_of_name pn0) hisR ?_
  intro p e s m args below meth c s₁ Bd hml0 hP hK
  obtain ⟨rfl, hZ, hh⟩ := hP
  have hx := Bd.exec
  have hby := Bd.bytes
  have hlk : meth.locks = false := BodyLoose.notSynchronized Bd
  have hret := Bd.returns
  have hml : c.maxLocals = 1 := hml0
  have hown : s.vm.findClass "org/rupturecast/faults/VectorDotPinLaw" = some m.cls := findClass_of_methodNamed Bd.named
  have hnm := (name_of_methodNamed Bd.named Bd.method).1
  have X0 : Stand p l e ({ frames := 0, cells := 0, slots := 0, locals := 0 } : Room) s m #[(.int pp)] below meth c s₁ [] 0 0 := Stand.of_body Bd
  have e0 : s₁.heap = h0 := by rw [← hh, Bd.state]; rfl
  have N0 := Fr.nil n0
  have r_pp := rng32 pp
  show Dn p e below s (Q1 Z pp h0 n0) ({ frames := 0, cells := 0, slots := 0, locals := 0 } : Room).cells ({ frames := 0, cells := 0, slots := 0, locals := 0 } : Room).slots (s₁.setTop (entryFrame m #[(.int pp)] 1))
  refine Dn.st (fun _ kk => castTop (ef1_rm1 m pp) kk) ?_
  show Dn p e below s _ _ _ (s₁.setTop (mkF m 0 #[.val (.int pp)] []))
  refine Dn.st (fun _ kk => XS.iloadN X0.here hx rfl (hb hby d1_0) rfl  (XS.bipush X0.here hx rfl (hb hby d1_1) (XS.ishl X0.here hx rfl (hb hby d1_3) rfl (kk)))) ?_
  show Dn p e below s _ _ _ (s₁.setTop (mkF m 4 #[.val (.int pp)] [(.int (pp <<< ((12 : Int32) &&& 31)))]))
  generalize hv3 : ((pp <<< ((12 : Int32) &&& 31)) : Int32) = v3
  have q3 : (v3.toInt - pp.toInt * 4096) % 4294967296 = 0 := by have qq := c_ishl pp (12 : Int32) 12 (by decide); rw [hv3] at qq; exact qq
  have r3 := rng32 v3
  show Dn p e below s _ _ _ (s₁.setTop (mkF m 4 #[.val (.int pp)] [(.int v3)]))
  refine Dn.st (fun _ kk => XS.bipush X0.here hx rfl (hb hby d1_4) (XS.ishr X0.here hx rfl (hb hby d1_6) rfl (kk))) ?_
  show Dn p e below s _ _ _ (s₁.setTop (mkF m 7 #[.val (.int pp)] [(.int (v3 >>> ((12 : Int32) &&& 31)))]))
  generalize hv6 : ((v3 >>> ((12 : Int32) &&& 31)) : Int32) = v6
  have q6 : v6.toInt = v3.toInt / 4096 := by have qq := c_ishr v3 (12 : Int32) 12 (by decide); rw [hv6] at qq; exact qq
  have r6 := rng32 v6
  show Dn p e below s _ _ _ (s₁.setTop (mkF m 7 #[.val (.int pp)] [(.int v6)]))
  exact Dn.ret X0 hlk hx hret rfl (Or.inl ⟨rfl, Or.inl rfl, _, rfl⟩) (hb hby d1_7) (by rw [e0]; exact ⟨_, rfl, by omega, N0, rfl⟩) (by decide) (by decide)

theorem d3_0 : decode jdk_30_method_1_code 0 = .ok (.aload_n 0, 1) := by decide +kernel
theorem d3_1 : decode jdk_30_method_1_code 1 = .ok (.invokespecial 1, 3) := by decide +kernel
theorem d3_4 : decode jdk_30_method_1_code 4 = .ok (.return_, 1) := by decide +kernel
theorem pn1 : plainName "java/lang/Record" = true := by first | (simp [plainName, overriddenIn]; done) | decide +kernel
theorem ef3_rm3 (m : MethodId) (x0 : Addr) : entryFrame m #[(.ref x0)] 1 = mkF m 0 #[.val (.ref x0)] [] := by first | (simp [entryFrame, mkF, argsToLocals, Value.category]; done) | rfl
def Q3 (Z : State) (a : Addr) (h0 : Heap) (n0 : Nat) (v : Option Value) (h : Heap) (L : List Loc) : Prop := v = none ∧ Fr n0 L ∧ h = h0
set_option maxRecDepth 65536 in
set_option maxHeartbeats 40000000 in
theorem rm3 (l : Launch) (Z : State) (a0 : Array Value) (hw : ∀ d ∈ tables_1, d.before a0 Z = true) (ws : List Jvm.Cond) (a : Addr) (h0 : Heap) (n0 : Nat) (Z0 : n0 ≤ h0.size) :
    MetFree l (⟨"java/lang/Record", "<init>", "()V"⟩ : MethodName) (head1 (Jvm.Cond.code (⟨"java/lang/Record", "<init>", "()V"⟩ : MethodName) jdk_30_method_1_code 1 none :: ws) ({ frames := 1, cells := 0, slots := 0, locals := 12 } : Room)) (fun aa UU => aa = #[(.ref a)] ∧ Z.Warmed39 UU.vm ∧ UU.heap = h0) (fun _ _ _ _ _ => True) (fun _ UU oo UU' => ∃ vv LL, oo = .returned vv ∧ Q3 Z a h0 n0 vv UU'.heap LL ∧ FrameEnd UU oo UU' LL ({ frames := 1, cells := 0, slots := 0, locals := 12 } : Room).cells ({ frames := 1, cells := 0, slots := 0, locals := 12 } : Room).slots) := by
  refine MetFree.of_bodySF (plainFor_of_name pn1) hisR ?_
  intro p e s m args below meth c s₁ Bd hml0 hP hK
  obtain ⟨rfl, hZ, hh⟩ := hP
  have hx := Bd.exec
  have hby := Bd.bytes
  have hlk : meth.locks = false := BodyLoose.notSynchronized Bd
  have hret := Bd.returns
  have hml : c.maxLocals = 1 := hml0
  have hown : s.vm.findClass "java/lang/Record" = some m.cls := findClass_of_methodNamed Bd.named
  have hnm := (name_of_methodNamed Bd.named Bd.method).1
  have X0 : Stand p l e ({ frames := 1, cells := 0, slots := 0, locals := 12 } : Room) s m #[(.ref a)] below meth c s₁ [] 0 0 := Stand.of_body Bd
  have e0 : s₁.heap = h0 := by rw [← hh, Bd.state]; rfl
  have N0 := Fr.nil n0
  show Dn p e below s (Q3 Z a h0 n0) ({ frames := 1, cells := 0, slots := 0, locals := 12 } : Room).cells ({ frames := 1, cells := 0, slots := 0, locals := 12 } : Room).slots (s₁.setTop (entryFrame m #[(.ref a)] 1))
  refine Dn.st (fun _ kk => castTop (ef3_rm3 m a) kk) ?_
  show Dn p e below s _ _ _ (s₁.setTop (mkF m 0 #[.val (.ref a)] []))
  refine Dn.st (fun _ kk => XS.aloadN X0.here hx rfl (hb hby d3_0) rfl rfl (kk)) ?_
  show Dn p e below s _ _ _ (s₁.setTop (mkF m 1 #[.val (.ref a)] [(.ref a)]))
  obtain ⟨T1, X1, e1, st1⟩ := initO X0 hx hZ hown (hw _ (List.mem_of_getElem? (i := 15) rfl)) (hw _ (List.mem_of_getElem? (i := 16) rfl)) (hw _ (List.mem_of_getElem? (i := 17) rfl)) e0 (g := (mkF m 1 #[.val (.ref a)] [(.ref a)])) rfl (by rw [hml]; rfl) rfl (hb hby d3_1) (by decide) (W := 0) (by show 2 * 0 + _ ≤ _; exact Nat.le_of_eq rfl) (by decide)
  refine Dn.st st1 ?_
  show Dn p e below s _ _ _ (T1.setTop (mkF m 4 #[.val (.ref a)] []))
  exact Dn.ret0 X1 hlk hx hret (hb hby d3_4) (by rw [e1]; exact ⟨rfl, N0, rfl⟩) (by decide) (by decide)

theorem d2_0 : decode prog_43_method_1_code 0 = .ok (.aload_n 0, 1) := by decide +kernel
theorem d2_1 : decode prog_43_method_1_code 1 = .ok (.invokespecial 1, 3) := by decide +kernel
theorem d2_4 : decode prog_43_method_1_code 4 = .ok (.aload_n 0, 1) := by decide +kernel
theorem d2_5 : decode prog_43_method_1_code 5 = .ok (.dload_n 1, 1) := by decide +kernel
theorem d2_6 : decode prog_43_method_1_code 6 = .ok (.putfield 7, 3) := by decide +kernel
theorem d2_9 : decode prog_43_method_1_code 9 = .ok (.aload_n 0, 1) := by decide +kernel
theorem d2_10 : decode prog_43_method_1_code 10 = .ok (.dload_n 3, 1) := by decide +kernel
theorem d2_11 : decode prog_43_method_1_code 11 = .ok (.putfield 13, 3) := by decide +kernel
theorem d2_14 : decode prog_43_method_1_code 14 = .ok (.aload_n 0, 1) := by decide +kernel
theorem d2_15 : decode prog_43_method_1_code 15 = .ok (.dload 5, 2) := by decide +kernel
theorem d2_17 : decode prog_43_method_1_code 17 = .ok (.putfield 16, 3) := by decide +kernel
theorem d2_20 : decode prog_43_method_1_code 20 = .ok (.return_, 1) := by decide +kernel
theorem pd0 : parseMethodDescriptor "()V" = some ⟨[], none⟩ := by decide +kernel
theorem pn2 : plainName "org/rupturecast/faults/Vector" = true := by first | (simp [plainName, overriddenIn]; done) | decide +kernel
theorem ef2_rm2 (m : MethodId) (x0 : Addr) (x1 : UInt64) (x2 : UInt64) (x3 : UInt64) : entryFrame m #[(.ref x0), (.double x1), (.double x2), (.double x3)] 7 = mkF m 0 #[.val (.ref x0), .val (.double x1), .second, .val (.double x2), .second, .val (.double x3), .second] [] := by first | (simp [entryFrame, mkF, argsToLocals, Value.category]; done) | rfl
def Q2 (Z : State) (a : Addr) (x1 : UInt64) (y1 : UInt64) (z1 : UInt64) (h0 : Heap) (n0 : Nat) (v : Option Value) (h : Heap) (L : List Loc) : Prop := v = none ∧ Fr n0 L ∧ Keep h0 h [a] ∧ Exa Z h a "org/rupturecast/faults/Vector" ∧ (Fld Z h a "org/rupturecast/faults/Vector" "x" "D" (.double x1)) ∧ (Fld Z h a "org/rupturecast/faults/Vector" "y" "D" (.double y1)) ∧ (Fld Z h a "org/rupturecast/faults/Vector" "z" "D" (.double z1))
set_option maxRecDepth 65536 in
set_option maxHeartbeats 40000000 in
theorem rm2 (l : Launch) (Z : State) (a0 : Array Value) (hw : ∀ d ∈ tables_1, d.before a0 Z = true) (ws : List Jvm.Cond) (a : Addr) (x1 : UInt64) (y1 : UInt64) (z1 : UInt64) (h0 : Heap) (n0 : Nat) (Z0 : n0 ≤ h0.size) (ga : n0 ≤ a) (Ea : Exa Z h0 a "org/rupturecast/faults/Vector") (F0 : Fld Z h0 a "org/rupturecast/faults/Vector" "x" "D" (.double 0)) (F1 : Fld Z h0 a "org/rupturecast/faults/Vector" "y" "D" (.double 0)) (F2 : Fld Z h0 a "org/rupturecast/faults/Vector" "z" "D" (.double 0)) :
    MetFree l (⟨"org/rupturecast/faults/Vector", "<init>", "(DDD)V"⟩ : MethodName) (head1 (Jvm.Cond.code (⟨"org/rupturecast/faults/Vector", "<init>", "(DDD)V"⟩ : MethodName) prog_43_method_1_code 7 none :: ws) ({ frames := 2, cells := 0, slots := 0, locals := 24 } : Room)) (fun aa UU => aa = #[(.ref a), (.double x1), (.double y1), (.double z1)] ∧ Z.Warmed39 UU.vm ∧ UU.heap = h0) (fun _ _ _ _ _ => True) (fun _ UU oo UU' => ∃ vv LL, oo = .returned vv ∧ Q2 Z a x1 y1 z1 h0 n0 vv UU'.heap LL ∧ FrameEnd UU oo UU' LL ({ frames := 2, cells := 0, slots := 0, locals := 24 } : Room).cells ({ frames := 2, cells := 0, slots := 0, locals := 24 } : Room).slots) := by
  refine MetFree.of_bodySF (plainFor_of_name pn2) hisR ?_
  intro p e s m args below meth c s₁ Bd hml0 hP hK
  obtain ⟨rfl, hZ, hh⟩ := hP
  have hx := Bd.exec
  have hby := Bd.bytes
  have hlk : meth.locks = false := BodyLoose.notSynchronized Bd
  have hret := Bd.returns
  have hml : c.maxLocals = 7 := hml0
  have hown : s.vm.findClass "org/rupturecast/faults/Vector" = some m.cls := findClass_of_methodNamed Bd.named
  have hnm := (name_of_methodNamed Bd.named Bd.method).1
  have X0 : Stand p l e ({ frames := 2, cells := 0, slots := 0, locals := 24 } : Room) s m #[(.ref a), (.double x1), (.double y1), (.double z1)] below meth c s₁ [] 0 0 := Stand.of_body Bd
  have e0 : s₁.heap = h0 := by rw [← hh, Bd.state]; rfl
  have N0 := Fr.nil n0
  show Dn p e below s (Q2 Z a x1 y1 z1 h0 n0) ({ frames := 2, cells := 0, slots := 0, locals := 24 } : Room).cells ({ frames := 2, cells := 0, slots := 0, locals := 24 } : Room).slots (s₁.setTop (entryFrame m #[(.ref a), (.double x1), (.double y1), (.double z1)] 7))
  refine Dn.st (fun _ kk => castTop (ef2_rm2 m a x1 y1 z1) kk) ?_
  show Dn p e below s _ _ _ (s₁.setTop (mkF m 0 #[.val (.ref a), .val (.double x1), .second, .val (.double y1), .second, .val (.double z1), .second] []))
  refine Dn.st (fun _ kk => XS.aloadN X0.here hx rfl (hb hby d2_0) rfl rfl (kk)) ?_
  show Dn p e below s _ _ _ (s₁.setTop (mkF m 1 #[.val (.ref a), .val (.double x1), .second, .val (.double y1), .second, .val (.double z1), .second] [(.ref a)]))
  obtain ⟨_, _, ⟨T1, L1, k1, n1⟩, -, X1, ⟨Lc1, hQ1, l1, y1, z1⟩, st1⟩ := X0.specialBack hx (y := (⟨"java/lang/Record", "<init>", "()V"⟩ : MethodName)) rfl hown (mvT hZ (hw _ (List.mem_of_getElem? (i := 10) rfl))) (mvT hZ (hw _ (List.mem_of_getElem? (i := 11) rfl))) (mvT hZ (hw _ (List.mem_of_getElem? (i := 14) rfl))) (by decide) (backOf (W := 0) (rm3 l Z a0 hw [] a  h0 n0 Z0 ) hZ (hw _ (List.mem_of_getElem? (i := 14) rfl)) (hw _ (List.mem_of_getElem? (i := 13) rfl)) (by decide) (by decide)) (g := (mkF m 1 #[.val (.ref a), .val (.double x1), .second, .val (.double y1), .second, .val (.double z1), .second] [(.ref a)])) rfl (by rw [hml]; rfl) (Steps.refl _) (a := a) (argsL := []) (rest := []) (lenOf pd0 rfl) rfl (by show 2 * 0 + _ ≤ _; exact Nat.le_of_eq rfl) (hb hby d2_1) (fun _ _ => ⟨rfl, e0, (by decide : 0 + 0 ≤ _), (by decide : 0 + 0 ≤ _)⟩)
  dsimp only [Pt.U, Pt.locs, Pt.cells, Pt.slots] at X1 l1 y1 z1 st1 hQ1
  subst l1 y1 z1
  obtain ⟨rfl, Nq1, hh1⟩ := hQ1
  have N1 := Fr.app N0 Nq1
  refine Dn.tr st1 ?_
  show Dn p e below s _ _ _ (T1.setTop (mkF m 4 #[.val (.ref a), .val (.double x1), .second, .val (.double y1), .second, .val (.double z1), .second] []))
  refine Dn.st (fun _ kk => XS.aloadN X1.here hx rfl (hb hby d2_4) rfl rfl (XS.dloadN X1.here hx rfl (hb hby d2_5) rfl  (kk))) ?_
  show Dn p e below s _ _ _ (T1.setTop (mkF m 6 #[.val (.ref a), .val (.double x1), .second, .val (.double y1), .second, .val (.double z1), .second] [(.double x1), (.ref a)]))
  obtain ⟨T6, h6, X6, e6, W6, st6⟩ := putF X1 hx hZ hown (host := "") (Or.inl (hw _ (List.mem_of_getElem? (i := 18) rfl))) Via.refl hh1 F0 Ea (Or.inr ⟨(hw _ (List.mem_of_getElem? (i := 19) rfl)), rfl, hnm⟩) (hw _ (List.mem_of_getElem? (i := 5) rfl)) (ty := .double) (by decide) rfl rfl (g := (mkF m 6 #[.val (.ref a), .val (.double x1), .second, .val (.double y1), .second, .val (.double z1), .second] [(.double x1), (.ref a)])) rfl rfl (hb hby d2_6)
  have E_a_6 := Ea.wr W6
  have F_a_y_6 := F1.other W6 (Or.inr (slot_ne (Or.inr (hw _ (List.mem_of_getElem? (i := 21) rfl))) (Or.inr (hw _ (List.mem_of_getElem? (i := 19) rfl))) (by decide) (t := .double) (t' := .double) (by decide) (by decide)))
  have F_a_z_6 := F2.other W6 (Or.inr (slot_ne (Or.inr (hw _ (List.mem_of_getElem? (i := 23) rfl))) (Or.inr (hw _ (List.mem_of_getElem? (i := 19) rfl))) (by decide) (t := .double) (t' := .double) (by decide) (by decide)))
  have F_a_x_6 := F0.same W6
  have K6 := (Keep.refl h0 [a]).wr W6 (Or.inl (List.mem_of_getElem? (i := 0) rfl))
  have N6 := Fr.snoc X6 N1 ga
  have Z6 : n0 ≤ h6.size := Nat.le_trans Z0 (Keep.of_wr W6).1
  refine Dn.st st6 ?_
  show Dn p e below s _ _ _ (T6.setTop (mkF m 9 #[.val (.ref a), .val (.double x1), .second, .val (.double y1), .second, .val (.double z1), .second] []))
  refine Dn.st (fun _ kk => XS.aloadN X6.here hx rfl (hb hby d2_9) rfl rfl (XS.dloadN X6.here hx rfl (hb hby d2_10) rfl  (kk))) ?_
  show Dn p e below s _ _ _ (T6.setTop (mkF m 11 #[.val (.ref a), .val (.double x1), .second, .val (.double y1), .second, .val (.double z1), .second] [(.double y1), (.ref a)]))
  obtain ⟨T11, h11, X11, e11, W11, st11⟩ := putF X6 hx hZ hown (host := "") (Or.inl (hw _ (List.mem_of_getElem? (i := 20) rfl))) Via.refl e6 F_a_y_6 E_a_6 (Or.inr ⟨(hw _ (List.mem_of_getElem? (i := 21) rfl)), rfl, hnm⟩) (hw _ (List.mem_of_getElem? (i := 5) rfl)) (ty := .double) (by decide) rfl rfl (g := (mkF m 11 #[.val (.ref a), .val (.double x1), .second, .val (.double y1), .second, .val (.double z1), .second] [(.double y1), (.ref a)])) rfl rfl (hb hby d2_11)
  have E_a_11 := E_a_6.wr W11
  have F_a_x_11 := F_a_x_6.other W11 (Or.inr (slot_ne (Or.inr (hw _ (List.mem_of_getElem? (i := 19) rfl))) (Or.inr (hw _ (List.mem_of_getElem? (i := 21) rfl))) (by decide) (t := .double) (t' := .double) (by decide) (by decide)))
  have F_a_z_11 := F_a_z_6.other W11 (Or.inr (slot_ne (Or.inr (hw _ (List.mem_of_getElem? (i := 23) rfl))) (Or.inr (hw _ (List.mem_of_getElem? (i := 21) rfl))) (by decide) (t := .double) (t' := .double) (by decide) (by decide)))
  have F_a_y_11 := F_a_y_6.same W11
  have K11 := K6.wr W11 (Or.inl (List.mem_of_getElem? (i := 0) rfl))
  have N11 := Fr.snoc X11 N6 ga
  have Z11 : n0 ≤ h11.size := Nat.le_trans Z6 (Keep.of_wr W11).1
  refine Dn.st st11 ?_
  show Dn p e below s _ _ _ (T11.setTop (mkF m 14 #[.val (.ref a), .val (.double x1), .second, .val (.double y1), .second, .val (.double z1), .second] []))
  refine Dn.st (fun _ kk => XS.aloadN X11.here hx rfl (hb hby d2_14) rfl rfl (XS.dload X11.here hx rfl (hb hby d2_15) rfl  (kk))) ?_
  show Dn p e below s _ _ _ (T11.setTop (mkF m 17 #[.val (.ref a), .val (.double x1), .second, .val (.double y1), .second, .val (.double z1), .second] [(.double z1), (.ref a)]))
  obtain ⟨T17, h17, X17, e17, W17, st17⟩ := putF X11 hx hZ hown (host := "") (Or.inl (hw _ (List.mem_of_getElem? (i := 22) rfl))) Via.refl e11 F_a_z_11 E_a_11 (Or.inr ⟨(hw _ (List.mem_of_getElem? (i := 23) rfl)), rfl, hnm⟩) (hw _ (List.mem_of_getElem? (i := 5) rfl)) (ty := .double) (by decide) rfl rfl (g := (mkF m 17 #[.val (.ref a), .val (.double x1), .second, .val (.double y1), .second, .val (.double z1), .second] [(.double z1), (.ref a)])) rfl rfl (hb hby d2_17)
  have E_a_17 := E_a_11.wr W17
  have F_a_x_17 := F_a_x_11.other W17 (Or.inr (slot_ne (Or.inr (hw _ (List.mem_of_getElem? (i := 19) rfl))) (Or.inr (hw _ (List.mem_of_getElem? (i := 23) rfl))) (by decide) (t := .double) (t' := .double) (by decide) (by decide)))
  have F_a_y_17 := F_a_y_11.other W17 (Or.inr (slot_ne (Or.inr (hw _ (List.mem_of_getElem? (i := 21) rfl))) (Or.inr (hw _ (List.mem_of_getElem? (i := 23) rfl))) (by decide) (t := .double) (t' := .double) (by decide) (by decide)))
  have F_a_z_17 := F_a_z_11.same W17
  have K17 := K11.wr W17 (Or.inl (List.mem_of_getElem? (i := 0) rfl))
  have N17 := Fr.snoc X17 N11 ga
  have Z17 : n0 ≤ h17.size := Nat.le_trans Z11 (Keep.of_wr W17).1
  refine Dn.st st17 ?_
  show Dn p e below s _ _ _ (T17.setTop (mkF m 20 #[.val (.ref a), .val (.double x1), .second, .val (.double y1), .second, .val (.double z1), .second] []))
  exact Dn.ret0 X17 hlk hx hret (hb hby d2_20) (by rw [e17]; exact ⟨rfl, N17, K17, E_a_17, F_a_x_17, F_a_y_17, F_a_z_17⟩) (by decide) (by decide)

theorem d5_0 : decode prog_43_method_4_code 0 = .ok (.aload_n 0, 1) := by decide +kernel
theorem d5_1 : decode prog_43_method_4_code 1 = .ok (.getfield 7, 3) := by decide +kernel
theorem d5_4 : decode prog_43_method_4_code 4 = .ok (.aload_n 1, 1) := by decide +kernel
theorem d5_5 : decode prog_43_method_4_code 5 = .ok (.getfield 7, 3) := by decide +kernel
theorem d5_8 : decode prog_43_method_4_code 8 = .ok (.dmul, 1) := by decide +kernel
theorem d5_9 : decode prog_43_method_4_code 9 = .ok (.aload_n 0, 1) := by decide +kernel
theorem d5_10 : decode prog_43_method_4_code 10 = .ok (.getfield 13, 3) := by decide +kernel
theorem d5_13 : decode prog_43_method_4_code 13 = .ok (.aload_n 1, 1) := by decide +kernel
theorem d5_14 : decode prog_43_method_4_code 14 = .ok (.getfield 13, 3) := by decide +kernel
theorem d5_17 : decode prog_43_method_4_code 17 = .ok (.dmul, 1) := by decide +kernel
theorem d5_18 : decode prog_43_method_4_code 18 = .ok (.dadd, 1) := by decide +kernel
theorem d5_19 : decode prog_43_method_4_code 19 = .ok (.aload_n 0, 1) := by decide +kernel
theorem d5_20 : decode prog_43_method_4_code 20 = .ok (.getfield 16, 3) := by decide +kernel
theorem d5_23 : decode prog_43_method_4_code 23 = .ok (.aload_n 1, 1) := by decide +kernel
theorem d5_24 : decode prog_43_method_4_code 24 = .ok (.getfield 16, 3) := by decide +kernel
theorem d5_27 : decode prog_43_method_4_code 27 = .ok (.dmul, 1) := by decide +kernel
theorem d5_28 : decode prog_43_method_4_code 28 = .ok (.dadd, 1) := by decide +kernel
theorem d5_29 : decode prog_43_method_4_code 29 = .ok (.dreturn, 1) := by decide +kernel
theorem ef5_rm5 (m : MethodId) (x0 : Addr) (x1 : Addr) : entryFrame m #[(.ref x0), (.ref x1)] 2 = mkF m 0 #[.val (.ref x0), .val (.ref x1)] [] := by first | (simp [entryFrame, mkF, argsToLocals, Value.category]; done) | rfl
def Q5 (Z : State) (a : Addr) (a2 : Addr) (x1 y1 z1 x2 y2 z2 : UInt64) (ix1 iy1 iz1 ix2 iy2 iz2 : Int) (h0 : Heap) (n0 : Nat) (v : Option Value) (h : Heap) (L : List Loc) : Prop := ∃ z, v = some (.double z) ∧ DS 0 (ix1 * ix2 + iy1 * iy2 + iz1 * iz2) z ∧ Fr n0 L ∧ h = h0
set_option maxRecDepth 65536 in
set_option maxHeartbeats 40000000 in
theorem rm5 (l : Launch) (Z : State) (a0 : Array Value) (hw : ∀ d ∈ tables_1, d.before a0 Z = true) (ws : List Jvm.Cond) (a : Addr) (a2 : Addr) (x1 y1 z1 x2 y2 z2 : UInt64) (ix1 iy1 iz1 ix2 iy2 iz2 : Int) (h0 : Heap) (n0 : Nat) (Z0 : n0 ≤ h0.size) (Fx1 : Fld Z h0 a "org/rupturecast/faults/Vector" "x" "D" (.double x1)) (Fy1 : Fld Z h0 a "org/rupturecast/faults/Vector" "y" "D" (.double y1)) (Fz1 : Fld Z h0 a "org/rupturecast/faults/Vector" "z" "D" (.double z1)) (Fx2 : Fld Z h0 a2 "org/rupturecast/faults/Vector" "x" "D" (.double x2)) (Fy2 : Fld Z h0 a2 "org/rupturecast/faults/Vector" "y" "D" (.double y2)) (Fz2 : Fld Z h0 a2 "org/rupturecast/faults/Vector" "z" "D" (.double z2)) (dx1 : DS 0 ix1 x1) (dy1 : DS 0 iy1 y1) (dz1 : DS 0 iz1 z1) (dx2 : DS 0 ix2 x2) (dy2 : DS 0 iy2 y2) (dz2 : DS 0 iz2 z2) (bx1 : -524288 ≤ ix1 ∧ ix1 ≤ 524288) (by1 : -524288 ≤ iy1 ∧ iy1 ≤ 524288) (bz1 : -524288 ≤ iz1 ∧ iz1 ≤ 524288) (bx2 : -524288 ≤ ix2 ∧ ix2 ≤ 524288) (by2 : -524288 ≤ iy2 ∧ iy2 ≤ 524288) (bz2 : -524288 ≤ iz2 ∧ iz2 ≤ 524288) :
    MetFree l (⟨"org/rupturecast/faults/Vector", "dot", "(Lorg/rupturecast/faults/Vector;)D"⟩ : MethodName) (head1 (Jvm.Cond.code (⟨"org/rupturecast/faults/Vector", "dot", "(Lorg/rupturecast/faults/Vector;)D"⟩ : MethodName) prog_43_method_4_code 2 (some .double) :: ws) ({ frames := 0, cells := 0, slots := 0, locals := 0 } : Room)) (fun aa UU => aa = #[(.ref a), (.ref a2)] ∧ Z.Warmed39 UU.vm ∧ UU.heap = h0) (fun _ _ _ _ _ => True) (fun _ UU oo UU' => ∃ vv LL, oo = .returned vv ∧ Q5 Z a a2 x1 y1 z1 x2 y2 z2 ix1 iy1 iz1 ix2 iy2 iz2 h0 n0 vv UU'.heap LL ∧ FrameEnd UU oo UU' LL ({ frames := 0, cells := 0, slots := 0, locals := 0 } : Room).cells ({ frames := 0, cells := 0, slots := 0, locals := 0 } : Room).slots) := by
  refine MetFree.of_bodySF (plainFor_of_name pn2) hisR ?_
  intro p e s m args below meth c s₁ Bd hml0 hP hK
  obtain ⟨rfl, hZ, hh⟩ := hP
  have hx := Bd.exec
  have hby := Bd.bytes
  have hlk : meth.locks = false := BodyLoose.notSynchronized Bd
  have hret := Bd.returns
  have hml : c.maxLocals = 2 := hml0
  have hown : s.vm.findClass "org/rupturecast/faults/Vector" = some m.cls := findClass_of_methodNamed Bd.named
  have hnm := (name_of_methodNamed Bd.named Bd.method).1
  have X0 : Stand p l e ({ frames := 0, cells := 0, slots := 0, locals := 0 } : Room) s m #[(.ref a), (.ref a2)] below meth c s₁ [] 0 0 := Stand.of_body Bd
  have e0 : s₁.heap = h0 := by rw [← hh, Bd.state]; rfl
  have N0 := Fr.nil n0
  show Dn p e below s (Q5 Z a a2 x1 y1 z1 x2 y2 z2 ix1 iy1 iz1 ix2 iy2 iz2 h0 n0) ({ frames := 0, cells := 0, slots := 0, locals := 0 } : Room).cells ({ frames := 0, cells := 0, slots := 0, locals := 0 } : Room).slots (s₁.setTop (entryFrame m #[(.ref a), (.ref a2)] 2))
  refine Dn.st (fun _ kk => castTop (ef5_rm5 m a a2) kk) ?_
  have mx := own_mul bx1.1 bx1.2 bx2.1 bx2.2
  have my := own_mul by1.1 by1.2 by2.1 by2.2
  have mz := own_mul bz1.1 bz1.2 bz2.1 bz2.2
  show Dn p e below s _ _ _ (s₁.setTop (mkF m 0 #[.val (.ref a), .val (.ref a2)] []))
  refine Dn.st (fun _ kk => XS.aloadN X0.here hx rfl (hb hby d5_0) rfl rfl (kk)) ?_
  show Dn p e below s _ _ _ (s₁.setTop (mkF m 1 #[.val (.ref a), .val (.ref a2)] [(.ref a)]))
  obtain ⟨T1, X1, e1, st1⟩ := getF X0 hx hZ hown (host := "") (Or.inl (hw _ (List.mem_of_getElem? (i := 18) rfl))) Via.refl e0 Fx1 (g := (mkF m 1 #[.val (.ref a), .val (.ref a2)] [(.ref a)])) rfl rfl (hb hby d5_1)
  refine Dn.st st1 ?_
  show Dn p e below s _ _ _ (T1.setTop (mkF m 4 #[.val (.ref a), .val (.ref a2)] [(.double x1)]))
  refine Dn.st (fun _ kk => XS.aloadN X1.here hx rfl (hb hby d5_4) rfl rfl (kk)) ?_
  show Dn p e below s _ _ _ (T1.setTop (mkF m 5 #[.val (.ref a), .val (.ref a2)] [(.ref a2), (.double x1)]))
  obtain ⟨T5, X5, e5, st5⟩ := getF X1 hx hZ hown (host := "") (Or.inl (hw _ (List.mem_of_getElem? (i := 18) rfl))) Via.refl e1 Fx2 (g := (mkF m 5 #[.val (.ref a), .val (.ref a2)] [(.ref a2), (.double x1)])) rfl rfl (hb hby d5_5)
  refine Dn.st st5 ?_
  show Dn p e below s _ _ _ (T5.setTop (mkF m 8 #[.val (.ref a), .val (.ref a2)] [(.double x2), (.double x1)]))
  have d8 : DS 0 (ix1 * ix2) (FP.dmul x1 x2) := DS.mul dx1 dx2 (by omega) (by decide)
  refine Dn.st (fun _ kk => XS.dmulS X5.here hx rfl (hb hby d5_8) rfl d8.nn rfl (kk)) ?_
  show Dn p e below s _ _ _ (T5.setTop (mkF m 9 #[.val (.ref a), .val (.ref a2)] [(.double (FP.dmul x1 x2))]))
  generalize hv8 : ((FP.dmul x1 x2) : UInt64) = v8 at d8 ⊢
  generalize hi8 : ((ix1 * ix2) : Int) = i8 at d8
  show Dn p e below s _ _ _ (T5.setTop (mkF m 9 #[.val (.ref a), .val (.ref a2)] [(.double v8)]))
  refine Dn.st (fun _ kk => XS.aloadN X5.here hx rfl (hb hby d5_9) rfl rfl (kk)) ?_
  show Dn p e below s _ _ _ (T5.setTop (mkF m 10 #[.val (.ref a), .val (.ref a2)] [(.ref a), (.double v8)]))
  obtain ⟨T10, X10, e10, st10⟩ := getF X5 hx hZ hown (host := "") (Or.inl (hw _ (List.mem_of_getElem? (i := 20) rfl))) Via.refl e5 Fy1 (g := (mkF m 10 #[.val (.ref a), .val (.ref a2)] [(.ref a), (.double v8)])) rfl rfl (hb hby d5_10)
  refine Dn.st st10 ?_
  show Dn p e below s _ _ _ (T10.setTop (mkF m 13 #[.val (.ref a), .val (.ref a2)] [(.double y1), (.double v8)]))
  refine Dn.st (fun _ kk => XS.aloadN X10.here hx rfl (hb hby d5_13) rfl rfl (kk)) ?_
  show Dn p e below s _ _ _ (T10.setTop (mkF m 14 #[.val (.ref a), .val (.ref a2)] [(.ref a2), (.double y1), (.double v8)]))
  obtain ⟨T14, X14, e14, st14⟩ := getF X10 hx hZ hown (host := "") (Or.inl (hw _ (List.mem_of_getElem? (i := 20) rfl))) Via.refl e10 Fy2 (g := (mkF m 14 #[.val (.ref a), .val (.ref a2)] [(.ref a2), (.double y1), (.double v8)])) rfl rfl (hb hby d5_14)
  refine Dn.st st14 ?_
  show Dn p e below s _ _ _ (T14.setTop (mkF m 17 #[.val (.ref a), .val (.ref a2)] [(.double y2), (.double y1), (.double v8)]))
  have d17 : DS 0 (iy1 * iy2) (FP.dmul y1 y2) := DS.mul dy1 dy2 (by omega) (by decide)
  refine Dn.st (fun _ kk => XS.dmulS X14.here hx rfl (hb hby d5_17) rfl d17.nn rfl (kk)) ?_
  show Dn p e below s _ _ _ (T14.setTop (mkF m 18 #[.val (.ref a), .val (.ref a2)] [(.double (FP.dmul y1 y2)), (.double v8)]))
  generalize hv17 : ((FP.dmul y1 y2) : UInt64) = v17 at d17 ⊢
  generalize hi17 : ((iy1 * iy2) : Int) = i17 at d17
  show Dn p e below s _ _ _ (T14.setTop (mkF m 18 #[.val (.ref a), .val (.ref a2)] [(.double v17), (.double v8)]))
  have d18 : DS 0 (i8 + i17) (FP.dadd v8 v17) := DS.add d8 d17 (by omega) (by decide)
  refine Dn.st (fun _ kk => XS.daddS X14.here hx rfl (hb hby d5_18) rfl d18.nn rfl (kk)) ?_
  show Dn p e below s _ _ _ (T14.setTop (mkF m 19 #[.val (.ref a), .val (.ref a2)] [(.double (FP.dadd v8 v17))]))
  generalize hv18 : ((FP.dadd v8 v17) : UInt64) = v18 at d18 ⊢
  generalize hi18 : ((i8 + i17) : Int) = i18 at d18
  show Dn p e below s _ _ _ (T14.setTop (mkF m 19 #[.val (.ref a), .val (.ref a2)] [(.double v18)]))
  refine Dn.st (fun _ kk => XS.aloadN X14.here hx rfl (hb hby d5_19) rfl rfl (kk)) ?_
  show Dn p e below s _ _ _ (T14.setTop (mkF m 20 #[.val (.ref a), .val (.ref a2)] [(.ref a), (.double v18)]))
  obtain ⟨T20, X20, e20, st20⟩ := getF X14 hx hZ hown (host := "") (Or.inl (hw _ (List.mem_of_getElem? (i := 22) rfl))) Via.refl e14 Fz1 (g := (mkF m 20 #[.val (.ref a), .val (.ref a2)] [(.ref a), (.double v18)])) rfl rfl (hb hby d5_20)
  refine Dn.st st20 ?_
  show Dn p e below s _ _ _ (T20.setTop (mkF m 23 #[.val (.ref a), .val (.ref a2)] [(.double z1), (.double v18)]))
  refine Dn.st (fun _ kk => XS.aloadN X20.here hx rfl (hb hby d5_23) rfl rfl (kk)) ?_
  show Dn p e below s _ _ _ (T20.setTop (mkF m 24 #[.val (.ref a), .val (.ref a2)] [(.ref a2), (.double z1), (.double v18)]))
  obtain ⟨T24, X24, e24, st24⟩ := getF X20 hx hZ hown (host := "") (Or.inl (hw _ (List.mem_of_getElem? (i := 22) rfl))) Via.refl e20 Fz2 (g := (mkF m 24 #[.val (.ref a), .val (.ref a2)] [(.ref a2), (.double z1), (.double v18)])) rfl rfl (hb hby d5_24)
  refine Dn.st st24 ?_
  show Dn p e below s _ _ _ (T24.setTop (mkF m 27 #[.val (.ref a), .val (.ref a2)] [(.double z2), (.double z1), (.double v18)]))
  have d27 : DS 0 (iz1 * iz2) (FP.dmul z1 z2) := DS.mul dz1 dz2 (by omega) (by decide)
  refine Dn.st (fun _ kk => XS.dmulS X24.here hx rfl (hb hby d5_27) rfl d27.nn rfl (kk)) ?_
  show Dn p e below s _ _ _ (T24.setTop (mkF m 28 #[.val (.ref a), .val (.ref a2)] [(.double (FP.dmul z1 z2)), (.double v18)]))
  generalize hv27 : ((FP.dmul z1 z2) : UInt64) = v27 at d27 ⊢
  generalize hi27 : ((iz1 * iz2) : Int) = i27 at d27
  show Dn p e below s _ _ _ (T24.setTop (mkF m 28 #[.val (.ref a), .val (.ref a2)] [(.double v27), (.double v18)]))
  have d28 : DS 0 (i18 + i27) (FP.dadd v18 v27) := DS.add d18 d27 (by omega) (by decide)
  refine Dn.st (fun _ kk => XS.daddS X24.here hx rfl (hb hby d5_28) rfl d28.nn rfl (kk)) ?_
  show Dn p e below s _ _ _ (T24.setTop (mkF m 29 #[.val (.ref a), .val (.ref a2)] [(.double (FP.dadd v18 v27))]))
  generalize hv28 : ((FP.dadd v18 v27) : UInt64) = v28 at d28 ⊢
  generalize hi28 : ((i18 + i27) : Int) = i28 at d28
  show Dn p e below s _ _ _ (T24.setTop (mkF m 29 #[.val (.ref a), .val (.ref a2)] [(.double v28)]))
  exact Dn.ret X24 hlk hx hret rfl (Or.inr (Or.inr (Or.inl ⟨rfl, rfl, _, rfl⟩))) (hb hby d5_29) (by rw [e24]; exact ⟨_, rfl, (d28).cast rfl (by omega), N0, rfl⟩) (by decide) (by decide)

theorem pd1 : parseMethodDescriptor "(I)I" = some ⟨[.int], some .int⟩ := by decide +kernel
theorem pd2 : parseMethodDescriptor "(DDD)V" = some ⟨[.double, .double, .double], none⟩ := by decide +kernel
theorem pd3 : parseMethodDescriptor "(Lorg/rupturecast/faults/Vector;)D" = some ⟨[(.object "org/rupturecast/faults/Vector")], some .double⟩ := by decide +kernel
theorem ef0_rm0 (m : MethodId) (x0 : Int32) (x1 : Int32) (x2 : Int32) (x3 : Int32) (x4 : Int32) (x5 : Int32) : entryFrame m #[(.int x0), (.int x1), (.int x2), (.int x3), (.int x4), (.int x5)] maxLocals = mkF m 0 #[.val (.int x0), .val (.int x1), .val (.int x2), .val (.int x3), .val (.int x4), .val (.int x5), .unset, .unset, .unset, .unset, .unset, .unset, .unset, .unset, .unset, .unset, .unset, .unset, .unset, .unset, .unset, .unset] [] := by first | (simp [entryFrame, mkF, argsToLocals, Value.category, maxLocals]; done) | rfl
def Q0 (Z : State) (p0 : Int32) (p1 : Int32) (p2 : Int32) (p3 : Int32) (p4 : Int32) (p5 : Int32) (h0 : Heap) (n0 : Nat) (v : Option Value) (h : Heap) (L : List Loc) : Prop := v = some (.int 1) ∧ Fr n0 L
set_option maxRecDepth 65536 in
set_option maxHeartbeats 40000000 in
theorem rm0 (l : Launch) (Z : State) (a0 : Array Value) (hw : ∀ d ∈ tables_1, d.before a0 Z = true) (ws : List Jvm.Cond) (p0 : Int32) (p1 : Int32) (p2 : Int32) (p3 : Int32) (p4 : Int32) (p5 : Int32) (h0 : Heap) (n0 : Nat) (Z0 : n0 ≤ h0.size) :
    MetFree l x (head1 (Jvm.Cond.code x code maxLocals ret :: ws) room_1) (fun aa UU => aa = #[(.int p0), (.int p1), (.int p2), (.int p3), (.int p4), (.int p5)] ∧ Z.Warmed39 UU.vm ∧ UU.heap = h0) (fun _ _ _ _ _ => True) (fun _ UU oo UU' => ∃ vv LL, oo = .returned vv ∧ Q0 Z p0 p1 p2 p3 p4 p5 h0 n0 vv UU'.heap LL ∧ FrameEnd UU oo UU' LL 16 128) := by
  refine MetFree.of_bodySF (plainFor_of_name pn0) hisR ?_
  intro p e s m args below meth c s₁ Bd hml0 hP hK
  obtain ⟨rfl, hZ, hh⟩ := hP
  have hx := Bd.exec
  have hby := Bd.bytes
  have hlk : meth.locks = false := BodyLoose.notSynchronized Bd
  have hret := Bd.returns
  have hml : c.maxLocals = 22 := hml0
  have hown : s.vm.findClass "org/rupturecast/faults/VectorDotPinLaw" = some m.cls := findClass_of_methodNamed Bd.named
  have hnm := (name_of_methodNamed Bd.named Bd.method).1
  have X0 : Stand p l e room_1 s m #[(.int p0), (.int p1), (.int p2), (.int p3), (.int p4), (.int p5)] below meth c s₁ [] 0 0 := Stand.of_body Bd
  have e0 : s₁.heap = h0 := by rw [← hh, Bd.state]; rfl
  have N0 := Fr.nil n0
  have r_p0 := rng32 p0
  have r_p1 := rng32 p1
  have r_p2 := rng32 p2
  have r_p3 := rng32 p3
  have r_p4 := rng32 p4
  have r_p5 := rng32 p5
  show Dn p e below s (Q0 Z p0 p1 p2 p3 p4 p5 h0 n0) 16 128 (s₁.setTop (entryFrame m #[(.int p0), (.int p1), (.int p2), (.int p3), (.int p4), (.int p5)] maxLocals))
  refine Dn.st (fun _ kk => castTop (ef0_rm0 m p0 p1 p2 p3 p4 p5) kk) ?_
  show Dn p e below s _ _ _ (s₁.setTop (mkF m 0 #[.val (.int p0), .val (.int p1), .val (.int p2), .val (.int p3), .val (.int p4), .val (.int p5), .unset, .unset, .unset, .unset, .unset, .unset, .unset, .unset, .unset, .unset, .unset, .unset, .unset, .unset, .unset, .unset] []))
  refine Dn.st (fun _ kk => XS.iloadN X0.here hx rfl (hb hby at_0) rfl  (kk)) ?_
  show Dn p e below s _ _ _ (s₁.setTop (mkF m 1 #[.val (.int p0), .val (.int p1), .val (.int p2), .val (.int p3), .val (.int p4), .val (.int p5), .unset, .unset, .unset, .unset, .unset, .unset, .unset, .unset, .unset, .unset, .unset, .unset, .unset, .unset, .unset, .unset] [(.int p0)]))
  obtain ⟨_, _, ⟨T1, L1, k1, n1⟩, -, X1, ⟨Lc1, hQ1, l1, y1, z1⟩, st1⟩ := Jvm.LawKit.callS X0 hx (y := (⟨"org/rupturecast/faults/VectorDotPinLaw", "coord", "(I)I"⟩ : MethodName)) hown (mvT hZ (hw _ (List.mem_of_getElem? (i := 0) rfl))) (mvT hZ (hw _ (List.mem_of_getElem? (i := 1) rfl))) (mvT hZ (hw _ (List.mem_of_getElem? (i := 2) rfl))) (mvT hZ (hw _ (List.mem_of_getElem? (i := 3) rfl))) (by decide) (backOf (W := 0) (rm1 l Z a0 hw [] p0  h0 n0 Z0 ) hZ (hw _ (List.mem_of_getElem? (i := 3) rfl)) (hw _ (List.mem_of_getElem? (i := 2) rfl)) (by decide) (by decide)) (g := (mkF m 1 #[.val (.int p0), .val (.int p1), .val (.int p2), .val (.int p3), .val (.int p4), .val (.int p5), .unset, .unset, .unset, .unset, .unset, .unset, .unset, .unset, .unset, .unset, .unset, .unset, .unset, .unset, .unset, .unset] [(.int p0)])) rfl (by rw [hml]; rfl) (argsL := [(.int p0)]) (rest := []) (lenOf pd1 rfl) rfl (by show 2 * 0 + _ ≤ _; exact Nat.le_of_eq rfl) (hb hby at_1) (fun _ _ => ⟨rfl, e0, (by decide : 0 + 0 ≤ _), (by decide : 0 + 0 ≤ _)⟩)
  dsimp only [Pt.U, Pt.locs, Pt.cells, Pt.slots] at X1 l1 y1 z1 st1 hQ1
  subst l1 y1 z1
  obtain ⟨z1, rfl, bd1, Nq1, hh1⟩ := hQ1
  have N1 := Fr.app N0 Nq1
  refine Dn.st st1 ?_
  show Dn p e below s _ _ _ (T1.setTop (mkF m 4 #[.val (.int p0), .val (.int p1), .val (.int p2), .val (.int p3), .val (.int p4), .val (.int p5), .unset, .unset, .unset, .unset, .unset, .unset, .unset, .unset, .unset, .unset, .unset, .unset, .unset, .unset, .unset, .unset] [(.int z1)]))
  refine Dn.st (fun _ kk => XS.istore X1.here hx rfl (hb hby at_4) rfl (l' := #[.val (.int p0), .val (.int p1), .val (.int p2), .val (.int p3), .val (.int p4), .val (.int p5), .val (.int z1), .unset, .unset, .unset, .unset, .unset, .unset, .unset, .unset, .unset, .unset, .unset, .unset, .unset, .unset, .unset]) rfl (XS.iloadN X1.here hx rfl (hb hby at_6) rfl  (kk))) ?_
  show Dn p e below s _ _ _ (T1.setTop (mkF m 7 #[.val (.int p0), .val (.int p1), .val (.int p2), .val (.int p3), .val (.int p4), .val (.int p5), .val (.int z1), .unset, .unset, .unset, .unset, .unset, .unset, .unset, .unset, .unset, .unset, .unset, .unset, .unset, .unset, .unset] [(.int p1)]))
  obtain ⟨_, _, ⟨T7, L7, k7, n7⟩, -, X7, ⟨Lc7, hQ7, l7, y7, z7⟩, st7⟩ := Jvm.LawKit.callS X1 hx (y := (⟨"org/rupturecast/faults/VectorDotPinLaw", "coord", "(I)I"⟩ : MethodName)) hown (mvT hZ (hw _ (List.mem_of_getElem? (i := 0) rfl))) (mvT hZ (hw _ (List.mem_of_getElem? (i := 1) rfl))) (mvT hZ (hw _ (List.mem_of_getElem? (i := 2) rfl))) (mvT hZ (hw _ (List.mem_of_getElem? (i := 3) rfl))) (by decide) (backOf (W := 0) (rm1 l Z a0 hw [] p1  h0 n0 Z0 ) hZ (hw _ (List.mem_of_getElem? (i := 3) rfl)) (hw _ (List.mem_of_getElem? (i := 2) rfl)) (by decide) (by decide)) (g := (mkF m 7 #[.val (.int p0), .val (.int p1), .val (.int p2), .val (.int p3), .val (.int p4), .val (.int p5), .val (.int z1), .unset, .unset, .unset, .unset, .unset, .unset, .unset, .unset, .unset, .unset, .unset, .unset, .unset, .unset, .unset] [(.int p1)])) rfl (by rw [hml]; rfl) (argsL := [(.int p1)]) (rest := []) (lenOf pd1 rfl) rfl (by show 2 * 0 + _ ≤ _; exact Nat.le_of_eq rfl) (hb hby at_7) (fun _ _ => ⟨rfl, hh1, (by decide : 0 + 0 ≤ _), (by decide : 0 + 0 ≤ _)⟩)
  dsimp only [Pt.U, Pt.locs, Pt.cells, Pt.slots] at X7 l7 y7 z7 st7 hQ7
  subst l7 y7 z7
  obtain ⟨z7, rfl, bd7, Nq7, hh7⟩ := hQ7
  have N7 := Fr.app N1 Nq7
  refine Dn.st st7 ?_
  show Dn p e below s _ _ _ (T7.setTop (mkF m 10 #[.val (.int p0), .val (.int p1), .val (.int p2), .val (.int p3), .val (.int p4), .val (.int p5), .val (.int z1), .unset, .unset, .unset, .unset, .unset, .unset, .unset, .unset, .unset, .unset, .unset, .unset, .unset, .unset, .unset] [(.int z7)]))
  refine Dn.st (fun _ kk => XS.istore X7.here hx rfl (hb hby at_10) rfl (l' := #[.val (.int p0), .val (.int p1), .val (.int p2), .val (.int p3), .val (.int p4), .val (.int p5), .val (.int z1), .val (.int z7), .unset, .unset, .unset, .unset, .unset, .unset, .unset, .unset, .unset, .unset, .unset, .unset, .unset, .unset]) rfl (XS.iloadN X7.here hx rfl (hb hby at_12) rfl  (kk))) ?_
  show Dn p e below s _ _ _ (T7.setTop (mkF m 13 #[.val (.int p0), .val (.int p1), .val (.int p2), .val (.int p3), .val (.int p4), .val (.int p5), .val (.int z1), .val (.int z7), .unset, .unset, .unset, .unset, .unset, .unset, .unset, .unset, .unset, .unset, .unset, .unset, .unset, .unset] [(.int p2)]))
  obtain ⟨_, _, ⟨T13, L13, k13, n13⟩, -, X13, ⟨Lc13, hQ13, l13, y13, z13⟩, st13⟩ := Jvm.LawKit.callS X7 hx (y := (⟨"org/rupturecast/faults/VectorDotPinLaw", "coord", "(I)I"⟩ : MethodName)) hown (mvT hZ (hw _ (List.mem_of_getElem? (i := 0) rfl))) (mvT hZ (hw _ (List.mem_of_getElem? (i := 1) rfl))) (mvT hZ (hw _ (List.mem_of_getElem? (i := 2) rfl))) (mvT hZ (hw _ (List.mem_of_getElem? (i := 3) rfl))) (by decide) (backOf (W := 0) (rm1 l Z a0 hw [] p2  h0 n0 Z0 ) hZ (hw _ (List.mem_of_getElem? (i := 3) rfl)) (hw _ (List.mem_of_getElem? (i := 2) rfl)) (by decide) (by decide)) (g := (mkF m 13 #[.val (.int p0), .val (.int p1), .val (.int p2), .val (.int p3), .val (.int p4), .val (.int p5), .val (.int z1), .val (.int z7), .unset, .unset, .unset, .unset, .unset, .unset, .unset, .unset, .unset, .unset, .unset, .unset, .unset, .unset] [(.int p2)])) rfl (by rw [hml]; rfl) (argsL := [(.int p2)]) (rest := []) (lenOf pd1 rfl) rfl (by show 2 * 0 + _ ≤ _; exact Nat.le_of_eq rfl) (hb hby at_13) (fun _ _ => ⟨rfl, hh7, (by decide : 0 + 0 ≤ _), (by decide : 0 + 0 ≤ _)⟩)
  dsimp only [Pt.U, Pt.locs, Pt.cells, Pt.slots] at X13 l13 y13 z13 st13 hQ13
  subst l13 y13 z13
  obtain ⟨z13, rfl, bd13, Nq13, hh13⟩ := hQ13
  have N13 := Fr.app N7 Nq13
  refine Dn.st st13 ?_
  show Dn p e below s _ _ _ (T13.setTop (mkF m 16 #[.val (.int p0), .val (.int p1), .val (.int p2), .val (.int p3), .val (.int p4), .val (.int p5), .val (.int z1), .val (.int z7), .unset, .unset, .unset, .unset, .unset, .unset, .unset, .unset, .unset, .unset, .unset, .unset, .unset, .unset] [(.int z13)]))
  refine Dn.st (fun _ kk => XS.istore X13.here hx rfl (hb hby at_16) rfl (l' := #[.val (.int p0), .val (.int p1), .val (.int p2), .val (.int p3), .val (.int p4), .val (.int p5), .val (.int z1), .val (.int z7), .val (.int z13), .unset, .unset, .unset, .unset, .unset, .unset, .unset, .unset, .unset, .unset, .unset, .unset, .unset]) rfl (XS.iloadN X13.here hx rfl (hb hby at_18) rfl  (kk))) ?_
  show Dn p e below s _ _ _ (T13.setTop (mkF m 19 #[.val (.int p0), .val (.int p1), .val (.int p2), .val (.int p3), .val (.int p4), .val (.int p5), .val (.int z1), .val (.int z7), .val (.int z13), .unset, .unset, .unset, .unset, .unset, .unset, .unset, .unset, .unset, .unset, .unset, .unset, .unset] [(.int p3)]))
  obtain ⟨_, _, ⟨T19, L19, k19, n19⟩, -, X19, ⟨Lc19, hQ19, l19, y19, z19⟩, st19⟩ := Jvm.LawKit.callS X13 hx (y := (⟨"org/rupturecast/faults/VectorDotPinLaw", "coord", "(I)I"⟩ : MethodName)) hown (mvT hZ (hw _ (List.mem_of_getElem? (i := 0) rfl))) (mvT hZ (hw _ (List.mem_of_getElem? (i := 1) rfl))) (mvT hZ (hw _ (List.mem_of_getElem? (i := 2) rfl))) (mvT hZ (hw _ (List.mem_of_getElem? (i := 3) rfl))) (by decide) (backOf (W := 0) (rm1 l Z a0 hw [] p3  h0 n0 Z0 ) hZ (hw _ (List.mem_of_getElem? (i := 3) rfl)) (hw _ (List.mem_of_getElem? (i := 2) rfl)) (by decide) (by decide)) (g := (mkF m 19 #[.val (.int p0), .val (.int p1), .val (.int p2), .val (.int p3), .val (.int p4), .val (.int p5), .val (.int z1), .val (.int z7), .val (.int z13), .unset, .unset, .unset, .unset, .unset, .unset, .unset, .unset, .unset, .unset, .unset, .unset, .unset] [(.int p3)])) rfl (by rw [hml]; rfl) (argsL := [(.int p3)]) (rest := []) (lenOf pd1 rfl) rfl (by show 2 * 0 + _ ≤ _; exact Nat.le_of_eq rfl) (hb hby at_19) (fun _ _ => ⟨rfl, hh13, (by decide : 0 + 0 ≤ _), (by decide : 0 + 0 ≤ _)⟩)
  dsimp only [Pt.U, Pt.locs, Pt.cells, Pt.slots] at X19 l19 y19 z19 st19 hQ19
  subst l19 y19 z19
  obtain ⟨z19, rfl, bd19, Nq19, hh19⟩ := hQ19
  have N19 := Fr.app N13 Nq19
  refine Dn.st st19 ?_
  show Dn p e below s _ _ _ (T19.setTop (mkF m 22 #[.val (.int p0), .val (.int p1), .val (.int p2), .val (.int p3), .val (.int p4), .val (.int p5), .val (.int z1), .val (.int z7), .val (.int z13), .unset, .unset, .unset, .unset, .unset, .unset, .unset, .unset, .unset, .unset, .unset, .unset, .unset] [(.int z19)]))
  refine Dn.st (fun _ kk => XS.istore X19.here hx rfl (hb hby at_22) rfl (l' := #[.val (.int p0), .val (.int p1), .val (.int p2), .val (.int p3), .val (.int p4), .val (.int p5), .val (.int z1), .val (.int z7), .val (.int z13), .val (.int z19), .unset, .unset, .unset, .unset, .unset, .unset, .unset, .unset, .unset, .unset, .unset, .unset]) rfl (XS.iload X19.here hx rfl (hb hby at_24) rfl  (kk))) ?_
  show Dn p e below s _ _ _ (T19.setTop (mkF m 26 #[.val (.int p0), .val (.int p1), .val (.int p2), .val (.int p3), .val (.int p4), .val (.int p5), .val (.int z1), .val (.int z7), .val (.int z13), .val (.int z19), .unset, .unset, .unset, .unset, .unset, .unset, .unset, .unset, .unset, .unset, .unset, .unset] [(.int p4)]))
  obtain ⟨_, _, ⟨T26, L26, k26, n26⟩, -, X26, ⟨Lc26, hQ26, l26, y26, z26⟩, st26⟩ := Jvm.LawKit.callS X19 hx (y := (⟨"org/rupturecast/faults/VectorDotPinLaw", "coord", "(I)I"⟩ : MethodName)) hown (mvT hZ (hw _ (List.mem_of_getElem? (i := 0) rfl))) (mvT hZ (hw _ (List.mem_of_getElem? (i := 1) rfl))) (mvT hZ (hw _ (List.mem_of_getElem? (i := 2) rfl))) (mvT hZ (hw _ (List.mem_of_getElem? (i := 3) rfl))) (by decide) (backOf (W := 0) (rm1 l Z a0 hw [] p4  h0 n0 Z0 ) hZ (hw _ (List.mem_of_getElem? (i := 3) rfl)) (hw _ (List.mem_of_getElem? (i := 2) rfl)) (by decide) (by decide)) (g := (mkF m 26 #[.val (.int p0), .val (.int p1), .val (.int p2), .val (.int p3), .val (.int p4), .val (.int p5), .val (.int z1), .val (.int z7), .val (.int z13), .val (.int z19), .unset, .unset, .unset, .unset, .unset, .unset, .unset, .unset, .unset, .unset, .unset, .unset] [(.int p4)])) rfl (by rw [hml]; rfl) (argsL := [(.int p4)]) (rest := []) (lenOf pd1 rfl) rfl (by show 2 * 0 + _ ≤ _; exact Nat.le_of_eq rfl) (hb hby at_26) (fun _ _ => ⟨rfl, hh19, (by decide : 0 + 0 ≤ _), (by decide : 0 + 0 ≤ _)⟩)
  dsimp only [Pt.U, Pt.locs, Pt.cells, Pt.slots] at X26 l26 y26 z26 st26 hQ26
  subst l26 y26 z26
  obtain ⟨z26, rfl, bd26, Nq26, hh26⟩ := hQ26
  have N26 := Fr.app N19 Nq26
  refine Dn.st st26 ?_
  show Dn p e below s _ _ _ (T26.setTop (mkF m 29 #[.val (.int p0), .val (.int p1), .val (.int p2), .val (.int p3), .val (.int p4), .val (.int p5), .val (.int z1), .val (.int z7), .val (.int z13), .val (.int z19), .unset, .unset, .unset, .unset, .unset, .unset, .unset, .unset, .unset, .unset, .unset, .unset] [(.int z26)]))
  refine Dn.st (fun _ kk => XS.istore X26.here hx rfl (hb hby at_29) rfl (l' := #[.val (.int p0), .val (.int p1), .val (.int p2), .val (.int p3), .val (.int p4), .val (.int p5), .val (.int z1), .val (.int z7), .val (.int z13), .val (.int z19), .val (.int z26), .unset, .unset, .unset, .unset, .unset, .unset, .unset, .unset, .unset, .unset, .unset]) rfl (XS.iload X26.here hx rfl (hb hby at_31) rfl  (kk))) ?_
  show Dn p e below s _ _ _ (T26.setTop (mkF m 33 #[.val (.int p0), .val (.int p1), .val (.int p2), .val (.int p3), .val (.int p4), .val (.int p5), .val (.int z1), .val (.int z7), .val (.int z13), .val (.int z19), .val (.int z26), .unset, .unset, .unset, .unset, .unset, .unset, .unset, .unset, .unset, .unset, .unset] [(.int p5)]))
  obtain ⟨_, _, ⟨T33, L33, k33, n33⟩, -, X33, ⟨Lc33, hQ33, l33, y33, z33⟩, st33⟩ := Jvm.LawKit.callS X26 hx (y := (⟨"org/rupturecast/faults/VectorDotPinLaw", "coord", "(I)I"⟩ : MethodName)) hown (mvT hZ (hw _ (List.mem_of_getElem? (i := 0) rfl))) (mvT hZ (hw _ (List.mem_of_getElem? (i := 1) rfl))) (mvT hZ (hw _ (List.mem_of_getElem? (i := 2) rfl))) (mvT hZ (hw _ (List.mem_of_getElem? (i := 3) rfl))) (by decide) (backOf (W := 0) (rm1 l Z a0 hw [] p5  h0 n0 Z0 ) hZ (hw _ (List.mem_of_getElem? (i := 3) rfl)) (hw _ (List.mem_of_getElem? (i := 2) rfl)) (by decide) (by decide)) (g := (mkF m 33 #[.val (.int p0), .val (.int p1), .val (.int p2), .val (.int p3), .val (.int p4), .val (.int p5), .val (.int z1), .val (.int z7), .val (.int z13), .val (.int z19), .val (.int z26), .unset, .unset, .unset, .unset, .unset, .unset, .unset, .unset, .unset, .unset, .unset] [(.int p5)])) rfl (by rw [hml]; rfl) (argsL := [(.int p5)]) (rest := []) (lenOf pd1 rfl) rfl (by show 2 * 0 + _ ≤ _; exact Nat.le_of_eq rfl) (hb hby at_33) (fun _ _ => ⟨rfl, hh26, (by decide : 0 + 0 ≤ _), (by decide : 0 + 0 ≤ _)⟩)
  dsimp only [Pt.U, Pt.locs, Pt.cells, Pt.slots] at X33 l33 y33 z33 st33 hQ33
  subst l33 y33 z33
  obtain ⟨z33, rfl, bd33, Nq33, hh33⟩ := hQ33
  have N33 := Fr.app N26 Nq33
  refine Dn.st st33 ?_
  show Dn p e below s _ _ _ (T33.setTop (mkF m 36 #[.val (.int p0), .val (.int p1), .val (.int p2), .val (.int p3), .val (.int p4), .val (.int p5), .val (.int z1), .val (.int z7), .val (.int z13), .val (.int z19), .val (.int z26), .unset, .unset, .unset, .unset, .unset, .unset, .unset, .unset, .unset, .unset, .unset] [(.int z33)]))
  refine Dn.st (fun _ kk => XS.istore X33.here hx rfl (hb hby at_36) rfl (l' := #[.val (.int p0), .val (.int p1), .val (.int p2), .val (.int p3), .val (.int p4), .val (.int p5), .val (.int z1), .val (.int z7), .val (.int z13), .val (.int z19), .val (.int z26), .val (.int z33), .unset, .unset, .unset, .unset, .unset, .unset, .unset, .unset, .unset, .unset]) rfl (kk)) ?_
  show Dn p e below s _ _ _ (T33.setTop (mkF m 38 #[.val (.int p0), .val (.int p1), .val (.int p2), .val (.int p3), .val (.int p4), .val (.int p5), .val (.int z1), .val (.int z7), .val (.int z13), .val (.int z19), .val (.int z26), .val (.int z33), .unset, .unset, .unset, .unset, .unset, .unset, .unset, .unset, .unset, .unset] []))
  obtain ⟨T38, h38, X38, e38, E38, A38, D38, -, st38⟩ := newO X33 hx hZ hown (hw _ (List.mem_of_getElem? (i := 4) rfl)) (hw _ (List.mem_of_getElem? (i := 5) rfl)) (hw _ (List.mem_of_getElem? (i := 6) rfl)) hh33 (g := (mkF m 38 #[.val (.int p0), .val (.int p1), .val (.int p2), .val (.int p3), .val (.int p4), .val (.int p5), .val (.int z1), .val (.int z7), .val (.int z13), .val (.int z19), .val (.int z26), .val (.int z33), .unset, .unset, .unset, .unset, .unset, .unset, .unset, .unset, .unset, .unset] [])) rfl (hb hby at_38) (by decide) (by decide)
  obtain ⟨b38, g38⟩ : ∃ z, z = h0.size := ⟨_, rfl⟩
  rw [← g38] at A38 D38 st38
  have gn_b38 : n0 ≤ b38 := Nat.le_trans Z0 (Nat.le_of_eq g38.symm)
  have Z38 : n0 ≤ h38.size := Nat.le_trans Z0 E38.1
  have F_b38_x : Fld Z h38 b38 "org/rupturecast/faults/Vector" "x" "D" (.double (0 : UInt64)) := D38 (Or.inr (hw _ (List.mem_of_getElem? (i := 19) rfl))) (ty := .double) (by decide)
  have F_b38_y : Fld Z h38 b38 "org/rupturecast/faults/Vector" "y" "D" (.double (0 : UInt64)) := D38 (Or.inr (hw _ (List.mem_of_getElem? (i := 21) rfl))) (ty := .double) (by decide)
  have F_b38_z : Fld Z h38 b38 "org/rupturecast/faults/Vector" "z" "D" (.double (0 : UInt64)) := D38 (Or.inr (hw _ (List.mem_of_getElem? (i := 23) rfl))) (ty := .double) (by decide)
  refine Dn.st st38 ?_
  show Dn p e below s _ _ _ (T38.setTop (mkF m 41 #[.val (.int p0), .val (.int p1), .val (.int p2), .val (.int p3), .val (.int p4), .val (.int p5), .val (.int z1), .val (.int z7), .val (.int z13), .val (.int z19), .val (.int z26), .val (.int z33), .unset, .unset, .unset, .unset, .unset, .unset, .unset, .unset, .unset, .unset] [(.ref b38)]))
  refine Dn.st (fun _ kk => XS.dup X38.here hx rfl (hb hby at_41) rfl rfl (XS.iload X38.here hx rfl (hb hby at_42) rfl  (kk))) ?_
  show Dn p e below s _ _ _ (T38.setTop (mkF m 44 #[.val (.int p0), .val (.int p1), .val (.int p2), .val (.int p3), .val (.int p4), .val (.int p5), .val (.int z1), .val (.int z7), .val (.int z13), .val (.int z19), .val (.int z26), .val (.int z33), .unset, .unset, .unset, .unset, .unset, .unset, .unset, .unset, .unset, .unset] [(.int z1), (.ref b38), (.ref b38)]))
  have d44 := DS.i2d z1
  refine Dn.st (fun _ kk => XS.i2dS X38.here hx rfl (hb hby at_44) rfl rfl (kk)) ?_
  show Dn p e below s _ _ _ (T38.setTop (mkF m 45 #[.val (.int p0), .val (.int p1), .val (.int p2), .val (.int p3), .val (.int p4), .val (.int p5), .val (.int z1), .val (.int z7), .val (.int z13), .val (.int z19), .val (.int z26), .val (.int z33), .unset, .unset, .unset, .unset, .unset, .unset, .unset, .unset, .unset, .unset] [(.double (FP.i2d z1)), (.ref b38), (.ref b38)]))
  generalize hv44 : ((FP.i2d z1) : UInt64) = v44 at d44 ⊢
  show Dn p e below s _ _ _ (T38.setTop (mkF m 45 #[.val (.int p0), .val (.int p1), .val (.int p2), .val (.int p3), .val (.int p4), .val (.int p5), .val (.int z1), .val (.int z7), .val (.int z13), .val (.int z19), .val (.int z26), .val (.int z33), .unset, .unset, .unset, .unset, .unset, .unset, .unset, .unset, .unset, .unset] [(.double v44), (.ref b38), (.ref b38)]))
  refine Dn.st (fun _ kk => XS.iload X38.here hx rfl (hb hby at_45) rfl  (kk)) ?_
  show Dn p e below s _ _ _ (T38.setTop (mkF m 47 #[.val (.int p0), .val (.int p1), .val (.int p2), .val (.int p3), .val (.int p4), .val (.int p5), .val (.int z1), .val (.int z7), .val (.int z13), .val (.int z19), .val (.int z26), .val (.int z33), .unset, .unset, .unset, .unset, .unset, .unset, .unset, .unset, .unset, .unset] [(.int z7), (.double v44), (.ref b38), (.ref b38)]))
  have d47 := DS.i2d z7
  refine Dn.st (fun _ kk => XS.i2dS X38.here hx rfl (hb hby at_47) rfl rfl (kk)) ?_
  show Dn p e below s _ _ _ (T38.setTop (mkF m 48 #[.val (.int p0), .val (.int p1), .val (.int p2), .val (.int p3), .val (.int p4), .val (.int p5), .val (.int z1), .val (.int z7), .val (.int z13), .val (.int z19), .val (.int z26), .val (.int z33), .unset, .unset, .unset, .unset, .unset, .unset, .unset, .unset, .unset, .unset] [(.double (FP.i2d z7)), (.double v44), (.ref b38), (.ref b38)]))
  generalize hv47 : ((FP.i2d z7) : UInt64) = v47 at d47 ⊢
  show Dn p e below s _ _ _ (T38.setTop (mkF m 48 #[.val (.int p0), .val (.int p1), .val (.int p2), .val (.int p3), .val (.int p4), .val (.int p5), .val (.int z1), .val (.int z7), .val (.int z13), .val (.int z19), .val (.int z26), .val (.int z33), .unset, .unset, .unset, .unset, .unset, .unset, .unset, .unset, .unset, .unset] [(.double v47), (.double v44), (.ref b38), (.ref b38)]))
  refine Dn.st (fun _ kk => XS.iload X38.here hx rfl (hb hby at_48) rfl  (kk)) ?_
  show Dn p e below s _ _ _ (T38.setTop (mkF m 50 #[.val (.int p0), .val (.int p1), .val (.int p2), .val (.int p3), .val (.int p4), .val (.int p5), .val (.int z1), .val (.int z7), .val (.int z13), .val (.int z19), .val (.int z26), .val (.int z33), .unset, .unset, .unset, .unset, .unset, .unset, .unset, .unset, .unset, .unset] [(.int z13), (.double v47), (.double v44), (.ref b38), (.ref b38)]))
  have d50 := DS.i2d z13
  refine Dn.st (fun _ kk => XS.i2dS X38.here hx rfl (hb hby at_50) rfl rfl (kk)) ?_
  show Dn p e below s _ _ _ (T38.setTop (mkF m 51 #[.val (.int p0), .val (.int p1), .val (.int p2), .val (.int p3), .val (.int p4), .val (.int p5), .val (.int z1), .val (.int z7), .val (.int z13), .val (.int z19), .val (.int z26), .val (.int z33), .unset, .unset, .unset, .unset, .unset, .unset, .unset, .unset, .unset, .unset] [(.double (FP.i2d z13)), (.double v47), (.double v44), (.ref b38), (.ref b38)]))
  generalize hv50 : ((FP.i2d z13) : UInt64) = v50 at d50 ⊢
  show Dn p e below s _ _ _ (T38.setTop (mkF m 51 #[.val (.int p0), .val (.int p1), .val (.int p2), .val (.int p3), .val (.int p4), .val (.int p5), .val (.int z1), .val (.int z7), .val (.int z13), .val (.int z19), .val (.int z26), .val (.int z33), .unset, .unset, .unset, .unset, .unset, .unset, .unset, .unset, .unset, .unset] [(.double v50), (.double v47), (.double v44), (.ref b38), (.ref b38)]))
  obtain ⟨_, _, ⟨T51, L51, k51, n51⟩, -, X51, ⟨Lc51, hQ51, l51, y51, z51⟩, st51⟩ := X38.specialBack hx (y := (⟨"org/rupturecast/faults/Vector", "<init>", "(DDD)V"⟩ : MethodName)) rfl hown (mvT hZ (hw _ (List.mem_of_getElem? (i := 7) rfl))) (mvT hZ (hw _ (List.mem_of_getElem? (i := 8) rfl))) (mvT hZ (hw _ (List.mem_of_getElem? (i := 9) rfl))) (by decide) (backOf (W := 1) (rm2 l Z a0 hw [] b38 v44 v47 v50  h38 n0 Z38 gn_b38 A38 F_b38_x F_b38_y F_b38_z ) hZ (hw _ (List.mem_of_getElem? (i := 9) rfl)) (hw _ (List.mem_of_getElem? (i := 6) rfl)) (by decide) (by decide)) (g := (mkF m 51 #[.val (.int p0), .val (.int p1), .val (.int p2), .val (.int p3), .val (.int p4), .val (.int p5), .val (.int z1), .val (.int z7), .val (.int z13), .val (.int z19), .val (.int z26), .val (.int z33), .unset, .unset, .unset, .unset, .unset, .unset, .unset, .unset, .unset, .unset] [(.double v50), (.double v47), (.double v44), (.ref b38), (.ref b38)])) rfl (by rw [hml]; rfl) (Steps.refl _) (a := b38) (argsL := [(.double v44), (.double v47), (.double v50)]) (rest := [(.ref b38)]) (lenOf pd2 rfl) rfl (by show 2 * 0 + _ ≤ _; exact Nat.le_of_eq rfl) (hb hby at_51) (fun _ _ => ⟨rfl, e38, (by decide : 1 + 0 ≤ _), (by decide : 3 + 0 ≤ _)⟩)
  dsimp only [Pt.U, Pt.locs, Pt.cells, Pt.slots] at X51 l51 y51 z51 st51 hQ51
  subst l51 y51 z51
  obtain ⟨rfl, Nq51, K51, E_b38_51, F_b38_x_51, F_b38_y_51, F_b38_z_51⟩ := hQ51
  have N51 := Fr.app N33 Nq51
  refine Dn.tr st51 ?_
  have Z51 : n0 ≤ T51.heap.size := Nat.le_trans Z38 K51.1
  show Dn p e below s _ _ _ (T51.setTop (mkF m 54 #[.val (.int p0), .val (.int p1), .val (.int p2), .val (.int p3), .val (.int p4), .val (.int p5), .val (.int z1), .val (.int z7), .val (.int z13), .val (.int z19), .val (.int z26), .val (.int z33), .unset, .unset, .unset, .unset, .unset, .unset, .unset, .unset, .unset, .unset] [(.ref b38)]))
  refine Dn.st (fun _ kk => XS.astore X51.here hx rfl (hb hby at_54) rfl rfl (l' := #[.val (.int p0), .val (.int p1), .val (.int p2), .val (.int p3), .val (.int p4), .val (.int p5), .val (.int z1), .val (.int z7), .val (.int z13), .val (.int z19), .val (.int z26), .val (.int z33), .val (.ref b38), .unset, .unset, .unset, .unset, .unset, .unset, .unset, .unset, .unset]) rfl (kk)) ?_
  show Dn p e below s _ _ _ (T51.setTop (mkF m 56 #[.val (.int p0), .val (.int p1), .val (.int p2), .val (.int p3), .val (.int p4), .val (.int p5), .val (.int z1), .val (.int z7), .val (.int z13), .val (.int z19), .val (.int z26), .val (.int z33), .val (.ref b38), .unset, .unset, .unset, .unset, .unset, .unset, .unset, .unset, .unset] []))
  obtain ⟨T56, h56, X56, e56, E56, A56, D56, -, st56⟩ := newO X51 hx hZ hown (hw _ (List.mem_of_getElem? (i := 4) rfl)) (hw _ (List.mem_of_getElem? (i := 5) rfl)) (hw _ (List.mem_of_getElem? (i := 6) rfl)) rfl (g := (mkF m 56 #[.val (.int p0), .val (.int p1), .val (.int p2), .val (.int p3), .val (.int p4), .val (.int p5), .val (.int z1), .val (.int z7), .val (.int z13), .val (.int z19), .val (.int z26), .val (.int z33), .val (.ref b38), .unset, .unset, .unset, .unset, .unset, .unset, .unset, .unset, .unset] [])) rfl (hb hby at_56) (by decide) (by decide)
  obtain ⟨b56, g56⟩ : ∃ z, z = T51.heap.size := ⟨_, rfl⟩
  rw [← g56] at A56 D56 st56
  have ne_b38_b56 : b38 ≠ b56 := Nat.ne_of_lt (Nat.lt_of_lt_of_le E_b38_51.lt (Nat.le_of_eq g56.symm))
  have E_b38_56 := E_b38_51.ext E56
  have F_b38_x_56 := F_b38_x_51.ext E56
  have F_b38_y_56 := F_b38_y_51.ext E56
  have F_b38_z_56 := F_b38_z_51.ext E56
  have gn_b56 : n0 ≤ b56 := Nat.le_trans Z51 (Nat.le_of_eq g56.symm)
  have Z56 : n0 ≤ h56.size := Nat.le_trans Z51 E56.1
  have F_b56_x : Fld Z h56 b56 "org/rupturecast/faults/Vector" "x" "D" (.double (0 : UInt64)) := D56 (Or.inr (hw _ (List.mem_of_getElem? (i := 19) rfl))) (ty := .double) (by decide)
  have F_b56_y : Fld Z h56 b56 "org/rupturecast/faults/Vector" "y" "D" (.double (0 : UInt64)) := D56 (Or.inr (hw _ (List.mem_of_getElem? (i := 21) rfl))) (ty := .double) (by decide)
  have F_b56_z : Fld Z h56 b56 "org/rupturecast/faults/Vector" "z" "D" (.double (0 : UInt64)) := D56 (Or.inr (hw _ (List.mem_of_getElem? (i := 23) rfl))) (ty := .double) (by decide)
  refine Dn.st st56 ?_
  show Dn p e below s _ _ _ (T56.setTop (mkF m 59 #[.val (.int p0), .val (.int p1), .val (.int p2), .val (.int p3), .val (.int p4), .val (.int p5), .val (.int z1), .val (.int z7), .val (.int z13), .val (.int z19), .val (.int z26), .val (.int z33), .val (.ref b38), .unset, .unset, .unset, .unset, .unset, .unset, .unset, .unset, .unset] [(.ref b56)]))
  refine Dn.st (fun _ kk => XS.dup X56.here hx rfl (hb hby at_59) rfl rfl (XS.iload X56.here hx rfl (hb hby at_60) rfl  (kk))) ?_
  show Dn p e below s _ _ _ (T56.setTop (mkF m 62 #[.val (.int p0), .val (.int p1), .val (.int p2), .val (.int p3), .val (.int p4), .val (.int p5), .val (.int z1), .val (.int z7), .val (.int z13), .val (.int z19), .val (.int z26), .val (.int z33), .val (.ref b38), .unset, .unset, .unset, .unset, .unset, .unset, .unset, .unset, .unset] [(.int z19), (.ref b56), (.ref b56)]))
  have d62 := DS.i2d z19
  refine Dn.st (fun _ kk => XS.i2dS X56.here hx rfl (hb hby at_62) rfl rfl (kk)) ?_
  show Dn p e below s _ _ _ (T56.setTop (mkF m 63 #[.val (.int p0), .val (.int p1), .val (.int p2), .val (.int p3), .val (.int p4), .val (.int p5), .val (.int z1), .val (.int z7), .val (.int z13), .val (.int z19), .val (.int z26), .val (.int z33), .val (.ref b38), .unset, .unset, .unset, .unset, .unset, .unset, .unset, .unset, .unset] [(.double (FP.i2d z19)), (.ref b56), (.ref b56)]))
  generalize hv62 : ((FP.i2d z19) : UInt64) = v62 at d62 ⊢
  show Dn p e below s _ _ _ (T56.setTop (mkF m 63 #[.val (.int p0), .val (.int p1), .val (.int p2), .val (.int p3), .val (.int p4), .val (.int p5), .val (.int z1), .val (.int z7), .val (.int z13), .val (.int z19), .val (.int z26), .val (.int z33), .val (.ref b38), .unset, .unset, .unset, .unset, .unset, .unset, .unset, .unset, .unset] [(.double v62), (.ref b56), (.ref b56)]))
  refine Dn.st (fun _ kk => XS.iload X56.here hx rfl (hb hby at_63) rfl  (kk)) ?_
  show Dn p e below s _ _ _ (T56.setTop (mkF m 65 #[.val (.int p0), .val (.int p1), .val (.int p2), .val (.int p3), .val (.int p4), .val (.int p5), .val (.int z1), .val (.int z7), .val (.int z13), .val (.int z19), .val (.int z26), .val (.int z33), .val (.ref b38), .unset, .unset, .unset, .unset, .unset, .unset, .unset, .unset, .unset] [(.int z26), (.double v62), (.ref b56), (.ref b56)]))
  have d65 := DS.i2d z26
  refine Dn.st (fun _ kk => XS.i2dS X56.here hx rfl (hb hby at_65) rfl rfl (kk)) ?_
  show Dn p e below s _ _ _ (T56.setTop (mkF m 66 #[.val (.int p0), .val (.int p1), .val (.int p2), .val (.int p3), .val (.int p4), .val (.int p5), .val (.int z1), .val (.int z7), .val (.int z13), .val (.int z19), .val (.int z26), .val (.int z33), .val (.ref b38), .unset, .unset, .unset, .unset, .unset, .unset, .unset, .unset, .unset] [(.double (FP.i2d z26)), (.double v62), (.ref b56), (.ref b56)]))
  generalize hv65 : ((FP.i2d z26) : UInt64) = v65 at d65 ⊢
  show Dn p e below s _ _ _ (T56.setTop (mkF m 66 #[.val (.int p0), .val (.int p1), .val (.int p2), .val (.int p3), .val (.int p4), .val (.int p5), .val (.int z1), .val (.int z7), .val (.int z13), .val (.int z19), .val (.int z26), .val (.int z33), .val (.ref b38), .unset, .unset, .unset, .unset, .unset, .unset, .unset, .unset, .unset] [(.double v65), (.double v62), (.ref b56), (.ref b56)]))
  refine Dn.st (fun _ kk => XS.iload X56.here hx rfl (hb hby at_66) rfl  (kk)) ?_
  show Dn p e below s _ _ _ (T56.setTop (mkF m 68 #[.val (.int p0), .val (.int p1), .val (.int p2), .val (.int p3), .val (.int p4), .val (.int p5), .val (.int z1), .val (.int z7), .val (.int z13), .val (.int z19), .val (.int z26), .val (.int z33), .val (.ref b38), .unset, .unset, .unset, .unset, .unset, .unset, .unset, .unset, .unset] [(.int z33), (.double v65), (.double v62), (.ref b56), (.ref b56)]))
  have d68 := DS.i2d z33
  refine Dn.st (fun _ kk => XS.i2dS X56.here hx rfl (hb hby at_68) rfl rfl (kk)) ?_
  show Dn p e below s _ _ _ (T56.setTop (mkF m 69 #[.val (.int p0), .val (.int p1), .val (.int p2), .val (.int p3), .val (.int p4), .val (.int p5), .val (.int z1), .val (.int z7), .val (.int z13), .val (.int z19), .val (.int z26), .val (.int z33), .val (.ref b38), .unset, .unset, .unset, .unset, .unset, .unset, .unset, .unset, .unset] [(.double (FP.i2d z33)), (.double v65), (.double v62), (.ref b56), (.ref b56)]))
  generalize hv68 : ((FP.i2d z33) : UInt64) = v68 at d68 ⊢
  show Dn p e below s _ _ _ (T56.setTop (mkF m 69 #[.val (.int p0), .val (.int p1), .val (.int p2), .val (.int p3), .val (.int p4), .val (.int p5), .val (.int z1), .val (.int z7), .val (.int z13), .val (.int z19), .val (.int z26), .val (.int z33), .val (.ref b38), .unset, .unset, .unset, .unset, .unset, .unset, .unset, .unset, .unset] [(.double v68), (.double v65), (.double v62), (.ref b56), (.ref b56)]))
  obtain ⟨_, _, ⟨T69, L69, k69, n69⟩, -, X69, ⟨Lc69, hQ69, l69, y69, z69⟩, st69⟩ := X56.specialBack hx (y := (⟨"org/rupturecast/faults/Vector", "<init>", "(DDD)V"⟩ : MethodName)) rfl hown (mvT hZ (hw _ (List.mem_of_getElem? (i := 7) rfl))) (mvT hZ (hw _ (List.mem_of_getElem? (i := 8) rfl))) (mvT hZ (hw _ (List.mem_of_getElem? (i := 9) rfl))) (by decide) (backOf (W := 1) (rm2 l Z a0 hw [] b56 v62 v65 v68  h56 n0 Z56 gn_b56 A56 F_b56_x F_b56_y F_b56_z ) hZ (hw _ (List.mem_of_getElem? (i := 9) rfl)) (hw _ (List.mem_of_getElem? (i := 6) rfl)) (by decide) (by decide)) (g := (mkF m 69 #[.val (.int p0), .val (.int p1), .val (.int p2), .val (.int p3), .val (.int p4), .val (.int p5), .val (.int z1), .val (.int z7), .val (.int z13), .val (.int z19), .val (.int z26), .val (.int z33), .val (.ref b38), .unset, .unset, .unset, .unset, .unset, .unset, .unset, .unset, .unset] [(.double v68), (.double v65), (.double v62), (.ref b56), (.ref b56)])) rfl (by rw [hml]; rfl) (Steps.refl _) (a := b56) (argsL := [(.double v62), (.double v65), (.double v68)]) (rest := [(.ref b56)]) (lenOf pd2 rfl) rfl (by show 2 * 0 + _ ≤ _; exact Nat.le_of_eq rfl) (hb hby at_69) (fun _ _ => ⟨rfl, e56, (by decide : 2 + 0 ≤ _), (by decide : 6 + 0 ≤ _)⟩)
  dsimp only [Pt.U, Pt.locs, Pt.cells, Pt.slots] at X69 l69 y69 z69 st69 hQ69
  subst l69 y69 z69
  obtain ⟨rfl, Nq69, K69, E_b56_69, F_b56_x_69, F_b56_y_69, F_b56_z_69⟩ := hQ69
  have N69 := Fr.app N51 Nq69
  refine Dn.tr st69 ?_
  have E_b38_69 := E_b38_56.keep K69
  have F_b38_x_69 := F_b38_x_56.keep K69 (ninS ne_b38_b56 nin0)
  have F_b38_y_69 := F_b38_y_56.keep K69 (ninS ne_b38_b56 nin0)
  have F_b38_z_69 := F_b38_z_56.keep K69 (ninS ne_b38_b56 nin0)
  have Z69 : n0 ≤ T69.heap.size := Nat.le_trans Z56 K69.1
  show Dn p e below s _ _ _ (T69.setTop (mkF m 72 #[.val (.int p0), .val (.int p1), .val (.int p2), .val (.int p3), .val (.int p4), .val (.int p5), .val (.int z1), .val (.int z7), .val (.int z13), .val (.int z19), .val (.int z26), .val (.int z33), .val (.ref b38), .unset, .unset, .unset, .unset, .unset, .unset, .unset, .unset, .unset] [(.ref b56)]))
  refine Dn.st (fun _ kk => XS.astore X69.here hx rfl (hb hby at_72) rfl rfl (l' := #[.val (.int p0), .val (.int p1), .val (.int p2), .val (.int p3), .val (.int p4), .val (.int p5), .val (.int z1), .val (.int z7), .val (.int z13), .val (.int z19), .val (.int z26), .val (.int z33), .val (.ref b38), .val (.ref b56), .unset, .unset, .unset, .unset, .unset, .unset, .unset, .unset]) rfl (kk)) ?_
  show Dn p e below s _ _ _ (T69.setTop (mkF m 74 #[.val (.int p0), .val (.int p1), .val (.int p2), .val (.int p3), .val (.int p4), .val (.int p5), .val (.int z1), .val (.int z7), .val (.int z13), .val (.int z19), .val (.int z26), .val (.int z33), .val (.ref b38), .val (.ref b56), .unset, .unset, .unset, .unset, .unset, .unset, .unset, .unset] []))
  have m1 := own_mul bd1.1 bd1.2 bd19.1 bd19.2
  rw [Int.mul_comm z1.toInt] at m1
  have m1' := own_mul bd1.1 bd1.2 bd19.1 bd19.2
  have cm1 := Int.mul_comm z1.toInt z19.toInt
  have m7 := own_mul bd7.1 bd7.2 bd26.1 bd26.2
  rw [Int.mul_comm z7.toInt] at m7
  have m7' := own_mul bd7.1 bd7.2 bd26.1 bd26.2
  have cm7 := Int.mul_comm z7.toInt z26.toInt
  have m13 := own_mul bd13.1 bd13.2 bd33.1 bd33.2
  rw [Int.mul_comm z13.toInt] at m13
  have m13' := own_mul bd13.1 bd13.2 bd33.1 bd33.2
  have cm13 := Int.mul_comm z13.toInt z33.toInt
  refine Dn.st (fun _ kk => XS.iload X69.here hx rfl (hb hby at_74) rfl  (XS.i2l X69.here hx rfl (hb hby at_76) rfl (kk))) ?_
  show Dn p e below s _ _ _ (T69.setTop (mkF m 77 #[.val (.int p0), .val (.int p1), .val (.int p2), .val (.int p3), .val (.int p4), .val (.int p5), .val (.int z1), .val (.int z7), .val (.int z13), .val (.int z19), .val (.int z26), .val (.int z33), .val (.ref b38), .val (.ref b56), .unset, .unset, .unset, .unset, .unset, .unset, .unset, .unset] [(.long (z1.toInt64))]))
  generalize hv76 : ((z1.toInt64) : Int64) = v76
  have q76 : v76.toInt = z1.toInt := by have qq := c_i2l z1; rw [hv76] at qq; exact qq
  have r76 := rng64 v76
  show Dn p e below s _ _ _ (T69.setTop (mkF m 77 #[.val (.int p0), .val (.int p1), .val (.int p2), .val (.int p3), .val (.int p4), .val (.int p5), .val (.int z1), .val (.int z7), .val (.int z13), .val (.int z19), .val (.int z26), .val (.int z33), .val (.ref b38), .val (.ref b56), .unset, .unset, .unset, .unset, .unset, .unset, .unset, .unset] [(.long v76)]))
  refine Dn.st (fun _ kk => XS.iload X69.here hx rfl (hb hby at_77) rfl  (XS.i2l X69.here hx rfl (hb hby at_79) rfl (kk))) ?_
  show Dn p e below s _ _ _ (T69.setTop (mkF m 80 #[.val (.int p0), .val (.int p1), .val (.int p2), .val (.int p3), .val (.int p4), .val (.int p5), .val (.int z1), .val (.int z7), .val (.int z13), .val (.int z19), .val (.int z26), .val (.int z33), .val (.ref b38), .val (.ref b56), .unset, .unset, .unset, .unset, .unset, .unset, .unset, .unset] [(.long (z19.toInt64)), (.long v76)]))
  generalize hv79 : ((z19.toInt64) : Int64) = v79
  have q79 : v79.toInt = z19.toInt := by have qq := c_i2l z19; rw [hv79] at qq; exact qq
  have r79 := rng64 v79
  show Dn p e below s _ _ _ (T69.setTop (mkF m 80 #[.val (.int p0), .val (.int p1), .val (.int p2), .val (.int p3), .val (.int p4), .val (.int p5), .val (.int z1), .val (.int z7), .val (.int z13), .val (.int z19), .val (.int z26), .val (.int z33), .val (.ref b38), .val (.ref b56), .unset, .unset, .unset, .unset, .unset, .unset, .unset, .unset] [(.long v79), (.long v76)]))
  refine Dn.st (fun _ kk => XS.lmul X69.here hx rfl (hb hby at_80) rfl (kk)) ?_
  show Dn p e below s _ _ _ (T69.setTop (mkF m 81 #[.val (.int p0), .val (.int p1), .val (.int p2), .val (.int p3), .val (.int p4), .val (.int p5), .val (.int z1), .val (.int z7), .val (.int z13), .val (.int z19), .val (.int z26), .val (.int z33), .val (.ref b38), .val (.ref b56), .unset, .unset, .unset, .unset, .unset, .unset, .unset, .unset] [(.long (v76 * v79))]))
  generalize hv80 : ((v76 * v79) : Int64) = v80
  have q80 : (v80.toInt - (v76.toInt * v79.toInt)) % 18446744073709551616 = 0 := by have qq := c_lmul v76 v79; rw [hv80] at qq; exact qq
  have r80 := rng64 v80
  rw [q76, q79] at q80
  show Dn p e below s _ _ _ (T69.setTop (mkF m 81 #[.val (.int p0), .val (.int p1), .val (.int p2), .val (.int p3), .val (.int p4), .val (.int p5), .val (.int z1), .val (.int z7), .val (.int z13), .val (.int z19), .val (.int z26), .val (.int z33), .val (.ref b38), .val (.ref b56), .unset, .unset, .unset, .unset, .unset, .unset, .unset, .unset] [(.long v80)]))
  refine Dn.st (fun _ kk => XS.iload X69.here hx rfl (hb hby at_81) rfl  (XS.i2l X69.here hx rfl (hb hby at_83) rfl (kk))) ?_
  show Dn p e below s _ _ _ (T69.setTop (mkF m 84 #[.val (.int p0), .val (.int p1), .val (.int p2), .val (.int p3), .val (.int p4), .val (.int p5), .val (.int z1), .val (.int z7), .val (.int z13), .val (.int z19), .val (.int z26), .val (.int z33), .val (.ref b38), .val (.ref b56), .unset, .unset, .unset, .unset, .unset, .unset, .unset, .unset] [(.long (z7.toInt64)), (.long v80)]))
  generalize hv83 : ((z7.toInt64) : Int64) = v83
  have q83 : v83.toInt = z7.toInt := by have qq := c_i2l z7; rw [hv83] at qq; exact qq
  have r83 := rng64 v83
  show Dn p e below s _ _ _ (T69.setTop (mkF m 84 #[.val (.int p0), .val (.int p1), .val (.int p2), .val (.int p3), .val (.int p4), .val (.int p5), .val (.int z1), .val (.int z7), .val (.int z13), .val (.int z19), .val (.int z26), .val (.int z33), .val (.ref b38), .val (.ref b56), .unset, .unset, .unset, .unset, .unset, .unset, .unset, .unset] [(.long v83), (.long v80)]))
  refine Dn.st (fun _ kk => XS.iload X69.here hx rfl (hb hby at_84) rfl  (XS.i2l X69.here hx rfl (hb hby at_86) rfl (kk))) ?_
  show Dn p e below s _ _ _ (T69.setTop (mkF m 87 #[.val (.int p0), .val (.int p1), .val (.int p2), .val (.int p3), .val (.int p4), .val (.int p5), .val (.int z1), .val (.int z7), .val (.int z13), .val (.int z19), .val (.int z26), .val (.int z33), .val (.ref b38), .val (.ref b56), .unset, .unset, .unset, .unset, .unset, .unset, .unset, .unset] [(.long (z26.toInt64)), (.long v83), (.long v80)]))
  generalize hv86 : ((z26.toInt64) : Int64) = v86
  have q86 : v86.toInt = z26.toInt := by have qq := c_i2l z26; rw [hv86] at qq; exact qq
  have r86 := rng64 v86
  show Dn p e below s _ _ _ (T69.setTop (mkF m 87 #[.val (.int p0), .val (.int p1), .val (.int p2), .val (.int p3), .val (.int p4), .val (.int p5), .val (.int z1), .val (.int z7), .val (.int z13), .val (.int z19), .val (.int z26), .val (.int z33), .val (.ref b38), .val (.ref b56), .unset, .unset, .unset, .unset, .unset, .unset, .unset, .unset] [(.long v86), (.long v83), (.long v80)]))
  refine Dn.st (fun _ kk => XS.lmul X69.here hx rfl (hb hby at_87) rfl (kk)) ?_
  show Dn p e below s _ _ _ (T69.setTop (mkF m 88 #[.val (.int p0), .val (.int p1), .val (.int p2), .val (.int p3), .val (.int p4), .val (.int p5), .val (.int z1), .val (.int z7), .val (.int z13), .val (.int z19), .val (.int z26), .val (.int z33), .val (.ref b38), .val (.ref b56), .unset, .unset, .unset, .unset, .unset, .unset, .unset, .unset] [(.long (v83 * v86)), (.long v80)]))
  generalize hv87 : ((v83 * v86) : Int64) = v87
  have q87 : (v87.toInt - (v83.toInt * v86.toInt)) % 18446744073709551616 = 0 := by have qq := c_lmul v83 v86; rw [hv87] at qq; exact qq
  have r87 := rng64 v87
  rw [q83, q86] at q87
  show Dn p e below s _ _ _ (T69.setTop (mkF m 88 #[.val (.int p0), .val (.int p1), .val (.int p2), .val (.int p3), .val (.int p4), .val (.int p5), .val (.int z1), .val (.int z7), .val (.int z13), .val (.int z19), .val (.int z26), .val (.int z33), .val (.ref b38), .val (.ref b56), .unset, .unset, .unset, .unset, .unset, .unset, .unset, .unset] [(.long v87), (.long v80)]))
  refine Dn.st (fun _ kk => XS.ladd X69.here hx rfl (hb hby at_88) rfl (kk)) ?_
  show Dn p e below s _ _ _ (T69.setTop (mkF m 89 #[.val (.int p0), .val (.int p1), .val (.int p2), .val (.int p3), .val (.int p4), .val (.int p5), .val (.int z1), .val (.int z7), .val (.int z13), .val (.int z19), .val (.int z26), .val (.int z33), .val (.ref b38), .val (.ref b56), .unset, .unset, .unset, .unset, .unset, .unset, .unset, .unset] [(.long (v80 + v87))]))
  generalize hv88 : ((v80 + v87) : Int64) = v88
  have q88 : (v88.toInt - (v80.toInt + v87.toInt)) % 18446744073709551616 = 0 := by have qq := c_ladd v80 v87; rw [hv88] at qq; exact qq
  have r88 := rng64 v88
  show Dn p e below s _ _ _ (T69.setTop (mkF m 89 #[.val (.int p0), .val (.int p1), .val (.int p2), .val (.int p3), .val (.int p4), .val (.int p5), .val (.int z1), .val (.int z7), .val (.int z13), .val (.int z19), .val (.int z26), .val (.int z33), .val (.ref b38), .val (.ref b56), .unset, .unset, .unset, .unset, .unset, .unset, .unset, .unset] [(.long v88)]))
  refine Dn.st (fun _ kk => XS.iload X69.here hx rfl (hb hby at_89) rfl  (XS.i2l X69.here hx rfl (hb hby at_91) rfl (kk))) ?_
  show Dn p e below s _ _ _ (T69.setTop (mkF m 92 #[.val (.int p0), .val (.int p1), .val (.int p2), .val (.int p3), .val (.int p4), .val (.int p5), .val (.int z1), .val (.int z7), .val (.int z13), .val (.int z19), .val (.int z26), .val (.int z33), .val (.ref b38), .val (.ref b56), .unset, .unset, .unset, .unset, .unset, .unset, .unset, .unset] [(.long (z13.toInt64)), (.long v88)]))
  generalize hv91 : ((z13.toInt64) : Int64) = v91
  have q91 : v91.toInt = z13.toInt := by have qq := c_i2l z13; rw [hv91] at qq; exact qq
  have r91 := rng64 v91
  show Dn p e below s _ _ _ (T69.setTop (mkF m 92 #[.val (.int p0), .val (.int p1), .val (.int p2), .val (.int p3), .val (.int p4), .val (.int p5), .val (.int z1), .val (.int z7), .val (.int z13), .val (.int z19), .val (.int z26), .val (.int z33), .val (.ref b38), .val (.ref b56), .unset, .unset, .unset, .unset, .unset, .unset, .unset, .unset] [(.long v91), (.long v88)]))
  refine Dn.st (fun _ kk => XS.iload X69.here hx rfl (hb hby at_92) rfl  (XS.i2l X69.here hx rfl (hb hby at_94) rfl (kk))) ?_
  show Dn p e below s _ _ _ (T69.setTop (mkF m 95 #[.val (.int p0), .val (.int p1), .val (.int p2), .val (.int p3), .val (.int p4), .val (.int p5), .val (.int z1), .val (.int z7), .val (.int z13), .val (.int z19), .val (.int z26), .val (.int z33), .val (.ref b38), .val (.ref b56), .unset, .unset, .unset, .unset, .unset, .unset, .unset, .unset] [(.long (z33.toInt64)), (.long v91), (.long v88)]))
  generalize hv94 : ((z33.toInt64) : Int64) = v94
  have q94 : v94.toInt = z33.toInt := by have qq := c_i2l z33; rw [hv94] at qq; exact qq
  have r94 := rng64 v94
  show Dn p e below s _ _ _ (T69.setTop (mkF m 95 #[.val (.int p0), .val (.int p1), .val (.int p2), .val (.int p3), .val (.int p4), .val (.int p5), .val (.int z1), .val (.int z7), .val (.int z13), .val (.int z19), .val (.int z26), .val (.int z33), .val (.ref b38), .val (.ref b56), .unset, .unset, .unset, .unset, .unset, .unset, .unset, .unset] [(.long v94), (.long v91), (.long v88)]))
  refine Dn.st (fun _ kk => XS.lmul X69.here hx rfl (hb hby at_95) rfl (kk)) ?_
  show Dn p e below s _ _ _ (T69.setTop (mkF m 96 #[.val (.int p0), .val (.int p1), .val (.int p2), .val (.int p3), .val (.int p4), .val (.int p5), .val (.int z1), .val (.int z7), .val (.int z13), .val (.int z19), .val (.int z26), .val (.int z33), .val (.ref b38), .val (.ref b56), .unset, .unset, .unset, .unset, .unset, .unset, .unset, .unset] [(.long (v91 * v94)), (.long v88)]))
  generalize hv95 : ((v91 * v94) : Int64) = v95
  have q95 : (v95.toInt - (v91.toInt * v94.toInt)) % 18446744073709551616 = 0 := by have qq := c_lmul v91 v94; rw [hv95] at qq; exact qq
  have r95 := rng64 v95
  rw [q91, q94] at q95
  show Dn p e below s _ _ _ (T69.setTop (mkF m 96 #[.val (.int p0), .val (.int p1), .val (.int p2), .val (.int p3), .val (.int p4), .val (.int p5), .val (.int z1), .val (.int z7), .val (.int z13), .val (.int z19), .val (.int z26), .val (.int z33), .val (.ref b38), .val (.ref b56), .unset, .unset, .unset, .unset, .unset, .unset, .unset, .unset] [(.long v95), (.long v88)]))
  refine Dn.st (fun _ kk => XS.ladd X69.here hx rfl (hb hby at_96) rfl (kk)) ?_
  show Dn p e below s _ _ _ (T69.setTop (mkF m 97 #[.val (.int p0), .val (.int p1), .val (.int p2), .val (.int p3), .val (.int p4), .val (.int p5), .val (.int z1), .val (.int z7), .val (.int z13), .val (.int z19), .val (.int z26), .val (.int z33), .val (.ref b38), .val (.ref b56), .unset, .unset, .unset, .unset, .unset, .unset, .unset, .unset] [(.long (v88 + v95))]))
  generalize hv96 : ((v88 + v95) : Int64) = v96
  have q96 : (v96.toInt - (v88.toInt + v95.toInt)) % 18446744073709551616 = 0 := by have qq := c_ladd v88 v95; rw [hv96] at qq; exact qq
  have r96 := rng64 v96
  show Dn p e below s _ _ _ (T69.setTop (mkF m 97 #[.val (.int p0), .val (.int p1), .val (.int p2), .val (.int p3), .val (.int p4), .val (.int p5), .val (.int z1), .val (.int z7), .val (.int z13), .val (.int z19), .val (.int z26), .val (.int z33), .val (.ref b38), .val (.ref b56), .unset, .unset, .unset, .unset, .unset, .unset, .unset, .unset] [(.long v96)]))
  refine Dn.st (fun _ kk => XS.lstore X69.here hx rfl (hb hby at_97) rfl (l' := #[.val (.int p0), .val (.int p1), .val (.int p2), .val (.int p3), .val (.int p4), .val (.int p5), .val (.int z1), .val (.int z7), .val (.int z13), .val (.int z19), .val (.int z26), .val (.int z33), .val (.ref b38), .val (.ref b56), .val (.long v96), .second, .unset, .unset, .unset, .unset, .unset, .unset]) rfl (XS.lload X69.here hx rfl (hb hby at_99) rfl  (kk))) ?_
  show Dn p e below s _ _ _ (T69.setTop (mkF m 101 #[.val (.int p0), .val (.int p1), .val (.int p2), .val (.int p3), .val (.int p4), .val (.int p5), .val (.int z1), .val (.int z7), .val (.int z13), .val (.int z19), .val (.int z26), .val (.int z33), .val (.ref b38), .val (.ref b56), .val (.long v96), .second, .unset, .unset, .unset, .unset, .unset, .unset] [(.long v96)]))
  have d101 := DS.l2d (v := v96) (by omega)
  refine Dn.st (fun _ kk => XS.l2dS X69.here hx rfl (hb hby at_101) rfl rfl (kk)) ?_
  show Dn p e below s _ _ _ (T69.setTop (mkF m 102 #[.val (.int p0), .val (.int p1), .val (.int p2), .val (.int p3), .val (.int p4), .val (.int p5), .val (.int z1), .val (.int z7), .val (.int z13), .val (.int z19), .val (.int z26), .val (.int z33), .val (.ref b38), .val (.ref b56), .val (.long v96), .second, .unset, .unset, .unset, .unset, .unset, .unset] [(.double (FP.l2d v96))]))
  generalize hv101 : ((FP.l2d v96) : UInt64) = v101 at d101 ⊢
  show Dn p e below s _ _ _ (T69.setTop (mkF m 102 #[.val (.int p0), .val (.int p1), .val (.int p2), .val (.int p3), .val (.int p4), .val (.int p5), .val (.int z1), .val (.int z7), .val (.int z13), .val (.int z19), .val (.int z26), .val (.int z33), .val (.ref b38), .val (.ref b56), .val (.long v96), .second, .unset, .unset, .unset, .unset, .unset, .unset] [(.double v101)]))
  refine Dn.st (fun _ kk => XS.dstore X69.here hx rfl (hb hby at_102) rfl (l' := #[.val (.int p0), .val (.int p1), .val (.int p2), .val (.int p3), .val (.int p4), .val (.int p5), .val (.int z1), .val (.int z7), .val (.int z13), .val (.int z19), .val (.int z26), .val (.int z33), .val (.ref b38), .val (.ref b56), .val (.long v96), .second, .val (.double v101), .second, .unset, .unset, .unset, .unset]) rfl (XS.aload X69.here hx rfl (hb hby at_104) rfl rfl (XS.aload X69.here hx rfl (hb hby at_106) rfl rfl (kk)))) ?_
  show Dn p e below s _ _ _ (T69.setTop (mkF m 108 #[.val (.int p0), .val (.int p1), .val (.int p2), .val (.int p3), .val (.int p4), .val (.int p5), .val (.int z1), .val (.int z7), .val (.int z13), .val (.int z19), .val (.int z26), .val (.int z33), .val (.ref b38), .val (.ref b56), .val (.long v96), .second, .val (.double v101), .second, .unset, .unset, .unset, .unset] [(.ref b56), (.ref b38)]))
  obtain ⟨cq108, kq108, q108a, q108b, q108c⟩ := isOf hZ rfl E_b38_69
  obtain ⟨_, _, ⟨T108, L108, k108, n108⟩, -, X108, ⟨Lc108, hQ108, l108, y108, z108⟩, st108⟩ := X69.virtualBack hx (y := (⟨"org/rupturecast/faults/Vector", "dot", "(Lorg/rupturecast/faults/Vector;)D"⟩ : MethodName)) (z := (⟨"org/rupturecast/faults/Vector", "dot", "(Lorg/rupturecast/faults/Vector;)D"⟩ : MethodName)) hown (mvT hZ (hw _ (List.mem_of_getElem? (i := 24) rfl))) (mvT hZ (hw _ (List.mem_of_getElem? (i := 25) rfl))) (notFace_of_selects (args := #[]) (mvT hZ (hw _ (List.mem_of_getElem? (i := 27) rfl)))) (mvT hZ (hw _ (List.mem_of_getElem? (i := 27) rfl))) (mvT hZ (hw _ (List.mem_of_getElem? (i := 26) rfl))) (by decide) (backOf (W := 0) (rm5 l Z a0 hw [] b38 b56 v44 v47 v50 v62 v65 v68 z1.toInt z7.toInt z13.toInt z19.toInt z26.toInt z33.toInt T69.heap n0 Z69 F_b38_x_69 F_b38_y_69 F_b38_z_69 F_b56_x_69 F_b56_y_69 F_b56_z_69 d44 d47 d50 d62 d65 d68 bd1 bd7 bd13 bd19 bd26 bd33) hZ (hw _ (List.mem_of_getElem? (i := 28) rfl)) (hw _ (List.mem_of_getElem? (i := 6) rfl)) (by decide) (by decide)) q108a q108c (g := (mkF m 108 #[.val (.int p0), .val (.int p1), .val (.int p2), .val (.int p3), .val (.int p4), .val (.int p5), .val (.int z1), .val (.int z7), .val (.int z13), .val (.int z19), .val (.int z26), .val (.int z33), .val (.ref b38), .val (.ref b56), .val (.long v96), .second, .val (.double v101), .second, .unset, .unset, .unset, .unset] [(.ref b56), (.ref b38)])) rfl (by rw [hml]; rfl) (Steps.refl _) (argsL := [(.ref b56)]) (rest := []) (lenOf pd3 rfl) rfl (by show 2 * 0 + _ ≤ _; exact Nat.le_of_eq rfl) (hb hby at_108) (fun _ _ => ⟨rfl, rfl, (by decide : 2 + 0 ≤ _), (by decide : 6 + 0 ≤ _)⟩)
  dsimp only [Pt.U, Pt.locs, Pt.cells, Pt.slots] at X108 l108 y108 z108 st108 hQ108
  subst l108 y108 z108
  obtain ⟨z108, rfl, d108, Nq108, hh108⟩ := hQ108
  have N108 := Fr.app N69 Nq108
  refine Dn.tr st108 ?_
  show Dn p e below s _ _ _ (T108.setTop (mkF m 111 #[.val (.int p0), .val (.int p1), .val (.int p2), .val (.int p3), .val (.int p4), .val (.int p5), .val (.int z1), .val (.int z7), .val (.int z13), .val (.int z19), .val (.int z26), .val (.int z33), .val (.ref b38), .val (.ref b56), .val (.long v96), .second, .val (.double v101), .second, .unset, .unset, .unset, .unset] [(.double z108)]))
  refine Dn.st (fun _ kk => XS.dstore X108.here hx rfl (hb hby at_111) rfl (l' := #[.val (.int p0), .val (.int p1), .val (.int p2), .val (.int p3), .val (.int p4), .val (.int p5), .val (.int z1), .val (.int z7), .val (.int z13), .val (.int z19), .val (.int z26), .val (.int z33), .val (.ref b38), .val (.ref b56), .val (.long v96), .second, .val (.double v101), .second, .val (.double z108), .second, .unset, .unset]) rfl (XS.aload X108.here hx rfl (hb hby at_113) rfl rfl (XS.aload X108.here hx rfl (hb hby at_115) rfl rfl (kk)))) ?_
  show Dn p e below s _ _ _ (T108.setTop (mkF m 117 #[.val (.int p0), .val (.int p1), .val (.int p2), .val (.int p3), .val (.int p4), .val (.int p5), .val (.int z1), .val (.int z7), .val (.int z13), .val (.int z19), .val (.int z26), .val (.int z33), .val (.ref b38), .val (.ref b56), .val (.long v96), .second, .val (.double v101), .second, .val (.double z108), .second, .unset, .unset] [(.ref b38), (.ref b56)]))
  obtain ⟨cq117, kq117, q117a, q117b, q117c⟩ := isOf hZ hh108 E_b56_69
  obtain ⟨_, _, ⟨T117, L117, k117, n117⟩, -, X117, ⟨Lc117, hQ117, l117, y117, z117⟩, st117⟩ := X108.virtualBack hx (y := (⟨"org/rupturecast/faults/Vector", "dot", "(Lorg/rupturecast/faults/Vector;)D"⟩ : MethodName)) (z := (⟨"org/rupturecast/faults/Vector", "dot", "(Lorg/rupturecast/faults/Vector;)D"⟩ : MethodName)) hown (mvT hZ (hw _ (List.mem_of_getElem? (i := 24) rfl))) (mvT hZ (hw _ (List.mem_of_getElem? (i := 25) rfl))) (notFace_of_selects (args := #[]) (mvT hZ (hw _ (List.mem_of_getElem? (i := 27) rfl)))) (mvT hZ (hw _ (List.mem_of_getElem? (i := 27) rfl))) (mvT hZ (hw _ (List.mem_of_getElem? (i := 26) rfl))) (by decide) (backOf (W := 0) (rm5 l Z a0 hw [] b56 b38 v62 v65 v68 v44 v47 v50 z19.toInt z26.toInt z33.toInt z1.toInt z7.toInt z13.toInt T69.heap n0 Z69 F_b56_x_69 F_b56_y_69 F_b56_z_69 F_b38_x_69 F_b38_y_69 F_b38_z_69 d62 d65 d68 d44 d47 d50 bd19 bd26 bd33 bd1 bd7 bd13) hZ (hw _ (List.mem_of_getElem? (i := 28) rfl)) (hw _ (List.mem_of_getElem? (i := 6) rfl)) (by decide) (by decide)) q117a q117c (g := (mkF m 117 #[.val (.int p0), .val (.int p1), .val (.int p2), .val (.int p3), .val (.int p4), .val (.int p5), .val (.int z1), .val (.int z7), .val (.int z13), .val (.int z19), .val (.int z26), .val (.int z33), .val (.ref b38), .val (.ref b56), .val (.long v96), .second, .val (.double v101), .second, .val (.double z108), .second, .unset, .unset] [(.ref b38), (.ref b56)])) rfl (by rw [hml]; rfl) (Steps.refl _) (argsL := [(.ref b38)]) (rest := []) (lenOf pd3 rfl) rfl (by show 2 * 0 + _ ≤ _; exact Nat.le_of_eq rfl) (hb hby at_117) (fun _ _ => ⟨rfl, hh108, (by decide : 2 + 0 ≤ _), (by decide : 6 + 0 ≤ _)⟩)
  dsimp only [Pt.U, Pt.locs, Pt.cells, Pt.slots] at X117 l117 y117 z117 st117 hQ117
  subst l117 y117 z117
  obtain ⟨z117, rfl, d117, Nq117, hh117⟩ := hQ117
  have N117 := Fr.app N108 Nq117
  refine Dn.tr st117 ?_
  show Dn p e below s _ _ _ (T117.setTop (mkF m 120 #[.val (.int p0), .val (.int p1), .val (.int p2), .val (.int p3), .val (.int p4), .val (.int p5), .val (.int z1), .val (.int z7), .val (.int z13), .val (.int z19), .val (.int z26), .val (.int z33), .val (.ref b38), .val (.ref b56), .val (.long v96), .second, .val (.double v101), .second, .val (.double z108), .second, .unset, .unset] [(.double z117)]))
  refine Dn.st (fun _ kk => XS.dstore X117.here hx rfl (hb hby at_120) rfl (l' := #[.val (.int p0), .val (.int p1), .val (.int p2), .val (.int p3), .val (.int p4), .val (.int p5), .val (.int z1), .val (.int z7), .val (.int z13), .val (.int z19), .val (.int z26), .val (.int z33), .val (.ref b38), .val (.ref b56), .val (.long v96), .second, .val (.double v101), .second, .val (.double z108), .second, .val (.double z117), .second]) rfl (XS.dload X117.here hx rfl (hb hby at_122) rfl  (XS.dload X117.here hx rfl (hb hby at_124) rfl  (XS.dcmpS X117.here hx rfl (hb hby at_126) rfl (DS.cmpV d108 d101 _) (kk))))) ?_
  show Dn p e below s _ _ _ (T117.setTop (mkF m 127 #[.val (.int p0), .val (.int p1), .val (.int p2), .val (.int p3), .val (.int p4), .val (.int p5), .val (.int z1), .val (.int z7), .val (.int z13), .val (.int z19), .val (.int z26), .val (.int z33), .val (.ref b38), .val (.ref b56), .val (.long v96), .second, .val (.double v101), .second, .val (.double z108), .second, .val (.double z117), .second] [(.int (c3 (z1.toInt * z19.toInt + z7.toInt * z26.toInt + z13.toInt * z33.toInt) v96.toInt))]))
  by_cases hc127 : (c3 (z1.toInt * z19.toInt + z7.toInt * z26.toInt + z13.toInt * z33.toInt) v96.toInt) = (0 : Int32)
  · have hi127 := (c3_eq _ _).mp hc127
    refine Dn.st (fun _ kk => XS.ifNo X117.here hx rfl (hb hby at_127) rfl ((if0 _ _).trans (teq hc127).2) (XS.dload X117.here hx rfl (hb hby at_130) rfl  (XS.dload X117.here hx rfl (hb hby at_132) rfl  (XS.dcmpS X117.here hx rfl (hb hby at_134) rfl (DS.cmpV d117 d101 _) (kk))))) ?_
    show Dn p e below s _ _ _ (T117.setTop (mkF m 135 #[.val (.int p0), .val (.int p1), .val (.int p2), .val (.int p3), .val (.int p4), .val (.int p5), .val (.int z1), .val (.int z7), .val (.int z13), .val (.int z19), .val (.int z26), .val (.int z33), .val (.ref b38), .val (.ref b56), .val (.long v96), .second, .val (.double v101), .second, .val (.double z108), .second, .val (.double z117), .second] [(.int (c3 (z19.toInt * z1.toInt + z26.toInt * z7.toInt + z33.toInt * z13.toInt) v96.toInt))]))
    by_cases hc135 : (c3 (z19.toInt * z1.toInt + z26.toInt * z7.toInt + z33.toInt * z13.toInt) v96.toInt) = (0 : Int32)
    · have hi135 := (c3_eq _ _).mp hc135
      refine Dn.st (fun _ kk => XS.ifNo X117.here hx rfl (hb hby at_135) rfl ((if0 _ _).trans (teq hc135).2) (XS.iconst X117.here hx rfl (hb hby at_138) (XS.goto X117.here hx rfl (pc0 := 139) (pc' := 143) rfl (hb hby at_139) (by decide) (by decide) (kk)))) ?_
      show Dn p e below s _ _ _ (T117.setTop (mkF m 143 #[.val (.int p0), .val (.int p1), .val (.int p2), .val (.int p3), .val (.int p4), .val (.int p5), .val (.int z1), .val (.int z7), .val (.int z13), .val (.int z19), .val (.int z26), .val (.int z33), .val (.ref b38), .val (.ref b56), .val (.long v96), .second, .val (.double v101), .second, .val (.double z108), .second, .val (.double z117), .second] [(.int (1 : Int32))]))
      exact Dn.ret X117 hlk hx hret rfl (Or.inl ⟨rfl, Or.inr (Or.inl rfl), _, rfl⟩) (hb hby at_143) (by rw [hh117]; exact ⟨rfl, N117⟩) (by decide) (by decide)
    · have hi135 := mt (c3_eq _ _).mpr hc135
      refine Dn.st (fun _ kk => XS.ifYes X117.here hx rfl (pc0 := 135) (pc' := 142) rfl (hb hby at_135) rfl ((if0 _ _).trans (feq hc135).2) (by decide) (by decide) (kk)) ?_
      show Dn p e below s _ _ _ (T117.setTop (mkF m 142 #[.val (.int p0), .val (.int p1), .val (.int p2), .val (.int p3), .val (.int p4), .val (.int p5), .val (.int z1), .val (.int z7), .val (.int z13), .val (.int z19), .val (.int z26), .val (.int z33), .val (.ref b38), .val (.ref b56), .val (.long v96), .second, .val (.double v101), .second, .val (.double z108), .second, .val (.double z117), .second] []))
      exfalso
      omega
  · have hi127 := mt (c3_eq _ _).mpr hc127
    refine Dn.st (fun _ kk => XS.ifYes X117.here hx rfl (pc0 := 127) (pc' := 142) rfl (hb hby at_127) rfl ((if0 _ _).trans (feq hc127).2) (by decide) (by decide) (kk)) ?_
    show Dn p e below s _ _ _ (T117.setTop (mkF m 142 #[.val (.int p0), .val (.int p1), .val (.int p2), .val (.int p3), .val (.int p4), .val (.int p5), .val (.int z1), .val (.int z7), .val (.int z13), .val (.int z19), .val (.int z26), .val (.int z33), .val (.ref b38), .val (.ref b56), .val (.long v96), .second, .val (.double v101), .second, .val (.double z108), .second, .val (.double z117), .second] []))
    exfalso
    omega

set_option maxRecDepth 65536 in
set_option maxHeartbeats 40000000 in
theorem comes_1 {Post : Tables → Env → Array Value → State → Outcome → State → Prop} (hpost : ∀ tb e args s v u, (limb_1_1.after args s (.returned v) u = true ∧ limb_1_2.after args s (.returned v) u = true ∧ True) → FrameEnd s (.returned v) u (Jvm.fieldLocs frame_1_writes args s ++ Jvm.arrayLocs frame_1_arrays args s ++ Jvm.staticLocs frame_1_statics s) 16 128 → Post tb e args s (.returned v) u) :
    ArmFor flags0 classFile x code maxLocals ret World_1 tables_1 room_1 Calls_1 rest_1 Pre_1 Post := by
  intro l hfl _ _ p e ha hc hk s m args below hf hA hF happ hP
  obtain ⟨hcalls, hrest, hpre⟩ := hP
  obtain ⟨-, -, -, hnamed, -, -, -, hat⟩ := (Spec.applies_iff hf).mp happ
  obtain ⟨hg, hn⟩ := and_e (Cond.before_iff.mp (show (Jvm.Cond.and given_1 narrow_1).before args s = true from hpre))
  obtain ⟨g1a, g1b⟩ := and_e hg
  obtain ⟨g2a, g2b⟩ := and_e g1b
  obtain ⟨g3a, g3b⟩ := and_e g2b
  obtain ⟨g4a, g4b⟩ := and_e g3b
  obtain ⟨g5a, g5b⟩ := and_e g4b
  obtain ⟨g6a, g6b⟩ := and_e g5b
  obtain ⟨w0, w1, w2, w3, w4, w5, rfl⟩ : ∃ w0 w1 w2 w3 w4 w5 : Value, args = #[w0, w1, w2, w3, w4, w5] := by
    have hs : args.size = 6 := by simpa [Cond.value, given_1] using g1a
    obtain ⟨L⟩ := args
    match L, hs with
    | [w0, w1, w2, w3, w4, w5], _ => exact ⟨w0, w1, w2, w3, w4, w5, rfl⟩
  have hw := fun d (hd : d ∈ tables_1) => atoms_spec (ws := Jvm.Cond.code x code maxLocals ret :: tables_1) hat d (List.mem_cons_of_mem _ hd)
  have hfit : Fit s := fun {y c} hc i hi => by
    obtain ⟨ha, rfl⟩ := Array.getElem?_eq_some_iff.mp hc
    have q := List.all_eq_true.mp ((Array.all_eq_true_iff_forall_mem.mp hF) _ (Array.getElem_mem ha)) i (List.mem_range.mpr hi)
    simpa [Array.getElem?_eq_getElem hi] using q
  obtain ⟨i0, ei0⟩ := is_v g2a
  obtain rfl : w0 = (.int i0) := Option.some.inj ei0
  obtain ⟨i1, ei1⟩ := is_v g3a
  obtain rfl : w1 = (.int i1) := Option.some.inj ei1
  obtain ⟨i2, ei2⟩ := is_v g4a
  obtain rfl : w2 = (.int i2) := Option.some.inj ei2
  obtain ⟨i3, ei3⟩ := is_v g5a
  obtain rfl : w3 = (.int i3) := Option.some.inj ei3
  obtain ⟨i4, ei4⟩ := is_v g6a
  obtain rfl : w4 = (.int i4) := Option.some.inj ei4
  obtain ⟨i5, ei5⟩ := is_v g6b
  obtain rfl : w5 = (.int i5) := Option.some.inj ei5
  obtain ⟨n, o, h1, h2, h3, _, L, rfl, ⟨rfl, N⟩, hq⟩ := rm0 l s _ hw tables_1 i0 i1 i2 i3 i4 i5  s.heap s.heap.size (Nat.le_refl _)  p e ha hc hk s m _ below hf ((Spec.applies_iff_loose hf).mp happ).1 ⟨rfl, State.Warmed39.refl s, rfl⟩ trivial
  refine ⟨n, _, h1, h2, h3, hpost _ _ _ _ _ _ ⟨Cond.after_iff.mpr rfl, Cond.after_iff.mpr (eq_i res_at (Term.int_eval (1)) rfl), trivial⟩ ⟨hq.1, hq.2.1, (hq.2.2.sift fun y hy => Or.inr (N y hy)).mono (by decide) (by decide)⟩⟩
theorem main_1_1 : Claimed_1_1 := comes_1 fun _ _ _ _ _ _ h hF => ⟨h.1, hF⟩
theorem main_1_2 : Claimed_1_2 := comes_1 fun _ _ _ _ _ _ h hF => ⟨h.2.1, hF⟩
end Jvm.Pilot.@@N@@
namespace Jvm.Pilot.@@N@@
open Jvm Jvm.ClassFile Sem Op Lib Jvm.Free Jvm.Stand Jvm.Pilot.@@N@@.Jvm.D
/-! MADE BY PROGRAM (witnessworld.py) out of the Statement's table words and the real class files: 10 classes; the members and pool entries that the words name. The judged class is class 1, her method 2. -/
namespace start1
open Jvm.ClassFile
def u (s : String) : CpInfo := .utf8 (stringToUtf16 s)
/-- a pool by its gaps: so many unusable entries, then the entry; so many at the end -/
def gap : Nat → List CpInfo → List CpInfo
  | 0, r => r
  | n + 1, r => .unusable :: gap n r
def poolList (es : List (Nat × CpInfo)) (last : Nat) : List CpInfo := es.foldr (fun e r => gap e.1 (e.2 :: r)) (gap last [])
def pool (es : List (Nat × CpInfo)) (last : Nat) : Array CpInfo := ⟨poolList es last⟩
def fileOf (pool : Array CpInfo) (this : Nat) (attrs : Array Attribute := #[]) (ms : Array MethodInfo := #[]) (fl : Nat := 33) (sup : Nat := 0) (ifs : Array Nat := #[]) (fds : Array FieldInfo := #[]) : ClassFile where
  minorVersion := 0
  majorVersion := 65
  constantPool := pool
  accessFlags := fl
  thisClass := this
  superClass := sup
  interfaces := ifs
  fields := fds
  methods := ms
  attributes := attrs
def plain (name : String) (sup : Option ClassId) : Class where
  name := name
  kind := .ordinary
  loader := none
  accessFlags := 33
  super := sup
  interfaces := #[]
  cf := none
  fields := #[]
  methods := #[]
  instanceTypes := #[]
  staticTypes := #[]
  resolved := #[]
  callSites := []
  init := .initialized
  statics := none
  mirror := none

def pool0 : Array CpInfo := pool [(5, u "<init>"), (0, u "()V"), (1, .class_ 10), (1, u "java/lang/Object")] 113

def k0c0 : Code := { maxStack := 0, maxLocals := 1, code := object_method_1_code, exceptionTable := #[], attributes := #[] }
def k0m0 : Method := { name := "<init>", desc := "()V", sig := { parameters := [], returnType := none }, accessFlags := 1, code := some k0c0 }
/-- java/lang/Object -/
def k0 : Class := { plain "java/lang/Object" none with
  accessFlags := 33
  interfaces := #[]
  cf := some (fileOf pool0 8 #[] #[{ accessFlags := 1, nameIndex := 5, descriptorIndex := 6, attributes := #[] }] 33 0 #[] #[])
  fields := #[]
  methods := #[k0m0]
  instanceTypes := #[]
  staticTypes := #[]
  resolved := Array.replicate 124 none
  statics := none }

def pool1 : Array CpInfo := pool [(2, .class_ 4), (1, u "java/lang/Object"), (0, u "<init>"), (0, u "()V"), (0, .methodref 8 9), (0, .class_ 10), (0, .nameAndType 11 12), (0, u "org/rupturecast/faults/VectorDotPinLaw"), (0, u "coord"), (0, u "(I)I"), (0, .class_ 14), (0, u "org/rupturecast/faults/Vector"), (0, .methodref 13 16), (0, .nameAndType 5 17), (0, u "(DDD)V"), (0, .methodref 13 19), (0, .nameAndType 20 21), (0, u "dot"), (0, u "(Lorg/rupturecast/faults/Vector;)D"), (2, u "law"), (0, u "(IIIIII)Z")] 3

def k1m0 : Method := { name := "<init>", desc := "()V", sig := { parameters := [], returnType := none }, accessFlags := 1, code := none }
def k1c1 : Code := { maxStack := 2, maxLocals := 1, code := method_2_code, exceptionTable := #[], attributes := #[] }
def k1m1 : Method := { name := "coord", desc := "(I)I", sig := { parameters := [.int], returnType := some .int }, accessFlags := 10, code := some k1c1 }
def k1c2 : Code := { maxStack := 8, maxLocals := 22, code := code, exceptionTable := #[], attributes := #[] }
def k1m2 : Method := { name := "law", desc := "(IIIIII)Z", sig := { parameters := [.int, .int, .int, .int, .int, .int], returnType := some .boolean }, accessFlags := 9, code := some k1c2 }
/-- org/rupturecast/faults/VectorDotPinLaw -/
def k1 : Class := { plain "org/rupturecast/faults/VectorDotPinLaw" (some 0) with
  accessFlags := 49
  interfaces := #[]
  cf := some (fileOf pool1 8 #[] #[{ accessFlags := 1, nameIndex := 5, descriptorIndex := 6, attributes := #[] }, { accessFlags := 10, nameIndex := 11, descriptorIndex := 12, attributes := #[] }, { accessFlags := 9, nameIndex := 24, descriptorIndex := 25, attributes := #[] }] 49 2 #[] #[])
  fields := #[]
  methods := #[k1m0, k1m1, k1m2]
  instanceTypes := #[]
  staticTypes := #[]
  resolved := Array.replicate 29 none
  statics := none }

def pool2 : Array CpInfo := pool [(1, .methodref 2 3), (0, .class_ 4), (0, .nameAndType 5 6), (0, u "java/lang/Object"), (0, u "<init>"), (0, u "()V"), (0, .class_ 8), (0, u "java/lang/Record")] 13

def k2c0 : Code := { maxStack := 1, maxLocals := 1, code := jdk_30_method_1_code, exceptionTable := #[], attributes := #[] }
def k2m0 : Method := { name := "<init>", desc := "()V", sig := { parameters := [], returnType := none }, accessFlags := 4, code := some k2c0 }
/-- java/lang/Record -/
def k2 : Class := { plain "java/lang/Record" (some 0) with
  accessFlags := 1057
  interfaces := #[]
  cf := some (fileOf pool2 7 #[] #[{ accessFlags := 4, nameIndex := 5, descriptorIndex := 6, attributes := #[] }] 1057 2 #[] #[])
  fields := #[]
  methods := #[k2m0]
  instanceTypes := #[]
  staticTypes := #[]
  resolved := Array.replicate 22 none
  statics := none }

def pool3 : Array CpInfo := pool [(1, .methodref 2 3), (0, .class_ 4), (0, .nameAndType 5 6), (0, u "java/lang/Record"), (0, u "<init>"), (0, u "()V"), (0, .fieldref 8 9), (0, .class_ 10), (0, .nameAndType 11 12), (0, u "org/rupturecast/faults/Vector"), (0, u "x"), (0, u "D"), (0, .fieldref 8 14), (0, .nameAndType 15 12), (0, u "y"), (0, .fieldref 8 17), (0, .nameAndType 18 12), (0, u "z"), (2, u "(DDD)V"), (16, u "dot"), (0, u "(Lorg/rupturecast/faults/Vector;)D")] 48

def k3c0 : Code := { maxStack := 3, maxLocals := 7, code := prog_43_method_1_code, exceptionTable := #[], attributes := #[] }
def k3m0 : Method := { name := "<init>", desc := "(DDD)V", sig := { parameters := [.double, .double, .double], returnType := none }, accessFlags := 0, code := some k3c0 }
def k3c1 : Code := { maxStack := 6, maxLocals := 2, code := prog_43_method_4_code, exceptionTable := #[], attributes := #[] }
def k3m1 : Method := { name := "dot", desc := "(Lorg/rupturecast/faults/Vector;)D", sig := { parameters := [(.object "org/rupturecast/faults/Vector")], returnType := some .double }, accessFlags := 0, code := some k3c1 }
/-- org/rupturecast/faults/Vector -/
def k3 : Class := { plain "org/rupturecast/faults/Vector" (some 2) with
  accessFlags := 48
  interfaces := #[]
  cf := some (fileOf pool3 8 #[] #[{ accessFlags := 0, nameIndex := 5, descriptorIndex := 21, attributes := #[] }, { accessFlags := 0, nameIndex := 38, descriptorIndex := 39, attributes := #[] }] 48 2 #[] #[{ accessFlags := 18, nameIndex := 11, descriptorIndex := 12, attributes := #[] }, { accessFlags := 18, nameIndex := 15, descriptorIndex := 12, attributes := #[] }, { accessFlags := 18, nameIndex := 18, descriptorIndex := 12, attributes := #[] }])
  fields := #[{ name := "x", type := .double, accessFlags := 18, slot := 0, constantValue := 0 }, { name := "y", type := .double, accessFlags := 18, slot := 1, constantValue := 0 }, { name := "z", type := .double, accessFlags := 18, slot := 2, constantValue := 0 }]
  methods := #[k3m0, k3m1]
  instanceTypes := #[.double, .double, .double]
  staticTypes := #[]
  resolved := Array.replicate 88 none
  statics := none }

def pool4 : Array CpInfo := pool [(1, u "java/lang/Cloneable"), (0, .class_ 1), (0, u "java/lang/Object"), (0, .class_ 3)] 3

/-- java/lang/Cloneable -/
def k4 : Class := { plain "java/lang/Cloneable" (some 0) with
  accessFlags := 1537
  interfaces := #[]
  cf := some (fileOf pool4 2 #[] #[] 1537 4 #[] #[])
  fields := #[]
  methods := #[]
  instanceTypes := #[]
  staticTypes := #[]
  resolved := Array.replicate 8 none
  statics := none }

def pool5 : Array CpInfo := pool [(1, u "java/io/Serializable"), (0, .class_ 1), (0, u "java/lang/Object"), (0, .class_ 3)] 3

/-- java/io/Serializable -/
def k5 : Class := { plain "java/io/Serializable" (some 0) with
  accessFlags := 1537
  interfaces := #[]
  cf := some (fileOf pool5 2 #[] #[] 1537 4 #[] #[])
  fields := #[]
  methods := #[]
  instanceTypes := #[]
  staticTypes := #[]
  resolved := Array.replicate 8 none
  statics := none }

/-- the primitive byte -/
def k6 : Class := { plain "byte" none with kind := .primitive 'B', accessFlags := 0x411 }
/-- [B -/
def k7 : Class := { plain "[B" (some 0) with kind := .array 6 .byte, interfaces := #[4, 5], accessFlags := 1041 }

/-- the primitive int -/
def k8 : Class := { plain "int" none with kind := .primitive 'I', accessFlags := 0x411 }
/-- [I -/
def k9 : Class := { plain "[I" (some 0) with kind := .array 8 .int, interfaces := #[4, 5], accessFlags := 1041 }

def heap : Heap := #[]
def classes : Array Class := #[k0, k1, k2, k3, k4, k5, k6, k7, k8, k9]
def interned : List (Array UInt16 × Addr) := []
def slotsUsed : Nat := 0
def theMethod : MethodId := ⟨1, 2⟩
def args0 : Array Value := #[.int 5, .int 7, .int 3, .int 2, .int 1, .int 9]
def aboutOver (below : List Frame) : State where
  vm := { classes := classes, interned := interned.toArray }
  heap := heap
  slotsUsed := slotsUsed
  threads := #[{ frames := .invoking theMethod args0 :: below }]
def below0 : List Frame := [.native { method := ⟨0, 0⟩, args := #[] }]
def about1 : State := aboutOver below0
def p0 : Program := .bare "" "" ""
def e0 : Env := launch0.env 0 0 0
theorem w_frames : about1.frames = Frame.invoking theMethod args0 :: below0 := rfl
set_option maxRecDepth 65536 in
theorem w_args : argsFit about1.vm theMethod args0 = true := by decide +kernel
set_option maxRecDepth 65536 in
theorem w_heap : heapFits about1 = true := by decide +kernel
set_option maxRecDepth 65536 in
theorem w_runnable : about1.curStatus? = some .runnable := by decide +kernel
set_option maxRecDepth 65536 in
theorem w_alone : about1.alone = true := by decide +kernel
set_option maxRecDepth 65536 in
theorem w_named : about1.methodNamed? x = some theMethod := by decide +kernel
set_option maxRecDepth 65536 in
theorem w_hears : about1.hears theMethod below0 = true := by decide +kernel
set_option maxRecDepth 65536 in
theorem w_ripe : about1.ripe theMethod args0 below0 = true := by decide +kernel
theorem w_running : about1.status = .running := rfl
set_option maxRecDepth 65536 in
theorem w_room : about1.hasRoom e0.platform room_1 = true :=
  launch0.hasRoom_least _ room_1 (by decide +kernel) (by decide +kernel) (by decide +kernel) (by decide +kernel) (by decide +kernel) (by decide +kernel)
theorem allAtoms_all (ts : List Jvm.Cond) (a : Array Jvm.Value) (st : Jvm.State) : (allAtoms ts).before a st = ts.all (fun c => c.before a st) := by
  induction ts with
  | nil => rfl
  | cons c t ih =>
    show (Jvm.Cond.and c (allAtoms t)).before a st = _
    rw [Jvm.Cond.before_and, ih, List.all_cons]
def words1 : List Jvm.Cond := Jvm.Cond.code x code maxLocals ret :: tables_1
/-- a 'code' word, met by the world's own term for the bytes: nothing is compared byte by byte -/
theorem code_word {y : MethodName} {bytes : ByteArray} {mx : Nat} {rt : Option FieldType} {a : Array Value} {s : State} {m : MethodId} {meth : Method} {c : Code} (h1 : s.methodNamed? y = some m) (h2 : s.vm.method? m = some meth) (h3 : meth.code = some c) (h4 : c.code = bytes)
    (h5 : (c.maxLocals == mx && c.exceptionTable.isEmpty && decide (c.maxStack ≤ mostOperands) && decide (meth.sig.returnType = rt) && !meth.locks && decide (parseMethodDescriptor y.desc = some meth.sig)) = true) : (Jvm.Cond.code y bytes mx rt).before a s = true := by
  simp only [Bool.and_eq_true, beq_iff_eq, Bool.not_eq_true', decide_eq_true_eq] at h5
  obtain ⟨⟨⟨⟨⟨g1, g2⟩, g3⟩, g4⟩, g5⟩, g6⟩ := h5
  simp [Cond.before, Cond.holds, Cond.value, h1, h2, h3, h4, g1, g2, g3, g4, g5, g6]
def isCode : Jvm.Cond → Bool
  | .code _ _ _ _ => true
  | _ => false
theorem all_split {L : List Jvm.Cond} {P : Jvm.Cond → Bool} (h1 : L.all (fun c => isCode c || P c) = true) (h2 : ∀ c ∈ L.filter isCode, P c = true) : L.all P = true := by
  refine List.all_eq_true.mpr fun c hc => ?_
  have h := List.all_eq_true.mp h1 c hc
  rcases Bool.eq_false_or_eq_true (isCode c) with hi | hi
  · exact h2 c (List.mem_filter.mpr ⟨hc, hi⟩)
  · simpa [hi] using h
set_option maxRecDepth 65536 in
theorem w_c0 : (Jvm.Cond.code x code maxLocals ret).before args0 about1 = true := code_word (m := ⟨1, 2⟩) (meth := k1m2) (c := k1c2) (by decide +kernel) rfl rfl rfl (by decide +kernel)
set_option maxRecDepth 65536 in
theorem w_c1 : (Jvm.Cond.code ({ cls := "org/rupturecast/faults/VectorDotPinLaw", name := "coord", desc := "(I)I" } : Jvm.MethodName) method_2_code (1 : Nat) (Option.some Jvm.ClassFile.FieldType.int)).before args0 about1 = true := code_word (m := ⟨1, 1⟩) (meth := k1m1) (c := k1c1) (by decide +kernel) rfl rfl rfl (by decide +kernel)
set_option maxRecDepth 65536 in
theorem w_c2 : (Jvm.Cond.code ({ cls := "org/rupturecast/faults/Vector", name := "<init>", desc := "(DDD)V" } : Jvm.MethodName) prog_43_method_1_code (7 : Nat) (Option.none : Option Jvm.ClassFile.FieldType)).before args0 about1 = true := code_word (m := ⟨3, 0⟩) (meth := k3m0) (c := k3c0) (by decide +kernel) rfl rfl rfl (by decide +kernel)
set_option maxRecDepth 65536 in
theorem w_c3 : (Jvm.Cond.code ({ cls := "java/lang/Record", name := "<init>", desc := "()V" } : Jvm.MethodName) jdk_30_method_1_code (1 : Nat) (Option.none : Option Jvm.ClassFile.FieldType)).before args0 about1 = true := code_word (m := ⟨2, 0⟩) (meth := k2m0) (c := k2c0) (by decide +kernel) rfl rfl rfl (by decide +kernel)
set_option maxRecDepth 65536 in
theorem w_c4 : (Jvm.Cond.code ({ cls := "java/lang/Object", name := "<init>", desc := "()V" } : Jvm.MethodName) object_method_1_code (1 : Nat) (Option.none : Option Jvm.ClassFile.FieldType)).before args0 about1 = true := code_word (m := ⟨0, 0⟩) (meth := k0m0) (c := k0c0) (by decide +kernel) rfl rfl rfl (by decide +kernel)
set_option maxRecDepth 65536 in
theorem w_c5 : (Jvm.Cond.code ({ cls := "org/rupturecast/faults/Vector", name := "dot", desc := "(Lorg/rupturecast/faults/Vector;)D" } : Jvm.MethodName) prog_43_method_4_code (2 : Nat) (Option.some Jvm.ClassFile.FieldType.double)).before args0 about1 = true := code_word (m := ⟨3, 1⟩) (meth := k3m1) (c := k3c1) (by decide +kernel) rfl rfl rfl (by decide +kernel)
def codes1 : List Jvm.Cond := [Jvm.Cond.code x code maxLocals ret, Jvm.Cond.code ({ cls := "org/rupturecast/faults/VectorDotPinLaw", name := "coord", desc := "(I)I" } : Jvm.MethodName) method_2_code (1 : Nat) (Option.some Jvm.ClassFile.FieldType.int), Jvm.Cond.code ({ cls := "org/rupturecast/faults/Vector", name := "<init>", desc := "(DDD)V" } : Jvm.MethodName) prog_43_method_1_code (7 : Nat) (Option.none : Option Jvm.ClassFile.FieldType), Jvm.Cond.code ({ cls := "java/lang/Record", name := "<init>", desc := "()V" } : Jvm.MethodName) jdk_30_method_1_code (1 : Nat) (Option.none : Option Jvm.ClassFile.FieldType), Jvm.Cond.code ({ cls := "java/lang/Object", name := "<init>", desc := "()V" } : Jvm.MethodName) object_method_1_code (1 : Nat) (Option.none : Option Jvm.ClassFile.FieldType), Jvm.Cond.code ({ cls := "org/rupturecast/faults/Vector", name := "dot", desc := "(Lorg/rupturecast/faults/Vector;)D" } : Jvm.MethodName) prog_43_method_4_code (2 : Nat) (Option.some Jvm.ClassFile.FieldType.double)]
set_option maxRecDepth 65536 in
theorem codes_eq : words1.filter isCode = codes1 := rfl
theorem w_codes : ∀ c ∈ words1.filter isCode, c.before args0 about1 = true := by
  rw [codes_eq]
  intro c hc
  simp only [codes1, List.mem_cons, List.not_mem_nil, or_false] at hc
  rcases hc with rfl | rfl | rfl | rfl | rfl | rfl
  · exact w_c0
  · exact w_c1
  · exact w_c2
  · exact w_c3
  · exact w_c4
  · exact w_c5
set_option maxRecDepth 65536 in
theorem w_t1 : (words1.take 24).all (fun c => isCode c || c.before args0 about1) = true := by decide +kernel
set_option maxRecDepth 65536 in
theorem w_t2 : (words1.drop 24).all (fun c => isCode c || c.before args0 about1) = true := by decide +kernel
theorem w_tables : (allAtoms (Jvm.Cond.code x code maxLocals ret :: tables_1)).before args0 about1 = true := by
  rw [allAtoms_all]
  show words1.all (fun c => c.before args0 about1) = true
  refine all_split ?_ w_codes
  rw [← List.take_append_drop 24 words1, List.all_append, w_t1, w_t2]
  rfl
set_option maxRecDepth 65536 in
theorem w_case : (Jvm.Cond.and given_1 narrow_1).before args0 about1 = true := by decide +kernel
theorem w_applies : (headSpec (Jvm.Cond.code x code maxLocals ret :: tables_1) room_1).applies x e0.platform about1 = true :=
  (Spec.applies_iff w_frames).mpr ⟨w_running, w_runnable, w_alone, w_named, w_hears, w_ripe, w_room, w_tables⟩
theorem atStart : AtStart classFile x code maxLocals ret World_1 tables_1 room_1 Calls_1 rest_1 Pre_1 launch0 p0 e0 about1 theMethod args0 below0 :=
  ⟨lists_1, trivial, launch0.admits_env _ _ _, launch0.least_env, fairChoices_fair.cas, fairChoices_fair.clock, w_frames, w_args, w_heap, w_applies, trivial, trivial, w_case⟩
end start1
theorem witness_1 : WitnessClaimed_1 := ⟨start1.p0, start1.e0, start1.about1, start1.theMethod, start1.args0, start1.below0, start1.atStart⟩
end Jvm.Pilot.@@N@@
