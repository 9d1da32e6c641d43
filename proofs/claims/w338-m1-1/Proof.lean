import JvmDerived
import JvmDerived.Pilot.@@N@@Statement
import JvmDerived.Pilot.@@N@@Code
set_option linter.unusedVariables false
set_option linter.unusedSimpArgs false
namespace Jvm.Pilot.@@N@@
open Jvm Jvm.ClassFile Sem Op Lib Jvm.Free Jvm.Stand Jvm.LawKit Jvm.RoadKit Bundle Jvm.Pilot.@@N@@.Jvm.D
section Own
variable {p : Program} {l : Launch} {e : Env} {R : Room} {s : State} {m : MethodId} {args : Array Value} {below : List Frame} {meth : Method} {c : Code} {T : State} {locs : List Loc} {cells slots : Nat}
/-- the run from A ends, returns what Q says, and has made and written no more than told -/
def Dn (p : Program) (e : Env) (below : List Frame) (s : State) (Q : Option Value → Heap → List Loc → Prop) (rc rs : Nat) (A : State) : Prop :=
  ∃ s₂ o, Steps p.tables e below A s₂ ∧ s₂.status = .running ∧ Ended s₂ below o ∧ ∃ v L, o = .returned v ∧ Q v s₂.heap L ∧ FrameEnd s o s₂ L rc rs
theorem Dn.st {Q : Option Value → Heap → List Loc → Prop} {rc rs : Nat} {A B : State} (h : ∀ t, Steps p.tables e below B t → Steps p.tables e below A t) (k : Dn p e below s Q rc rs B) : Dn p e below s Q rc rs A := by
  obtain ⟨s2, o, h1, h2⟩ := k; exact ⟨s2, o, h _ h1, h2⟩
theorem Dn.tr {Q : Option Value → Heap → List Loc → Prop} {rc rs : Nat} {A B : State} (h : Steps p.tables e below A B) (k : Dn p e below s Q rc rs B) : Dn p e below s Q rc rs A := by
  obtain ⟨s2, o, h1, h2⟩ := k; exact ⟨s2, o, h.trans h1, h2⟩
theorem Dn.ret (X : Stand p l e R s m args below meth c T locs cells slots) (hlk : meth.locks = false) (hx : p.tables.exec = Jvm.exec) {pc : Nat} {Ls : Array Slot} {w : Value} {t : FieldType} {i : Instr} {rest : List Value} (hret : meth.sig.returnType = some t) (hn : narrow t w = w)
    (hi : (i = .ireturn ∧ (t = .int ∨ t = .boolean ∨ t = .byte ∨ t = .char ∨ t = .short) ∧ ∃ z, w = .int z) ∨ (i = .lreturn ∧ t = .long ∧ ∃ z, w = .long z) ∨ (i = .dreturn ∧ t = .double ∧ ∃ z, w = .double z) ∨ (i = .freturn ∧ t = .float ∧ ∃ z, w = .float z) ∨ (i = .areturn ∧ t.isReference = true ∧ w.isRef = true))
    (hd : decode c.code pc = .ok (i, 1)) {Q : Option Value → Heap → List Loc → Prop} {rc rs : Nat} (hq : Q (some w) T.heap locs) (hc : cells ≤ rc) (hs : slots ≤ rs) : Dn p e below s Q rc rs (T.setTop (mkF m pc Ls (w :: rest))) := by
  obtain ⟨fs, hr, hrun, hended, hW, hsame⟩ := X.leave (v := some w) (fun h => by rw [hret] at h; cases h) hlk
  exact ⟨_, _, retOut X hx hret hn hi hd hr, hrun, hended, _, _, rfl, hq, ⟨_, rfl⟩, hW, hsame.mono hc hs⟩
theorem Dn.ret0 (X : Stand p l e R s m args below meth c T locs cells slots) (hlk : meth.locks = false) (hx : p.tables.exec = Jvm.exec) {pc : Nat} {Ls : Array Slot} (hret : meth.sig.returnType = none)
    (hd : decode c.code pc = .ok (.return_, 1)) {Q : Option Value → Heap → List Loc → Prop} {rc rs : Nat} (hq : Q none T.heap locs) (hc : cells ≤ rc) (hs : slots ≤ rs) : Dn p e below s Q rc rs (T.setTop (mkF m pc Ls [])) := by
  obtain ⟨fs, hr, hrun, hended, hW, hsame⟩ := X.leave (v := none) (fun _ => rfl) hlk
  exact ⟨_, _, X.returnOut hx hret hd hr, hrun, hended, _, _, rfl, hq, ⟨_, rfl⟩, hW, hsame.mono hc hs⟩
theorem own_iincW {tb : Tables} [Ours tb] {target : State} {g : JFrame} (h : At T m c below) (hx : tb.exec = Jvm.exec) (hg : g.method = m) {k : Nat} {cst : Int} {x : Int32} {l' : Array Slot} (hd : decode c.code g.pc = .ok (.iinc k cst, 6)) (hl : g.locals[k]? = some (.val (.int x))) (hl' : storeLocals g.locals k (.int (x + Int32.ofInt cst)) = some l')
    (hr : Steps tb e below (T.setTop { g with pc := g.pc + 6, locals := l' }) target) : Steps tb e below (T.setTop g) target := by
  subst hg
  jvm_step h [h.top, hx, hd, hl, hl']
  exact hr
theorem own_dremS {tb : Tables} [Ours tb] {target : State} {g : JFrame} (h : At T m c below) (hx : tb.exec = Jvm.exec) (hg : g.method = m) {x y v : UInt64} {rest : List Value} (hd : decode c.code g.pc = .ok (.drem, 1)) (hs : g.stack = .double y :: .double x :: rest) (hn : Jvm.Free.Fl.NoNaN64 (FP.drem x y)) (hv : FP.drem x y = v)
    (hr : Steps tb e below (T.setTop { g with pc := g.pc + 1, stack := .double v :: rest }) target) : Steps tb e below (T.setTop g) target := by
  subst hg; subst hv
  obtain ⟨gm, gp, gl, gs, gk, ge, gr⟩ := g
  simp only at hs hd
  subst hs
  jvm_step h [h.top, hx, hd, Op.drem.at_number h.top hn]
  exact hr
end Own
section Dyad
open Jvm.FP Jvm.FP.Core Jvm.Free.Fl
/-- the datum with its exponent moved by k -/
def sft (k : Nat) : Datum → Datum
  | .nan => .nan
  | .inf s => .inf s
  | .fin s c q => .fin s c (q + (k : Int))
/-- x is the number i / 2^k -/
def DS (k : Nat) (i : Int) (x : UInt64) : Prop := Whole i (sft k (val64 x))
theorem sft_zero (d : Datum) : sft 0 d = d := by
  cases d with
  | nan => rfl
  | inf s => rfl
  | fin s c q => show Datum.fin s c (q + ((0 : Nat) : Int)) = _; rw [Int.natCast_zero, Int.add_zero]
theorem sft_sum (k : Nat) (x y : Datum) : exactSum (sft k x) (sft k y) = sft k (exactSum x y) := by
  cases x with
  | nan => rfl
  | inf s =>
    cases y with
    | nan => rfl
    | inf t => show (if s = t then Datum.inf s else .nan) = sft k (if s = t then Datum.inf s else .nan); split <;> rfl
    | fin t d r => rfl
  | fin s c q =>
    cases y with
    | nan => rfl
    | inf t => rfl
    | fin t d r =>
      have h : min (q + (k : Int)) (r + k) = min q r + k := by omega
      have h1 : q + (k : Int) - (min q r + k) = q - min q r := by omega
      have h2 : r + (k : Int) - (min q r + k) = r - min q r := by omega
      have hu : sumUnits s c (q + k) t d (r + k) (min (q + k) (r + k)) = sumUnits s c q t d r (min q r) := by
        show signed s (c * 2 ^ (q + (k : Int) - min (q + k) (r + k)).toNat) + signed t (d * 2 ^ (r + (k : Int) - min (q + k) (r + k)).toNat) = signed s (c * 2 ^ (q - min q r).toNat) + signed t (d * 2 ^ (r - min q r).toNat)
        rw [h, h1, h2]
      show Datum.fin (sumSign s t (sumUnits s c (q + k) t d (r + k) (min (q + k) (r + k)))) (sumUnits s c (q + k) t d (r + k) (min (q + k) (r + k))).natAbs (min (q + k) (r + k)) = Datum.fin (sumSign s t (sumUnits s c q t d r (min q r))) (sumUnits s c q t d r (min q r)).natAbs (min q r + k)
      rw [hu, h]
theorem sft_negate (k : Nat) (x : Datum) : negate (sft k x) = sft k (negate x) := by cases x <;> rfl
theorem sft_product (k m : Nat) (x y : Datum) : exactProduct (sft k x) (sft m y) = sft (k + m) (exactProduct x y) := by
  cases x with
  | nan => rfl
  | inf s =>
    cases y with
    | nan => rfl
    | inf t => rfl
    | fin t d r => show (if d = 0 then Datum.nan else .inf (s != t)) = sft (k + m) (if d = 0 then Datum.nan else .inf (s != t)); split <;> rfl
  | fin s c q =>
    cases y with
    | nan => rfl
    | inf t => show (if c = 0 then Datum.nan else .inf (s != t)) = sft (k + m) (if c = 0 then Datum.nan else .inf (s != t)); split <;> rfl
    | fin t d r =>
      show Datum.fin (s != t) (c * d) (q + k + (r + m)) = Datum.fin (s != t) (c * d) (q + r + ((k + m : Nat) : Int))
      congr 1; omega
theorem sft_order (k : Nat) (x y : Datum) : order (sft k x) (sft k y) = order x y := by
  cases x with
  | nan => rfl
  | inf s => cases y <;> rfl
  | fin s c q =>
    cases y with
    | nan => rfl
    | inf t => rfl
    | fin t d r =>
      have h : min (q + (k : Int)) (r + k) = min q r + k := by omega
      have h1 : q + (k : Int) - (min q r + k) = q - min q r := by omega
      have h2 : r + (k : Int) - (min q r + k) = r - min q r := by omega
      show some (compare (signed s (c * 2 ^ (q + (k : Int) - min (q + k) (r + k)).toNat)) (signed t (d * 2 ^ (r + (k : Int) - min (q + k) (r + k)).toNat))) = some (compare (signed s (c * 2 ^ (q - min q r).toNat)) (signed t (d * 2 ^ (r - min q r).toNat)))
      rw [h, h1, h2]
theorem b64_qmin : b64.qmin = -1074 := by decide +kernel
theorem b64_qmax : b64.qmax = 971 := by decide +kernel
theorem b64_tails : b64.tails = 4503599627370496 := by decide +kernel
theorem fits64 (s : Bool) (c : Nat) (q : Int) : Core.fits b64 (.fin s c q) ↔ c < 2 ^ 53 ∧ -1074 ≤ q ∧ q ≤ 971 ∧ (q = -1074 ∨ 4503599627370496 ≤ c) := by
  show (c < 2 ^ 53 ∧ b64.qmin ≤ q ∧ q ≤ b64.qmax ∧ (q = b64.qmin ∨ b64.tails ≤ c)) ↔ _
  rw [b64_qmin, b64_qmax, b64_tails]
/-- n / 2^k is a double, for n up to 2^53 and k up to 1022 -/
theorem natFitS (s : Bool) {n k : Nat} (hk : k ≤ 1022) (hn : n ≤ 2 ^ 53) :
    ∃ c q, Core.fits b64 (.fin s c q) ∧ n * 2 ^ (-(k : Int) - q).toNat = c * 1 * 2 ^ (q - -(k : Int)).toNat := by
  by_cases h0 : n = 0
  · subst h0
    exact ⟨0, b64.qmin, zero_fits good_b64 s, by simp⟩
  · obtain ⟨c, q, hf, hv⟩ := natFit good_b64 wide_b64 s (show n ≤ 2 ^ b64.p from hn)
    rw [fits64] at hf
    have hq : -52 ≤ q := by
      refine Int.not_lt.mp fun hlt => ?_
      have e1 : (q - 0).toNat = 0 := by omega
      have e2 : (0 - q).toNat = 53 + ((0 - q).toNat - 53) := by omega
      rw [e1, e2, Nat.pow_add] at hv
      have p := Nat.two_pow_pos ((0 - q).toNat - 53)
      have : 2 ^ 53 * 1 ≤ 2 ^ 53 * 2 ^ ((0 - q).toNat - 53) := Nat.mul_le_mul_left _ p
      have : 1 * (2 ^ 53 * 2 ^ ((0 - q).toNat - 53)) ≤ n * (2 ^ 53 * 2 ^ ((0 - q).toNat - 53)) := Nat.mul_le_mul_right _ (by omega)
      omega
    refine ⟨c, q - k, (fits64 _ _ _).mpr ⟨hf.1, by omega, by omega, Or.inr (hf.2.2.2.resolve_left (by omega))⟩, ?_⟩
    rw [show -(k : Int) - (q - k) = 0 - q by omega, show q - k - -(k : Int) = q - 0 by omega]
    exact hv
theorem whole_signed {i : Int} {s : Bool} {c : Nat} {q : Int} (h : Whole i (.fin s c q)) : signed s i.natAbs = i := by
  by_cases hi : i = 0
  · rw [hi]; exact signed_zero s
  · rw [whole_sign h hi]; unfold signed
    by_cases h : i < 0 <;> simp [h] <;> omega
theorem ds_round {k : Nat} {i : Int} {d : Datum} (hk : k ≤ 1022) (hi : i.natAbs ≤ 2 ^ 53) (h : Whole i (sft k d)) : Whole i (sft k (Core.round b64 d)) := by
  cases d with
  | nan => exact h.elim
  | inf s => exact h.elim
  | fin s c q =>
    have hs := whole_signed h
    have h1 := whole_natAbs h
    obtain ⟨c', q', hfit, hv⟩ := natFitS s hk hi
    have e1 : Core.round b64 (.fin s c q) = roundRatio b64 s i.natAbs 1 (-(k : Int)) := by
      refine roundRatio_congr (by decide) (by decide) ?_
      rw [show q - -(k : Int) = q + k by omega, show -(k : Int) - q = -(q + k) by omega]
      simpa using h1
    rw [e1, roundRatio_exact good_b64 (by decide) hfit hv]
    show signed s (c' * 2 ^ (q' + (k : Int)).toNat) = i * _
    rw [show -(k : Int) - q' = -(q' + k) by omega, show q' - -(k : Int) = q' + k by omega, Nat.mul_one] at hv
    rw [← hv, signed_mul, hs]
theorem DS.nn {k : Nat} {i : Int} {x : UInt64} (h : DS k i x) : NoNaN64 x := val64_no.mpr fun q => by
  unfold DS at h; rw [q] at h; exact h.elim
theorem DS.fin {k : Nat} {i : Int} {x : UInt64} (h : DS k i x) : ∃ s c q, val64 x = .fin s c q ∧ Whole i (.fin s c (q + (k : Int))) := by
  unfold DS at h
  cases e : val64 x with
  | nan => rw [e] at h; exact h.elim
  | inf s => rw [e] at h; exact h.elim
  | fin s c q => rw [e] at h; exact ⟨s, c, q, rfl, h⟩
theorem DS.lit {k : Nat} {i : Int} {x : UInt64} {s : Bool} {c : Nat} {q : Int} (hv : val64 x = .fin s c q) (he : signed s (c * 2 ^ (q + (k : Int)).toNat) = i * ((2 ^ (-(q + (k : Int))).toNat : Nat) : Int)) : DS k i x := by
  unfold DS; rw [hv]; exact he
theorem DS.i2d (v : Int32) : DS 0 v.toInt (FP.i2d v) := by unfold DS; rw [sft_zero]; exact i2d_int v
theorem DS.l2d {v : Int64} (h : v.toInt.natAbs ≤ 2 ^ 53) : DS 0 v.toInt (FP.l2d v) := by unfold DS; rw [sft_zero]; exact l2d_int h
theorem DS.dint {i : Int} {x : UInt64} (h : DS 0 i x) : DInt i x := by unfold DS at h; rw [sft_zero] at h; exact h
theorem DS.zero (k : Nat) : DS k 0 0 := DS.lit (s := false) (c := 0) (q := -1074) (by decide +kernel) (by rw [Nat.zero_mul, Int.zero_mul]; rfl)
theorem DS.add {k : Nat} {i j : Int} {x y : UInt64} (hx : DS k i x) (hy : DS k j y) (hb : (i + j).natAbs ≤ 2 ^ 53) (hk : k ≤ 1022) : DS k (i + j) (FP.dadd x y) := by
  show Whole _ (sft k (val64 (Core.dadd x y)))
  rw [val64_dadd]; refine ds_round hk hb ?_; rw [← sft_sum]; exact whole_sum hx hy
theorem DS.sub {k : Nat} {i j : Int} {x y : UInt64} (hx : DS k i x) (hy : DS k j y) (hb : (i - j).natAbs ≤ 2 ^ 53) (hk : k ≤ 1022) : DS k (i - j) (FP.dsub x y) := by
  show Whole _ (sft k (val64 (Core.dsub x y)))
  rw [val64_dsub]; refine ds_round hk hb ?_; rw [← sft_sum, ← sft_negate, Int.sub_eq_add_neg]; exact whole_sum hx (whole_negate hy)
theorem DS.mul {k m : Nat} {i j : Int} {x y : UInt64} (hx : DS k i x) (hy : DS m j y) (hb : (i * j).natAbs ≤ 2 ^ 53) (hk : k + m ≤ 1022) : DS (k + m) (i * j) (FP.dmul x y) := by
  show Whole _ (sft (k + m) (val64 (Core.dmul x y)))
  rw [val64_dmul]; refine ds_round hk hb ?_; rw [← sft_product]; exact whole_product hx hy
theorem DS.cmp {k : Nat} {i j : Int} {x y : UInt64} (hx : DS k i x) (hy : DS k j y) : FP.dcmp x y = some (compare i j) := by
  show order (val64 x) (val64 y) = _
  rw [← sft_order k]; exact order_whole hx hy
/-- what dcmp pushes -/
def c3 (i j : Int) : Int32 := if i < j then -1 else if i = j then 0 else 1
theorem c3_lt (i j : Int) : c3 i j < 0 ↔ i < j := by unfold c3; split <;> (try split) <;> simp_all <;> first | decide | omega
theorem c3_gt (i j : Int) : 0 < c3 i j ↔ j < i := by unfold c3; split <;> (try split) <;> simp_all <;> first | decide | omega
theorem c3_eq (i j : Int) : c3 i j = 0 ↔ i = j := by unfold c3; split <;> (try split) <;> simp_all <;> first | decide | omega
theorem cmpV_int (i j : Int) (o : CmpOp) : cmpValue (some (compare i j)) o = c3 i j := by
  unfold c3
  by_cases h1 : i < j
  · have : compare i j = .lt := by simp [compare, compareOfLessAndEq, h1]
    rw [this, if_pos h1]; cases o <;> rfl
  · by_cases h2 : i = j
    · have : compare i j = .eq := by simp [compare, compareOfLessAndEq, h2]
      rw [this, if_neg h1, if_pos h2]; cases o <;> rfl
    · have : compare i j = .gt := by simp [compare, compareOfLessAndEq, h1, h2]
      rw [this, if_neg h1, if_neg h2]; cases o <;> rfl
theorem DS.cmpV {k : Nat} {i j : Int} {x y : UInt64} (hx : DS k i x) (hy : DS k j y) (o : CmpOp) : cmpValue (FP.dcmp x y) o = c3 i j := by rw [hx.cmp hy]; exact cmpV_int i j o
theorem whole_iff {i : Int} {s : Bool} {c : Nat} {q : Int} {N : Nat} (h : 0 ≤ q + N) : Whole i (.fin s c q) ↔ signed s c * ((2 ^ (q + N).toNat : Nat) : Int) = i * ((2 ^ N : Nat) : Int) := by
  show signed s (c * 2 ^ q.toNat) = i * ((2 ^ (-q).toNat : Nat) : Int) ↔ _
  rw [signed_mul]
  have e : q.toNat + N = (q + N).toNat + (-q).toNat := by omega
  have p1 : ((2 ^ N : Nat) : Int) ≠ 0 := by have := Nat.two_pow_pos N; omega
  have p2 : ((2 ^ (-q).toNat : Nat) : Int) ≠ 0 := by have := Nat.two_pow_pos (-q).toNat; omega
  have e1 : signed s c * ((2 ^ q.toNat : Nat) : Int) * ((2 ^ N : Nat) : Int) = signed s c * ((2 ^ (q + N).toNat : Nat) : Int) * ((2 ^ (-q).toNat : Nat) : Int) := by
    rw [Int.mul_assoc, Int.mul_assoc, ← Int.natCast_mul, ← Int.natCast_mul, ← Nat.pow_add, ← Nat.pow_add, e]
  constructor
  · intro hh
    refine Int.eq_of_mul_eq_mul_right p2 ?_
    rw [← e1, hh]; ac_rfl
  · intro hh
    refine Int.eq_of_mul_eq_mul_right p1 ?_
    rw [e1, hh]; ac_rfl
theorem DS.up {k : Nat} {i : Int} {x : UInt64} (h : DS k i x) (m : Nat) : DS (k + m) (i * ((2 ^ m : Nat) : Int)) x := by
  obtain ⟨s, c, q, e, hw⟩ := h.fin
  unfold DS; rw [e]
  show Whole _ (.fin s c (q + ((k + m : Nat) : Int)))
  rw [whole_iff (N := (-q).toNat) (by omega)]
  rw [whole_iff (N := (-q).toNat + m) (by omega)] at hw
  rw [show q + (k : Int) + (((-q).toNat + m : Nat) : Int) = q + ((k + m : Nat) : Int) + ((-q).toNat : Nat) by omega] at hw
  rw [hw, Nat.pow_add, Int.natCast_mul]; ac_rfl
theorem DS.cast {k k' : Nat} {i i' : Int} {x : UInt64} (h : DS k i x) (e1 : k = k') (e2 : i = i') : DS k' i' x := e1 ▸ e2 ▸ h
/-- the quotient, as the rounding of a ratio of whole numbers -/
theorem ds_quot {k m : Nat} {i j : Int} {x y : UInt64} (hx : DS k i x) (hy : DS m j y) (hj : j ≠ 0) :
    ∃ s t, signed s i.natAbs = i ∧ signed t j.natAbs = j ∧ val64 (FP.ddiv x y) = roundRatio b64 (s != t) i.natAbs j.natAbs ((m : Int) - k) := by
  obtain ⟨s, c, q, e, hw⟩ := hx.fin
  obtain ⟨t, d, r, e', hw'⟩ := hy.fin
  have hd : d ≠ 0 := fun z => hj ((whole_zero hw').mp z)
  have h1 := whole_natAbs hw
  have h2 := whole_natAbs hw'
  refine ⟨s, t, whole_signed hw, whole_signed hw', ?_⟩
  show val64 (Core.ddiv x y) = _
  rw [val64_ddiv, e, e']
  show (if d = 0 then _ else roundRatio b64 (s != t) c d (q - r)) = _
  rw [if_neg hd]
  have hj' : 0 < j.natAbs := by omega
  rw [roundRatio_congr (A' := i.natAbs) (B' := d) (e' := -(k : Int) - r) (by omega) (by omega) (by
    rw [show q - r - (-(k : Int) - r) = q + k by omega, show -(k : Int) - r - (q - r) = -(q + k) by omega, Nat.mul_right_comm, h1]; ac_rfl)]
  refine roundRatio_congr (by omega) hj' ?_
  rw [show -(k : Int) - r - ((m : Int) - k) = -(r + m) by omega, show (m : Int) - k - (-(k : Int) - r) = r + m by omega, Nat.mul_assoc, ← h2]; ac_rfl
theorem DS.div {k m n : Nat} {i j Q : Int} {x y : UInt64} (hx : DS k i x) (hy : DS m j y) (hj : j ≠ 0) (hQ : i * ((2 ^ (m + n) : Nat) : Int) = Q * j * ((2 ^ k : Nat) : Int)) (hb : Q.natAbs ≤ 2 ^ 53) (hn : n ≤ 1022) : DS n Q (FP.ddiv x y) := by
  obtain ⟨s, t, hs, ht, hv⟩ := ds_quot hx hy hj
  obtain ⟨c', q', hfit, hf⟩ := natFitS (s != t) hn hb
  have hj' : 0 < j.natAbs := by omega
  have hQn : i.natAbs * 2 ^ (m + n) = Q.natAbs * j.natAbs * 2 ^ k := by
    have := congrArg Int.natAbs hQ
    rwa [Int.natAbs_mul, Int.natAbs_mul, Int.natAbs_mul, Int.natAbs_natCast, Int.natAbs_natCast] at this
  have e1 : roundRatio b64 (s != t) i.natAbs j.natAbs ((m : Int) - k) = roundRatio b64 (s != t) Q.natAbs 1 (-(n : Int)) := by
    refine roundRatio_congr hj' (by decide) ?_
    rw [Nat.mul_one]
    have ea : m + n = ((m : Int) - k - -(n : Int)).toNat + min (m + n) k := by omega
    have eb : k = (-(n : Int) - ((m : Int) - k)).toNat + min (m + n) k := by omega
    generalize ((m : Int) - k - -(n : Int)).toNat = u at ea ⊢
    generalize (-(n : Int) - ((m : Int) - k)).toNat = w at eb ⊢
    have hQ2 : i.natAbs * 2 ^ (u + min (m + n) k) = Q.natAbs * j.natAbs * 2 ^ (w + min (m + n) k) := by rw [← ea, ← eb]; exact hQn
    rw [Nat.pow_add, Nat.pow_add, ← Nat.mul_assoc, ← Nat.mul_assoc] at hQ2
    exact Nat.eq_of_mul_eq_mul_right (Nat.two_pow_pos _) hQ2
  rw [e1, roundRatio_exact good_b64 (by decide) hfit hf] at hv
  unfold DS; rw [hv]
  show signed (s != t) (c' * 2 ^ (q' + (n : Int)).toNat) = Q * _
  rw [show -(n : Int) - q' = -(q' + n) by omega, show q' - -(n : Int) = q' + n by omega, Nat.mul_one] at hf
  rw [← hf, signed_mul]
  congr 1
  have hp : (0 : Int) < ((2 ^ (m + n) : Nat) : Int) := by have := Nat.two_pow_pos (m + n); omega
  have hp2 : (0 : Int) < ((2 ^ k : Nat) : Int) := by have := Nat.two_pow_pos k; omega
  generalize ((2 ^ (m + n) : Nat) : Int) = P1 at hQ hp
  generalize ((2 ^ k : Nat) : Int) = P2 at hQ hp2
  -- the sign of the quotient
  have key : signed (s != t) (Q.natAbs * (j.natAbs * j.natAbs)) = Q * (j.natAbs * j.natAbs : Nat) := by
    have e2 : signed (s != t) (i.natAbs * j.natAbs) = i * j := by rw [signed_xor, hs, ht]
    have e3 : i.natAbs * P1.natAbs = Q.natAbs * j.natAbs * P2.natAbs := by
      have := congrArg Int.natAbs hQ
      rwa [Int.natAbs_mul, Int.natAbs_mul, Int.natAbs_mul] at this
    have e4 : signed (s != t) (Q.natAbs * (j.natAbs * j.natAbs)) * P2 = Q * (j.natAbs * j.natAbs : Nat) * P2 := by
      have p2 : P2 = (P2.natAbs : Int) := by omega
      have p1 : P1 = (P1.natAbs : Int) := by omega
      calc signed (s != t) (Q.natAbs * (j.natAbs * j.natAbs)) * P2
          = signed (s != t) (Q.natAbs * (j.natAbs * j.natAbs) * P2.natAbs) := by rw [signed_mul _ (Q.natAbs * (j.natAbs * j.natAbs)), ← p2]
        _ = signed (s != t) (i.natAbs * j.natAbs * P1.natAbs) := by
            congr 1
            calc Q.natAbs * (j.natAbs * j.natAbs) * P2.natAbs = (Q.natAbs * j.natAbs * P2.natAbs) * j.natAbs := by ac_rfl
              _ = i.natAbs * j.natAbs * P1.natAbs := by rw [← e3]; ac_rfl
        _ = i * j * P1 := by rw [signed_mul, e2, ← p1]
        _ = (i * P1) * j := by ac_rfl
        _ = Q * (j * j) * P2 := by rw [hQ]; ac_rfl
        _ = Q * (j.natAbs * j.natAbs : Nat) * P2 := by rw [Int.natCast_mul, Int.natAbs_mul_self' j]
    exact Int.eq_of_mul_eq_mul_right (by omega) e4
  rw [signed_mul] at key
  exact Int.eq_of_mul_eq_mul_right (by have : 0 < j.natAbs * j.natAbs := Nat.mul_pos hj' hj'; omega) key
/-- by a power of two -/
theorem DS.divp {k t : Nat} {i : Int} {x y : UInt64} (hx : DS k i x) (hy : DS 0 ((2 ^ t : Nat) : Int) y) (hb : i.natAbs ≤ 2 ^ 53) (hn : k + t ≤ 1022) : DS (k + t) i (FP.ddiv x y) :=
  DS.div hx hy (by have := Nat.two_pow_pos t; omega) (by rw [Nat.zero_add, Nat.pow_add, Int.natCast_mul]; ac_rfl) hb hn
theorem sft_rem (k : Nat) (x y : Datum) : exactRemainder (sft k x) (sft k y) = sft k (exactRemainder x y) := by
  cases x with
  | nan => rfl
  | inf s => rfl
  | fin s c q =>
    cases y with
    | nan => rfl
    | inf t => rfl
    | fin t d r =>
      have h : min (q + (k : Int)) (r + k) = min q r + k := by omega
      have h1 : q + (k : Int) - (min q r + k) = q - min q r := by omega
      have h2 : r + (k : Int) - (min q r + k) = r - min q r := by omega
      show (if d = 0 then Datum.nan else .fin s (c * 2 ^ (q + (k : Int) - min (q + k) (r + k)).toNat % (d * 2 ^ (r + (k : Int) - min (q + k) (r + k)).toNat)) (min (q + k) (r + k))) = sft k (if d = 0 then Datum.nan else .fin s (c * 2 ^ (q - min q r).toNat % (d * 2 ^ (r - min q r).toNat)) (min q r))
      rw [h, h1, h2]; split <;> rfl
theorem signed_tmod {s : Bool} {i : Int} (hs : signed s i.natAbs = i) (j : Int) : signed s (i.natAbs % j.natAbs) = i.tmod j := by
  cases i with
  | ofNat a =>
    have e : Int.tmod (Int.ofNat a) j = ((a % j.natAbs : Nat) : Int) := by cases j <;> rfl
    rw [e]; show signed s (a % j.natAbs) = _
    have hs' : signed s a = (a : Int) := hs
    cases s with
    | false => rfl
    | true =>
      have h0 : a = 0 := by
        have : -(a : Int) = (a : Int) := hs'
        omega
      subst h0; rw [Nat.zero_mod]; rfl
  | negSucc a =>
    have e : Int.tmod (Int.negSucc a) j = -(((a + 1) % j.natAbs : Nat) : Int) := by cases j <;> rfl
    rw [e]; show signed s ((a + 1) % j.natAbs) = _
    cases s with
    | true => rfl
    | false =>
      have : ((a + 1 : Nat) : Int) = Int.negSucc a := hs
      omega
theorem whole_rem {i j : Int} {x y : Datum} (hx : Whole i x) (hy : Whole j y) (hj : j ≠ 0) : Whole (i.tmod j) (exactRemainder x y) := by
  cases x with
  | nan => exact hx.elim
  | inf => exact hx.elim
  | fin s c q =>
  cases y with
  | nan => exact hy.elim
  | inf => exact hy.elim
  | fin t d r =>
    have hd : d ≠ 0 := fun z => hj ((whole_zero hy).mp z)
    have h1 := congrArg Int.natAbs (whole_units hx (e := min q r) (by omega))
    have h2 := congrArg Int.natAbs (whole_units hy (e := min q r) (by omega))
    rw [Int.natAbs_mul, Int.natAbs_mul, Int.natAbs_natCast, Int.natAbs_natCast, natAbs_signed] at h1 h2
    show Whole _ (if d = 0 then _ else Datum.fin s (inUnits c q (min q r) % inUnits d r (min q r)) (min q r))
    rw [if_neg hd]
    show signed s (inUnits c q (min q r) % inUnits d r (min q r) * 2 ^ (min q r).toNat) = i.tmod j * ((2 ^ (-(min q r)).toNat : Nat) : Int)
    rw [← Nat.mul_mod_mul_right, h1, h2, Nat.mul_mod_mul_right, signed_mul, signed_tmod (whole_signed hx)]
theorem DS.rem {k : Nat} {i j : Int} {x y : UInt64} (hx : DS k i x) (hy : DS k j y) (hj : j ≠ 0) (hb : (i.tmod j).natAbs ≤ 2 ^ 53) (hk : k ≤ 1022) : DS k (i.tmod j) (FP.drem x y) := by
  show Whole _ (sft k (val64 (Core.drem x y)))
  rw [val64_drem]; refine ds_round hk hb ?_; rw [← sft_rem]; exact whole_rem hx hy hj
end Dyad
theorem d1_0 : decode prog_47_method_1_code 0 = .ok (.aload_n 0, 1) := by decide +kernel
theorem d1_1 : decode prog_47_method_1_code 1 = .ok (.invokespecial 1, 3) := by decide +kernel
theorem d1_4 : decode prog_47_method_1_code 4 = .ok (.aload_n 0, 1) := by decide +kernel
theorem d1_5 : decode prog_47_method_1_code 5 = .ok (.dload_n 1, 1) := by decide +kernel
theorem d1_6 : decode prog_47_method_1_code 6 = .ok (.putfield 7, 3) := by decide +kernel
theorem d1_9 : decode prog_47_method_1_code 9 = .ok (.aload_n 0, 1) := by decide +kernel
theorem d1_10 : decode prog_47_method_1_code 10 = .ok (.iload_n 3, 1) := by decide +kernel
theorem d1_11 : decode prog_47_method_1_code 11 = .ok (.putfield 13, 3) := by decide +kernel
theorem d1_14 : decode prog_47_method_1_code 14 = .ok (.aload_n 0, 1) := by decide +kernel
theorem d1_15 : decode prog_47_method_1_code 15 = .ok (.dload 4, 2) := by decide +kernel
theorem d1_17 : decode prog_47_method_1_code 17 = .ok (.putfield 17, 3) := by decide +kernel
theorem d1_20 : decode prog_47_method_1_code 20 = .ok (.aload_n 0, 1) := by decide +kernel
theorem d1_21 : decode prog_47_method_1_code 21 = .ok (.iload 6, 2) := by decide +kernel
theorem d1_23 : decode prog_47_method_1_code 23 = .ok (.putfield 20, 3) := by decide +kernel
theorem d1_26 : decode prog_47_method_1_code 26 = .ok (.return_, 1) := by decide +kernel
theorem pn0 : plainName "com/example/vias_for_diagrams/viasfordiagrams/Stretch" = true := by first | (simp [plainName, overriddenIn]; done) | decide +kernel
theorem ef1_rm1 (m : MethodId) (x0 : Addr) (x1 : UInt64) (x2 : Int32) (x3 : UInt64) (x4 : Int32) : entryFrame m #[(.ref x0), (.double x1), (.int x2), (.double x3), (.int x4)] 7 = mkF m 0 #[.val (.ref x0), .val (.double x1), .second, .val (.int x2), .val (.double x3), .second, .val (.int x4)] [] := by first | (simp [entryFrame, mkF, argsToLocals, Value.category]; done) | rfl
def Q1 (Z : State) (a : Addr) (lo : UInt64) (b1 : Int32) (hi : UInt64) (b2 : Int32) (h0 : Heap) (n0 : Nat) (v : Option Value) (h : Heap) (L : List Loc) : Prop := v = none ∧ Fr n0 L ∧ Keep h0 h [a] ∧ Exa Z h a "com/example/vias_for_diagrams/viasfordiagrams/Stretch" ∧ (Fld Z h a "com/example/vias_for_diagrams/viasfordiagrams/Stretch" "low" "D" (.double lo)) ∧ (Fld Z h a "com/example/vias_for_diagrams/viasfordiagrams/Stretch" "lowIsOpen" "Z" (.int b1)) ∧ (Fld Z h a "com/example/vias_for_diagrams/viasfordiagrams/Stretch" "high" "D" (.double hi)) ∧ (Fld Z h a "com/example/vias_for_diagrams/viasfordiagrams/Stretch" "highIsOpen" "Z" (.int b2))
set_option maxRecDepth 65536 in
set_option maxHeartbeats 40000000 in
theorem rm1 (l : Launch) (Z : State) (a0 : Array Value) (hw : ∀ d ∈ tables_1, d.before a0 Z = true) (ws : List Jvm.Cond) (a : Addr) (lo : UInt64) (b1 : Int32) (hi : UInt64) (b2 : Int32) (h0 : Heap) (n0 : Nat) (Z0 : n0 ≤ h0.size) (ga : n0 ≤ a) (Ea : Exa Z h0 a "com/example/vias_for_diagrams/viasfordiagrams/Stretch") (F0 : Fld Z h0 a "com/example/vias_for_diagrams/viasfordiagrams/Stretch" "low" "D" (.double 0)) (F1 : Fld Z h0 a "com/example/vias_for_diagrams/viasfordiagrams/Stretch" "lowIsOpen" "Z" (.int 0)) (F2 : Fld Z h0 a "com/example/vias_for_diagrams/viasfordiagrams/Stretch" "high" "D" (.double 0)) (F3 : Fld Z h0 a "com/example/vias_for_diagrams/viasfordiagrams/Stretch" "highIsOpen" "Z" (.int 0)) (hb1 : b1 = 0 ∨ b1 = 1) (hb2 : b2 = 0 ∨ b2 = 1) :
    MetFree l (⟨"com/example/vias_for_diagrams/viasfordiagrams/Stretch", "<init>", "(DZDZ)V"⟩ : MethodName) (head1 (Jvm.Cond.code (⟨"com/example/vias_for_diagrams/viasfordiagrams/Stretch", "<init>", "(DZDZ)V"⟩ : MethodName) prog_47_method_1_code 7 none :: ws) ({ frames := 1, cells := 0, slots := 0, locals := 12 } : Room)) (fun aa UU => aa = #[(.ref a), (.double lo), (.int b1), (.double hi), (.int b2)] ∧ Z.Warmed39 UU.vm ∧ UU.heap = h0) (fun _ _ _ _ _ => True) (fun _ UU oo UU' => ∃ vv LL, oo = .returned vv ∧ Q1 Z a lo b1 hi b2 h0 n0 vv UU'.heap LL ∧ FrameEnd UU oo UU' LL ({ frames := 1, cells := 0, slots := 0, locals := 12 } : Room).cells ({ frames := 1, cells := 0, slots := 0, locals := 12 } : Room).slots) := by
  refine MetFree.of_bodySF (plainFor_of_name pn0) hisR ?_
  intro p e s m args below meth c s₁ Bd hml0 hP hK
  obtain ⟨rfl, hZ, hh⟩ := hP
  have hx := Bd.exec
  have hby := Bd.bytes
  have hlk : meth.locks = false := BodyLoose.notSynchronized Bd
  have hret := Bd.returns
  have hml : c.maxLocals = 7 := hml0
  have hown : s.vm.findClass "com/example/vias_for_diagrams/viasfordiagrams/Stretch" = some m.cls := findClass_of_methodNamed Bd.named
  have hnm := (name_of_methodNamed Bd.named Bd.method).1
  have X0 : Stand p l e ({ frames := 1, cells := 0, slots := 0, locals := 12 } : Room) s m #[(.ref a), (.double lo), (.int b1), (.double hi), (.int b2)] below meth c s₁ [] 0 0 := Stand.of_body Bd
  have e0 : s₁.heap = h0 := by rw [← hh, Bd.state]; rfl
  have N0 := Fr.nil n0
  show Dn p e below s (Q1 Z a lo b1 hi b2 h0 n0) ({ frames := 1, cells := 0, slots := 0, locals := 12 } : Room).cells ({ frames := 1, cells := 0, slots := 0, locals := 12 } : Room).slots (s₁.setTop (entryFrame m #[(.ref a), (.double lo), (.int b1), (.double hi), (.int b2)] 7))
  refine Dn.st (fun _ kk => castTop (ef1_rm1 m a lo b1 hi b2) kk) ?_
  show Dn p e below s _ _ _ (s₁.setTop (mkF m 0 #[.val (.ref a), .val (.double lo), .second, .val (.int b1), .val (.double hi), .second, .val (.int b2)] []))
  refine Dn.st (fun _ kk => XS.aloadN X0.here hx rfl (hb hby d1_0) rfl rfl (kk)) ?_
  show Dn p e below s _ _ _ (s₁.setTop (mkF m 1 #[.val (.ref a), .val (.double lo), .second, .val (.int b1), .val (.double hi), .second, .val (.int b2)] [(.ref a)]))
  obtain ⟨T1, X1, e1, st1⟩ := initO X0 hx hZ hown (hw _ (List.mem_of_getElem? (i := 6) rfl)) (hw _ (List.mem_of_getElem? (i := 7) rfl)) (hw _ (List.mem_of_getElem? (i := 8) rfl)) e0 (g := (mkF m 1 #[.val (.ref a), .val (.double lo), .second, .val (.int b1), .val (.double hi), .second, .val (.int b2)] [(.ref a)])) rfl (by rw [hml]; rfl) rfl (hb hby d1_1) (by decide) (W := 0) (by show 2 * 0 + _ ≤ _; exact Nat.le_of_eq rfl) (by decide)
  refine Dn.st st1 ?_
  show Dn p e below s _ _ _ (T1.setTop (mkF m 4 #[.val (.ref a), .val (.double lo), .second, .val (.int b1), .val (.double hi), .second, .val (.int b2)] []))
  refine Dn.st (fun _ kk => XS.aloadN X1.here hx rfl (hb hby d1_4) rfl rfl (XS.dloadN X1.here hx rfl (hb hby d1_5) rfl  (kk))) ?_
  show Dn p e below s _ _ _ (T1.setTop (mkF m 6 #[.val (.ref a), .val (.double lo), .second, .val (.int b1), .val (.double hi), .second, .val (.int b2)] [(.double lo), (.ref a)]))
  obtain ⟨T6, h6, X6, e6, W6, st6⟩ := putF X1 hx hZ hown (host := "") (Or.inl (hw _ (List.mem_of_getElem? (i := 9) rfl))) Via.refl e1 F0 Ea (Or.inr ⟨(hw _ (List.mem_of_getElem? (i := 10) rfl)), rfl, hnm⟩) (hw _ (List.mem_of_getElem? (i := 1) rfl)) (ty := .double) (by decide) rfl rfl (g := (mkF m 6 #[.val (.ref a), .val (.double lo), .second, .val (.int b1), .val (.double hi), .second, .val (.int b2)] [(.double lo), (.ref a)])) rfl rfl (hb hby d1_6)
  have E_a_6 := Ea.wr W6
  have F_a_lowIsOpen_6 := F1.other W6 (Or.inr (slot_ne (Or.inr (hw _ (List.mem_of_getElem? (i := 12) rfl))) (Or.inr (hw _ (List.mem_of_getElem? (i := 10) rfl))) (by decide) (t := .boolean) (t' := .double) (by decide) (by decide)))
  have F_a_high_6 := F2.other W6 (Or.inr (slot_ne (Or.inr (hw _ (List.mem_of_getElem? (i := 14) rfl))) (Or.inr (hw _ (List.mem_of_getElem? (i := 10) rfl))) (by decide) (t := .double) (t' := .double) (by decide) (by decide)))
  have F_a_highIsOpen_6 := F3.other W6 (Or.inr (slot_ne (Or.inr (hw _ (List.mem_of_getElem? (i := 16) rfl))) (Or.inr (hw _ (List.mem_of_getElem? (i := 10) rfl))) (by decide) (t := .boolean) (t' := .double) (by decide) (by decide)))
  have F_a_low_6 := F0.same W6
  have K6 := (Keep.refl h0 [a]).wr W6 (Or.inl (List.mem_of_getElem? (i := 0) rfl))
  have N6 := Fr.snoc X6 N0 ga
  have Z6 : n0 ≤ h6.size := Nat.le_trans Z0 (Keep.of_wr W6).1
  refine Dn.st st6 ?_
  show Dn p e below s _ _ _ (T6.setTop (mkF m 9 #[.val (.ref a), .val (.double lo), .second, .val (.int b1), .val (.double hi), .second, .val (.int b2)] []))
  refine Dn.st (fun _ kk => XS.aloadN X6.here hx rfl (hb hby d1_9) rfl rfl (XS.iloadN X6.here hx rfl (hb hby d1_10) rfl  (kk))) ?_
  show Dn p e below s _ _ _ (T6.setTop (mkF m 11 #[.val (.ref a), .val (.double lo), .second, .val (.int b1), .val (.double hi), .second, .val (.int b2)] [(.int b1), (.ref a)]))
  obtain ⟨T11, h11, X11, e11, W11, st11⟩ := putF X6 hx hZ hown (host := "") (Or.inl (hw _ (List.mem_of_getElem? (i := 11) rfl))) Via.refl e6 F_a_lowIsOpen_6 E_a_6 (Or.inr ⟨(hw _ (List.mem_of_getElem? (i := 12) rfl)), rfl, hnm⟩) (hw _ (List.mem_of_getElem? (i := 1) rfl)) (ty := .boolean) (by decide) (by rcases hb1 with rfl | rfl <;> rfl) (by rcases hb1 with rfl | rfl <;> rfl) (g := (mkF m 11 #[.val (.ref a), .val (.double lo), .second, .val (.int b1), .val (.double hi), .second, .val (.int b2)] [(.int b1), (.ref a)])) rfl rfl (hb hby d1_11)
  have E_a_11 := E_a_6.wr W11
  have F_a_low_11 := F_a_low_6.other W11 (Or.inr (slot_ne (Or.inr (hw _ (List.mem_of_getElem? (i := 10) rfl))) (Or.inr (hw _ (List.mem_of_getElem? (i := 12) rfl))) (by decide) (t := .double) (t' := .boolean) (by decide) (by decide)))
  have F_a_high_11 := F_a_high_6.other W11 (Or.inr (slot_ne (Or.inr (hw _ (List.mem_of_getElem? (i := 14) rfl))) (Or.inr (hw _ (List.mem_of_getElem? (i := 12) rfl))) (by decide) (t := .double) (t' := .boolean) (by decide) (by decide)))
  have F_a_highIsOpen_11 := F_a_highIsOpen_6.other W11 (Or.inr (slot_ne (Or.inr (hw _ (List.mem_of_getElem? (i := 16) rfl))) (Or.inr (hw _ (List.mem_of_getElem? (i := 12) rfl))) (by decide) (t := .boolean) (t' := .boolean) (by decide) (by decide)))
  have F_a_lowIsOpen_11 := F_a_lowIsOpen_6.same W11
  have K11 := K6.wr W11 (Or.inl (List.mem_of_getElem? (i := 0) rfl))
  have N11 := Fr.snoc X11 N6 ga
  have Z11 : n0 ≤ h11.size := Nat.le_trans Z6 (Keep.of_wr W11).1
  refine Dn.st st11 ?_
  show Dn p e below s _ _ _ (T11.setTop (mkF m 14 #[.val (.ref a), .val (.double lo), .second, .val (.int b1), .val (.double hi), .second, .val (.int b2)] []))
  refine Dn.st (fun _ kk => XS.aloadN X11.here hx rfl (hb hby d1_14) rfl rfl (XS.dload X11.here hx rfl (hb hby d1_15) rfl  (kk))) ?_
  show Dn p e below s _ _ _ (T11.setTop (mkF m 17 #[.val (.ref a), .val (.double lo), .second, .val (.int b1), .val (.double hi), .second, .val (.int b2)] [(.double hi), (.ref a)]))
  obtain ⟨T17, h17, X17, e17, W17, st17⟩ := putF X11 hx hZ hown (host := "") (Or.inl (hw _ (List.mem_of_getElem? (i := 13) rfl))) Via.refl e11 F_a_high_11 E_a_11 (Or.inr ⟨(hw _ (List.mem_of_getElem? (i := 14) rfl)), rfl, hnm⟩) (hw _ (List.mem_of_getElem? (i := 1) rfl)) (ty := .double) (by decide) rfl rfl (g := (mkF m 17 #[.val (.ref a), .val (.double lo), .second, .val (.int b1), .val (.double hi), .second, .val (.int b2)] [(.double hi), (.ref a)])) rfl rfl (hb hby d1_17)
  have E_a_17 := E_a_11.wr W17
  have F_a_low_17 := F_a_low_11.other W17 (Or.inr (slot_ne (Or.inr (hw _ (List.mem_of_getElem? (i := 10) rfl))) (Or.inr (hw _ (List.mem_of_getElem? (i := 14) rfl))) (by decide) (t := .double) (t' := .double) (by decide) (by decide)))
  have F_a_lowIsOpen_17 := F_a_lowIsOpen_11.other W17 (Or.inr (slot_ne (Or.inr (hw _ (List.mem_of_getElem? (i := 12) rfl))) (Or.inr (hw _ (List.mem_of_getElem? (i := 14) rfl))) (by decide) (t := .boolean) (t' := .double) (by decide) (by decide)))
  have F_a_highIsOpen_17 := F_a_highIsOpen_11.other W17 (Or.inr (slot_ne (Or.inr (hw _ (List.mem_of_getElem? (i := 16) rfl))) (Or.inr (hw _ (List.mem_of_getElem? (i := 14) rfl))) (by decide) (t := .boolean) (t' := .double) (by decide) (by decide)))
  have F_a_high_17 := F_a_high_11.same W17
  have K17 := K11.wr W17 (Or.inl (List.mem_of_getElem? (i := 0) rfl))
  have N17 := Fr.snoc X17 N11 ga
  have Z17 : n0 ≤ h17.size := Nat.le_trans Z11 (Keep.of_wr W17).1
  refine Dn.st st17 ?_
  show Dn p e below s _ _ _ (T17.setTop (mkF m 20 #[.val (.ref a), .val (.double lo), .second, .val (.int b1), .val (.double hi), .second, .val (.int b2)] []))
  refine Dn.st (fun _ kk => XS.aloadN X17.here hx rfl (hb hby d1_20) rfl rfl (XS.iload X17.here hx rfl (hb hby d1_21) rfl  (kk))) ?_
  show Dn p e below s _ _ _ (T17.setTop (mkF m 23 #[.val (.ref a), .val (.double lo), .second, .val (.int b1), .val (.double hi), .second, .val (.int b2)] [(.int b2), (.ref a)]))
  obtain ⟨T23, h23, X23, e23, W23, st23⟩ := putF X17 hx hZ hown (host := "") (Or.inl (hw _ (List.mem_of_getElem? (i := 15) rfl))) Via.refl e17 F_a_highIsOpen_17 E_a_17 (Or.inr ⟨(hw _ (List.mem_of_getElem? (i := 16) rfl)), rfl, hnm⟩) (hw _ (List.mem_of_getElem? (i := 1) rfl)) (ty := .boolean) (by decide) (by rcases hb2 with rfl | rfl <;> rfl) (by rcases hb2 with rfl | rfl <;> rfl) (g := (mkF m 23 #[.val (.ref a), .val (.double lo), .second, .val (.int b1), .val (.double hi), .second, .val (.int b2)] [(.int b2), (.ref a)])) rfl rfl (hb hby d1_23)
  have E_a_23 := E_a_17.wr W23
  have F_a_low_23 := F_a_low_17.other W23 (Or.inr (slot_ne (Or.inr (hw _ (List.mem_of_getElem? (i := 10) rfl))) (Or.inr (hw _ (List.mem_of_getElem? (i := 16) rfl))) (by decide) (t := .double) (t' := .boolean) (by decide) (by decide)))
  have F_a_lowIsOpen_23 := F_a_lowIsOpen_17.other W23 (Or.inr (slot_ne (Or.inr (hw _ (List.mem_of_getElem? (i := 12) rfl))) (Or.inr (hw _ (List.mem_of_getElem? (i := 16) rfl))) (by decide) (t := .boolean) (t' := .boolean) (by decide) (by decide)))
  have F_a_high_23 := F_a_high_17.other W23 (Or.inr (slot_ne (Or.inr (hw _ (List.mem_of_getElem? (i := 14) rfl))) (Or.inr (hw _ (List.mem_of_getElem? (i := 16) rfl))) (by decide) (t := .double) (t' := .boolean) (by decide) (by decide)))
  have F_a_highIsOpen_23 := F_a_highIsOpen_17.same W23
  have K23 := K17.wr W23 (Or.inl (List.mem_of_getElem? (i := 0) rfl))
  have N23 := Fr.snoc X23 N17 ga
  have Z23 : n0 ≤ h23.size := Nat.le_trans Z17 (Keep.of_wr W23).1
  refine Dn.st st23 ?_
  show Dn p e below s _ _ _ (T23.setTop (mkF m 26 #[.val (.ref a), .val (.double lo), .second, .val (.int b1), .val (.double hi), .second, .val (.int b2)] []))
  exact Dn.ret0 X23 hlk hx hret (hb hby d1_26) (by rw [e23]; exact ⟨rfl, N23, K23, E_a_23, F_a_low_23, F_a_lowIsOpen_23, F_a_high_23, F_a_highIsOpen_23⟩) (by decide) (by decide)

theorem d3_0 : decode prog_47_method_13_code 0 = .ok (.aload_n 0, 1) := by decide +kernel
theorem d3_1 : decode prog_47_method_13_code 1 = .ok (.getfield 13, 3) := by decide +kernel
theorem d3_4 : decode prog_47_method_13_code 4 = .ok (.ifCond .eq 20, 3) := by decide +kernel
theorem d3_7 : decode prog_47_method_13_code 7 = .ok (.aload_n 0, 1) := by decide +kernel
theorem d3_8 : decode prog_47_method_13_code 8 = .ok (.getfield 7, 3) := by decide +kernel
theorem d3_11 : decode prog_47_method_13_code 11 = .ok (.dload_n 1, 1) := by decide +kernel
theorem d3_12 : decode prog_47_method_13_code 12 = .ok (.dcmp .g, 1) := by decide +kernel
theorem d3_13 : decode prog_47_method_13_code 13 = .ok (.ifCond .ge 7, 3) := by decide +kernel
theorem d3_16 : decode prog_47_method_13_code 16 = .ok (.iconst 1, 1) := by decide +kernel
theorem d3_17 : decode prog_47_method_13_code 17 = .ok (.goto 21, 3) := by decide +kernel
theorem d3_20 : decode prog_47_method_13_code 20 = .ok (.iconst 0, 1) := by decide +kernel
theorem d3_21 : decode prog_47_method_13_code 21 = .ok (.goto 17, 3) := by decide +kernel
theorem d3_24 : decode prog_47_method_13_code 24 = .ok (.aload_n 0, 1) := by decide +kernel
theorem d3_25 : decode prog_47_method_13_code 25 = .ok (.getfield 7, 3) := by decide +kernel
theorem d3_28 : decode prog_47_method_13_code 28 = .ok (.dload_n 1, 1) := by decide +kernel
theorem d3_29 : decode prog_47_method_13_code 29 = .ok (.dcmp .g, 1) := by decide +kernel
theorem d3_30 : decode prog_47_method_13_code 30 = .ok (.ifCond .gt 7, 3) := by decide +kernel
theorem d3_33 : decode prog_47_method_13_code 33 = .ok (.iconst 1, 1) := by decide +kernel
theorem d3_34 : decode prog_47_method_13_code 34 = .ok (.goto 4, 3) := by decide +kernel
theorem d3_37 : decode prog_47_method_13_code 37 = .ok (.iconst 0, 1) := by decide +kernel
theorem d3_38 : decode prog_47_method_13_code 38 = .ok (.istore_n 3, 1) := by decide +kernel
theorem d3_39 : decode prog_47_method_13_code 39 = .ok (.aload_n 0, 1) := by decide +kernel
theorem d3_40 : decode prog_47_method_13_code 40 = .ok (.getfield 20, 3) := by decide +kernel
theorem d3_43 : decode prog_47_method_13_code 43 = .ok (.ifCond .eq 20, 3) := by decide +kernel
theorem d3_46 : decode prog_47_method_13_code 46 = .ok (.dload_n 1, 1) := by decide +kernel
theorem d3_47 : decode prog_47_method_13_code 47 = .ok (.aload_n 0, 1) := by decide +kernel
theorem d3_48 : decode prog_47_method_13_code 48 = .ok (.getfield 17, 3) := by decide +kernel
theorem d3_51 : decode prog_47_method_13_code 51 = .ok (.dcmp .g, 1) := by decide +kernel
theorem d3_52 : decode prog_47_method_13_code 52 = .ok (.ifCond .ge 7, 3) := by decide +kernel
theorem d3_55 : decode prog_47_method_13_code 55 = .ok (.iconst 1, 1) := by decide +kernel
theorem d3_56 : decode prog_47_method_13_code 56 = .ok (.goto 21, 3) := by decide +kernel
theorem d3_59 : decode prog_47_method_13_code 59 = .ok (.iconst 0, 1) := by decide +kernel
theorem d3_60 : decode prog_47_method_13_code 60 = .ok (.goto 17, 3) := by decide +kernel
theorem d3_63 : decode prog_47_method_13_code 63 = .ok (.dload_n 1, 1) := by decide +kernel
theorem d3_64 : decode prog_47_method_13_code 64 = .ok (.aload_n 0, 1) := by decide +kernel
theorem d3_65 : decode prog_47_method_13_code 65 = .ok (.getfield 17, 3) := by decide +kernel
theorem d3_68 : decode prog_47_method_13_code 68 = .ok (.dcmp .g, 1) := by decide +kernel
theorem d3_69 : decode prog_47_method_13_code 69 = .ok (.ifCond .gt 7, 3) := by decide +kernel
theorem d3_72 : decode prog_47_method_13_code 72 = .ok (.iconst 1, 1) := by decide +kernel
theorem d3_73 : decode prog_47_method_13_code 73 = .ok (.goto 4, 3) := by decide +kernel
theorem d3_76 : decode prog_47_method_13_code 76 = .ok (.iconst 0, 1) := by decide +kernel
theorem d3_77 : decode prog_47_method_13_code 77 = .ok (.istore 4, 2) := by decide +kernel
theorem d3_79 : decode prog_47_method_13_code 79 = .ok (.iload_n 3, 1) := by decide +kernel
theorem d3_80 : decode prog_47_method_13_code 80 = .ok (.ifCond .eq 12, 3) := by decide +kernel
theorem d3_83 : decode prog_47_method_13_code 83 = .ok (.iload 4, 2) := by decide +kernel
theorem d3_85 : decode prog_47_method_13_code 85 = .ok (.ifCond .eq 7, 3) := by decide +kernel
theorem d3_88 : decode prog_47_method_13_code 88 = .ok (.iconst 1, 1) := by decide +kernel
theorem d3_89 : decode prog_47_method_13_code 89 = .ok (.goto 4, 3) := by decide +kernel
theorem d3_92 : decode prog_47_method_13_code 92 = .ok (.iconst 0, 1) := by decide +kernel
theorem d3_93 : decode prog_47_method_13_code 93 = .ok (.ireturn, 1) := by decide +kernel
theorem ef3_rm3 (m : MethodId) (x0 : Addr) (x1 : UInt64) : entryFrame m #[(.ref x0), (.double x1)] 5 = mkF m 0 #[.val (.ref x0), .val (.double x1), .second, .unset, .unset] [] := by first | (simp [entryFrame, mkF, argsToLocals, Value.category]; done) | rfl
def Q3 (Z : State) (a : Addr) (xx : UInt64) (lo hi : UInt64) (b1 b2 : Int32) (il ih ix : Int) (h0 : Heap) (n0 : Nat) (v : Option Value) (h : Heap) (L : List Loc) : Prop := ∃ z, v = some (.int z) ∧ ((z = 1 ∧ (((b1 = 0 → il ≤ ix) ∧ (¬ b1 = 0 → il < ix)) ∧ ((b2 = 0 → ix ≤ ih) ∧ (¬ b2 = 0 → ix < ih)))) ∨ (z = 0 ∧ ¬ (((b1 = 0 → il ≤ ix) ∧ (¬ b1 = 0 → il < ix)) ∧ ((b2 = 0 → ix ≤ ih) ∧ (¬ b2 = 0 → ix < ih))))) ∧ Fr n0 L ∧ h = h0
set_option maxRecDepth 65536 in
set_option maxHeartbeats 40000000 in
theorem rm3 (l : Launch) (Z : State) (a0 : Array Value) (hw : ∀ d ∈ tables_1, d.before a0 Z = true) (ws : List Jvm.Cond) (a : Addr) (xx : UInt64) (lo hi : UInt64) (b1 b2 : Int32) (il ih ix : Int) (h0 : Heap) (n0 : Nat) (Z0 : n0 ≤ h0.size) (F0 : Fld Z h0 a "com/example/vias_for_diagrams/viasfordiagrams/Stretch" "low" "D" (.double lo)) (F1 : Fld Z h0 a "com/example/vias_for_diagrams/viasfordiagrams/Stretch" "lowIsOpen" "Z" (.int b1)) (F2 : Fld Z h0 a "com/example/vias_for_diagrams/viasfordiagrams/Stretch" "high" "D" (.double hi)) (F3 : Fld Z h0 a "com/example/vias_for_diagrams/viasfordiagrams/Stretch" "highIsOpen" "Z" (.int b2)) (dl : DS 0 il lo) (dh : DS 0 ih hi) (dx : DS 0 ix xx) :
    MetFree l (⟨"com/example/vias_for_diagrams/viasfordiagrams/Stretch", "holds", "(D)Z"⟩ : MethodName) (head1 (Jvm.Cond.code (⟨"com/example/vias_for_diagrams/viasfordiagrams/Stretch", "holds", "(D)Z"⟩ : MethodName) prog_47_method_13_code 5 (some .boolean) :: ws) ({ frames := 0, cells := 0, slots := 0, locals := 0 } : Room)) (fun aa UU => aa = #[(.ref a), (.double xx)] ∧ Z.Warmed39 UU.vm ∧ UU.heap = h0) (fun _ _ _ _ _ => True) (fun _ UU oo UU' => ∃ vv LL, oo = .returned vv ∧ Q3 Z a xx lo hi b1 b2 il ih ix h0 n0 vv UU'.heap LL ∧ FrameEnd UU oo UU' LL ({ frames := 0, cells := 0, slots := 0, locals := 0 } : Room).cells ({ frames := 0, cells := 0, slots := 0, locals := 0 } : Room).slots) := by
  refine MetFree.of_bodySF (plainFor_of_name pn0) hisR ?_
  intro p e s m args below meth c s₁ Bd hml0 hP hK
  obtain ⟨rfl, hZ, hh⟩ := hP
  have hx := Bd.exec
  have hby := Bd.bytes
  have hlk : meth.locks = false := BodyLoose.notSynchronized Bd
  have hret := Bd.returns
  have hml : c.maxLocals = 5 := hml0
  have hown : s.vm.findClass "com/example/vias_for_diagrams/viasfordiagrams/Stretch" = some m.cls := findClass_of_methodNamed Bd.named
  have hnm := (name_of_methodNamed Bd.named Bd.method).1
  have X0 : Stand p l e ({ frames := 0, cells := 0, slots := 0, locals := 0 } : Room) s m #[(.ref a), (.double xx)] below meth c s₁ [] 0 0 := Stand.of_body Bd
  have e0 : s₁.heap = h0 := by rw [← hh, Bd.state]; rfl
  have N0 := Fr.nil n0
  show Dn p e below s (Q3 Z a xx lo hi b1 b2 il ih ix h0 n0) ({ frames := 0, cells := 0, slots := 0, locals := 0 } : Room).cells ({ frames := 0, cells := 0, slots := 0, locals := 0 } : Room).slots (s₁.setTop (entryFrame m #[(.ref a), (.double xx)] 5))
  refine Dn.st (fun _ kk => castTop (ef3_rm3 m a xx) kk) ?_
  show Dn p e below s _ _ _ (s₁.setTop (mkF m 0 #[.val (.ref a), .val (.double xx), .second, .unset, .unset] []))
  refine Dn.st (fun _ kk => XS.aloadN X0.here hx rfl (hb hby d3_0) rfl rfl (kk)) ?_
  show Dn p e below s _ _ _ (s₁.setTop (mkF m 1 #[.val (.ref a), .val (.double xx), .second, .unset, .unset] [(.ref a)]))
  obtain ⟨T1, X1, e1, st1⟩ := getF X0 hx hZ hown (host := "") (Or.inl (hw _ (List.mem_of_getElem? (i := 11) rfl))) Via.refl e0 F1 (g := (mkF m 1 #[.val (.ref a), .val (.double xx), .second, .unset, .unset] [(.ref a)])) rfl rfl (hb hby d3_1)
  refine Dn.st st1 ?_
  show Dn p e below s _ _ _ (T1.setTop (mkF m 4 #[.val (.ref a), .val (.double xx), .second, .unset, .unset] [(.int b1)]))
  have J38 : ∀ (Tj38 : State) (Xj38 : Stand p l e ({ frames := 0, cells := 0, slots := 0, locals := 0 } : Room) s m #[(.ref a), (.double xx)] below meth c Tj38 [] 0 0) (ej38 : Tj38.heap = h0) (j38_s0 : Int32), ((b1 = (0 : Int32) ∧ (0 : Int32) < (c3 il ix) ∧ j38_s0 = (0 : Int32)) ∨ (b1 = (0 : Int32) ∧ ¬ ((0 : Int32) < (c3 il ix)) ∧ j38_s0 = (1 : Int32)) ∨ (¬ (b1 = (0 : Int32)) ∧ (c3 il ix) < (0 : Int32) ∧ j38_s0 = (1 : Int32)) ∨ (¬ (b1 = (0 : Int32)) ∧ ¬ ((c3 il ix) < (0 : Int32)) ∧ j38_s0 = (0 : Int32))) → Dn p e below s (Q3 Z a xx lo hi b1 b2 il ih ix h0 n0) ({ frames := 0, cells := 0, slots := 0, locals := 0 } : Room).cells ({ frames := 0, cells := 0, slots := 0, locals := 0 } : Room).slots (Tj38.setTop (mkF m 38 #[.val (.ref a), .val (.double xx), .second, .unset, .unset] [(.int j38_s0)])) := by
    intro Tj38 Xj38 ej38 j38_s0 hj38
    show Dn p e below s _ _ _ (Tj38.setTop (mkF m 38 #[.val (.ref a), .val (.double xx), .second, .unset, .unset] [(.int j38_s0)]))
    refine Dn.st (fun _ kk => XS.istoreN Xj38.here hx rfl (hb hby d3_38) rfl (l' := #[.val (.ref a), .val (.double xx), .second, .val (.int j38_s0), .unset]) rfl (XS.aloadN Xj38.here hx rfl (hb hby d3_39) rfl rfl (kk))) ?_
    show Dn p e below s _ _ _ (Tj38.setTop (mkF m 40 #[.val (.ref a), .val (.double xx), .second, .val (.int j38_s0), .unset] [(.ref a)]))
    obtain ⟨T40, X40, e40, st40⟩ := getF Xj38 hx hZ hown (host := "") (Or.inl (hw _ (List.mem_of_getElem? (i := 15) rfl))) Via.refl ej38 F3 (g := (mkF m 40 #[.val (.ref a), .val (.double xx), .second, .val (.int j38_s0), .unset] [(.ref a)])) rfl rfl (hb hby d3_40)
    refine Dn.st st40 ?_
    show Dn p e below s _ _ _ (T40.setTop (mkF m 43 #[.val (.ref a), .val (.double xx), .second, .val (.int j38_s0), .unset] [(.int b2)]))
    have J77 : ∀ (Tj77 : State) (Xj77 : Stand p l e ({ frames := 0, cells := 0, slots := 0, locals := 0 } : Room) s m #[(.ref a), (.double xx)] below meth c Tj77 [] 0 0) (ej77 : Tj77.heap = h0) (j77_s0 : Int32), ((b2 = (0 : Int32) ∧ (0 : Int32) < (c3 ix ih) ∧ j77_s0 = (0 : Int32)) ∨ (b2 = (0 : Int32) ∧ ¬ ((0 : Int32) < (c3 ix ih)) ∧ j77_s0 = (1 : Int32)) ∨ (¬ (b2 = (0 : Int32)) ∧ (c3 ix ih) < (0 : Int32) ∧ j77_s0 = (1 : Int32)) ∨ (¬ (b2 = (0 : Int32)) ∧ ¬ ((c3 ix ih) < (0 : Int32)) ∧ j77_s0 = (0 : Int32))) → Dn p e below s (Q3 Z a xx lo hi b1 b2 il ih ix h0 n0) ({ frames := 0, cells := 0, slots := 0, locals := 0 } : Room).cells ({ frames := 0, cells := 0, slots := 0, locals := 0 } : Room).slots (Tj77.setTop (mkF m 77 #[.val (.ref a), .val (.double xx), .second, .val (.int j38_s0), .unset] [(.int j77_s0)])) := by
      intro Tj77 Xj77 ej77 j77_s0 hj77
      show Dn p e below s _ _ _ (Tj77.setTop (mkF m 77 #[.val (.ref a), .val (.double xx), .second, .val (.int j38_s0), .unset] [(.int j77_s0)]))
      refine Dn.st (fun _ kk => XS.istore Xj77.here hx rfl (hb hby d3_77) rfl (l' := #[.val (.ref a), .val (.double xx), .second, .val (.int j38_s0), .val (.int j77_s0)]) rfl (XS.iloadN Xj77.here hx rfl (hb hby d3_79) rfl  (kk))) ?_
      show Dn p e below s _ _ _ (Tj77.setTop (mkF m 80 #[.val (.ref a), .val (.double xx), .second, .val (.int j38_s0), .val (.int j77_s0)] [(.int j38_s0)]))
      by_cases hc80 : j38_s0 = (0 : Int32)
      · have hi80 : j38_s0.toInt = 0 := congrArg Int32.toInt hc80
        refine Dn.st (fun _ kk => XS.ifYes Xj77.here hx rfl (pc0 := 80) (pc' := 92) rfl (hb hby d3_80) rfl ((if0 _ _).trans (teq hc80).1) (by decide) (by decide) (XS.iconst Xj77.here hx rfl (hb hby d3_92) (kk))) ?_
        show Dn p e below s _ _ _ (Tj77.setTop (mkF m 93 #[.val (.ref a), .val (.double xx), .second, .val (.int j38_s0), .val (.int j77_s0)] [(.int (0 : Int32))]))
        exact Dn.ret Xj77 hlk hx hret rfl (Or.inl ⟨rfl, Or.inr (Or.inl rfl), _, rfl⟩) (hb hby d3_93) (by rw [ej77]; exact ⟨_, rfl, Or.inr ⟨rfl, by simp only [c3_lt, c3_gt, ← Int32.toInt_inj] at *; have e0 : (0 : Int32).toInt = 0 := rfl; have e1 : (1 : Int32).toInt = 1 := rfl; omega⟩, N0, rfl⟩) (by decide) (by decide)
      · have hi80 : ¬ j38_s0.toInt = 0 := fun qq => hc80 (Int32.toInt_inj.mp qq)
        refine Dn.st (fun _ kk => XS.ifNo Xj77.here hx rfl (hb hby d3_80) rfl ((if0 _ _).trans (feq hc80).1) (XS.iload Xj77.here hx rfl (hb hby d3_83) rfl  (kk))) ?_
        show Dn p e below s _ _ _ (Tj77.setTop (mkF m 85 #[.val (.ref a), .val (.double xx), .second, .val (.int j38_s0), .val (.int j77_s0)] [(.int j77_s0)]))
        by_cases hc85 : j77_s0 = (0 : Int32)
        · have hi85 : j77_s0.toInt = 0 := congrArg Int32.toInt hc85
          refine Dn.st (fun _ kk => XS.ifYes Xj77.here hx rfl (pc0 := 85) (pc' := 92) rfl (hb hby d3_85) rfl ((if0 _ _).trans (teq hc85).1) (by decide) (by decide) (XS.iconst Xj77.here hx rfl (hb hby d3_92) (kk))) ?_
          show Dn p e below s _ _ _ (Tj77.setTop (mkF m 93 #[.val (.ref a), .val (.double xx), .second, .val (.int j38_s0), .val (.int j77_s0)] [(.int (0 : Int32))]))
          exact Dn.ret Xj77 hlk hx hret rfl (Or.inl ⟨rfl, Or.inr (Or.inl rfl), _, rfl⟩) (hb hby d3_93) (by rw [ej77]; exact ⟨_, rfl, Or.inr ⟨rfl, by simp only [c3_lt, c3_gt, ← Int32.toInt_inj] at *; have e0 : (0 : Int32).toInt = 0 := rfl; have e1 : (1 : Int32).toInt = 1 := rfl; omega⟩, N0, rfl⟩) (by decide) (by decide)
        · have hi85 : ¬ j77_s0.toInt = 0 := fun qq => hc85 (Int32.toInt_inj.mp qq)
          refine Dn.st (fun _ kk => XS.ifNo Xj77.here hx rfl (hb hby d3_85) rfl ((if0 _ _).trans (feq hc85).1) (XS.iconst Xj77.here hx rfl (hb hby d3_88) (XS.goto Xj77.here hx rfl (pc0 := 89) (pc' := 93) rfl (hb hby d3_89) (by decide) (by decide) (kk)))) ?_
          show Dn p e below s _ _ _ (Tj77.setTop (mkF m 93 #[.val (.ref a), .val (.double xx), .second, .val (.int j38_s0), .val (.int j77_s0)] [(.int (1 : Int32))]))
          exact Dn.ret Xj77 hlk hx hret rfl (Or.inl ⟨rfl, Or.inr (Or.inl rfl), _, rfl⟩) (hb hby d3_93) (by rw [ej77]; exact ⟨_, rfl, Or.inl ⟨rfl, by simp only [c3_lt, c3_gt, ← Int32.toInt_inj] at *; have e0 : (0 : Int32).toInt = 0 := rfl; have e1 : (1 : Int32).toInt = 1 := rfl; omega⟩, N0, rfl⟩) (by decide) (by decide)
    show Dn p e below s _ _ _ (T40.setTop (mkF m 43 #[.val (.ref a), .val (.double xx), .second, .val (.int j38_s0), .unset] [(.int b2)]))
    by_cases hc43 : b2 = (0 : Int32)
    · refine Dn.st (fun _ kk => XS.ifYes X40.here hx rfl (pc0 := 43) (pc' := 63) rfl (hb hby d3_43) rfl ((if0 _ _).trans (teq hc43).1) (by decide) (by decide) (XS.dloadN X40.here hx rfl (hb hby d3_63) rfl  (XS.aloadN X40.here hx rfl (hb hby d3_64) rfl rfl (kk)))) ?_
      show Dn p e below s _ _ _ (T40.setTop (mkF m 65 #[.val (.ref a), .val (.double xx), .second, .val (.int j38_s0), .unset] [(.ref a), (.double xx)]))
      obtain ⟨T65, X65, e65, st65⟩ := getF X40 hx hZ hown (host := "") (Or.inl (hw _ (List.mem_of_getElem? (i := 13) rfl))) Via.refl e40 F2 (g := (mkF m 65 #[.val (.ref a), .val (.double xx), .second, .val (.int j38_s0), .unset] [(.ref a), (.double xx)])) rfl rfl (hb hby d3_65)
      refine Dn.st st65 ?_
      show Dn p e below s _ _ _ (T65.setTop (mkF m 68 #[.val (.ref a), .val (.double xx), .second, .val (.int j38_s0), .unset] [(.double hi), (.double xx)]))
      refine Dn.st (fun _ kk => XS.dcmpS X65.here hx rfl (hb hby d3_68) rfl (DS.cmpV dx dh _) (kk)) ?_
      show Dn p e below s _ _ _ (T65.setTop (mkF m 69 #[.val (.ref a), .val (.double xx), .second, .val (.int j38_s0), .unset] [(.int (c3 ix ih))]))
      by_cases hc69 : (0 : Int32) < (c3 ix ih)
      · refine Dn.st (fun _ kk => XS.ifYes X65.here hx rfl (pc0 := 69) (pc' := 76) rfl (hb hby d3_69) rfl ((if0 _ _).trans (tlt hc69).2.2.1) (by decide) (by decide) (XS.iconst X65.here hx rfl (hb hby d3_76) (kk))) ?_
        show Dn p e below s _ _ _ (T65.setTop (mkF m 77 #[.val (.ref a), .val (.double xx), .second, .val (.int j38_s0), .unset] [(.int (0 : Int32))]))
        exact J77 T65 X65 e65 (0 : Int32) (Or.inl ⟨hc43, hc69, rfl⟩)
      · refine Dn.st (fun _ kk => XS.ifNo X65.here hx rfl (hb hby d3_69) rfl ((if0 _ _).trans (flt hc69).2.2.1) (XS.iconst X65.here hx rfl (hb hby d3_72) (XS.goto X65.here hx rfl (pc0 := 73) (pc' := 77) rfl (hb hby d3_73) (by decide) (by decide) (kk)))) ?_
        show Dn p e below s _ _ _ (T65.setTop (mkF m 77 #[.val (.ref a), .val (.double xx), .second, .val (.int j38_s0), .unset] [(.int (1 : Int32))]))
        exact J77 T65 X65 e65 (1 : Int32) (Or.inr (Or.inl ⟨hc43, hc69, rfl⟩))
    · refine Dn.st (fun _ kk => XS.ifNo X40.here hx rfl (hb hby d3_43) rfl ((if0 _ _).trans (feq hc43).1) (XS.dloadN X40.here hx rfl (hb hby d3_46) rfl  (XS.aloadN X40.here hx rfl (hb hby d3_47) rfl rfl (kk)))) ?_
      show Dn p e below s _ _ _ (T40.setTop (mkF m 48 #[.val (.ref a), .val (.double xx), .second, .val (.int j38_s0), .unset] [(.ref a), (.double xx)]))
      obtain ⟨T48, X48, e48, st48⟩ := getF X40 hx hZ hown (host := "") (Or.inl (hw _ (List.mem_of_getElem? (i := 13) rfl))) Via.refl e40 F2 (g := (mkF m 48 #[.val (.ref a), .val (.double xx), .second, .val (.int j38_s0), .unset] [(.ref a), (.double xx)])) rfl rfl (hb hby d3_48)
      refine Dn.st st48 ?_
      show Dn p e below s _ _ _ (T48.setTop (mkF m 51 #[.val (.ref a), .val (.double xx), .second, .val (.int j38_s0), .unset] [(.double hi), (.double xx)]))
      refine Dn.st (fun _ kk => XS.dcmpS X48.here hx rfl (hb hby d3_51) rfl (DS.cmpV dx dh _) (kk)) ?_
      show Dn p e below s _ _ _ (T48.setTop (mkF m 52 #[.val (.ref a), .val (.double xx), .second, .val (.int j38_s0), .unset] [(.int (c3 ix ih))]))
      by_cases hc52 : (c3 ix ih) < (0 : Int32)
      · refine Dn.st (fun _ kk => XS.ifNo X48.here hx rfl (hb hby d3_52) rfl ((if0 _ _).trans (tlt hc52).2.1) (XS.iconst X48.here hx rfl (hb hby d3_55) (XS.goto X48.here hx rfl (pc0 := 56) (pc' := 77) rfl (hb hby d3_56) (by decide) (by decide) (kk)))) ?_
        show Dn p e below s _ _ _ (T48.setTop (mkF m 77 #[.val (.ref a), .val (.double xx), .second, .val (.int j38_s0), .unset] [(.int (1 : Int32))]))
        exact J77 T48 X48 e48 (1 : Int32) (Or.inr (Or.inr (Or.inl ⟨hc43, hc52, rfl⟩)))
      · refine Dn.st (fun _ kk => XS.ifYes X48.here hx rfl (pc0 := 52) (pc' := 59) rfl (hb hby d3_52) rfl ((if0 _ _).trans (flt hc52).2.1) (by decide) (by decide) (XS.iconst X48.here hx rfl (hb hby d3_59) (XS.goto X48.here hx rfl (pc0 := 60) (pc' := 77) rfl (hb hby d3_60) (by decide) (by decide) (kk)))) ?_
        show Dn p e below s _ _ _ (T48.setTop (mkF m 77 #[.val (.ref a), .val (.double xx), .second, .val (.int j38_s0), .unset] [(.int (0 : Int32))]))
        exact J77 T48 X48 e48 (0 : Int32) (Or.inr (Or.inr (Or.inr ⟨hc43, hc52, rfl⟩)))
  show Dn p e below s _ _ _ (T1.setTop (mkF m 4 #[.val (.ref a), .val (.double xx), .second, .unset, .unset] [(.int b1)]))
  by_cases hc4 : b1 = (0 : Int32)
  · refine Dn.st (fun _ kk => XS.ifYes X1.here hx rfl (pc0 := 4) (pc' := 24) rfl (hb hby d3_4) rfl ((if0 _ _).trans (teq hc4).1) (by decide) (by decide) (XS.aloadN X1.here hx rfl (hb hby d3_24) rfl rfl (kk))) ?_
    show Dn p e below s _ _ _ (T1.setTop (mkF m 25 #[.val (.ref a), .val (.double xx), .second, .unset, .unset] [(.ref a)]))
    obtain ⟨T25, X25, e25, st25⟩ := getF X1 hx hZ hown (host := "") (Or.inl (hw _ (List.mem_of_getElem? (i := 9) rfl))) Via.refl e1 F0 (g := (mkF m 25 #[.val (.ref a), .val (.double xx), .second, .unset, .unset] [(.ref a)])) rfl rfl (hb hby d3_25)
    refine Dn.st st25 ?_
    show Dn p e below s _ _ _ (T25.setTop (mkF m 28 #[.val (.ref a), .val (.double xx), .second, .unset, .unset] [(.double lo)]))
    refine Dn.st (fun _ kk => XS.dloadN X25.here hx rfl (hb hby d3_28) rfl  (XS.dcmpS X25.here hx rfl (hb hby d3_29) rfl (DS.cmpV dl dx _) (kk))) ?_
    show Dn p e below s _ _ _ (T25.setTop (mkF m 30 #[.val (.ref a), .val (.double xx), .second, .unset, .unset] [(.int (c3 il ix))]))
    by_cases hc30 : (0 : Int32) < (c3 il ix)
    · refine Dn.st (fun _ kk => XS.ifYes X25.here hx rfl (pc0 := 30) (pc' := 37) rfl (hb hby d3_30) rfl ((if0 _ _).trans (tlt hc30).2.2.1) (by decide) (by decide) (XS.iconst X25.here hx rfl (hb hby d3_37) (kk))) ?_
      show Dn p e below s _ _ _ (T25.setTop (mkF m 38 #[.val (.ref a), .val (.double xx), .second, .unset, .unset] [(.int (0 : Int32))]))
      exact J38 T25 X25 e25 (0 : Int32) (Or.inl ⟨hc4, hc30, rfl⟩)
    · refine Dn.st (fun _ kk => XS.ifNo X25.here hx rfl (hb hby d3_30) rfl ((if0 _ _).trans (flt hc30).2.2.1) (XS.iconst X25.here hx rfl (hb hby d3_33) (XS.goto X25.here hx rfl (pc0 := 34) (pc' := 38) rfl (hb hby d3_34) (by decide) (by decide) (kk)))) ?_
      show Dn p e below s _ _ _ (T25.setTop (mkF m 38 #[.val (.ref a), .val (.double xx), .second, .unset, .unset] [(.int (1 : Int32))]))
      exact J38 T25 X25 e25 (1 : Int32) (Or.inr (Or.inl ⟨hc4, hc30, rfl⟩))
  · refine Dn.st (fun _ kk => XS.ifNo X1.here hx rfl (hb hby d3_4) rfl ((if0 _ _).trans (feq hc4).1) (XS.aloadN X1.here hx rfl (hb hby d3_7) rfl rfl (kk))) ?_
    show Dn p e below s _ _ _ (T1.setTop (mkF m 8 #[.val (.ref a), .val (.double xx), .second, .unset, .unset] [(.ref a)]))
    obtain ⟨T8, X8, e8, st8⟩ := getF X1 hx hZ hown (host := "") (Or.inl (hw _ (List.mem_of_getElem? (i := 9) rfl))) Via.refl e1 F0 (g := (mkF m 8 #[.val (.ref a), .val (.double xx), .second, .unset, .unset] [(.ref a)])) rfl rfl (hb hby d3_8)
    refine Dn.st st8 ?_
    show Dn p e below s _ _ _ (T8.setTop (mkF m 11 #[.val (.ref a), .val (.double xx), .second, .unset, .unset] [(.double lo)]))
    refine Dn.st (fun _ kk => XS.dloadN X8.here hx rfl (hb hby d3_11) rfl  (XS.dcmpS X8.here hx rfl (hb hby d3_12) rfl (DS.cmpV dl dx _) (kk))) ?_
    show Dn p e below s _ _ _ (T8.setTop (mkF m 13 #[.val (.ref a), .val (.double xx), .second, .unset, .unset] [(.int (c3 il ix))]))
    by_cases hc13 : (c3 il ix) < (0 : Int32)
    · refine Dn.st (fun _ kk => XS.ifNo X8.here hx rfl (hb hby d3_13) rfl ((if0 _ _).trans (tlt hc13).2.1) (XS.iconst X8.here hx rfl (hb hby d3_16) (XS.goto X8.here hx rfl (pc0 := 17) (pc' := 38) rfl (hb hby d3_17) (by decide) (by decide) (kk)))) ?_
      show Dn p e below s _ _ _ (T8.setTop (mkF m 38 #[.val (.ref a), .val (.double xx), .second, .unset, .unset] [(.int (1 : Int32))]))
      exact J38 T8 X8 e8 (1 : Int32) (Or.inr (Or.inr (Or.inl ⟨hc4, hc13, rfl⟩)))
    · refine Dn.st (fun _ kk => XS.ifYes X8.here hx rfl (pc0 := 13) (pc' := 20) rfl (hb hby d3_13) rfl ((if0 _ _).trans (flt hc13).2.1) (by decide) (by decide) (XS.iconst X8.here hx rfl (hb hby d3_20) (XS.goto X8.here hx rfl (pc0 := 21) (pc' := 38) rfl (hb hby d3_21) (by decide) (by decide) (kk)))) ?_
      show Dn p e below s _ _ _ (T8.setTop (mkF m 38 #[.val (.ref a), .val (.double xx), .second, .unset, .unset] [(.int (0 : Int32))]))
      exact J38 T8 X8 e8 (0 : Int32) (Or.inr (Or.inr (Or.inr ⟨hc4, hc13, rfl⟩)))

theorem pd0 : parseMethodDescriptor "(DZDZ)V" = some ⟨[.double, .boolean, .double, .boolean], none⟩ := by decide +kernel
theorem pd1 : parseMethodDescriptor "(D)Z" = some ⟨[.double], some .boolean⟩ := by decide +kernel
theorem pn1 : plainName "com/example/vias_for_diagrams/viasfordiagrams/StretchHoldsPinLaw" = true := by first | (simp [plainName, overriddenIn]; done) | decide +kernel
theorem ef0_rm0 (m : MethodId) (x0 : Int32) (x1 : Int32) (x2 : Int32) (x3 : Int32) : entryFrame m #[(.int x0), (.int x1), (.int x2), (.int x3)] maxLocals = mkF m 0 #[.val (.int x0), .val (.int x1), .val (.int x2), .val (.int x3), .unset, .unset, .unset, .unset, .unset, .unset, .unset, .unset, .unset] [] := by first | (simp [entryFrame, mkF, argsToLocals, Value.category, maxLocals]; done) | rfl
def Q0 (Z : State) (p0 : Int32) (p1 : Int32) (p2 : Int32) (p3 : Int32) (h0 : Heap) (n0 : Nat) (v : Option Value) (h : Heap) (L : List Loc) : Prop := v = some (.int 1) ∧ Fr n0 L
set_option maxRecDepth 65536 in
set_option maxHeartbeats 40000000 in
theorem rm0 (l : Launch) (Z : State) (a0 : Array Value) (hw : ∀ d ∈ tables_1, d.before a0 Z = true) (ws : List Jvm.Cond) (p0 : Int32) (p1 : Int32) (p2 : Int32) (p3 : Int32) (h0 : Heap) (n0 : Nat) (Z0 : n0 ≤ h0.size) :
    MetFree l x (head1 (Jvm.Cond.code x code maxLocals ret :: ws) room_1) (fun aa UU => aa = #[(.int p0), (.int p1), (.int p2), (.int p3)] ∧ Z.Warmed39 UU.vm ∧ UU.heap = h0) (fun _ _ _ _ _ => True) (fun _ UU oo UU' => ∃ vv LL, oo = .returned vv ∧ Q0 Z p0 p1 p2 p3 h0 n0 vv UU'.heap LL ∧ FrameEnd UU oo UU' LL 16 128) := by
  refine MetFree.of_bodySF (plainFor_of_name pn1) hisR ?_
  intro p e s m args below meth c s₁ Bd hml0 hP hK
  obtain ⟨rfl, hZ, hh⟩ := hP
  have hx := Bd.exec
  have hby := Bd.bytes
  have hlk : meth.locks = false := BodyLoose.notSynchronized Bd
  have hret := Bd.returns
  have hml : c.maxLocals = 13 := hml0
  have hown : s.vm.findClass "com/example/vias_for_diagrams/viasfordiagrams/StretchHoldsPinLaw" = some m.cls := findClass_of_methodNamed Bd.named
  have hnm := (name_of_methodNamed Bd.named Bd.method).1
  have X0 : Stand p l e room_1 s m #[(.int p0), (.int p1), (.int p2), (.int p3)] below meth c s₁ [] 0 0 := Stand.of_body Bd
  have e0 : s₁.heap = h0 := by rw [← hh, Bd.state]; rfl
  have N0 := Fr.nil n0
  have r_p0 := rng32 p0
  have r_p1 := rng32 p1
  have r_p2 := rng32 p2
  have r_p3 := rng32 p3
  show Dn p e below s (Q0 Z p0 p1 p2 p3 h0 n0) 16 128 (s₁.setTop (entryFrame m #[(.int p0), (.int p1), (.int p2), (.int p3)] maxLocals))
  refine Dn.st (fun _ kk => castTop (ef0_rm0 m p0 p1 p2 p3) kk) ?_
  show Dn p e below s _ _ _ (s₁.setTop (mkF m 0 #[.val (.int p0), .val (.int p1), .val (.int p2), .val (.int p3), .unset, .unset, .unset, .unset, .unset, .unset, .unset, .unset, .unset] []))
  refine Dn.st (fun _ kk => XS.iloadN X0.here hx rfl (hb hby at_0) rfl  (XS.iconst X0.here hx rfl (hb hby at_1) (XS.iand X0.here hx rfl (hb hby at_2) rfl (kk)))) ?_
  show Dn p e below s _ _ _ (s₁.setTop (mkF m 3 #[.val (.int p0), .val (.int p1), .val (.int p2), .val (.int p3), .unset, .unset, .unset, .unset, .unset, .unset, .unset, .unset, .unset] [(.int (p3 &&& (1 : Int32)))]))
  generalize hv2 : ((p3 &&& (1 : Int32)) : Int32) = v2
  have q2 : v2.toInt = p3.toInt % 2 := by have qq := c_mask p3 (1 : Int32) 1 (by decide) (by decide); rw [hv2] at qq; exact qq
  have r2 := rng32 v2
  show Dn p e below s _ _ _ (s₁.setTop (mkF m 3 #[.val (.int p0), .val (.int p1), .val (.int p2), .val (.int p3), .unset, .unset, .unset, .unset, .unset, .unset, .unset, .unset, .unset] [(.int v2)]))
  have J11 : ∀ (j11_s0 : Int32), ((v2 = (0 : Int32) ∧ j11_s0 = (0 : Int32)) ∨ (¬ (v2 = (0 : Int32)) ∧ j11_s0 = (1 : Int32))) → Dn p e below s (Q0 Z p0 p1 p2 p3 h0 n0) 16 128 (s₁.setTop (mkF m 11 #[.val (.int p0), .val (.int p1), .val (.int p2), .val (.int p3), .unset, .unset, .unset, .unset, .unset, .unset, .unset, .unset, .unset] [(.int j11_s0)])) := by
    intro j11_s0 hj11
    have hk11 : j11_s0 = 0 ∨ j11_s0 = 1 := by rcases hj11 with ⟨_, rfl⟩ | ⟨_, rfl⟩ <;> simp
    show Dn p e below s _ _ _ (s₁.setTop (mkF m 11 #[.val (.int p0), .val (.int p1), .val (.int p2), .val (.int p3), .unset, .unset, .unset, .unset, .unset, .unset, .unset, .unset, .unset] [(.int j11_s0)]))
    refine Dn.st (fun _ kk => XS.istore X0.here hx rfl (hb hby at_11) rfl (l' := #[.val (.int p0), .val (.int p1), .val (.int p2), .val (.int p3), .val (.int j11_s0), .unset, .unset, .unset, .unset, .unset, .unset, .unset, .unset]) rfl (XS.iloadN X0.here hx rfl (hb hby at_13) rfl  (XS.iconst X0.here hx rfl (hb hby at_14) (XS.iand X0.here hx rfl (hb hby at_15) rfl (kk))))) ?_
    show Dn p e below s _ _ _ (s₁.setTop (mkF m 16 #[.val (.int p0), .val (.int p1), .val (.int p2), .val (.int p3), .val (.int j11_s0), .unset, .unset, .unset, .unset, .unset, .unset, .unset, .unset] [(.int (p3 &&& (2 : Int32)))]))
    generalize hv15 : ((p3 &&& (2 : Int32)) : Int32) = v15
    have q15 : 0 ≤ v15.toInt ∧ v15.toInt ≤ 2 := by have qq := c_and p3 (2 : Int32) (by decide); rw [hv15] at qq; exact qq
    have r15 := rng32 v15
    show Dn p e below s _ _ _ (s₁.setTop (mkF m 16 #[.val (.int p0), .val (.int p1), .val (.int p2), .val (.int p3), .val (.int j11_s0), .unset, .unset, .unset, .unset, .unset, .unset, .unset, .unset] [(.int v15)]))
    have J24 : ∀ (j24_s0 : Int32), ((v15 = (0 : Int32) ∧ j24_s0 = (0 : Int32)) ∨ (¬ (v15 = (0 : Int32)) ∧ j24_s0 = (1 : Int32))) → Dn p e below s (Q0 Z p0 p1 p2 p3 h0 n0) 16 128 (s₁.setTop (mkF m 24 #[.val (.int p0), .val (.int p1), .val (.int p2), .val (.int p3), .val (.int j11_s0), .unset, .unset, .unset, .unset, .unset, .unset, .unset, .unset] [(.int j24_s0)])) := by
      intro j24_s0 hj24
      have hk24 : j24_s0 = 0 ∨ j24_s0 = 1 := by rcases hj24 with ⟨_, rfl⟩ | ⟨_, rfl⟩ <;> simp
      show Dn p e below s _ _ _ (s₁.setTop (mkF m 24 #[.val (.int p0), .val (.int p1), .val (.int p2), .val (.int p3), .val (.int j11_s0), .unset, .unset, .unset, .unset, .unset, .unset, .unset, .unset] [(.int j24_s0)]))
      refine Dn.st (fun _ kk => XS.istore X0.here hx rfl (hb hby at_24) rfl (l' := #[.val (.int p0), .val (.int p1), .val (.int p2), .val (.int p3), .val (.int j11_s0), .val (.int j24_s0), .unset, .unset, .unset, .unset, .unset, .unset, .unset]) rfl (XS.iloadN X0.here hx rfl (hb hby at_26) rfl  (XS.iconst X0.here hx rfl (hb hby at_27) (XS.iushr X0.here hx rfl (hb hby at_28) rfl (kk))))) ?_
      show Dn p e below s _ _ _ (s₁.setTop (mkF m 29 #[.val (.int p0), .val (.int p1), .val (.int p2), .val (.int p3), .val (.int j11_s0), .val (.int j24_s0), .unset, .unset, .unset, .unset, .unset, .unset, .unset] [(.int ((p3.toUInt32 >>> ((2 : Int32) &&& 31).toUInt32).toInt32))]))
      generalize hv28 : (((p3.toUInt32 >>> ((2 : Int32) &&& 31).toUInt32).toInt32) : Int32) = v28
      have q28 : v28.toInt = (p3.toInt % 4294967296) / 4 := by have qq := c_iushr p3 (2 : Int32) 2 (by decide) (by decide); rw [hv28] at qq; exact qq
      have r28 := rng32 v28
      show Dn p e below s _ _ _ (s₁.setTop (mkF m 29 #[.val (.int p0), .val (.int p1), .val (.int p2), .val (.int p3), .val (.int j11_s0), .val (.int j24_s0), .unset, .unset, .unset, .unset, .unset, .unset, .unset] [(.int v28)]))
      refine Dn.st (fun _ kk => XS.iconst X0.here hx rfl (hb hby at_29) (XS.iand X0.here hx rfl (hb hby at_30) rfl (kk))) ?_
      show Dn p e below s _ _ _ (s₁.setTop (mkF m 31 #[.val (.int p0), .val (.int p1), .val (.int p2), .val (.int p3), .val (.int j11_s0), .val (.int j24_s0), .unset, .unset, .unset, .unset, .unset, .unset, .unset] [(.int (v28 &&& (3 : Int32)))]))
      generalize hv30 : ((v28 &&& (3 : Int32)) : Int32) = v30
      have q30 : v30.toInt = v28.toInt % 4 := by have qq := c_mask v28 (3 : Int32) 2 (by decide) (by decide); rw [hv30] at qq; exact qq
      have r30 := rng32 v30
      show Dn p e below s _ _ _ (s₁.setTop (mkF m 31 #[.val (.int p0), .val (.int p1), .val (.int p2), .val (.int p3), .val (.int j11_s0), .val (.int j24_s0), .unset, .unset, .unset, .unset, .unset, .unset, .unset] [(.int v30)]))
      refine Dn.st (fun _ kk => XS.istore X0.here hx rfl (hb hby at_31) rfl (l' := #[.val (.int p0), .val (.int p1), .val (.int p2), .val (.int p3), .val (.int j11_s0), .val (.int j24_s0), .val (.int v30), .unset, .unset, .unset, .unset, .unset, .unset]) rfl (XS.iload X0.here hx rfl (hb hby at_33) rfl  (kk))) ?_
      show Dn p e below s _ _ _ (s₁.setTop (mkF m 35 #[.val (.int p0), .val (.int p1), .val (.int p2), .val (.int p3), .val (.int j11_s0), .val (.int j24_s0), .val (.int v30), .unset, .unset, .unset, .unset, .unset, .unset] [(.int v30)]))
      have J59 : ∀ (j59_7 : Int32), ((v30 = (0 : Int32) ∧ j59_7 = p0) ∨ (¬ (v30 = (0 : Int32)) ∧ v30 = (1 : Int32) ∧ j59_7 = p1) ∨ (¬ (v30 = (0 : Int32)) ∧ ¬ (v30 = (1 : Int32)) ∧ j59_7 = p2)) → Dn p e below s (Q0 Z p0 p1 p2 p3 h0 n0) 16 128 (s₁.setTop (mkF m 59 #[.val (.int p0), .val (.int p1), .val (.int p2), .val (.int p3), .val (.int j11_s0), .val (.int j24_s0), .val (.int v30), .val (.int j59_7), .unset, .unset, .unset, .unset, .unset] [])) := by
        intro j59_7 hj59
        show Dn p e below s _ _ _ (s₁.setTop (mkF m 59 #[.val (.int p0), .val (.int p1), .val (.int p2), .val (.int p3), .val (.int j11_s0), .val (.int j24_s0), .val (.int v30), .val (.int j59_7), .unset, .unset, .unset, .unset, .unset] []))
        obtain ⟨T59, h59, X59, e59, E59, A59, D59, -, st59⟩ := newO X0 hx hZ hown (hw _ (List.mem_of_getElem? (i := 0) rfl)) (hw _ (List.mem_of_getElem? (i := 1) rfl)) (hw _ (List.mem_of_getElem? (i := 2) rfl)) e0 (g := (mkF m 59 #[.val (.int p0), .val (.int p1), .val (.int p2), .val (.int p3), .val (.int j11_s0), .val (.int j24_s0), .val (.int v30), .val (.int j59_7), .unset, .unset, .unset, .unset, .unset] [])) rfl (hb hby at_59) (by decide) (by decide)
        obtain ⟨b59, g59⟩ : ∃ z, z = h0.size := ⟨_, rfl⟩
        rw [← g59] at A59 D59 st59
        have gn_b59 : n0 ≤ b59 := Nat.le_trans Z0 (Nat.le_of_eq g59.symm)
        have Z59 : n0 ≤ h59.size := Nat.le_trans Z0 E59.1
        have F_b59_low : Fld Z h59 b59 "com/example/vias_for_diagrams/viasfordiagrams/Stretch" "low" "D" (.double (0 : UInt64)) := D59 (Or.inr (hw _ (List.mem_of_getElem? (i := 10) rfl))) (ty := .double) (by decide)
        have F_b59_lowIsOpen : Fld Z h59 b59 "com/example/vias_for_diagrams/viasfordiagrams/Stretch" "lowIsOpen" "Z" (.int (0 : Int32)) := D59 (Or.inr (hw _ (List.mem_of_getElem? (i := 12) rfl))) (ty := .boolean) (by decide)
        have F_b59_high : Fld Z h59 b59 "com/example/vias_for_diagrams/viasfordiagrams/Stretch" "high" "D" (.double (0 : UInt64)) := D59 (Or.inr (hw _ (List.mem_of_getElem? (i := 14) rfl))) (ty := .double) (by decide)
        have F_b59_highIsOpen : Fld Z h59 b59 "com/example/vias_for_diagrams/viasfordiagrams/Stretch" "highIsOpen" "Z" (.int (0 : Int32)) := D59 (Or.inr (hw _ (List.mem_of_getElem? (i := 16) rfl))) (ty := .boolean) (by decide)
        refine Dn.st st59 ?_
        show Dn p e below s _ _ _ (T59.setTop (mkF m 62 #[.val (.int p0), .val (.int p1), .val (.int p2), .val (.int p3), .val (.int j11_s0), .val (.int j24_s0), .val (.int v30), .val (.int j59_7), .unset, .unset, .unset, .unset, .unset] [(.ref b59)]))
        refine Dn.st (fun _ kk => XS.dup X59.here hx rfl (hb hby at_62) rfl rfl (XS.iloadN X59.here hx rfl (hb hby at_63) rfl  (kk))) ?_
        show Dn p e below s _ _ _ (T59.setTop (mkF m 64 #[.val (.int p0), .val (.int p1), .val (.int p2), .val (.int p3), .val (.int j11_s0), .val (.int j24_s0), .val (.int v30), .val (.int j59_7), .unset, .unset, .unset, .unset, .unset] [(.int p0), (.ref b59), (.ref b59)]))
        have d64 := DS.i2d p0
        refine Dn.st (fun _ kk => XS.i2dS X59.here hx rfl (hb hby at_64) rfl rfl (kk)) ?_
        show Dn p e below s _ _ _ (T59.setTop (mkF m 65 #[.val (.int p0), .val (.int p1), .val (.int p2), .val (.int p3), .val (.int j11_s0), .val (.int j24_s0), .val (.int v30), .val (.int j59_7), .unset, .unset, .unset, .unset, .unset] [(.double (FP.i2d p0)), (.ref b59), (.ref b59)]))
        generalize hv64 : ((FP.i2d p0) : UInt64) = v64 at d64 ⊢
        show Dn p e below s _ _ _ (T59.setTop (mkF m 65 #[.val (.int p0), .val (.int p1), .val (.int p2), .val (.int p3), .val (.int j11_s0), .val (.int j24_s0), .val (.int v30), .val (.int j59_7), .unset, .unset, .unset, .unset, .unset] [(.double v64), (.ref b59), (.ref b59)]))
        refine Dn.st (fun _ kk => XS.iload X59.here hx rfl (hb hby at_65) rfl  (XS.iloadN X59.here hx rfl (hb hby at_67) rfl  (kk))) ?_
        show Dn p e below s _ _ _ (T59.setTop (mkF m 68 #[.val (.int p0), .val (.int p1), .val (.int p2), .val (.int p3), .val (.int j11_s0), .val (.int j24_s0), .val (.int v30), .val (.int j59_7), .unset, .unset, .unset, .unset, .unset] [(.int p1), (.int j11_s0), (.double v64), (.ref b59), (.ref b59)]))
        have d68 := DS.i2d p1
        refine Dn.st (fun _ kk => XS.i2dS X59.here hx rfl (hb hby at_68) rfl rfl (kk)) ?_
        show Dn p e below s _ _ _ (T59.setTop (mkF m 69 #[.val (.int p0), .val (.int p1), .val (.int p2), .val (.int p3), .val (.int j11_s0), .val (.int j24_s0), .val (.int v30), .val (.int j59_7), .unset, .unset, .unset, .unset, .unset] [(.double (FP.i2d p1)), (.int j11_s0), (.double v64), (.ref b59), (.ref b59)]))
        generalize hv68 : ((FP.i2d p1) : UInt64) = v68 at d68 ⊢
        show Dn p e below s _ _ _ (T59.setTop (mkF m 69 #[.val (.int p0), .val (.int p1), .val (.int p2), .val (.int p3), .val (.int j11_s0), .val (.int j24_s0), .val (.int v30), .val (.int j59_7), .unset, .unset, .unset, .unset, .unset] [(.double v68), (.int j11_s0), (.double v64), (.ref b59), (.ref b59)]))
        refine Dn.st (fun _ kk => XS.iload X59.here hx rfl (hb hby at_69) rfl  (kk)) ?_
        show Dn p e below s _ _ _ (T59.setTop (mkF m 71 #[.val (.int p0), .val (.int p1), .val (.int p2), .val (.int p3), .val (.int j11_s0), .val (.int j24_s0), .val (.int v30), .val (.int j59_7), .unset, .unset, .unset, .unset, .unset] [(.int j24_s0), (.double v68), (.int j11_s0), (.double v64), (.ref b59), (.ref b59)]))
        obtain ⟨_, _, ⟨T71, L71, k71, n71⟩, -, X71, ⟨Lc71, hQ71, l71, y71, z71⟩, st71⟩ := X59.specialBack hx (y := (⟨"com/example/vias_for_diagrams/viasfordiagrams/Stretch", "<init>", "(DZDZ)V"⟩ : MethodName)) rfl hown (mvT hZ (hw _ (List.mem_of_getElem? (i := 3) rfl))) (mvT hZ (hw _ (List.mem_of_getElem? (i := 4) rfl))) (mvT hZ (hw _ (List.mem_of_getElem? (i := 5) rfl))) (by decide) (backOf (W := 1) (rm1 l Z a0 hw [] b59 v64 j11_s0 v68 j24_s0  h59 n0 Z59 gn_b59 A59 F_b59_low F_b59_lowIsOpen F_b59_high F_b59_highIsOpen hk11 hk24) hZ (hw _ (List.mem_of_getElem? (i := 5) rfl)) (hw _ (List.mem_of_getElem? (i := 2) rfl)) (by decide) (by decide)) (g := (mkF m 71 #[.val (.int p0), .val (.int p1), .val (.int p2), .val (.int p3), .val (.int j11_s0), .val (.int j24_s0), .val (.int v30), .val (.int j59_7), .unset, .unset, .unset, .unset, .unset] [(.int j24_s0), (.double v68), (.int j11_s0), (.double v64), (.ref b59), (.ref b59)])) rfl (by rw [hml]; rfl) (Steps.refl _) (a := b59) (argsL := [(.double v64), (.int j11_s0), (.double v68), (.int j24_s0)]) (rest := [(.ref b59)]) (lenOf pd0 rfl) rfl (by show 2 * 0 + _ ≤ _; exact Nat.le_of_eq rfl) (hb hby at_71) (fun _ _ => ⟨rfl, e59, (by decide : 1 + 0 ≤ _), (by decide : 4 + 0 ≤ _)⟩)
        dsimp only [Pt.U, Pt.locs, Pt.cells, Pt.slots] at X71 l71 y71 z71 st71 hQ71
        subst l71 y71 z71
        obtain ⟨rfl, Nq71, K71, E_b59_71, F_b59_low_71, F_b59_lowIsOpen_71, F_b59_high_71, F_b59_highIsOpen_71⟩ := hQ71
        have N71 := Fr.app N0 Nq71
        refine Dn.tr st71 ?_
        have Z71 : n0 ≤ T71.heap.size := Nat.le_trans Z59 K71.1
        show Dn p e below s _ _ _ (T71.setTop (mkF m 74 #[.val (.int p0), .val (.int p1), .val (.int p2), .val (.int p3), .val (.int j11_s0), .val (.int j24_s0), .val (.int v30), .val (.int j59_7), .unset, .unset, .unset, .unset, .unset] [(.ref b59)]))
        refine Dn.st (fun _ kk => XS.astore X71.here hx rfl (hb hby at_74) rfl rfl (l' := #[.val (.int p0), .val (.int p1), .val (.int p2), .val (.int p3), .val (.int j11_s0), .val (.int j24_s0), .val (.int v30), .val (.int j59_7), .val (.ref b59), .unset, .unset, .unset, .unset]) rfl (XS.aload X71.here hx rfl (hb hby at_76) rfl rfl (XS.iload X71.here hx rfl (hb hby at_78) rfl  (kk)))) ?_
        show Dn p e below s _ _ _ (T71.setTop (mkF m 80 #[.val (.int p0), .val (.int p1), .val (.int p2), .val (.int p3), .val (.int j11_s0), .val (.int j24_s0), .val (.int v30), .val (.int j59_7), .val (.ref b59), .unset, .unset, .unset, .unset] [(.int j59_7), (.ref b59)]))
        have d80 := DS.i2d j59_7
        refine Dn.st (fun _ kk => XS.i2dS X71.here hx rfl (hb hby at_80) rfl rfl (kk)) ?_
        show Dn p e below s _ _ _ (T71.setTop (mkF m 81 #[.val (.int p0), .val (.int p1), .val (.int p2), .val (.int p3), .val (.int j11_s0), .val (.int j24_s0), .val (.int v30), .val (.int j59_7), .val (.ref b59), .unset, .unset, .unset, .unset] [(.double (FP.i2d j59_7)), (.ref b59)]))
        generalize hv80 : ((FP.i2d j59_7) : UInt64) = v80 at d80 ⊢
        show Dn p e below s _ _ _ (T71.setTop (mkF m 81 #[.val (.int p0), .val (.int p1), .val (.int p2), .val (.int p3), .val (.int j11_s0), .val (.int j24_s0), .val (.int v30), .val (.int j59_7), .val (.ref b59), .unset, .unset, .unset, .unset] [(.double v80), (.ref b59)]))
        obtain ⟨cq81, kq81, q81a, q81b, q81c⟩ := isOf hZ rfl E_b59_71
        obtain ⟨_, _, ⟨T81, L81, k81, n81⟩, -, X81, ⟨Lc81, hQ81, l81, y81, z81⟩, st81⟩ := X71.virtualBack hx (y := (⟨"com/example/vias_for_diagrams/viasfordiagrams/Stretch", "holds", "(D)Z"⟩ : MethodName)) (z := (⟨"com/example/vias_for_diagrams/viasfordiagrams/Stretch", "holds", "(D)Z"⟩ : MethodName)) hown (mvT hZ (hw _ (List.mem_of_getElem? (i := 17) rfl))) (mvT hZ (hw _ (List.mem_of_getElem? (i := 18) rfl))) (notFace_of_selects (args := #[]) (mvT hZ (hw _ (List.mem_of_getElem? (i := 20) rfl)))) (mvT hZ (hw _ (List.mem_of_getElem? (i := 20) rfl))) (mvT hZ (hw _ (List.mem_of_getElem? (i := 19) rfl))) (by decide) (backOf (W := 0) (rm3 l Z a0 hw [] b59 v80 v64 v68 j11_s0 j24_s0 p0.toInt p1.toInt j59_7.toInt T71.heap n0 Z71 F_b59_low_71 F_b59_lowIsOpen_71 F_b59_high_71 F_b59_highIsOpen_71 d64 d68 d80) hZ (hw _ (List.mem_of_getElem? (i := 21) rfl)) (hw _ (List.mem_of_getElem? (i := 2) rfl)) (by decide) (by decide)) q81a q81c (g := (mkF m 81 #[.val (.int p0), .val (.int p1), .val (.int p2), .val (.int p3), .val (.int j11_s0), .val (.int j24_s0), .val (.int v30), .val (.int j59_7), .val (.ref b59), .unset, .unset, .unset, .unset] [(.double v80), (.ref b59)])) rfl (by rw [hml]; rfl) (Steps.refl _) (argsL := [(.double v80)]) (rest := []) (lenOf pd1 rfl) rfl (by show 2 * 0 + _ ≤ _; exact Nat.le_of_eq rfl) (hb hby at_81) (fun _ _ => ⟨rfl, rfl, (by decide : 1 + 0 ≤ _), (by decide : 4 + 0 ≤ _)⟩)
        dsimp only [Pt.U, Pt.locs, Pt.cells, Pt.slots] at X81 l81 y81 z81 st81 hQ81
        subst l81 y81 z81
        obtain ⟨z81, rfl, hz81, Nq81, hh81⟩ := hQ81
        have N81 := Fr.app N71 Nq81
        refine Dn.tr st81 ?_
        show Dn p e below s _ _ _ (T81.setTop (mkF m 84 #[.val (.int p0), .val (.int p1), .val (.int p2), .val (.int p3), .val (.int j11_s0), .val (.int j24_s0), .val (.int v30), .val (.int j59_7), .val (.ref b59), .unset, .unset, .unset, .unset] [(.int z81)]))
        refine Dn.st (fun _ kk => XS.istore X81.here hx rfl (hb hby at_84) rfl (l' := #[.val (.int p0), .val (.int p1), .val (.int p2), .val (.int p3), .val (.int j11_s0), .val (.int j24_s0), .val (.int v30), .val (.int j59_7), .val (.ref b59), .val (.int z81), .unset, .unset, .unset]) rfl (XS.iload X81.here hx rfl (hb hby at_86) rfl  (XS.iloadN X81.here hx rfl (hb hby at_88) rfl  (kk)))) ?_
        show Dn p e below s _ _ _ (T81.setTop (mkF m 89 #[.val (.int p0), .val (.int p1), .val (.int p2), .val (.int p3), .val (.int j11_s0), .val (.int j24_s0), .val (.int v30), .val (.int j59_7), .val (.ref b59), .val (.int z81), .unset, .unset, .unset] [(.int p0), (.int j59_7)]))
        have J108 : ∀ (j108_s0 : Int32), ((p0 < j59_7 ∧ j108_s0 = (1 : Int32)) ∨ (¬ (p0 < j59_7) ∧ j59_7 = p0 ∧ j11_s0 = (0 : Int32) ∧ j108_s0 = (1 : Int32)) ∨ (¬ (p0 < j59_7) ∧ j59_7 = p0 ∧ ¬ (j11_s0 = (0 : Int32)) ∧ j108_s0 = (0 : Int32)) ∨ (¬ (p0 < j59_7) ∧ ¬ (j59_7 = p0) ∧ j108_s0 = (0 : Int32))) → Dn p e below s (Q0 Z p0 p1 p2 p3 h0 n0) 16 128 (T81.setTop (mkF m 108 #[.val (.int p0), .val (.int p1), .val (.int p2), .val (.int p3), .val (.int j11_s0), .val (.int j24_s0), .val (.int v30), .val (.int j59_7), .val (.ref b59), .val (.int z81), .unset, .unset, .unset] [(.int j108_s0)])) := by
          intro j108_s0 hj108
          show Dn p e below s _ _ _ (T81.setTop (mkF m 108 #[.val (.int p0), .val (.int p1), .val (.int p2), .val (.int p3), .val (.int j11_s0), .val (.int j24_s0), .val (.int v30), .val (.int j59_7), .val (.ref b59), .val (.int z81), .unset, .unset, .unset] [(.int j108_s0)]))
          refine Dn.st (fun _ kk => XS.istore X81.here hx rfl (hb hby at_108) rfl (l' := #[.val (.int p0), .val (.int p1), .val (.int p2), .val (.int p3), .val (.int j11_s0), .val (.int j24_s0), .val (.int v30), .val (.int j59_7), .val (.ref b59), .val (.int z81), .val (.int j108_s0), .unset, .unset]) rfl (XS.iload X81.here hx rfl (hb hby at_110) rfl  (XS.iloadN X81.here hx rfl (hb hby at_112) rfl  (kk)))) ?_
          show Dn p e below s _ _ _ (T81.setTop (mkF m 113 #[.val (.int p0), .val (.int p1), .val (.int p2), .val (.int p3), .val (.int j11_s0), .val (.int j24_s0), .val (.int v30), .val (.int j59_7), .val (.ref b59), .val (.int z81), .val (.int j108_s0), .unset, .unset] [(.int p1), (.int j59_7)]))
          have J132 : ∀ (j132_s0 : Int32), ((j59_7 < p1 ∧ j132_s0 = (1 : Int32)) ∨ (¬ (j59_7 < p1) ∧ j59_7 = p1 ∧ j24_s0 = (0 : Int32) ∧ j132_s0 = (1 : Int32)) ∨ (¬ (j59_7 < p1) ∧ j59_7 = p1 ∧ ¬ (j24_s0 = (0 : Int32)) ∧ j132_s0 = (0 : Int32)) ∨ (¬ (j59_7 < p1) ∧ ¬ (j59_7 = p1) ∧ j132_s0 = (0 : Int32))) → Dn p e below s (Q0 Z p0 p1 p2 p3 h0 n0) 16 128 (T81.setTop (mkF m 132 #[.val (.int p0), .val (.int p1), .val (.int p2), .val (.int p3), .val (.int j11_s0), .val (.int j24_s0), .val (.int v30), .val (.int j59_7), .val (.ref b59), .val (.int z81), .val (.int j108_s0), .unset, .unset] [(.int j132_s0)])) := by
            intro j132_s0 hj132
            show Dn p e below s _ _ _ (T81.setTop (mkF m 132 #[.val (.int p0), .val (.int p1), .val (.int p2), .val (.int p3), .val (.int j11_s0), .val (.int j24_s0), .val (.int v30), .val (.int j59_7), .val (.ref b59), .val (.int z81), .val (.int j108_s0), .unset, .unset] [(.int j132_s0)]))
            refine Dn.st (fun _ kk => XS.istore X81.here hx rfl (hb hby at_132) rfl (l' := #[.val (.int p0), .val (.int p1), .val (.int p2), .val (.int p3), .val (.int j11_s0), .val (.int j24_s0), .val (.int v30), .val (.int j59_7), .val (.ref b59), .val (.int z81), .val (.int j108_s0), .val (.int j132_s0), .unset]) rfl (XS.iload X81.here hx rfl (hb hby at_134) rfl  (kk))) ?_
            show Dn p e below s _ _ _ (T81.setTop (mkF m 136 #[.val (.int p0), .val (.int p1), .val (.int p2), .val (.int p3), .val (.int j11_s0), .val (.int j24_s0), .val (.int v30), .val (.int j59_7), .val (.ref b59), .val (.int z81), .val (.int j108_s0), .val (.int j132_s0), .unset] [(.int j108_s0)]))
            have J149 : ∀ (j149_s0 : Int32), ((j108_s0 = (0 : Int32) ∧ j149_s0 = (0 : Int32)) ∨ (¬ (j108_s0 = (0 : Int32)) ∧ j132_s0 = (0 : Int32) ∧ j149_s0 = (0 : Int32)) ∨ (¬ (j108_s0 = (0 : Int32)) ∧ ¬ (j132_s0 = (0 : Int32)) ∧ j149_s0 = (1 : Int32))) → Dn p e below s (Q0 Z p0 p1 p2 p3 h0 n0) 16 128 (T81.setTop (mkF m 149 #[.val (.int p0), .val (.int p1), .val (.int p2), .val (.int p3), .val (.int j11_s0), .val (.int j24_s0), .val (.int v30), .val (.int j59_7), .val (.ref b59), .val (.int z81), .val (.int j108_s0), .val (.int j132_s0), .unset] [(.int j149_s0)])) := by
              intro j149_s0 hj149
              show Dn p e below s _ _ _ (T81.setTop (mkF m 149 #[.val (.int p0), .val (.int p1), .val (.int p2), .val (.int p3), .val (.int j11_s0), .val (.int j24_s0), .val (.int v30), .val (.int j59_7), .val (.ref b59), .val (.int z81), .val (.int j108_s0), .val (.int j132_s0), .unset] [(.int j149_s0)]))
              refine Dn.st (fun _ kk => XS.istore X81.here hx rfl (hb hby at_149) rfl (l' := #[.val (.int p0), .val (.int p1), .val (.int p2), .val (.int p3), .val (.int j11_s0), .val (.int j24_s0), .val (.int v30), .val (.int j59_7), .val (.ref b59), .val (.int z81), .val (.int j108_s0), .val (.int j132_s0), .val (.int j149_s0)]) rfl (XS.iload X81.here hx rfl (hb hby at_151) rfl  (XS.iload X81.here hx rfl (hb hby at_153) rfl  (kk)))) ?_
              show Dn p e below s _ _ _ (T81.setTop (mkF m 155 #[.val (.int p0), .val (.int p1), .val (.int p2), .val (.int p3), .val (.int j11_s0), .val (.int j24_s0), .val (.int v30), .val (.int j59_7), .val (.ref b59), .val (.int z81), .val (.int j108_s0), .val (.int j132_s0), .val (.int j149_s0)] [(.int j149_s0), (.int z81)]))
              by_cases hc155 : z81 = j149_s0
              · have hi155 : z81.toInt = j149_s0.toInt := congrArg Int32.toInt hc155
                refine Dn.st (fun _ kk => XS.icmpNo X81.here hx rfl (hb hby at_155) rfl (teq hc155).2 (XS.iconst X81.here hx rfl (hb hby at_158) (XS.goto X81.here hx rfl (pc0 := 159) (pc' := 163) rfl (hb hby at_159) (by decide) (by decide) (kk)))) ?_
                show Dn p e below s _ _ _ (T81.setTop (mkF m 163 #[.val (.int p0), .val (.int p1), .val (.int p2), .val (.int p3), .val (.int j11_s0), .val (.int j24_s0), .val (.int v30), .val (.int j59_7), .val (.ref b59), .val (.int z81), .val (.int j108_s0), .val (.int j132_s0), .val (.int j149_s0)] [(.int (1 : Int32))]))
                exact Dn.ret X81 hlk hx hret rfl (Or.inl ⟨rfl, Or.inr (Or.inl rfl), _, rfl⟩) (hb hby at_163) (by rw [hh81]; exact ⟨rfl, N81⟩) (by decide) (by decide)
              · have hi155 : ¬ z81.toInt = j149_s0.toInt := fun qq => hc155 (Int32.toInt_inj.mp qq)
                refine Dn.st (fun _ kk => XS.icmpYes X81.here hx rfl (pc0 := 155) (pc' := 162) rfl (hb hby at_155) rfl (feq hc155).2 (by decide) (by decide) (kk)) ?_
                show Dn p e below s _ _ _ (T81.setTop (mkF m 162 #[.val (.int p0), .val (.int p1), .val (.int p2), .val (.int p3), .val (.int j11_s0), .val (.int j24_s0), .val (.int v30), .val (.int j59_7), .val (.ref b59), .val (.int z81), .val (.int j108_s0), .val (.int j132_s0), .val (.int j149_s0)] []))
                exfalso
                simp only [Int32.lt_iff_toInt_lt, ← Int32.toInt_inj] at *
                have e0 : (0 : Int32).toInt = 0 := rfl
                have e1 : (1 : Int32).toInt = 1 := rfl
                omega
            show Dn p e below s _ _ _ (T81.setTop (mkF m 136 #[.val (.int p0), .val (.int p1), .val (.int p2), .val (.int p3), .val (.int j11_s0), .val (.int j24_s0), .val (.int v30), .val (.int j59_7), .val (.ref b59), .val (.int z81), .val (.int j108_s0), .val (.int j132_s0), .unset] [(.int j108_s0)]))
            by_cases hc136 : j108_s0 = (0 : Int32)
            · refine Dn.st (fun _ kk => XS.ifYes X81.here hx rfl (pc0 := 136) (pc' := 148) rfl (hb hby at_136) rfl ((if0 _ _).trans (teq hc136).1) (by decide) (by decide) (XS.iconst X81.here hx rfl (hb hby at_148) (kk))) ?_
              show Dn p e below s _ _ _ (T81.setTop (mkF m 149 #[.val (.int p0), .val (.int p1), .val (.int p2), .val (.int p3), .val (.int j11_s0), .val (.int j24_s0), .val (.int v30), .val (.int j59_7), .val (.ref b59), .val (.int z81), .val (.int j108_s0), .val (.int j132_s0), .unset] [(.int (0 : Int32))]))
              exact J149 (0 : Int32) (Or.inl ⟨hc136, rfl⟩)
            · refine Dn.st (fun _ kk => XS.ifNo X81.here hx rfl (hb hby at_136) rfl ((if0 _ _).trans (feq hc136).1) (XS.iload X81.here hx rfl (hb hby at_139) rfl  (kk))) ?_
              show Dn p e below s _ _ _ (T81.setTop (mkF m 141 #[.val (.int p0), .val (.int p1), .val (.int p2), .val (.int p3), .val (.int j11_s0), .val (.int j24_s0), .val (.int v30), .val (.int j59_7), .val (.ref b59), .val (.int z81), .val (.int j108_s0), .val (.int j132_s0), .unset] [(.int j132_s0)]))
              by_cases hc141 : j132_s0 = (0 : Int32)
              · refine Dn.st (fun _ kk => XS.ifYes X81.here hx rfl (pc0 := 141) (pc' := 148) rfl (hb hby at_141) rfl ((if0 _ _).trans (teq hc141).1) (by decide) (by decide) (XS.iconst X81.here hx rfl (hb hby at_148) (kk))) ?_
                show Dn p e below s _ _ _ (T81.setTop (mkF m 149 #[.val (.int p0), .val (.int p1), .val (.int p2), .val (.int p3), .val (.int j11_s0), .val (.int j24_s0), .val (.int v30), .val (.int j59_7), .val (.ref b59), .val (.int z81), .val (.int j108_s0), .val (.int j132_s0), .unset] [(.int (0 : Int32))]))
                exact J149 (0 : Int32) (Or.inr (Or.inl ⟨hc136, hc141, rfl⟩))
              · refine Dn.st (fun _ kk => XS.ifNo X81.here hx rfl (hb hby at_141) rfl ((if0 _ _).trans (feq hc141).1) (XS.iconst X81.here hx rfl (hb hby at_144) (XS.goto X81.here hx rfl (pc0 := 145) (pc' := 149) rfl (hb hby at_145) (by decide) (by decide) (kk)))) ?_
                show Dn p e below s _ _ _ (T81.setTop (mkF m 149 #[.val (.int p0), .val (.int p1), .val (.int p2), .val (.int p3), .val (.int j11_s0), .val (.int j24_s0), .val (.int v30), .val (.int j59_7), .val (.ref b59), .val (.int z81), .val (.int j108_s0), .val (.int j132_s0), .unset] [(.int (1 : Int32))]))
                exact J149 (1 : Int32) (Or.inr (Or.inr ⟨hc136, hc141, rfl⟩))
          show Dn p e below s _ _ _ (T81.setTop (mkF m 113 #[.val (.int p0), .val (.int p1), .val (.int p2), .val (.int p3), .val (.int j11_s0), .val (.int j24_s0), .val (.int v30), .val (.int j59_7), .val (.ref b59), .val (.int z81), .val (.int j108_s0), .unset, .unset] [(.int p1), (.int j59_7)]))
          by_cases hc113 : j59_7 < p1
          · refine Dn.st (fun _ kk => XS.icmpYes X81.here hx rfl (pc0 := 113) (pc' := 127) rfl (hb hby at_113) rfl (tlt hc113).1 (by decide) (by decide) (XS.iconst X81.here hx rfl (hb hby at_127) (XS.goto X81.here hx rfl (pc0 := 128) (pc' := 132) rfl (hb hby at_128) (by decide) (by decide) (kk)))) ?_
            show Dn p e below s _ _ _ (T81.setTop (mkF m 132 #[.val (.int p0), .val (.int p1), .val (.int p2), .val (.int p3), .val (.int j11_s0), .val (.int j24_s0), .val (.int v30), .val (.int j59_7), .val (.ref b59), .val (.int z81), .val (.int j108_s0), .unset, .unset] [(.int (1 : Int32))]))
            exact J132 (1 : Int32) (Or.inl ⟨hc113, rfl⟩)
          · refine Dn.st (fun _ kk => XS.icmpNo X81.here hx rfl (hb hby at_113) rfl (flt hc113).1 (XS.iload X81.here hx rfl (hb hby at_116) rfl  (XS.iloadN X81.here hx rfl (hb hby at_118) rfl  (kk)))) ?_
            show Dn p e below s _ _ _ (T81.setTop (mkF m 119 #[.val (.int p0), .val (.int p1), .val (.int p2), .val (.int p3), .val (.int j11_s0), .val (.int j24_s0), .val (.int v30), .val (.int j59_7), .val (.ref b59), .val (.int z81), .val (.int j108_s0), .unset, .unset] [(.int p1), (.int j59_7)]))
            by_cases hc119 : j59_7 = p1
            · refine Dn.st (fun _ kk => XS.icmpNo X81.here hx rfl (hb hby at_119) rfl (teq hc119).2 (XS.iload X81.here hx rfl (hb hby at_122) rfl  (kk))) ?_
              show Dn p e below s _ _ _ (T81.setTop (mkF m 124 #[.val (.int p0), .val (.int p1), .val (.int p2), .val (.int p3), .val (.int j11_s0), .val (.int j24_s0), .val (.int v30), .val (.int j59_7), .val (.ref b59), .val (.int z81), .val (.int j108_s0), .unset, .unset] [(.int j24_s0)]))
              by_cases hc124 : j24_s0 = (0 : Int32)
              · refine Dn.st (fun _ kk => XS.ifNo X81.here hx rfl (hb hby at_124) rfl ((if0 _ _).trans (teq hc124).2) (XS.iconst X81.here hx rfl (hb hby at_127) (XS.goto X81.here hx rfl (pc0 := 128) (pc' := 132) rfl (hb hby at_128) (by decide) (by decide) (kk)))) ?_
                show Dn p e below s _ _ _ (T81.setTop (mkF m 132 #[.val (.int p0), .val (.int p1), .val (.int p2), .val (.int p3), .val (.int j11_s0), .val (.int j24_s0), .val (.int v30), .val (.int j59_7), .val (.ref b59), .val (.int z81), .val (.int j108_s0), .unset, .unset] [(.int (1 : Int32))]))
                exact J132 (1 : Int32) (Or.inr (Or.inl ⟨hc113, hc119, hc124, rfl⟩))
              · refine Dn.st (fun _ kk => XS.ifYes X81.here hx rfl (pc0 := 124) (pc' := 131) rfl (hb hby at_124) rfl ((if0 _ _).trans (feq hc124).2) (by decide) (by decide) (XS.iconst X81.here hx rfl (hb hby at_131) (kk))) ?_
                show Dn p e below s _ _ _ (T81.setTop (mkF m 132 #[.val (.int p0), .val (.int p1), .val (.int p2), .val (.int p3), .val (.int j11_s0), .val (.int j24_s0), .val (.int v30), .val (.int j59_7), .val (.ref b59), .val (.int z81), .val (.int j108_s0), .unset, .unset] [(.int (0 : Int32))]))
                exact J132 (0 : Int32) (Or.inr (Or.inr (Or.inl ⟨hc113, hc119, hc124, rfl⟩)))
            · refine Dn.st (fun _ kk => XS.icmpYes X81.here hx rfl (pc0 := 119) (pc' := 131) rfl (hb hby at_119) rfl (feq hc119).2 (by decide) (by decide) (XS.iconst X81.here hx rfl (hb hby at_131) (kk))) ?_
              show Dn p e below s _ _ _ (T81.setTop (mkF m 132 #[.val (.int p0), .val (.int p1), .val (.int p2), .val (.int p3), .val (.int j11_s0), .val (.int j24_s0), .val (.int v30), .val (.int j59_7), .val (.ref b59), .val (.int z81), .val (.int j108_s0), .unset, .unset] [(.int (0 : Int32))]))
              exact J132 (0 : Int32) (Or.inr (Or.inr (Or.inr ⟨hc113, hc119, rfl⟩)))
        show Dn p e below s _ _ _ (T81.setTop (mkF m 89 #[.val (.int p0), .val (.int p1), .val (.int p2), .val (.int p3), .val (.int j11_s0), .val (.int j24_s0), .val (.int v30), .val (.int j59_7), .val (.ref b59), .val (.int z81), .unset, .unset, .unset] [(.int p0), (.int j59_7)]))
        by_cases hc89 : p0 < j59_7
        · refine Dn.st (fun _ kk => XS.icmpYes X81.here hx rfl (pc0 := 89) (pc' := 103) rfl (hb hby at_89) rfl (tlt hc89).2.2.1 (by decide) (by decide) (XS.iconst X81.here hx rfl (hb hby at_103) (XS.goto X81.here hx rfl (pc0 := 104) (pc' := 108) rfl (hb hby at_104) (by decide) (by decide) (kk)))) ?_
          show Dn p e below s _ _ _ (T81.setTop (mkF m 108 #[.val (.int p0), .val (.int p1), .val (.int p2), .val (.int p3), .val (.int j11_s0), .val (.int j24_s0), .val (.int v30), .val (.int j59_7), .val (.ref b59), .val (.int z81), .unset, .unset, .unset] [(.int (1 : Int32))]))
          exact J108 (1 : Int32) (Or.inl ⟨hc89, rfl⟩)
        · refine Dn.st (fun _ kk => XS.icmpNo X81.here hx rfl (hb hby at_89) rfl (flt hc89).2.2.1 (XS.iload X81.here hx rfl (hb hby at_92) rfl  (XS.iloadN X81.here hx rfl (hb hby at_94) rfl  (kk)))) ?_
          show Dn p e below s _ _ _ (T81.setTop (mkF m 95 #[.val (.int p0), .val (.int p1), .val (.int p2), .val (.int p3), .val (.int j11_s0), .val (.int j24_s0), .val (.int v30), .val (.int j59_7), .val (.ref b59), .val (.int z81), .unset, .unset, .unset] [(.int p0), (.int j59_7)]))
          by_cases hc95 : j59_7 = p0
          · refine Dn.st (fun _ kk => XS.icmpNo X81.here hx rfl (hb hby at_95) rfl (teq hc95).2 (XS.iload X81.here hx rfl (hb hby at_98) rfl  (kk))) ?_
            show Dn p e below s _ _ _ (T81.setTop (mkF m 100 #[.val (.int p0), .val (.int p1), .val (.int p2), .val (.int p3), .val (.int j11_s0), .val (.int j24_s0), .val (.int v30), .val (.int j59_7), .val (.ref b59), .val (.int z81), .unset, .unset, .unset] [(.int j11_s0)]))
            by_cases hc100 : j11_s0 = (0 : Int32)
            · refine Dn.st (fun _ kk => XS.ifNo X81.here hx rfl (hb hby at_100) rfl ((if0 _ _).trans (teq hc100).2) (XS.iconst X81.here hx rfl (hb hby at_103) (XS.goto X81.here hx rfl (pc0 := 104) (pc' := 108) rfl (hb hby at_104) (by decide) (by decide) (kk)))) ?_
              show Dn p e below s _ _ _ (T81.setTop (mkF m 108 #[.val (.int p0), .val (.int p1), .val (.int p2), .val (.int p3), .val (.int j11_s0), .val (.int j24_s0), .val (.int v30), .val (.int j59_7), .val (.ref b59), .val (.int z81), .unset, .unset, .unset] [(.int (1 : Int32))]))
              exact J108 (1 : Int32) (Or.inr (Or.inl ⟨hc89, hc95, hc100, rfl⟩))
            · refine Dn.st (fun _ kk => XS.ifYes X81.here hx rfl (pc0 := 100) (pc' := 107) rfl (hb hby at_100) rfl ((if0 _ _).trans (feq hc100).2) (by decide) (by decide) (XS.iconst X81.here hx rfl (hb hby at_107) (kk))) ?_
              show Dn p e below s _ _ _ (T81.setTop (mkF m 108 #[.val (.int p0), .val (.int p1), .val (.int p2), .val (.int p3), .val (.int j11_s0), .val (.int j24_s0), .val (.int v30), .val (.int j59_7), .val (.ref b59), .val (.int z81), .unset, .unset, .unset] [(.int (0 : Int32))]))
              exact J108 (0 : Int32) (Or.inr (Or.inr (Or.inl ⟨hc89, hc95, hc100, rfl⟩)))
          · refine Dn.st (fun _ kk => XS.icmpYes X81.here hx rfl (pc0 := 95) (pc' := 107) rfl (hb hby at_95) rfl (feq hc95).2 (by decide) (by decide) (XS.iconst X81.here hx rfl (hb hby at_107) (kk))) ?_
            show Dn p e below s _ _ _ (T81.setTop (mkF m 108 #[.val (.int p0), .val (.int p1), .val (.int p2), .val (.int p3), .val (.int j11_s0), .val (.int j24_s0), .val (.int v30), .val (.int j59_7), .val (.ref b59), .val (.int z81), .unset, .unset, .unset] [(.int (0 : Int32))]))
            exact J108 (0 : Int32) (Or.inr (Or.inr (Or.inr ⟨hc89, hc95, rfl⟩)))
      show Dn p e below s _ _ _ (s₁.setTop (mkF m 35 #[.val (.int p0), .val (.int p1), .val (.int p2), .val (.int p3), .val (.int j11_s0), .val (.int j24_s0), .val (.int v30), .unset, .unset, .unset, .unset, .unset, .unset] [(.int v30)]))
      by_cases hc35 : v30 = (0 : Int32)
      · refine Dn.st (fun _ kk => XS.ifNo X0.here hx rfl (hb hby at_35) rfl ((if0 _ _).trans (teq hc35).2) (XS.iloadN X0.here hx rfl (hb hby at_38) rfl  (XS.istore X0.here hx rfl (hb hby at_39) rfl (l' := #[.val (.int p0), .val (.int p1), .val (.int p2), .val (.int p3), .val (.int j11_s0), .val (.int j24_s0), .val (.int v30), .val (.int p0), .unset, .unset, .unset, .unset, .unset]) rfl (XS.goto X0.here hx rfl (pc0 := 41) (pc' := 59) rfl (hb hby at_41) (by decide) (by decide) (kk))))) ?_
        show Dn p e below s _ _ _ (s₁.setTop (mkF m 59 #[.val (.int p0), .val (.int p1), .val (.int p2), .val (.int p3), .val (.int j11_s0), .val (.int j24_s0), .val (.int v30), .val (.int p0), .unset, .unset, .unset, .unset, .unset] []))
        exact J59 p0 (Or.inl ⟨hc35, rfl⟩)
      · refine Dn.st (fun _ kk => XS.ifYes X0.here hx rfl (pc0 := 35) (pc' := 44) rfl (hb hby at_35) rfl ((if0 _ _).trans (feq hc35).2) (by decide) (by decide) (XS.iload X0.here hx rfl (hb hby at_44) rfl  (XS.iconst X0.here hx rfl (hb hby at_46) (kk)))) ?_
        show Dn p e below s _ _ _ (s₁.setTop (mkF m 47 #[.val (.int p0), .val (.int p1), .val (.int p2), .val (.int p3), .val (.int j11_s0), .val (.int j24_s0), .val (.int v30), .unset, .unset, .unset, .unset, .unset, .unset] [(.int (1 : Int32)), (.int v30)]))
        by_cases hc47 : v30 = (1 : Int32)
        · refine Dn.st (fun _ kk => XS.icmpNo X0.here hx rfl (hb hby at_47) rfl (teq hc47).2 (XS.iloadN X0.here hx rfl (hb hby at_50) rfl  (XS.istore X0.here hx rfl (hb hby at_51) rfl (l' := #[.val (.int p0), .val (.int p1), .val (.int p2), .val (.int p3), .val (.int j11_s0), .val (.int j24_s0), .val (.int v30), .val (.int p1), .unset, .unset, .unset, .unset, .unset]) rfl (XS.goto X0.here hx rfl (pc0 := 53) (pc' := 59) rfl (hb hby at_53) (by decide) (by decide) (kk))))) ?_
          show Dn p e below s _ _ _ (s₁.setTop (mkF m 59 #[.val (.int p0), .val (.int p1), .val (.int p2), .val (.int p3), .val (.int j11_s0), .val (.int j24_s0), .val (.int v30), .val (.int p1), .unset, .unset, .unset, .unset, .unset] []))
          exact J59 p1 (Or.inr (Or.inl ⟨hc35, hc47, rfl⟩))
        · refine Dn.st (fun _ kk => XS.icmpYes X0.here hx rfl (pc0 := 47) (pc' := 56) rfl (hb hby at_47) rfl (feq hc47).2 (by decide) (by decide) (XS.iloadN X0.here hx rfl (hb hby at_56) rfl  (XS.istore X0.here hx rfl (hb hby at_57) rfl (l' := #[.val (.int p0), .val (.int p1), .val (.int p2), .val (.int p3), .val (.int j11_s0), .val (.int j24_s0), .val (.int v30), .val (.int p2), .unset, .unset, .unset, .unset, .unset]) rfl (kk)))) ?_
          show Dn p e below s _ _ _ (s₁.setTop (mkF m 59 #[.val (.int p0), .val (.int p1), .val (.int p2), .val (.int p3), .val (.int j11_s0), .val (.int j24_s0), .val (.int v30), .val (.int p2), .unset, .unset, .unset, .unset, .unset] []))
          exact J59 p2 (Or.inr (Or.inr ⟨hc35, hc47, rfl⟩))
    show Dn p e below s _ _ _ (s₁.setTop (mkF m 16 #[.val (.int p0), .val (.int p1), .val (.int p2), .val (.int p3), .val (.int j11_s0), .unset, .unset, .unset, .unset, .unset, .unset, .unset, .unset] [(.int v15)]))
    by_cases hc16 : v15 = (0 : Int32)
    · refine Dn.st (fun _ kk => XS.ifYes X0.here hx rfl (pc0 := 16) (pc' := 23) rfl (hb hby at_16) rfl ((if0 _ _).trans (teq hc16).1) (by decide) (by decide) (XS.iconst X0.here hx rfl (hb hby at_23) (kk))) ?_
      show Dn p e below s _ _ _ (s₁.setTop (mkF m 24 #[.val (.int p0), .val (.int p1), .val (.int p2), .val (.int p3), .val (.int j11_s0), .unset, .unset, .unset, .unset, .unset, .unset, .unset, .unset] [(.int (0 : Int32))]))
      exact J24 (0 : Int32) (Or.inl ⟨hc16, rfl⟩)
    · refine Dn.st (fun _ kk => XS.ifNo X0.here hx rfl (hb hby at_16) rfl ((if0 _ _).trans (feq hc16).1) (XS.iconst X0.here hx rfl (hb hby at_19) (XS.goto X0.here hx rfl (pc0 := 20) (pc' := 24) rfl (hb hby at_20) (by decide) (by decide) (kk)))) ?_
      show Dn p e below s _ _ _ (s₁.setTop (mkF m 24 #[.val (.int p0), .val (.int p1), .val (.int p2), .val (.int p3), .val (.int j11_s0), .unset, .unset, .unset, .unset, .unset, .unset, .unset, .unset] [(.int (1 : Int32))]))
      exact J24 (1 : Int32) (Or.inr ⟨hc16, rfl⟩)
  show Dn p e below s _ _ _ (s₁.setTop (mkF m 3 #[.val (.int p0), .val (.int p1), .val (.int p2), .val (.int p3), .unset, .unset, .unset, .unset, .unset, .unset, .unset, .unset, .unset] [(.int v2)]))
  by_cases hc3 : v2 = (0 : Int32)
  · refine Dn.st (fun _ kk => XS.ifYes X0.here hx rfl (pc0 := 3) (pc' := 10) rfl (hb hby at_3) rfl ((if0 _ _).trans (teq hc3).1) (by decide) (by decide) (XS.iconst X0.here hx rfl (hb hby at_10) (kk))) ?_
    show Dn p e below s _ _ _ (s₁.setTop (mkF m 11 #[.val (.int p0), .val (.int p1), .val (.int p2), .val (.int p3), .unset, .unset, .unset, .unset, .unset, .unset, .unset, .unset, .unset] [(.int (0 : Int32))]))
    exact J11 (0 : Int32) (Or.inl ⟨hc3, rfl⟩)
  · refine Dn.st (fun _ kk => XS.ifNo X0.here hx rfl (hb hby at_3) rfl ((if0 _ _).trans (feq hc3).1) (XS.iconst X0.here hx rfl (hb hby at_6) (XS.goto X0.here hx rfl (pc0 := 7) (pc' := 11) rfl (hb hby at_7) (by decide) (by decide) (kk)))) ?_
    show Dn p e below s _ _ _ (s₁.setTop (mkF m 11 #[.val (.int p0), .val (.int p1), .val (.int p2), .val (.int p3), .unset, .unset, .unset, .unset, .unset, .unset, .unset, .unset, .unset] [(.int (1 : Int32))]))
    exact J11 (1 : Int32) (Or.inr ⟨hc3, rfl⟩)

set_option maxRecDepth 65536 in
set_option maxHeartbeats 40000000 in
theorem comes_1 {Post : Tables → Env → Array Value → State → Outcome → State → Prop} (hpost : ∀ tb e args s v u, (limb_1_1.after args s (.returned v) u = true ∧ limb_1_2.after args s (.returned v) u = true ∧ True) → FrameEnd s (.returned v) u (Jvm.fieldLocs frame_1_writes args s ++ Jvm.arrayLocs frame_1_arrays args s ++ Jvm.staticLocs frame_1_statics s) 16 128 → Post tb e args s (.returned v) u) :
    ArmFor flags0 classFile x code maxLocals ret World_1 tables_1 room_1 Calls_1 rest_1 Pre_1 Post := by
  intro l hfl _ _ p e ha hc hk s m args below hf hA hF happ hP
  obtain ⟨hcalls, hrest, hpre⟩ := hP
  obtain ⟨-, -, -, hnamed, -, -, -, hat⟩ := (Spec.applies_iff hf).mp happ
  obtain ⟨hg, hn⟩ := and_e (Cond.before_iff.mp (show (Jvm.Cond.and given_1 narrow_1).before args s = true from hpre))
  obtain ⟨g1a, g1b⟩ := and_e hg
  obtain ⟨g2a, g2b⟩ := and_e g1b
  obtain ⟨g3a, g3b⟩ := and_e g2b
  obtain ⟨g4a, g4b⟩ := and_e g3b
  obtain ⟨w0, w1, w2, w3, rfl⟩ : ∃ w0 w1 w2 w3 : Value, args = #[w0, w1, w2, w3] := by
    have hs : args.size = 4 := by simpa [Cond.value, given_1] using g1a
    obtain ⟨L⟩ := args
    match L, hs with
    | [w0, w1, w2, w3], _ => exact ⟨w0, w1, w2, w3, rfl⟩
  have hw := fun d (hd : d ∈ tables_1) => atoms_spec (ws := Jvm.Cond.code x code maxLocals ret :: tables_1) hat d (List.mem_cons_of_mem _ hd)
  have hfit : Fit s := fun {y c} hc i hi => by
    obtain ⟨ha, rfl⟩ := Array.getElem?_eq_some_iff.mp hc
    have q := List.all_eq_true.mp ((Array.all_eq_true_iff_forall_mem.mp hF) _ (Array.getElem_mem ha)) i (List.mem_range.mpr hi)
    simpa [Array.getElem?_eq_getElem hi] using q
  obtain ⟨i0, ei0⟩ := is_v g2a
  obtain rfl : w0 = (.int i0) := Option.some.inj ei0
  obtain ⟨i1, ei1⟩ := is_v g3a
  obtain rfl : w1 = (.int i1) := Option.some.inj ei1
  obtain ⟨i2, ei2⟩ := is_v g4a
  obtain rfl : w2 = (.int i2) := Option.some.inj ei2
  obtain ⟨i3, ei3⟩ := is_v g4b
  obtain rfl : w3 = (.int i3) := Option.some.inj ei3
  obtain ⟨n, o, h1, h2, h3, _, L, rfl, ⟨rfl, N⟩, hq⟩ := rm0 l s _ hw tables_1 i0 i1 i2 i3  s.heap s.heap.size (Nat.le_refl _)  p e ha hc hk s m _ below hf ((Spec.applies_iff_loose hf).mp happ).1 ⟨rfl, State.Warmed39.refl s, rfl⟩ trivial
  refine ⟨n, _, h1, h2, h3, hpost _ _ _ _ _ _ ⟨Cond.after_iff.mpr rfl, Cond.after_iff.mpr (eq_i res_at (Term.int_eval (1)) rfl), trivial⟩ ⟨hq.1, hq.2.1, (hq.2.2.sift fun y hy => Or.inr (N y hy)).mono (by decide) (by decide)⟩⟩
theorem main_1_1 : Claimed_1_1 := comes_1 fun _ _ _ _ _ _ h hF => ⟨h.1, hF⟩
theorem main_1_2 : Claimed_1_2 := comes_1 fun _ _ _ _ _ _ h hF => ⟨h.2.1, hF⟩
end Jvm.Pilot.@@N@@
namespace Jvm.Pilot.@@N@@
open Jvm Jvm.ClassFile Sem Op Lib Jvm.Free Jvm.Stand Jvm.Pilot.@@N@@.Jvm.D
/-! MADE BY PROGRAM (witnessworld.py) out of the Statement's table words and the real class files: 9 classes; the members and pool entries that the words name. The judged class is class 1, her method 1. -/
namespace start1
open Jvm.ClassFile
def u (s : String) : CpInfo := .utf8 (stringToUtf16 s)
/-- a pool by its gaps: so many unusable entries, then the entry; so many at the end -/
def gap : Nat → List CpInfo → List CpInfo
  | 0, r => r
  | n + 1, r => .unusable :: gap n r
def poolList (es : List (Nat × CpInfo)) (last : Nat) : List CpInfo := es.foldr (fun e r => gap e.1 (e.2 :: r)) (gap last [])
def pool (es : List (Nat × CpInfo)) (last : Nat) : Array CpInfo := ⟨poolList es last⟩
def fileOf (pool : Array CpInfo) (this : Nat) (attrs : Array Attribute := #[]) (ms : Array MethodInfo := #[]) (fl : Nat := 33) (sup : Nat := 0) (ifs : Array Nat := #[]) (fds : Array FieldInfo := #[]) : ClassFile where
  minorVersion := 0
  majorVersion := 65
  constantPool := pool
  accessFlags := fl
  thisClass := this
  superClass := sup
  interfaces := ifs
  fields := fds
  methods := ms
  attributes := attrs
def plain (name : String) (sup : Option ClassId) : Class where
  name := name
  kind := .ordinary
  loader := none
  accessFlags := 33
  super := sup
  interfaces := #[]
  cf := none
  fields := #[]
  methods := #[]
  instanceTypes := #[]
  staticTypes := #[]
  resolved := #[]
  callSites := []
  init := .initialized
  statics := none
  mirror := none

def pool0 : Array CpInfo := pool [(5, u "<init>"), (0, u "()V"), (1, .class_ 10), (1, u "java/lang/Object")] 113

def k0c0 : Code := { maxStack := 0, maxLocals := 1, code := object_method_1_code, exceptionTable := #[], attributes := #[] }
def k0m0 : Method := { name := "<init>", desc := "()V", sig := { parameters := [], returnType := none }, accessFlags := 1, code := some k0c0 }
/-- java/lang/Object -/
def k0 : Class := { plain "java/lang/Object" none with
  accessFlags := 33
  interfaces := #[]
  cf := some (fileOf pool0 8 #[] #[{ accessFlags := 1, nameIndex := 5, descriptorIndex := 6, attributes := #[] }] 33 0 #[] #[])
  fields := #[]
  methods := #[k0m0]
  instanceTypes := #[]
  staticTypes := #[]
  resolved := Array.replicate 124 none
  statics := none }

def pool1 : Array CpInfo := pool [(2, .class_ 4), (1, u "java/lang/Object"), (0, u "<init>"), (0, u "()V"), (0, .class_ 8), (0, u "com/example/vias_for_diagrams/viasfordiagrams/Stretch"), (0, .methodref 7 10), (0, .nameAndType 5 11), (0, u "(DZDZ)V"), (0, .methodref 7 13), (0, .nameAndType 14 15), (0, u "holds"), (0, u "(D)Z"), (0, .class_ 17), (0, u "com/example/vias_for_diagrams/viasfordiagrams/StretchHoldsPinLaw"), (2, u "law"), (0, u "(IIII)Z")] 3

def k1m0 : Method := { name := "<init>", desc := "()V", sig := { parameters := [], returnType := none }, accessFlags := 2, code := none }
def k1c1 : Code := { maxStack := 8, maxLocals := 13, code := code, exceptionTable := #[], attributes := #[] }
def k1m1 : Method := { name := "law", desc := "(IIII)Z", sig := { parameters := [.int, .int, .int, .int], returnType := some .boolean }, accessFlags := 9, code := some k1c1 }
/-- com/example/vias_for_diagrams/viasfordiagrams/StretchHoldsPinLaw -/
def k1 : Class := { plain "com/example/vias_for_diagrams/viasfordiagrams/StretchHoldsPinLaw" (some 0) with
  accessFlags := 49
  interfaces := #[]
  cf := some (fileOf pool1 16 #[] #[{ accessFlags := 2, nameIndex := 5, descriptorIndex := 6, attributes := #[] }, { accessFlags := 9, nameIndex := 20, descriptorIndex := 21, attributes := #[] }] 49 2 #[] #[])
  fields := #[]
  methods := #[k1m0, k1m1]
  instanceTypes := #[]
  staticTypes := #[]
  resolved := Array.replicate 25 none
  statics := none }

def pool2 : Array CpInfo := pool [(1, .methodref 2 3), (0, .class_ 4), (0, .nameAndType 5 6), (0, u "java/lang/Object"), (0, u "<init>"), (0, u "()V"), (0, .fieldref 8 9), (0, .class_ 10), (0, .nameAndType 11 12), (0, u "com/example/vias_for_diagrams/viasfordiagrams/Stretch"), (0, u "low"), (0, u "D"), (0, .fieldref 8 14), (0, .nameAndType 15 16), (0, u "lowIsOpen"), (0, u "Z"), (0, .fieldref 8 18), (0, .nameAndType 19 12), (0, u "high"), (0, .fieldref 8 21), (0, .nameAndType 22 16), (0, u "highIsOpen"), (11, u "(DZDZ)V"), (39, u "holds"), (0, u "(D)Z")] 2

def k2c0 : Code := { maxStack := 3, maxLocals := 7, code := prog_47_method_1_code, exceptionTable := #[], attributes := #[] }
def k2m0 : Method := { name := "<init>", desc := "(DZDZ)V", sig := { parameters := [.double, .boolean, .double, .boolean], returnType := none }, accessFlags := 0, code := some k2c0 }
def k2c1 : Code := { maxStack := 4, maxLocals := 5, code := prog_47_method_13_code, exceptionTable := #[], attributes := #[] }
def k2m1 : Method := { name := "holds", desc := "(D)Z", sig := { parameters := [.double], returnType := some .boolean }, accessFlags := 0, code := some k2c1 }
/-- com/example/vias_for_diagrams/viasfordiagrams/Stretch -/
def k2 : Class := { plain "com/example/vias_for_diagrams/viasfordiagrams/Stretch" (some 0) with
  accessFlags := 32
  interfaces := #[]
  cf := some (fileOf pool2 8 #[] #[{ accessFlags := 0, nameIndex := 5, descriptorIndex := 34, attributes := #[] }, { accessFlags := 0, nameIndex := 74, descriptorIndex := 75, attributes := #[] }] 32 2 #[] #[{ accessFlags := 18, nameIndex := 11, descriptorIndex := 12, attributes := #[] }, { accessFlags := 18, nameIndex := 15, descriptorIndex := 16, attributes := #[] }, { accessFlags := 18, nameIndex := 19, descriptorIndex := 12, attributes := #[] }, { accessFlags := 18, nameIndex := 22, descriptorIndex := 16, attributes := #[] }])
  fields := #[{ name := "low", type := .double, accessFlags := 18, slot := 0, constantValue := 0 }, { name := "lowIsOpen", type := .boolean, accessFlags := 18, slot := 1, constantValue := 0 }, { name := "high", type := .double, accessFlags := 18, slot := 2, constantValue := 0 }, { name := "highIsOpen", type := .boolean, accessFlags := 18, slot := 3, constantValue := 0 }]
  methods := #[k2m0, k2m1]
  instanceTypes := #[.double, .boolean, .double, .boolean]
  staticTypes := #[]
  resolved := Array.replicate 78 none
  statics := none }

def pool3 : Array CpInfo := pool [(1, u "java/lang/Cloneable"), (0, .class_ 1), (0, u "java/lang/Object"), (0, .class_ 3)] 3

/-- java/lang/Cloneable -/
def k3 : Class := { plain "java/lang/Cloneable" (some 0) with
  accessFlags := 1537
  interfaces := #[]
  cf := some (fileOf pool3 2 #[] #[] 1537 4 #[] #[])
  fields := #[]
  methods := #[]
  instanceTypes := #[]
  staticTypes := #[]
  resolved := Array.replicate 8 none
  statics := none }

def pool4 : Array CpInfo := pool [(1, u "java/io/Serializable"), (0, .class_ 1), (0, u "java/lang/Object"), (0, .class_ 3)] 3

/-- java/io/Serializable -/
def k4 : Class := { plain "java/io/Serializable" (some 0) with
  accessFlags := 1537
  interfaces := #[]
  cf := some (fileOf pool4 2 #[] #[] 1537 4 #[] #[])
  fields := #[]
  methods := #[]
  instanceTypes := #[]
  staticTypes := #[]
  resolved := Array.replicate 8 none
  statics := none }

/-- the primitive byte -/
def k5 : Class := { plain "byte" none with kind := .primitive 'B', accessFlags := 0x411 }
/-- [B -/
def k6 : Class := { plain "[B" (some 0) with kind := .array 5 .byte, interfaces := #[3, 4], accessFlags := 1041 }

/-- the primitive int -/
def k7 : Class := { plain "int" none with kind := .primitive 'I', accessFlags := 0x411 }
/-- [I -/
def k8 : Class := { plain "[I" (some 0) with kind := .array 7 .int, interfaces := #[3, 4], accessFlags := 1041 }

def heap : Heap := #[]
def classes : Array Class := #[k0, k1, k2, k3, k4, k5, k6, k7, k8]
def interned : List (Array UInt16 × Addr) := []
def slotsUsed : Nat := 0
def theMethod : MethodId := ⟨1, 1⟩
def args0 : Array Value := #[.int 5, .int 7, .int 6, .int 8]
def aboutOver (below : List Frame) : State where
  vm := { classes := classes, interned := interned.toArray }
  heap := heap
  slotsUsed := slotsUsed
  threads := #[{ frames := .invoking theMethod args0 :: below }]
def below0 : List Frame := [.native { method := ⟨0, 0⟩, args := #[] }]
def about1 : State := aboutOver below0
def p0 : Program := .bare "" "" ""
def e0 : Env := launch0.env 0 0 0
theorem w_frames : about1.frames = Frame.invoking theMethod args0 :: below0 := rfl
set_option maxRecDepth 65536 in
theorem w_args : argsFit about1.vm theMethod args0 = true := by decide +kernel
set_option maxRecDepth 65536 in
theorem w_heap : heapFits about1 = true := by decide +kernel
set_option maxRecDepth 65536 in
theorem w_runnable : about1.curStatus? = some .runnable := by decide +kernel
set_option maxRecDepth 65536 in
theorem w_alone : about1.alone = true := by decide +kernel
set_option maxRecDepth 65536 in
theorem w_named : about1.methodNamed? x = some theMethod := by decide +kernel
set_option maxRecDepth 65536 in
theorem w_hears : about1.hears theMethod below0 = true := by decide +kernel
set_option maxRecDepth 65536 in
theorem w_ripe : about1.ripe theMethod args0 below0 = true := by decide +kernel
theorem w_running : about1.status = .running := rfl
set_option maxRecDepth 65536 in
theorem w_room : about1.hasRoom e0.platform room_1 = true :=
  launch0.hasRoom_least _ room_1 (by decide +kernel) (by decide +kernel) (by decide +kernel) (by decide +kernel) (by decide +kernel) (by decide +kernel)
theorem allAtoms_all (ts : List Jvm.Cond) (a : Array Jvm.Value) (st : Jvm.State) : (allAtoms ts).before a st = ts.all (fun c => c.before a st) := by
  induction ts with
  | nil => rfl
  | cons c t ih =>
    show (Jvm.Cond.and c (allAtoms t)).before a st = _
    rw [Jvm.Cond.before_and, ih, List.all_cons]
def words1 : List Jvm.Cond := Jvm.Cond.code x code maxLocals ret :: tables_1
/-- a 'code' word, met by the world's own term for the bytes: nothing is compared byte by byte -/
theorem code_word {y : MethodName} {bytes : ByteArray} {mx : Nat} {rt : Option FieldType} {a : Array Value} {s : State} {m : MethodId} {meth : Method} {c : Code} (h1 : s.methodNamed? y = some m) (h2 : s.vm.method? m = some meth) (h3 : meth.code = some c) (h4 : c.code = bytes)
    (h5 : (c.maxLocals == mx && c.exceptionTable.isEmpty && decide (c.maxStack ≤ mostOperands) && decide (meth.sig.returnType = rt) && !meth.locks && decide (parseMethodDescriptor y.desc = some meth.sig)) = true) : (Jvm.Cond.code y bytes mx rt).before a s = true := by
  simp only [Bool.and_eq_true, beq_iff_eq, Bool.not_eq_true', decide_eq_true_eq] at h5
  obtain ⟨⟨⟨⟨⟨g1, g2⟩, g3⟩, g4⟩, g5⟩, g6⟩ := h5
  simp [Cond.before, Cond.holds, Cond.value, h1, h2, h3, h4, g1, g2, g3, g4, g5, g6]
def isCode : Jvm.Cond → Bool
  | .code _ _ _ _ => true
  | _ => false
theorem all_split {L : List Jvm.Cond} {P : Jvm.Cond → Bool} (h1 : L.all (fun c => isCode c || P c) = true) (h2 : ∀ c ∈ L.filter isCode, P c = true) : L.all P = true := by
  refine List.all_eq_true.mpr fun c hc => ?_
  have h := List.all_eq_true.mp h1 c hc
  rcases Bool.eq_false_or_eq_true (isCode c) with hi | hi
  · exact h2 c (List.mem_filter.mpr ⟨hc, hi⟩)
  · simpa [hi] using h
set_option maxRecDepth 65536 in
theorem w_c0 : (Jvm.Cond.code x code maxLocals ret).before args0 about1 = true := code_word (m := ⟨1, 1⟩) (meth := k1m1) (c := k1c1) (by decide +kernel) rfl rfl rfl (by decide +kernel)
set_option maxRecDepth 65536 in
theorem w_c1 : (Jvm.Cond.code ({ cls := "com/example/vias_for_diagrams/viasfordiagrams/Stretch", name := "<init>", desc := "(DZDZ)V" } : Jvm.MethodName) prog_47_method_1_code (7 : Nat) (Option.none : Option Jvm.ClassFile.FieldType)).before args0 about1 = true := code_word (m := ⟨2, 0⟩) (meth := k2m0) (c := k2c0) (by decide +kernel) rfl rfl rfl (by decide +kernel)
set_option maxRecDepth 65536 in
theorem w_c2 : (Jvm.Cond.code ({ cls := "java/lang/Object", name := "<init>", desc := "()V" } : Jvm.MethodName) object_method_1_code (1 : Nat) (Option.none : Option Jvm.ClassFile.FieldType)).before args0 about1 = true := code_word (m := ⟨0, 0⟩) (meth := k0m0) (c := k0c0) (by decide +kernel) rfl rfl rfl (by decide +kernel)
set_option maxRecDepth 65536 in
theorem w_c3 : (Jvm.Cond.code ({ cls := "com/example/vias_for_diagrams/viasfordiagrams/Stretch", name := "holds", desc := "(D)Z" } : Jvm.MethodName) prog_47_method_13_code (5 : Nat) (Option.some Jvm.ClassFile.FieldType.boolean)).before args0 about1 = true := code_word (m := ⟨2, 1⟩) (meth := k2m1) (c := k2c1) (by decide +kernel) rfl rfl rfl (by decide +kernel)
def codes1 : List Jvm.Cond := [Jvm.Cond.code x code maxLocals ret, Jvm.Cond.code ({ cls := "com/example/vias_for_diagrams/viasfordiagrams/Stretch", name := "<init>", desc := "(DZDZ)V" } : Jvm.MethodName) prog_47_method_1_code (7 : Nat) (Option.none : Option Jvm.ClassFile.FieldType), Jvm.Cond.code ({ cls := "java/lang/Object", name := "<init>", desc := "()V" } : Jvm.MethodName) object_method_1_code (1 : Nat) (Option.none : Option Jvm.ClassFile.FieldType), Jvm.Cond.code ({ cls := "com/example/vias_for_diagrams/viasfordiagrams/Stretch", name := "holds", desc := "(D)Z" } : Jvm.MethodName) prog_47_method_13_code (5 : Nat) (Option.some Jvm.ClassFile.FieldType.boolean)]
set_option maxRecDepth 65536 in
theorem codes_eq : words1.filter isCode = codes1 := rfl
theorem w_codes : ∀ c ∈ words1.filter isCode, c.before args0 about1 = true := by
  rw [codes_eq]
  intro c hc
  simp only [codes1, List.mem_cons, List.not_mem_nil, or_false] at hc
  rcases hc with rfl | rfl | rfl | rfl
  · exact w_c0
  · exact w_c1
  · exact w_c2
  · exact w_c3
set_option maxRecDepth 65536 in
theorem w_t1 : words1.all (fun c => isCode c || c.before args0 about1) = true := by decide +kernel
theorem w_tables : (allAtoms (Jvm.Cond.code x code maxLocals ret :: tables_1)).before args0 about1 = true := by
  rw [allAtoms_all]
  show words1.all (fun c => c.before args0 about1) = true
  refine all_split ?_ w_codes
  rw [w_t1]
set_option maxRecDepth 65536 in
theorem w_case : (Jvm.Cond.and given_1 narrow_1).before args0 about1 = true := by decide +kernel
theorem w_applies : (headSpec (Jvm.Cond.code x code maxLocals ret :: tables_1) room_1).applies x e0.platform about1 = true :=
  (Spec.applies_iff w_frames).mpr ⟨w_running, w_runnable, w_alone, w_named, w_hears, w_ripe, w_room, w_tables⟩
theorem atStart : AtStart classFile x code maxLocals ret World_1 tables_1 room_1 Calls_1 rest_1 Pre_1 launch0 p0 e0 about1 theMethod args0 below0 :=
  ⟨lists_1, trivial, launch0.admits_env _ _ _, launch0.least_env, fairChoices_fair.cas, fairChoices_fair.clock, w_frames, w_args, w_heap, w_applies, trivial, trivial, w_case⟩
end start1
theorem witness_1 : WitnessClaimed_1 := ⟨start1.p0, start1.e0, start1.about1, start1.theMethod, start1.args0, start1.below0, start1.atStart⟩
end Jvm.Pilot.@@N@@
