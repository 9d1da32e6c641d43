import JvmDerived
import JvmDerived.Pilot.@@N@@Statement
import JvmDerived.Pilot.@@N@@Code
set_option linter.unusedVariables false
set_option linter.unusedSimpArgs false
namespace Jvm.Pilot.@@N@@
open Jvm Jvm.ClassFile Sem Op Lib Jvm.Free Jvm.Stand Jvm.LawKit Jvm.RoadKit Bundle Jvm.Pilot.@@N@@.Jvm.D
section Own
variable {p : Program} {l : Launch} {e : Env} {R : Room} {s : State} {m : MethodId} {args : Array Value} {below : List Frame} {meth : Method} {c : Code} {T : State} {locs : List Loc} {cells slots : Nat}
/-- the run from A ends, returns what Q says, and has made and written no more than told -/
def Dn (p : Program) (e : Env) (below : List Frame) (s : State) (Q : Option Value → Heap → List Loc → Prop) (rc rs : Nat) (A : State) : Prop :=
  ∃ s₂ o, Steps p.tables e below A s₂ ∧ s₂.status = .running ∧ Ended s₂ below o ∧ ∃ v L, o = .returned v ∧ Q v s₂.heap L ∧ FrameEnd s o s₂ L rc rs
theorem Dn.st {Q : Option Value → Heap → List Loc → Prop} {rc rs : Nat} {A B : State} (h : ∀ t, Steps p.tables e below B t → Steps p.tables e below A t) (k : Dn p e below s Q rc rs B) : Dn p e below s Q rc rs A := by
  obtain ⟨s2, o, h1, h2⟩ := k; exact ⟨s2, o, h _ h1, h2⟩
theorem Dn.tr {Q : Option Value → Heap → List Loc → Prop} {rc rs : Nat} {A B : State} (h : Steps p.tables e below A B) (k : Dn p e below s Q rc rs B) : Dn p e below s Q rc rs A := by
  obtain ⟨s2, o, h1, h2⟩ := k; exact ⟨s2, o, h.trans h1, h2⟩
theorem Dn.ret (X : Stand p l e R s m args below meth c T locs cells slots) (hlk : meth.locks = false) (hx : p.tables.exec = Jvm.exec) {pc : Nat} {Ls : Array Slot} {w : Value} {t : FieldType} {i : Instr} {rest : List Value} (hret : meth.sig.returnType = some t) (hn : narrow t w = w)
    (hi : (i = .ireturn ∧ (t = .int ∨ t = .boolean ∨ t = .byte ∨ t = .char ∨ t = .short) ∧ ∃ z, w = .int z) ∨ (i = .lreturn ∧ t = .long ∧ ∃ z, w = .long z) ∨ (i = .dreturn ∧ t = .double ∧ ∃ z, w = .double z) ∨ (i = .freturn ∧ t = .float ∧ ∃ z, w = .float z) ∨ (i = .areturn ∧ t.isReference = true ∧ w.isRef = true))
    (hd : decode c.code pc = .ok (i, 1)) {Q : Option Value → Heap → List Loc → Prop} {rc rs : Nat} (hq : Q (some w) T.heap locs) (hc : cells ≤ rc) (hs : slots ≤ rs) : Dn p e below s Q rc rs (T.setTop (mkF m pc Ls (w :: rest))) := by
  obtain ⟨fs, hr, hrun, hended, hW, hsame⟩ := X.leave (v := some w) (fun h => by rw [hret] at h; cases h) hlk
  exact ⟨_, _, retOut X hx hret hn hi hd hr, hrun, hended, _, _, rfl, hq, ⟨_, rfl⟩, hW, hsame.mono hc hs⟩
theorem Dn.ret0 (X : Stand p l e R s m args below meth c T locs cells slots) (hlk : meth.locks = false) (hx : p.tables.exec = Jvm.exec) {pc : Nat} {Ls : Array Slot} (hret : meth.sig.returnType = none)
    (hd : decode c.code pc = .ok (.return_, 1)) {Q : Option Value → Heap → List Loc → Prop} {rc rs : Nat} (hq : Q none T.heap locs) (hc : cells ≤ rc) (hs : slots ≤ rs) : Dn p e below s Q rc rs (T.setTop (mkF m pc Ls [])) := by
  obtain ⟨fs, hr, hrun, hended, hW, hsame⟩ := X.leave (v := none) (fun _ => rfl) hlk
  exact ⟨_, _, X.returnOut hx hret hd hr, hrun, hended, _, _, rfl, hq, ⟨_, rfl⟩, hW, hsame.mono hc hs⟩
theorem own_iincW {tb : Tables} [Ours tb] {target : State} {g : JFrame} (h : At T m c below) (hx : tb.exec = Jvm.exec) (hg : g.method = m) {k : Nat} {cst : Int} {x : Int32} {l' : Array Slot} (hd : decode c.code g.pc = .ok (.iinc k cst, 6)) (hl : g.locals[k]? = some (.val (.int x))) (hl' : storeLocals g.locals k (.int (x + Int32.ofInt cst)) = some l')
    (hr : Steps tb e below (T.setTop { g with pc := g.pc + 6, locals := l' }) target) : Steps tb e below (T.setTop g) target := by
  subst hg
  jvm_step h [h.top, hx, hd, hl, hl']
  exact hr
theorem own_dremS {tb : Tables} [Ours tb] {target : State} {g : JFrame} (h : At T m c below) (hx : tb.exec = Jvm.exec) (hg : g.method = m) {x y v : UInt64} {rest : List Value} (hd : decode c.code g.pc = .ok (.drem, 1)) (hs : g.stack = .double y :: .double x :: rest) (hn : Jvm.Free.Fl.NoNaN64 (FP.drem x y)) (hv : FP.drem x y = v)
    (hr : Steps tb e below (T.setTop { g with pc := g.pc + 1, stack := .double v :: rest }) target) : Steps tb e below (T.setTop g) target := by
  subst hg; subst hv
  obtain ⟨gm, gp, gl, gs, gk, ge, gr⟩ := g
  simp only at hs hd
  subst hs
  jvm_step h [h.top, hx, hd, Op.drem.at_number h.top hn]
  exact hr
end Own
section Dyad
open Jvm.FP Jvm.FP.Core Jvm.Free.Fl
/-- the datum with its exponent moved by k -/
def sft (k : Nat) : Datum → Datum
  | .nan => .nan
  | .inf s => .inf s
  | .fin s c q => .fin s c (q + (k : Int))
/-- x is the number i / 2^k -/
def DS (k : Nat) (i : Int) (x : UInt64) : Prop := Whole i (sft k (val64 x))
theorem sft_zero (d : Datum) : sft 0 d = d := by
  cases d with
  | nan => rfl
  | inf s => rfl
  | fin s c q => show Datum.fin s c (q + ((0 : Nat) : Int)) = _; rw [Int.natCast_zero, Int.add_zero]
theorem sft_sum (k : Nat) (x y : Datum) : exactSum (sft k x) (sft k y) = sft k (exactSum x y) := by
  cases x with
  | nan => rfl
  | inf s =>
    cases y with
    | nan => rfl
    | inf t => show (if s = t then Datum.inf s else .nan) = sft k (if s = t then Datum.inf s else .nan); split <;> rfl
    | fin t d r => rfl
  | fin s c q =>
    cases y with
    | nan => rfl
    | inf t => rfl
    | fin t d r =>
      have h : min (q + (k : Int)) (r + k) = min q r + k := by omega
      have h1 : q + (k : Int) - (min q r + k) = q - min q r := by omega
      have h2 : r + (k : Int) - (min q r + k) = r - min q r := by omega
      have hu : sumUnits s c (q + k) t d (r + k) (min (q + k) (r + k)) = sumUnits s c q t d r (min q r) := by
        show signed s (c * 2 ^ (q + (k : Int) - min (q + k) (r + k)).toNat) + signed t (d * 2 ^ (r + (k : Int) - min (q + k) (r + k)).toNat) = signed s (c * 2 ^ (q - min q r).toNat) + signed t (d * 2 ^ (r - min q r).toNat)
        rw [h, h1, h2]
      show Datum.fin (sumSign s t (sumUnits s c (q + k) t d (r + k) (min (q + k) (r + k)))) (sumUnits s c (q + k) t d (r + k) (min (q + k) (r + k))).natAbs (min (q + k) (r + k)) = Datum.fin (sumSign s t (sumUnits s c q t d r (min q r))) (sumUnits s c q t d r (min q r)).natAbs (min q r + k)
      rw [hu, h]
theorem sft_negate (k : Nat) (x : Datum) : negate (sft k x) = sft k (negate x) := by cases x <;> rfl
theorem sft_product (k m : Nat) (x y : Datum) : exactProduct (sft k x) (sft m y) = sft (k + m) (exactProduct x y) := by
  cases x with
  | nan => rfl
  | inf s =>
    cases y with
    | nan => rfl
    | inf t => rfl
    | fin t d r => show (if d = 0 then Datum.nan else .inf (s != t)) = sft (k + m) (if d = 0 then Datum.nan else .inf (s != t)); split <;> rfl
  | fin s c q =>
    cases y with
    | nan => rfl
    | inf t => show (if c = 0 then Datum.nan else .inf (s != t)) = sft (k + m) (if c = 0 then Datum.nan else .inf (s != t)); split <;> rfl
    | fin t d r =>
      show Datum.fin (s != t) (c * d) (q + k + (r + m)) = Datum.fin (s != t) (c * d) (q + r + ((k + m : Nat) : Int))
      congr 1; omega
theorem sft_order (k : Nat) (x y : Datum) : order (sft k x) (sft k y) = order x y := by
  cases x with
  | nan => rfl
  | inf s => cases y <;> rfl
  | fin s c q =>
    cases y with
    | nan => rfl
    | inf t => rfl
    | fin t d r =>
      have h : min (q + (k : Int)) (r + k) = min q r + k := by omega
      have h1 : q + (k : Int) - (min q r + k) = q - min q r := by omega
      have h2 : r + (k : Int) - (min q r + k) = r - min q r := by omega
      show some (compare (signed s (c * 2 ^ (q + (k : Int) - min (q + k) (r + k)).toNat)) (signed t (d * 2 ^ (r + (k : Int) - min (q + k) (r + k)).toNat))) = some (compare (signed s (c * 2 ^ (q - min q r).toNat)) (signed t (d * 2 ^ (r - min q r).toNat)))
      rw [h, h1, h2]
theorem b64_qmin : b64.qmin = -1074 := by decide +kernel
theorem b64_qmax : b64.qmax = 971 := by decide +kernel
theorem b64_tails : b64.tails = 4503599627370496 := by decide +kernel
theorem fits64 (s : Bool) (c : Nat) (q : Int) : Core.fits b64 (.fin s c q) ↔ c < 2 ^ 53 ∧ -1074 ≤ q ∧ q ≤ 971 ∧ (q = -1074 ∨ 4503599627370496 ≤ c) := by
  show (c < 2 ^ 53 ∧ b64.qmin ≤ q ∧ q ≤ b64.qmax ∧ (q = b64.qmin ∨ b64.tails ≤ c)) ↔ _
  rw [b64_qmin, b64_qmax, b64_tails]
/-- n / 2^k is a double, for n up to 2^53 and k up to 1022 -/
theorem natFitS (s : Bool) {n k : Nat} (hk : k ≤ 1022) (hn : n ≤ 2 ^ 53) :
    ∃ c q, Core.fits b64 (.fin s c q) ∧ n * 2 ^ (-(k : Int) - q).toNat = c * 1 * 2 ^ (q - -(k : Int)).toNat := by
  by_cases h0 : n = 0
  · subst h0
    exact ⟨0, b64.qmin, zero_fits good_b64 s, by simp⟩
  · obtain ⟨c, q, hf, hv⟩ := natFit good_b64 wide_b64 s (show n ≤ 2 ^ b64.p from hn)
    rw [fits64] at hf
    have hq : -52 ≤ q := by
      refine Int.not_lt.mp fun hlt => ?_
      have e1 : (q - 0).toNat = 0 := by omega
      have e2 : (0 - q).toNat = 53 + ((0 - q).toNat - 53) := by omega
      rw [e1, e2, Nat.pow_add] at hv
      have p := Nat.two_pow_pos ((0 - q).toNat - 53)
      have : 2 ^ 53 * 1 ≤ 2 ^ 53 * 2 ^ ((0 - q).toNat - 53) := Nat.mul_le_mul_left _ p
      have : 1 * (2 ^ 53 * 2 ^ ((0 - q).toNat - 53)) ≤ n * (2 ^ 53 * 2 ^ ((0 - q).toNat - 53)) := Nat.mul_le_mul_right _ (by omega)
      omega
    refine ⟨c, q - k, (fits64 _ _ _).mpr ⟨hf.1, by omega, by omega, Or.inr (hf.2.2.2.resolve_left (by omega))⟩, ?_⟩
    rw [show -(k : Int) - (q - k) = 0 - q by omega, show q - k - -(k : Int) = q - 0 by omega]
    exact hv
theorem whole_signed {i : Int} {s : Bool} {c : Nat} {q : Int} (h : Whole i (.fin s c q)) : signed s i.natAbs = i := by
  by_cases hi : i = 0
  · rw [hi]; exact signed_zero s
  · rw [whole_sign h hi]; unfold signed
    by_cases h : i < 0 <;> simp [h] <;> omega
theorem ds_round {k : Nat} {i : Int} {d : Datum} (hk : k ≤ 1022) (hi : i.natAbs ≤ 2 ^ 53) (h : Whole i (sft k d)) : Whole i (sft k (Core.round b64 d)) := by
  cases d with
  | nan => exact h.elim
  | inf s => exact h.elim
  | fin s c q =>
    have hs := whole_signed h
    have h1 := whole_natAbs h
    obtain ⟨c', q', hfit, hv⟩ := natFitS s hk hi
    have e1 : Core.round b64 (.fin s c q) = roundRatio b64 s i.natAbs 1 (-(k : Int)) := by
      refine roundRatio_congr (by decide) (by decide) ?_
      rw [show q - -(k : Int) = q + k by omega, show -(k : Int) - q = -(q + k) by omega]
      simpa using h1
    rw [e1, roundRatio_exact good_b64 (by decide) hfit hv]
    show signed s (c' * 2 ^ (q' + (k : Int)).toNat) = i * _
    rw [show -(k : Int) - q' = -(q' + k) by omega, show q' - -(k : Int) = q' + k by omega, Nat.mul_one] at hv
    rw [← hv, signed_mul, hs]
theorem DS.nn {k : Nat} {i : Int} {x : UInt64} (h : DS k i x) : NoNaN64 x := val64_no.mpr fun q => by
  unfold DS at h; rw [q] at h; exact h.elim
theorem DS.fin {k : Nat} {i : Int} {x : UInt64} (h : DS k i x) : ∃ s c q, val64 x = .fin s c q ∧ Whole i (.fin s c (q + (k : Int))) := by
  unfold DS at h
  cases e : val64 x with
  | nan => rw [e] at h; exact h.elim
  | inf s => rw [e] at h; exact h.elim
  | fin s c q => rw [e] at h; exact ⟨s, c, q, rfl, h⟩
theorem DS.lit {k : Nat} {i : Int} {x : UInt64} {s : Bool} {c : Nat} {q : Int} (hv : val64 x = .fin s c q) (he : signed s (c * 2 ^ (q + (k : Int)).toNat) = i * ((2 ^ (-(q + (k : Int))).toNat : Nat) : Int)) : DS k i x := by
  unfold DS; rw [hv]; exact he
theorem DS.i2d (v : Int32) : DS 0 v.toInt (FP.i2d v) := by unfold DS; rw [sft_zero]; exact i2d_int v
theorem DS.l2d {v : Int64} (h : v.toInt.natAbs ≤ 2 ^ 53) : DS 0 v.toInt (FP.l2d v) := by unfold DS; rw [sft_zero]; exact l2d_int h
theorem DS.dint {i : Int} {x : UInt64} (h : DS 0 i x) : DInt i x := by unfold DS at h; rw [sft_zero] at h; exact h
theorem DS.zero (k : Nat) : DS k 0 0 := DS.lit (s := false) (c := 0) (q := -1074) (by decide +kernel) (by rw [Nat.zero_mul, Int.zero_mul]; rfl)
theorem DS.add {k : Nat} {i j : Int} {x y : UInt64} (hx : DS k i x) (hy : DS k j y) (hb : (i + j).natAbs ≤ 2 ^ 53) (hk : k ≤ 1022) : DS k (i + j) (FP.dadd x y) := by
  show Whole _ (sft k (val64 (Core.dadd x y)))
  rw [val64_dadd]; refine ds_round hk hb ?_; rw [← sft_sum]; exact whole_sum hx hy
theorem DS.sub {k : Nat} {i j : Int} {x y : UInt64} (hx : DS k i x) (hy : DS k j y) (hb : (i - j).natAbs ≤ 2 ^ 53) (hk : k ≤ 1022) : DS k (i - j) (FP.dsub x y) := by
  show Whole _ (sft k (val64 (Core.dsub x y)))
  rw [val64_dsub]; refine ds_round hk hb ?_; rw [← sft_sum, ← sft_negate, Int.sub_eq_add_neg]; exact whole_sum hx (whole_negate hy)
theorem DS.mul {k m : Nat} {i j : Int} {x y : UInt64} (hx : DS k i x) (hy : DS m j y) (hb : (i * j).natAbs ≤ 2 ^ 53) (hk : k + m ≤ 1022) : DS (k + m) (i * j) (FP.dmul x y) := by
  show Whole _ (sft (k + m) (val64 (Core.dmul x y)))
  rw [val64_dmul]; refine ds_round hk hb ?_; rw [← sft_product]; exact whole_product hx hy
theorem DS.cmp {k : Nat} {i j : Int} {x y : UInt64} (hx : DS k i x) (hy : DS k j y) : FP.dcmp x y = some (compare i j) := by
  show order (val64 x) (val64 y) = _
  rw [← sft_order k]; exact order_whole hx hy
/-- what dcmp pushes -/
def c3 (i j : Int) : Int32 := if i < j then -1 else if i = j then 0 else 1
theorem c3_lt (i j : Int) : c3 i j < 0 ↔ i < j := by unfold c3; split <;> (try split) <;> simp_all <;> first | decide | omega
theorem c3_gt (i j : Int) : 0 < c3 i j ↔ j < i := by unfold c3; split <;> (try split) <;> simp_all <;> first | decide | omega
theorem c3_eq (i j : Int) : c3 i j = 0 ↔ i = j := by unfold c3; split <;> (try split) <;> simp_all <;> first | decide | omega
theorem cmpV_int (i j : Int) (o : CmpOp) : cmpValue (some (compare i j)) o = c3 i j := by
  unfold c3
  by_cases h1 : i < j
  · have : compare i j = .lt := by simp [compare, compareOfLessAndEq, h1]
    rw [this, if_pos h1]; cases o <;> rfl
  · by_cases h2 : i = j
    · have : compare i j = .eq := by simp [compare, compareOfLessAndEq, h2]
      rw [this, if_neg h1, if_pos h2]; cases o <;> rfl
    · have : compare i j = .gt := by simp [compare, compareOfLessAndEq, h1, h2]
      rw [this, if_neg h1, if_neg h2]; cases o <;> rfl
theorem DS.cmpV {k : Nat} {i j : Int} {x y : UInt64} (hx : DS k i x) (hy : DS k j y) (o : CmpOp) : cmpValue (FP.dcmp x y) o = c3 i j := by rw [hx.cmp hy]; exact cmpV_int i j o
theorem whole_iff {i : Int} {s : Bool} {c : Nat} {q : Int} {N : Nat} (h : 0 ≤ q + N) : Whole i (.fin s c q) ↔ signed s c * ((2 ^ (q + N).toNat : Nat) : Int) = i * ((2 ^ N : Nat) : Int) := by
  show signed s (c * 2 ^ q.toNat) = i * ((2 ^ (-q).toNat : Nat) : Int) ↔ _
  rw [signed_mul]
  have e : q.toNat + N = (q + N).toNat + (-q).toNat := by omega
  have p1 : ((2 ^ N : Nat) : Int) ≠ 0 := by have := Nat.two_pow_pos N; omega
  have p2 : ((2 ^ (-q).toNat : Nat) : Int) ≠ 0 := by have := Nat.two_pow_pos (-q).toNat; omega
  have e1 : signed s c * ((2 ^ q.toNat : Nat) : Int) * ((2 ^ N : Nat) : Int) = signed s c * ((2 ^ (q + N).toNat : Nat) : Int) * ((2 ^ (-q).toNat : Nat) : Int) := by
    rw [Int.mul_assoc, Int.mul_assoc, ← Int.natCast_mul, ← Int.natCast_mul, ← Nat.pow_add, ← Nat.pow_add, e]
  constructor
  · intro hh
    refine Int.eq_of_mul_eq_mul_right p2 ?_
    rw [← e1, hh]; ac_rfl
  · intro hh
    refine Int.eq_of_mul_eq_mul_right p1 ?_
    rw [e1, hh]; ac_rfl
theorem DS.up {k : Nat} {i : Int} {x : UInt64} (h : DS k i x) (m : Nat) : DS (k + m) (i * ((2 ^ m : Nat) : Int)) x := by
  obtain ⟨s, c, q, e, hw⟩ := h.fin
  unfold DS; rw [e]
  show Whole _ (.fin s c (q + ((k + m : Nat) : Int)))
  rw [whole_iff (N := (-q).toNat) (by omega)]
  rw [whole_iff (N := (-q).toNat + m) (by omega)] at hw
  rw [show q + (k : Int) + (((-q).toNat + m : Nat) : Int) = q + ((k + m : Nat) : Int) + ((-q).toNat : Nat) by omega] at hw
  rw [hw, Nat.pow_add, Int.natCast_mul]; ac_rfl
theorem DS.cast {k k' : Nat} {i i' : Int} {x : UInt64} (h : DS k i x) (e1 : k = k') (e2 : i = i') : DS k' i' x := e1 ▸ e2 ▸ h
/-- the quotient, as the rounding of a ratio of whole numbers -/
theorem ds_quot {k m : Nat} {i j : Int} {x y : UInt64} (hx : DS k i x) (hy : DS m j y) (hj : j ≠ 0) :
    ∃ s t, signed s i.natAbs = i ∧ signed t j.natAbs = j ∧ val64 (FP.ddiv x y) = roundRatio b64 (s != t) i.natAbs j.natAbs ((m : Int) - k) := by
  obtain ⟨s, c, q, e, hw⟩ := hx.fin
  obtain ⟨t, d, r, e', hw'⟩ := hy.fin
  have hd : d ≠ 0 := fun z => hj ((whole_zero hw').mp z)
  have h1 := whole_natAbs hw
  have h2 := whole_natAbs hw'
  refine ⟨s, t, whole_signed hw, whole_signed hw', ?_⟩
  show val64 (Core.ddiv x y) = _
  rw [val64_ddiv, e, e']
  show (if d = 0 then _ else roundRatio b64 (s != t) c d (q - r)) = _
  rw [if_neg hd]
  have hj' : 0 < j.natAbs := by omega
  rw [roundRatio_congr (A' := i.natAbs) (B' := d) (e' := -(k : Int) - r) (by omega) (by omega) (by
    rw [show q - r - (-(k : Int) - r) = q + k by omega, show -(k : Int) - r - (q - r) = -(q + k) by omega, Nat.mul_right_comm, h1]; ac_rfl)]
  refine roundRatio_congr (by omega) hj' ?_
  rw [show -(k : Int) - r - ((m : Int) - k) = -(r + m) by omega, show (m : Int) - k - (-(k : Int) - r) = r + m by omega, Nat.mul_assoc, ← h2]; ac_rfl
theorem DS.div {k m n : Nat} {i j Q : Int} {x y : UInt64} (hx : DS k i x) (hy : DS m j y) (hj : j ≠ 0) (hQ : i * ((2 ^ (m + n) : Nat) : Int) = Q * j * ((2 ^ k : Nat) : Int)) (hb : Q.natAbs ≤ 2 ^ 53) (hn : n ≤ 1022) : DS n Q (FP.ddiv x y) := by
  obtain ⟨s, t, hs, ht, hv⟩ := ds_quot hx hy hj
  obtain ⟨c', q', hfit, hf⟩ := natFitS (s != t) hn hb
  have hj' : 0 < j.natAbs := by omega
  have hQn : i.natAbs * 2 ^ (m + n) = Q.natAbs * j.natAbs * 2 ^ k := by
    have := congrArg Int.natAbs hQ
    rwa [Int.natAbs_mul, Int.natAbs_mul, Int.natAbs_mul, Int.natAbs_natCast, Int.natAbs_natCast] at this
  have e1 : roundRatio b64 (s != t) i.natAbs j.natAbs ((m : Int) - k) = roundRatio b64 (s != t) Q.natAbs 1 (-(n : Int)) := by
    refine roundRatio_congr hj' (by decide) ?_
    rw [Nat.mul_one]
    have ea : m + n = ((m : Int) - k - -(n : Int)).toNat + min (m + n) k := by omega
    have eb : k = (-(n : Int) - ((m : Int) - k)).toNat + min (m + n) k := by omega
    generalize ((m : Int) - k - -(n : Int)).toNat = u at ea ⊢
    generalize (-(n : Int) - ((m : Int) - k)).toNat = w at eb ⊢
    have hQ2 : i.natAbs * 2 ^ (u + min (m + n) k) = Q.natAbs * j.natAbs * 2 ^ (w + min (m + n) k) := by rw [← ea, ← eb]; exact hQn
    rw [Nat.pow_add, Nat.pow_add, ← Nat.mul_assoc, ← Nat.mul_assoc] at hQ2
    exact Nat.eq_of_mul_eq_mul_right (Nat.two_pow_pos _) hQ2
  rw [e1, roundRatio_exact good_b64 (by decide) hfit hf] at hv
  unfold DS; rw [hv]
  show signed (s != t) (c' * 2 ^ (q' + (n : Int)).toNat) = Q * _
  rw [show -(n : Int) - q' = -(q' + n) by omega, show q' - -(n : Int) = q' + n by omega, Nat.mul_one] at hf
  rw [← hf, signed_mul]
  congr 1
  have hp : (0 : Int) < ((2 ^ (m + n) : Nat) : Int) := by have := Nat.two_pow_pos (m + n); omega
  have hp2 : (0 : Int) < ((2 ^ k : Nat) : Int) := by have := Nat.two_pow_pos k; omega
  generalize ((2 ^ (m + n) : Nat) : Int) = P1 at hQ hp
  generalize ((2 ^ k : Nat) : Int) = P2 at hQ hp2
  -- the sign of the quotient
  have key : signed (s != t) (Q.natAbs * (j.natAbs * j.natAbs)) = Q * (j.natAbs * j.natAbs : Nat) := by
    have e2 : signed (s != t) (i.natAbs * j.natAbs) = i * j := by rw [signed_xor, hs, ht]
    have e3 : i.natAbs * P1.natAbs = Q.natAbs * j.natAbs * P2.natAbs := by
      have := congrArg Int.natAbs hQ
      rwa [Int.natAbs_mul, Int.natAbs_mul, Int.natAbs_mul] at this
    have e4 : signed (s != t) (Q.natAbs * (j.natAbs * j.natAbs)) * P2 = Q * (j.natAbs * j.natAbs : Nat) * P2 := by
      have p2 : P2 = (P2.natAbs : Int) := by omega
      have p1 : P1 = (P1.natAbs : Int) := by omega
      calc signed (s != t) (Q.natAbs * (j.natAbs * j.natAbs)) * P2
          = signed (s != t) (Q.natAbs * (j.natAbs * j.natAbs) * P2.natAbs) := by rw [signed_mul _ (Q.natAbs * (j.natAbs * j.natAbs)), ← p2]
        _ = signed (s != t) (i.natAbs * j.natAbs * P1.natAbs) := by
            congr 1
            calc Q.natAbs * (j.natAbs * j.natAbs) * P2.natAbs = (Q.natAbs * j.natAbs * P2.natAbs) * j.natAbs := by ac_rfl
              _ = i.natAbs * j.natAbs * P1.natAbs := by rw [← e3]; ac_rfl
        _ = i * j * P1 := by rw [signed_mul, e2, ← p1]
        _ = (i * P1) * j := by ac_rfl
        _ = Q * (j * j) * P2 := by rw [hQ]; ac_rfl
        _ = Q * (j.natAbs * j.natAbs : Nat) * P2 := by rw [Int.natCast_mul, Int.natAbs_mul_self' j]
    exact Int.eq_of_mul_eq_mul_right (by omega) e4
  rw [signed_mul] at key
  exact Int.eq_of_mul_eq_mul_right (by have : 0 < j.natAbs * j.natAbs := Nat.mul_pos hj' hj'; omega) key
/-- by a power of two -/
theorem DS.divp {k t : Nat} {i : Int} {x y : UInt64} (hx : DS k i x) (hy : DS 0 ((2 ^ t : Nat) : Int) y) (hb : i.natAbs ≤ 2 ^ 53) (hn : k + t ≤ 1022) : DS (k + t) i (FP.ddiv x y) :=
  DS.div hx hy (by have := Nat.two_pow_pos t; omega) (by rw [Nat.zero_add, Nat.pow_add, Int.natCast_mul]; ac_rfl) hb hn
theorem sft_rem (k : Nat) (x y : Datum) : exactRemainder (sft k x) (sft k y) = sft k (exactRemainder x y) := by
  cases x with
  | nan => rfl
  | inf s => rfl
  | fin s c q =>
    cases y with
    | nan => rfl
    | inf t => rfl
    | fin t d r =>
      have h : min (q + (k : Int)) (r + k) = min q r + k := by omega
      have h1 : q + (k : Int) - (min q r + k) = q - min q r := by omega
      have h2 : r + (k : Int) - (min q r + k) = r - min q r := by omega
      show (if d = 0 then Datum.nan else .fin s (c * 2 ^ (q + (k : Int) - min (q + k) (r + k)).toNat % (d * 2 ^ (r + (k : Int) - min (q + k) (r + k)).toNat)) (min (q + k) (r + k))) = sft k (if d = 0 then Datum.nan else .fin s (c * 2 ^ (q - min q r).toNat % (d * 2 ^ (r - min q r).toNat)) (min q r))
      rw [h, h1, h2]; split <;> rfl
theorem signed_tmod {s : Bool} {i : Int} (hs : signed s i.natAbs = i) (j : Int) : signed s (i.natAbs % j.natAbs) = i.tmod j := by
  cases i with
  | ofNat a =>
    have e : Int.tmod (Int.ofNat a) j = ((a % j.natAbs : Nat) : Int) := by cases j <;> rfl
    rw [e]; show signed s (a % j.natAbs) = _
    have hs' : signed s a = (a : Int) := hs
    cases s with
    | false => rfl
    | true =>
      have h0 : a = 0 := by
        have : -(a : Int) = (a : Int) := hs'
        omega
      subst h0; rw [Nat.zero_mod]; rfl
  | negSucc a =>
    have e : Int.tmod (Int.negSucc a) j = -(((a + 1) % j.natAbs : Nat) : Int) := by cases j <;> rfl
    rw [e]; show signed s ((a + 1) % j.natAbs) = _
    cases s with
    | true => rfl
    | false =>
      have : ((a + 1 : Nat) : Int) = Int.negSucc a := hs
      omega
theorem whole_rem {i j : Int} {x y : Datum} (hx : Whole i x) (hy : Whole j y) (hj : j ≠ 0) : Whole (i.tmod j) (exactRemainder x y) := by
  cases x with
  | nan => exact hx.elim
  | inf => exact hx.elim
  | fin s c q =>
  cases y with
  | nan => exact hy.elim
  | inf => exact hy.elim
  | fin t d r =>
    have hd : d ≠ 0 := fun z => hj ((whole_zero hy).mp z)
    have h1 := congrArg Int.natAbs (whole_units hx (e := min q r) (by omega))
    have h2 := congrArg Int.natAbs (whole_units hy (e := min q r) (by omega))
    rw [Int.natAbs_mul, Int.natAbs_mul, Int.natAbs_natCast, Int.natAbs_natCast, natAbs_signed] at h1 h2
    show Whole _ (if d = 0 then _ else Datum.fin s (inUnits c q (min q r) % inUnits d r (min q r)) (min q r))
    rw [if_neg hd]
    show signed s (inUnits c q (min q r) % inUnits d r (min q r) * 2 ^ (min q r).toNat) = i.tmod j * ((2 ^ (-(min q r)).toNat : Nat) : Int)
    rw [← Nat.mul_mod_mul_right, h1, h2, Nat.mul_mod_mul_right, signed_mul, signed_tmod (whole_signed hx)]
theorem DS.rem {k : Nat} {i j : Int} {x y : UInt64} (hx : DS k i x) (hy : DS k j y) (hj : j ≠ 0) (hb : (i.tmod j).natAbs ≤ 2 ^ 53) (hk : k ≤ 1022) : DS k (i.tmod j) (FP.drem x y) := by
  show Whole _ (sft k (val64 (Core.drem x y)))
  rw [val64_drem]; refine ds_round hk hb ?_; rw [← sft_rem]; exact whole_rem hx hy hj
end Dyad
def own_side (aW aE aN aS : Addr) (ix iy : Int) : Value := if iy = 0 ∧ ix < 0 then .ref aW else if iy = 0 ∧ 0 < ix then .ref aE else if ix = 0 ∧ iy < 0 then .ref aN else if ix = 0 ∧ 0 < iy then .ref aS else .null
theorem own_side_ref (aW aE aN aS : Addr) (ix iy : Int) : (own_side aW aE aN aS ix iy).isRef = true := by
  unfold own_side; split; · rfl
  split; · rfl
  split; · rfl
  split <;> rfl
theorem own_pw0 : ∀ i : Fin 63, Jvm.FP.Core.val64 (FP.l2d ((1 : Int64) <<< ((Int32.ofInt (i.1 : Int)) &&& 0x3f).toInt64)) = .fin false (2 ^ 52) ((i.1 : Int) - 52) := by decide +kernel
theorem own_pw (v : Int32) (h1 : 0 ≤ v.toInt) (h2 : v.toInt ≤ 62) : DS 0 ((2 ^ v.toInt.toNat : Nat) : Int) (FP.l2d ((1 : Int64) <<< (v &&& 0x3f).toInt64)) := by
  have e : Int32.ofInt ((v.toInt.toNat : Nat) : Int) = v := by rw [Int.toNat_of_nonneg h1]; exact Int32.ofInt_toInt v
  have q : Jvm.FP.Core.val64 (FP.l2d ((1 : Int64) <<< (v &&& 0x3f).toInt64)) = .fin false (2 ^ 52) ((v.toInt.toNat : Int) - 52) := by
    have q := own_pw0 ⟨v.toInt.toNat, by omega⟩
    rw [e] at q; exact q
  refine DS.lit q ?_
  generalize v.toInt.toNat = t
  show ((2 ^ 52 * 2 ^ ((t : Int) - 52 + ((0 : Nat) : Int)).toNat : Nat) : Int) = ((2 ^ t : Nat) : Int) * ((2 ^ (-((t : Int) - 52 + ((0 : Nat) : Int))).toNat : Nat) : Int)
  rw [← Int.natCast_mul, ← Nat.pow_add, ← Nat.pow_add, show 52 + ((t : Int) - 52 + ((0 : Nat) : Int)).toNat = t + (-((t : Int) - 52 + ((0 : Nat) : Int))).toNat by omega]

theorem d1_0 : decode prog_29_method_5_code 0 = .ok (.dload_n 2, 1) := by decide +kernel
theorem d1_1 : decode prog_29_method_5_code 1 = .ok (.dconst 0, 1) := by decide +kernel
theorem d1_2 : decode prog_29_method_5_code 2 = .ok (.dcmp .l, 1) := by decide +kernel
theorem d1_3 : decode prog_29_method_5_code 3 = .ok (.ifCond .ne 17, 3) := by decide +kernel
theorem d1_6 : decode prog_29_method_5_code 6 = .ok (.dload_n 0, 1) := by decide +kernel
theorem d1_7 : decode prog_29_method_5_code 7 = .ok (.dconst 0, 1) := by decide +kernel
theorem d1_8 : decode prog_29_method_5_code 8 = .ok (.dcmp .g, 1) := by decide +kernel
theorem d1_9 : decode prog_29_method_5_code 9 = .ok (.ifCond .ge 11, 3) := by decide +kernel
theorem d1_12 : decode prog_29_method_5_code 12 = .ok (.getstatic 3, 3) := by decide +kernel
theorem d1_15 : decode prog_29_method_5_code 15 = .ok (.astore 4, 2) := by decide +kernel
theorem d1_17 : decode prog_29_method_5_code 17 = .ok (.goto 66, 3) := by decide +kernel
theorem d1_20 : decode prog_29_method_5_code 20 = .ok (.dload_n 2, 1) := by decide +kernel
theorem d1_21 : decode prog_29_method_5_code 21 = .ok (.dconst 0, 1) := by decide +kernel
theorem d1_22 : decode prog_29_method_5_code 22 = .ok (.dcmp .l, 1) := by decide +kernel
theorem d1_23 : decode prog_29_method_5_code 23 = .ok (.ifCond .ne 17, 3) := by decide +kernel
theorem d1_26 : decode prog_29_method_5_code 26 = .ok (.dload_n 0, 1) := by decide +kernel
theorem d1_27 : decode prog_29_method_5_code 27 = .ok (.dconst 0, 1) := by decide +kernel
theorem d1_28 : decode prog_29_method_5_code 28 = .ok (.dcmp .l, 1) := by decide +kernel
theorem d1_29 : decode prog_29_method_5_code 29 = .ok (.ifCond .le 11, 3) := by decide +kernel
theorem d1_32 : decode prog_29_method_5_code 32 = .ok (.getstatic 7, 3) := by decide +kernel
theorem d1_35 : decode prog_29_method_5_code 35 = .ok (.astore 4, 2) := by decide +kernel
theorem d1_37 : decode prog_29_method_5_code 37 = .ok (.goto 46, 3) := by decide +kernel
theorem d1_40 : decode prog_29_method_5_code 40 = .ok (.dload_n 0, 1) := by decide +kernel
theorem d1_41 : decode prog_29_method_5_code 41 = .ok (.dconst 0, 1) := by decide +kernel
theorem d1_42 : decode prog_29_method_5_code 42 = .ok (.dcmp .l, 1) := by decide +kernel
theorem d1_43 : decode prog_29_method_5_code 43 = .ok (.ifCond .ne 17, 3) := by decide +kernel
theorem d1_46 : decode prog_29_method_5_code 46 = .ok (.dload_n 2, 1) := by decide +kernel
theorem d1_47 : decode prog_29_method_5_code 47 = .ok (.dconst 0, 1) := by decide +kernel
theorem d1_48 : decode prog_29_method_5_code 48 = .ok (.dcmp .g, 1) := by decide +kernel
theorem d1_49 : decode prog_29_method_5_code 49 = .ok (.ifCond .ge 11, 3) := by decide +kernel
theorem d1_52 : decode prog_29_method_5_code 52 = .ok (.getstatic 10, 3) := by decide +kernel
theorem d1_55 : decode prog_29_method_5_code 55 = .ok (.astore 4, 2) := by decide +kernel
theorem d1_57 : decode prog_29_method_5_code 57 = .ok (.goto 26, 3) := by decide +kernel
theorem d1_60 : decode prog_29_method_5_code 60 = .ok (.dload_n 0, 1) := by decide +kernel
theorem d1_61 : decode prog_29_method_5_code 61 = .ok (.dconst 0, 1) := by decide +kernel
theorem d1_62 : decode prog_29_method_5_code 62 = .ok (.dcmp .l, 1) := by decide +kernel
theorem d1_63 : decode prog_29_method_5_code 63 = .ok (.ifCond .ne 17, 3) := by decide +kernel
theorem d1_66 : decode prog_29_method_5_code 66 = .ok (.dload_n 2, 1) := by decide +kernel
theorem d1_67 : decode prog_29_method_5_code 67 = .ok (.dconst 0, 1) := by decide +kernel
theorem d1_68 : decode prog_29_method_5_code 68 = .ok (.dcmp .l, 1) := by decide +kernel
theorem d1_69 : decode prog_29_method_5_code 69 = .ok (.ifCond .le 11, 3) := by decide +kernel
theorem d1_72 : decode prog_29_method_5_code 72 = .ok (.getstatic 13, 3) := by decide +kernel
theorem d1_75 : decode prog_29_method_5_code 75 = .ok (.astore 4, 2) := by decide +kernel
theorem d1_77 : decode prog_29_method_5_code 77 = .ok (.goto 6, 3) := by decide +kernel
theorem d1_80 : decode prog_29_method_5_code 80 = .ok (.aconst_null, 1) := by decide +kernel
theorem d1_81 : decode prog_29_method_5_code 81 = .ok (.astore 4, 2) := by decide +kernel
theorem d1_83 : decode prog_29_method_5_code 83 = .ok (.aload 4, 2) := by decide +kernel
theorem d1_85 : decode prog_29_method_5_code 85 = .ok (.areturn, 1) := by decide +kernel
theorem pn0 : plainName "com/example/vias_for_diagrams/viasfordiagrams/PortSide" = true := by first | (simp [plainName, overriddenIn]; done) | decide +kernel
theorem ef1_rm1 (m : MethodId) (x0 : UInt64) (x1 : UInt64) : entryFrame m #[(.double x0), (.double x1)] 5 = mkF m 0 #[.val (.double x0), .second, .val (.double x1), .second, .unset] [] := by first | (simp [entryFrame, mkF, argsToLocals, Value.category]; done) | rfl
def Q1 (Z : State) (xx : UInt64) (yy : UInt64) (aW aE aN aS : Addr) (ix iy : Int) (tt : Nat) (h0 : Heap) (n0 : Nat) (v : Option Value) (h : Heap) (L : List Loc) : Prop := v = some (own_side aW aE aN aS ix iy) ∧ Fr n0 L ∧ h = h0
set_option maxRecDepth 65536 in
set_option maxHeartbeats 40000000 in
theorem rm1 (l : Launch) (Z : State) (a0 : Array Value) (hw : ∀ d ∈ tables_1, d.before a0 Z = true) (ws : List Jvm.Cond) (xx : UInt64) (yy : UInt64) (aW aE aN aS : Addr) (ix iy : Int) (tt : Nat) (h0 : Heap) (n0 : Nat) (Z0 : n0 ≤ h0.size) (S_WEST : Sta Z h0 "com/example/vias_for_diagrams/viasfordiagrams/PortSide" "WEST" "Lcom/example/vias_for_diagrams/viasfordiagrams/PortSide;" (.ref aW)) (S_EAST : Sta Z h0 "com/example/vias_for_diagrams/viasfordiagrams/PortSide" "EAST" "Lcom/example/vias_for_diagrams/viasfordiagrams/PortSide;" (.ref aE)) (S_NORTH : Sta Z h0 "com/example/vias_for_diagrams/viasfordiagrams/PortSide" "NORTH" "Lcom/example/vias_for_diagrams/viasfordiagrams/PortSide;" (.ref aN)) (S_SOUTH : Sta Z h0 "com/example/vias_for_diagrams/viasfordiagrams/PortSide" "SOUTH" "Lcom/example/vias_for_diagrams/viasfordiagrams/PortSide;" (.ref aS)) (dx : DS tt ix xx) (dy : DS tt iy yy) :
    MetFree l (⟨"com/example/vias_for_diagrams/viasfordiagrams/PortSide", "ofStep", "(DD)Lcom/example/vias_for_diagrams/viasfordiagrams/PortSide;"⟩ : MethodName) (head1 (Jvm.Cond.code (⟨"com/example/vias_for_diagrams/viasfordiagrams/PortSide", "ofStep", "(DD)Lcom/example/vias_for_diagrams/viasfordiagrams/PortSide;"⟩ : MethodName) prog_29_method_5_code 5 (some (.object "com/example/vias_for_diagrams/viasfordiagrams/PortSide")) :: ws) ({ frames := 0, cells := 0, slots := 0, locals := 0 } : Room)) (fun aa UU => aa = #[(.double xx), (.double yy)] ∧ Z.Warmed39 UU.vm ∧ UU.heap = h0) (fun _ _ _ _ _ => True) (fun _ UU oo UU' => ∃ vv LL, oo = .returned vv ∧ Q1 Z xx yy aW aE aN aS ix iy tt h0 n0 vv UU'.heap LL ∧ FrameEnd UU oo UU' LL ({ frames := 0, cells := 0, slots := 0, locals := 0 } : Room).cells ({ frames := 0, cells := 0, slots := 0, locals := 0 } : Room).slots) := by
  refine MetFree.of_bodySF (plainFor_of_name pn0) hisR ?_
  intro p e s m args below meth c s₁ Bd hml0 hP hK
  obtain ⟨rfl, hZ, hh⟩ := hP
  have hx := Bd.exec
  have hby := Bd.bytes
  have hlk : meth.locks = false := BodyLoose.notSynchronized Bd
  have hret := Bd.returns
  have hml : c.maxLocals = 5 := hml0
  have hown : s.vm.findClass "com/example/vias_for_diagrams/viasfordiagrams/PortSide" = some m.cls := findClass_of_methodNamed Bd.named
  have hnm := (name_of_methodNamed Bd.named Bd.method).1
  have X0 : Stand p l e ({ frames := 0, cells := 0, slots := 0, locals := 0 } : Room) s m #[(.double xx), (.double yy)] below meth c s₁ [] 0 0 := Stand.of_body Bd
  have e0 : s₁.heap = h0 := by rw [← hh, Bd.state]; rfl
  have N0 := Fr.nil n0
  show Dn p e below s (Q1 Z xx yy aW aE aN aS ix iy tt h0 n0) ({ frames := 0, cells := 0, slots := 0, locals := 0 } : Room).cells ({ frames := 0, cells := 0, slots := 0, locals := 0 } : Room).slots (s₁.setTop (entryFrame m #[(.double xx), (.double yy)] 5))
  refine Dn.st (fun _ kk => castTop (ef1_rm1 m xx yy) kk) ?_
  show Dn p e below s _ _ _ (s₁.setTop (mkF m 0 #[.val (.double xx), .second, .val (.double yy), .second, .unset] []))
  refine Dn.st (fun _ kk => XS.dloadN X0.here hx rfl (hb hby d1_0) rfl  (XS.dconst0 X0.here hx rfl (hb hby d1_1) rfl (XS.dcmpS X0.here hx rfl (hb hby d1_2) rfl (show cmpValue (FP.dcmp yy FP.dconst0) .l = (c3 iy 0) from (DS.cmpV dy (DS.zero tt) _)) (kk)))) ?_
  show Dn p e below s _ _ _ (s₁.setTop (mkF m 3 #[.val (.double xx), .second, .val (.double yy), .second, .unset] [(.int (c3 iy 0))]))
  by_cases hc3 : (c3 iy 0) = (0 : Int32)
  · have hi3 := (c3_eq _ _).mp hc3
    refine Dn.st (fun _ kk => XS.ifNo X0.here hx rfl (hb hby d1_3) rfl ((if0 _ _).trans (teq hc3).2) (XS.dloadN X0.here hx rfl (hb hby d1_6) rfl  (XS.dconst0 X0.here hx rfl (hb hby d1_7) rfl (XS.dcmpS X0.here hx rfl (hb hby d1_8) rfl (show cmpValue (FP.dcmp xx FP.dconst0) .g = (c3 ix 0) from (DS.cmpV dx (DS.zero tt) _)) (kk))))) ?_
    show Dn p e below s _ _ _ (s₁.setTop (mkF m 9 #[.val (.double xx), .second, .val (.double yy), .second, .unset] [(.int (c3 ix 0))]))
    by_cases hc9 : (c3 ix 0) < (0 : Int32)
    · have hi9 := (c3_lt _ _).mp hc9
      refine Dn.st (fun _ kk => XS.ifNo X0.here hx rfl (hb hby d1_9) rfl ((if0 _ _).trans (tlt hc9).2.1) (kk)) ?_
      show Dn p e below s _ _ _ (s₁.setTop (mkF m 12 #[.val (.double xx), .second, .val (.double yy), .second, .unset] []))
      obtain ⟨T12, X12, e12, st12⟩ := getS2 X0 hx hZ hown (host := "") (Or.inl (hw _ (List.mem_of_getElem? (i := 15) rfl))) Via.refl e0 S_WEST (g := (mkF m 12 #[.val (.double xx), .second, .val (.double yy), .second, .unset] [])) rfl (hb hby d1_12)
      refine Dn.st st12 ?_
      show Dn p e below s _ _ _ (T12.setTop (mkF m 15 #[.val (.double xx), .second, .val (.double yy), .second, .unset] [(.ref aW)]))
      refine Dn.st (fun _ kk => XS.astore X12.here hx rfl (hb hby d1_15) rfl rfl (l' := #[.val (.double xx), .second, .val (.double yy), .second, .val (.ref aW)]) rfl (XS.goto X12.here hx rfl (pc0 := 17) (pc' := 83) rfl (hb hby d1_17) (by decide) (by decide) (XS.aload X12.here hx rfl (hb hby d1_83) rfl rfl (kk)))) ?_
      show Dn p e below s _ _ _ (T12.setTop (mkF m 85 #[.val (.double xx), .second, .val (.double yy), .second, .val (.ref aW)] [(.ref aW)]))
      exact Dn.ret X12 hlk hx hret rfl (Or.inr (Or.inr (Or.inr (Or.inr ⟨rfl, rfl, rfl⟩)))) (hb hby d1_85) (by rw [e12]; exact ⟨congrArg some (by unfold own_side; rw [if_pos (by omega)]), N0, rfl⟩) (by decide) (by decide)
    · have hi9 := mt (c3_lt _ _).mpr hc9
      refine Dn.st (fun _ kk => XS.ifYes X0.here hx rfl (pc0 := 9) (pc' := 20) rfl (hb hby d1_9) rfl ((if0 _ _).trans (flt hc9).2.1) (by decide) (by decide) (XS.dloadN X0.here hx rfl (hb hby d1_20) rfl  (XS.dconst0 X0.here hx rfl (hb hby d1_21) rfl (XS.dcmpS X0.here hx rfl (hb hby d1_22) rfl (show cmpValue (FP.dcmp yy FP.dconst0) .l = (c3 iy 0) from (DS.cmpV dy (DS.zero tt) _)) (kk))))) ?_
      show Dn p e below s _ _ _ (s₁.setTop (mkF m 23 #[.val (.double xx), .second, .val (.double yy), .second, .unset] [(.int (c3 iy 0))]))
      by_cases hc23 : (c3 iy 0) = (0 : Int32)
      · have hi23 := (c3_eq _ _).mp hc23
        refine Dn.st (fun _ kk => XS.ifNo X0.here hx rfl (hb hby d1_23) rfl ((if0 _ _).trans (teq hc23).2) (XS.dloadN X0.here hx rfl (hb hby d1_26) rfl  (XS.dconst0 X0.here hx rfl (hb hby d1_27) rfl (XS.dcmpS X0.here hx rfl (hb hby d1_28) rfl (show cmpValue (FP.dcmp xx FP.dconst0) .l = (c3 ix 0) from (DS.cmpV dx (DS.zero tt) _)) (kk))))) ?_
        show Dn p e below s _ _ _ (s₁.setTop (mkF m 29 #[.val (.double xx), .second, .val (.double yy), .second, .unset] [(.int (c3 ix 0))]))
        by_cases hc29 : (0 : Int32) < (c3 ix 0)
        · have hi29 := (c3_gt _ _).mp hc29
          refine Dn.st (fun _ kk => XS.ifNo X0.here hx rfl (hb hby d1_29) rfl ((if0 _ _).trans (tlt hc29).2.2.2) (kk)) ?_
          show Dn p e below s _ _ _ (s₁.setTop (mkF m 32 #[.val (.double xx), .second, .val (.double yy), .second, .unset] []))
          obtain ⟨T32, X32, e32, st32⟩ := getS2 X0 hx hZ hown (host := "") (Or.inl (hw _ (List.mem_of_getElem? (i := 9) rfl))) Via.refl e0 S_EAST (g := (mkF m 32 #[.val (.double xx), .second, .val (.double yy), .second, .unset] [])) rfl (hb hby d1_32)
          refine Dn.st st32 ?_
          show Dn p e below s _ _ _ (T32.setTop (mkF m 35 #[.val (.double xx), .second, .val (.double yy), .second, .unset] [(.ref aE)]))
          refine Dn.st (fun _ kk => XS.astore X32.here hx rfl (hb hby d1_35) rfl rfl (l' := #[.val (.double xx), .second, .val (.double yy), .second, .val (.ref aE)]) rfl (XS.goto X32.here hx rfl (pc0 := 37) (pc' := 83) rfl (hb hby d1_37) (by decide) (by decide) (XS.aload X32.here hx rfl (hb hby d1_83) rfl rfl (kk)))) ?_
          show Dn p e below s _ _ _ (T32.setTop (mkF m 85 #[.val (.double xx), .second, .val (.double yy), .second, .val (.ref aE)] [(.ref aE)]))
          exact Dn.ret X32 hlk hx hret rfl (Or.inr (Or.inr (Or.inr (Or.inr ⟨rfl, rfl, rfl⟩)))) (hb hby d1_85) (by rw [e32]; exact ⟨congrArg some (by unfold own_side; rw [if_neg (by omega), if_pos (by omega)]), N0, rfl⟩) (by decide) (by decide)
        · have hi29 := mt (c3_gt _ _).mpr hc29
          refine Dn.st (fun _ kk => XS.ifYes X0.here hx rfl (pc0 := 29) (pc' := 40) rfl (hb hby d1_29) rfl ((if0 _ _).trans (flt hc29).2.2.2) (by decide) (by decide) (XS.dloadN X0.here hx rfl (hb hby d1_40) rfl  (XS.dconst0 X0.here hx rfl (hb hby d1_41) rfl (XS.dcmpS X0.here hx rfl (hb hby d1_42) rfl (show cmpValue (FP.dcmp xx FP.dconst0) .l = (c3 ix 0) from (DS.cmpV dx (DS.zero tt) _)) (kk))))) ?_
          show Dn p e below s _ _ _ (s₁.setTop (mkF m 43 #[.val (.double xx), .second, .val (.double yy), .second, .unset] [(.int (c3 ix 0))]))
          by_cases hc43 : (c3 ix 0) = (0 : Int32)
          · have hi43 := (c3_eq _ _).mp hc43
            refine Dn.st (fun _ kk => XS.ifNo X0.here hx rfl (hb hby d1_43) rfl ((if0 _ _).trans (teq hc43).2) (XS.dloadN X0.here hx rfl (hb hby d1_46) rfl  (XS.dconst0 X0.here hx rfl (hb hby d1_47) rfl (XS.dcmpS X0.here hx rfl (hb hby d1_48) rfl (show cmpValue (FP.dcmp yy FP.dconst0) .g = (c3 iy 0) from (DS.cmpV dy (DS.zero tt) _)) (kk))))) ?_
            show Dn p e below s _ _ _ (s₁.setTop (mkF m 49 #[.val (.double xx), .second, .val (.double yy), .second, .unset] [(.int (c3 iy 0))]))
            by_cases hc49 : (c3 iy 0) < (0 : Int32)
            · have hi49 := (c3_lt _ _).mp hc49
              refine Dn.st (fun _ kk => XS.ifNo X0.here hx rfl (hb hby d1_49) rfl ((if0 _ _).trans (tlt hc49).2.1) (kk)) ?_
              show Dn p e below s _ _ _ (s₁.setTop (mkF m 52 #[.val (.double xx), .second, .val (.double yy), .second, .unset] []))
              obtain ⟨T52, X52, e52, st52⟩ := getS2 X0 hx hZ hown (host := "") (Or.inl (hw _ (List.mem_of_getElem? (i := 18) rfl))) Via.refl e0 S_NORTH (g := (mkF m 52 #[.val (.double xx), .second, .val (.double yy), .second, .unset] [])) rfl (hb hby d1_52)
              refine Dn.st st52 ?_
              show Dn p e below s _ _ _ (T52.setTop (mkF m 55 #[.val (.double xx), .second, .val (.double yy), .second, .unset] [(.ref aN)]))
              refine Dn.st (fun _ kk => XS.astore X52.here hx rfl (hb hby d1_55) rfl rfl (l' := #[.val (.double xx), .second, .val (.double yy), .second, .val (.ref aN)]) rfl (XS.goto X52.here hx rfl (pc0 := 57) (pc' := 83) rfl (hb hby d1_57) (by decide) (by decide) (XS.aload X52.here hx rfl (hb hby d1_83) rfl rfl (kk)))) ?_
              show Dn p e below s _ _ _ (T52.setTop (mkF m 85 #[.val (.double xx), .second, .val (.double yy), .second, .val (.ref aN)] [(.ref aN)]))
              exact Dn.ret X52 hlk hx hret rfl (Or.inr (Or.inr (Or.inr (Or.inr ⟨rfl, rfl, rfl⟩)))) (hb hby d1_85) (by rw [e52]; exact ⟨congrArg some (by unfold own_side; rw [if_neg (by omega), if_neg (by omega), if_pos (by omega)]), N0, rfl⟩) (by decide) (by decide)
            · have hi49 := mt (c3_lt _ _).mpr hc49
              refine Dn.st (fun _ kk => XS.ifYes X0.here hx rfl (pc0 := 49) (pc' := 60) rfl (hb hby d1_49) rfl ((if0 _ _).trans (flt hc49).2.1) (by decide) (by decide) (XS.dloadN X0.here hx rfl (hb hby d1_60) rfl  (XS.dconst0 X0.here hx rfl (hb hby d1_61) rfl (XS.dcmpS X0.here hx rfl (hb hby d1_62) rfl (show cmpValue (FP.dcmp xx FP.dconst0) .l = (c3 ix 0) from (DS.cmpV dx (DS.zero tt) _)) (kk))))) ?_
              show Dn p e below s _ _ _ (s₁.setTop (mkF m 63 #[.val (.double xx), .second, .val (.double yy), .second, .unset] [(.int (c3 ix 0))]))
              by_cases hc63 : (c3 ix 0) = (0 : Int32)
              · have hi63 := (c3_eq _ _).mp hc63
                refine Dn.st (fun _ kk => XS.ifNo X0.here hx rfl (hb hby d1_63) rfl ((if0 _ _).trans (teq hc63).2) (XS.dloadN X0.here hx rfl (hb hby d1_66) rfl  (XS.dconst0 X0.here hx rfl (hb hby d1_67) rfl (XS.dcmpS X0.here hx rfl (hb hby d1_68) rfl (show cmpValue (FP.dcmp yy FP.dconst0) .l = (c3 iy 0) from (DS.cmpV dy (DS.zero tt) _)) (kk))))) ?_
                show Dn p e below s _ _ _ (s₁.setTop (mkF m 69 #[.val (.double xx), .second, .val (.double yy), .second, .unset] [(.int (c3 iy 0))]))
                by_cases hc69 : (0 : Int32) < (c3 iy 0)
                · have hi69 := (c3_gt _ _).mp hc69
                  refine Dn.st (fun _ kk => XS.ifNo X0.here hx rfl (hb hby d1_69) rfl ((if0 _ _).trans (tlt hc69).2.2.2) (kk)) ?_
                  show Dn p e below s _ _ _ (s₁.setTop (mkF m 72 #[.val (.double xx), .second, .val (.double yy), .second, .unset] []))
                  obtain ⟨T72, X72, e72, st72⟩ := getS2 X0 hx hZ hown (host := "") (Or.inl (hw _ (List.mem_of_getElem? (i := 12) rfl))) Via.refl e0 S_SOUTH (g := (mkF m 72 #[.val (.double xx), .second, .val (.double yy), .second, .unset] [])) rfl (hb hby d1_72)
                  refine Dn.st st72 ?_
                  show Dn p e below s _ _ _ (T72.setTop (mkF m 75 #[.val (.double xx), .second, .val (.double yy), .second, .unset] [(.ref aS)]))
                  refine Dn.st (fun _ kk => XS.astore X72.here hx rfl (hb hby d1_75) rfl rfl (l' := #[.val (.double xx), .second, .val (.double yy), .second, .val (.ref aS)]) rfl (XS.goto X72.here hx rfl (pc0 := 77) (pc' := 83) rfl (hb hby d1_77) (by decide) (by decide) (XS.aload X72.here hx rfl (hb hby d1_83) rfl rfl (kk)))) ?_
                  show Dn p e below s _ _ _ (T72.setTop (mkF m 85 #[.val (.double xx), .second, .val (.double yy), .second, .val (.ref aS)] [(.ref aS)]))
                  exact Dn.ret X72 hlk hx hret rfl (Or.inr (Or.inr (Or.inr (Or.inr ⟨rfl, rfl, rfl⟩)))) (hb hby d1_85) (by rw [e72]; exact ⟨congrArg some (by unfold own_side; rw [if_neg (by omega), if_neg (by omega), if_neg (by omega), if_pos (by omega)]), N0, rfl⟩) (by decide) (by decide)
                · have hi69 := mt (c3_gt _ _).mpr hc69
                  refine Dn.st (fun _ kk => XS.ifYes X0.here hx rfl (pc0 := 69) (pc' := 80) rfl (hb hby d1_69) rfl ((if0 _ _).trans (flt hc69).2.2.2) (by decide) (by decide) (XS.aconstNull X0.here hx rfl (hb hby d1_80) (XS.astore X0.here hx rfl (hb hby d1_81) rfl rfl (l' := #[.val (.double xx), .second, .val (.double yy), .second, .val .null]) rfl (XS.aload X0.here hx rfl (hb hby d1_83) rfl rfl (kk))))) ?_
                  show Dn p e below s _ _ _ (s₁.setTop (mkF m 85 #[.val (.double xx), .second, .val (.double yy), .second, .val .null] [.null]))
                  exact Dn.ret X0 hlk hx hret rfl (Or.inr (Or.inr (Or.inr (Or.inr ⟨rfl, rfl, rfl⟩)))) (hb hby d1_85) (by rw [e0]; exact ⟨congrArg some (by unfold own_side; rw [if_neg (by omega), if_neg (by omega), if_neg (by omega), if_neg (by omega)]), N0, rfl⟩) (by decide) (by decide)
              · have hi63 := mt (c3_eq _ _).mpr hc63
                refine Dn.st (fun _ kk => XS.ifYes X0.here hx rfl (pc0 := 63) (pc' := 80) rfl (hb hby d1_63) rfl ((if0 _ _).trans (feq hc63).2) (by decide) (by decide) (XS.aconstNull X0.here hx rfl (hb hby d1_80) (XS.astore X0.here hx rfl (hb hby d1_81) rfl rfl (l' := #[.val (.double xx), .second, .val (.double yy), .second, .val .null]) rfl (XS.aload X0.here hx rfl (hb hby d1_83) rfl rfl (kk))))) ?_
                show Dn p e below s _ _ _ (s₁.setTop (mkF m 85 #[.val (.double xx), .second, .val (.double yy), .second, .val .null] [.null]))
                exact Dn.ret X0 hlk hx hret rfl (Or.inr (Or.inr (Or.inr (Or.inr ⟨rfl, rfl, rfl⟩)))) (hb hby d1_85) (by rw [e0]; exact ⟨congrArg some (by unfold own_side; rw [if_neg (by omega), if_neg (by omega), if_neg (by omega), if_neg (by omega)]), N0, rfl⟩) (by decide) (by decide)
          · have hi43 := mt (c3_eq _ _).mpr hc43
            refine Dn.st (fun _ kk => XS.ifYes X0.here hx rfl (pc0 := 43) (pc' := 60) rfl (hb hby d1_43) rfl ((if0 _ _).trans (feq hc43).2) (by decide) (by decide) (XS.dloadN X0.here hx rfl (hb hby d1_60) rfl  (XS.dconst0 X0.here hx rfl (hb hby d1_61) rfl (XS.dcmpS X0.here hx rfl (hb hby d1_62) rfl (show cmpValue (FP.dcmp xx FP.dconst0) .l = (c3 ix 0) from (DS.cmpV dx (DS.zero tt) _)) (kk))))) ?_
            show Dn p e below s _ _ _ (s₁.setTop (mkF m 63 #[.val (.double xx), .second, .val (.double yy), .second, .unset] [(.int (c3 ix 0))]))
            by_cases hc63 : (c3 ix 0) = (0 : Int32)
            · have hi63 := (c3_eq _ _).mp hc63
              refine Dn.st (fun _ kk => XS.ifNo X0.here hx rfl (hb hby d1_63) rfl ((if0 _ _).trans (teq hc63).2) (XS.dloadN X0.here hx rfl (hb hby d1_66) rfl  (XS.dconst0 X0.here hx rfl (hb hby d1_67) rfl (XS.dcmpS X0.here hx rfl (hb hby d1_68) rfl (show cmpValue (FP.dcmp yy FP.dconst0) .l = (c3 iy 0) from (DS.cmpV dy (DS.zero tt) _)) (kk))))) ?_
              show Dn p e below s _ _ _ (s₁.setTop (mkF m 69 #[.val (.double xx), .second, .val (.double yy), .second, .unset] [(.int (c3 iy 0))]))
              by_cases hc69 : (0 : Int32) < (c3 iy 0)
              · have hi69 := (c3_gt _ _).mp hc69
                refine Dn.st (fun _ kk => XS.ifNo X0.here hx rfl (hb hby d1_69) rfl ((if0 _ _).trans (tlt hc69).2.2.2) (kk)) ?_
                show Dn p e below s _ _ _ (s₁.setTop (mkF m 72 #[.val (.double xx), .second, .val (.double yy), .second, .unset] []))
                obtain ⟨T72, X72, e72, st72⟩ := getS2 X0 hx hZ hown (host := "") (Or.inl (hw _ (List.mem_of_getElem? (i := 12) rfl))) Via.refl e0 S_SOUTH (g := (mkF m 72 #[.val (.double xx), .second, .val (.double yy), .second, .unset] [])) rfl (hb hby d1_72)
                refine Dn.st st72 ?_
                show Dn p e below s _ _ _ (T72.setTop (mkF m 75 #[.val (.double xx), .second, .val (.double yy), .second, .unset] [(.ref aS)]))
                refine Dn.st (fun _ kk => XS.astore X72.here hx rfl (hb hby d1_75) rfl rfl (l' := #[.val (.double xx), .second, .val (.double yy), .second, .val (.ref aS)]) rfl (XS.goto X72.here hx rfl (pc0 := 77) (pc' := 83) rfl (hb hby d1_77) (by decide) (by decide) (XS.aload X72.here hx rfl (hb hby d1_83) rfl rfl (kk)))) ?_
                show Dn p e below s _ _ _ (T72.setTop (mkF m 85 #[.val (.double xx), .second, .val (.double yy), .second, .val (.ref aS)] [(.ref aS)]))
                exact Dn.ret X72 hlk hx hret rfl (Or.inr (Or.inr (Or.inr (Or.inr ⟨rfl, rfl, rfl⟩)))) (hb hby d1_85) (by rw [e72]; exact ⟨congrArg some (by unfold own_side; rw [if_neg (by omega), if_neg (by omega), if_neg (by omega), if_pos (by omega)]), N0, rfl⟩) (by decide) (by decide)
              · have hi69 := mt (c3_gt _ _).mpr hc69
                refine Dn.st (fun _ kk => XS.ifYes X0.here hx rfl (pc0 := 69) (pc' := 80) rfl (hb hby d1_69) rfl ((if0 _ _).trans (flt hc69).2.2.2) (by decide) (by decide) (XS.aconstNull X0.here hx rfl (hb hby d1_80) (XS.astore X0.here hx rfl (hb hby d1_81) rfl rfl (l' := #[.val (.double xx), .second, .val (.double yy), .second, .val .null]) rfl (XS.aload X0.here hx rfl (hb hby d1_83) rfl rfl (kk))))) ?_
                show Dn p e below s _ _ _ (s₁.setTop (mkF m 85 #[.val (.double xx), .second, .val (.double yy), .second, .val .null] [.null]))
                exact Dn.ret X0 hlk hx hret rfl (Or.inr (Or.inr (Or.inr (Or.inr ⟨rfl, rfl, rfl⟩)))) (hb hby d1_85) (by rw [e0]; exact ⟨congrArg some (by unfold own_side; rw [if_neg (by omega), if_neg (by omega), if_neg (by omega), if_neg (by omega)]), N0, rfl⟩) (by decide) (by decide)
            · have hi63 := mt (c3_eq _ _).mpr hc63
              refine Dn.st (fun _ kk => XS.ifYes X0.here hx rfl (pc0 := 63) (pc' := 80) rfl (hb hby d1_63) rfl ((if0 _ _).trans (feq hc63).2) (by decide) (by decide) (XS.aconstNull X0.here hx rfl (hb hby d1_80) (XS.astore X0.here hx rfl (hb hby d1_81) rfl rfl (l' := #[.val (.double xx), .second, .val (.double yy), .second, .val .null]) rfl (XS.aload X0.here hx rfl (hb hby d1_83) rfl rfl (kk))))) ?_
              show Dn p e below s _ _ _ (s₁.setTop (mkF m 85 #[.val (.double xx), .second, .val (.double yy), .second, .val .null] [.null]))
              exact Dn.ret X0 hlk hx hret rfl (Or.inr (Or.inr (Or.inr (Or.inr ⟨rfl, rfl, rfl⟩)))) (hb hby d1_85) (by rw [e0]; exact ⟨congrArg some (by unfold own_side; rw [if_neg (by omega), if_neg (by omega), if_neg (by omega), if_neg (by omega)]), N0, rfl⟩) (by decide) (by decide)
      · have hi23 := mt (c3_eq _ _).mpr hc23
        refine Dn.st (fun _ kk => XS.ifYes X0.here hx rfl (pc0 := 23) (pc' := 40) rfl (hb hby d1_23) rfl ((if0 _ _).trans (feq hc23).2) (by decide) (by decide) (XS.dloadN X0.here hx rfl (hb hby d1_40) rfl  (XS.dconst0 X0.here hx rfl (hb hby d1_41) rfl (XS.dcmpS X0.here hx rfl (hb hby d1_42) rfl (show cmpValue (FP.dcmp xx FP.dconst0) .l = (c3 ix 0) from (DS.cmpV dx (DS.zero tt) _)) (kk))))) ?_
        show Dn p e below s _ _ _ (s₁.setTop (mkF m 43 #[.val (.double xx), .second, .val (.double yy), .second, .unset] [(.int (c3 ix 0))]))
        by_cases hc43 : (c3 ix 0) = (0 : Int32)
        · have hi43 := (c3_eq _ _).mp hc43
          refine Dn.st (fun _ kk => XS.ifNo X0.here hx rfl (hb hby d1_43) rfl ((if0 _ _).trans (teq hc43).2) (XS.dloadN X0.here hx rfl (hb hby d1_46) rfl  (XS.dconst0 X0.here hx rfl (hb hby d1_47) rfl (XS.dcmpS X0.here hx rfl (hb hby d1_48) rfl (show cmpValue (FP.dcmp yy FP.dconst0) .g = (c3 iy 0) from (DS.cmpV dy (DS.zero tt) _)) (kk))))) ?_
          show Dn p e below s _ _ _ (s₁.setTop (mkF m 49 #[.val (.double xx), .second, .val (.double yy), .second, .unset] [(.int (c3 iy 0))]))
          by_cases hc49 : (c3 iy 0) < (0 : Int32)
          · have hi49 := (c3_lt _ _).mp hc49
            refine Dn.st (fun _ kk => XS.ifNo X0.here hx rfl (hb hby d1_49) rfl ((if0 _ _).trans (tlt hc49).2.1) (kk)) ?_
            show Dn p e below s _ _ _ (s₁.setTop (mkF m 52 #[.val (.double xx), .second, .val (.double yy), .second, .unset] []))
            obtain ⟨T52, X52, e52, st52⟩ := getS2 X0 hx hZ hown (host := "") (Or.inl (hw _ (List.mem_of_getElem? (i := 18) rfl))) Via.refl e0 S_NORTH (g := (mkF m 52 #[.val (.double xx), .second, .val (.double yy), .second, .unset] [])) rfl (hb hby d1_52)
            refine Dn.st st52 ?_
            show Dn p e below s _ _ _ (T52.setTop (mkF m 55 #[.val (.double xx), .second, .val (.double yy), .second, .unset] [(.ref aN)]))
            refine Dn.st (fun _ kk => XS.astore X52.here hx rfl (hb hby d1_55) rfl rfl (l' := #[.val (.double xx), .second, .val (.double yy), .second, .val (.ref aN)]) rfl (XS.goto X52.here hx rfl (pc0 := 57) (pc' := 83) rfl (hb hby d1_57) (by decide) (by decide) (XS.aload X52.here hx rfl (hb hby d1_83) rfl rfl (kk)))) ?_
            show Dn p e below s _ _ _ (T52.setTop (mkF m 85 #[.val (.double xx), .second, .val (.double yy), .second, .val (.ref aN)] [(.ref aN)]))
            exact Dn.ret X52 hlk hx hret rfl (Or.inr (Or.inr (Or.inr (Or.inr ⟨rfl, rfl, rfl⟩)))) (hb hby d1_85) (by rw [e52]; exact ⟨congrArg some (by unfold own_side; rw [if_neg (by omega), if_neg (by omega), if_pos (by omega)]), N0, rfl⟩) (by decide) (by decide)
          · have hi49 := mt (c3_lt _ _).mpr hc49
            refine Dn.st (fun _ kk => XS.ifYes X0.here hx rfl (pc0 := 49) (pc' := 60) rfl (hb hby d1_49) rfl ((if0 _ _).trans (flt hc49).2.1) (by decide) (by decide) (XS.dloadN X0.here hx rfl (hb hby d1_60) rfl  (XS.dconst0 X0.here hx rfl (hb hby d1_61) rfl (XS.dcmpS X0.here hx rfl (hb hby d1_62) rfl (show cmpValue (FP.dcmp xx FP.dconst0) .l = (c3 ix 0) from (DS.cmpV dx (DS.zero tt) _)) (kk))))) ?_
            show Dn p e below s _ _ _ (s₁.setTop (mkF m 63 #[.val (.double xx), .second, .val (.double yy), .second, .unset] [(.int (c3 ix 0))]))
            by_cases hc63 : (c3 ix 0) = (0 : Int32)
            · have hi63 := (c3_eq _ _).mp hc63
              refine Dn.st (fun _ kk => XS.ifNo X0.here hx rfl (hb hby d1_63) rfl ((if0 _ _).trans (teq hc63).2) (XS.dloadN X0.here hx rfl (hb hby d1_66) rfl  (XS.dconst0 X0.here hx rfl (hb hby d1_67) rfl (XS.dcmpS X0.here hx rfl (hb hby d1_68) rfl (show cmpValue (FP.dcmp yy FP.dconst0) .l = (c3 iy 0) from (DS.cmpV dy (DS.zero tt) _)) (kk))))) ?_
              show Dn p e below s _ _ _ (s₁.setTop (mkF m 69 #[.val (.double xx), .second, .val (.double yy), .second, .unset] [(.int (c3 iy 0))]))
              by_cases hc69 : (0 : Int32) < (c3 iy 0)
              · have hi69 := (c3_gt _ _).mp hc69
                refine Dn.st (fun _ kk => XS.ifNo X0.here hx rfl (hb hby d1_69) rfl ((if0 _ _).trans (tlt hc69).2.2.2) (kk)) ?_
                show Dn p e below s _ _ _ (s₁.setTop (mkF m 72 #[.val (.double xx), .second, .val (.double yy), .second, .unset] []))
                obtain ⟨T72, X72, e72, st72⟩ := getS2 X0 hx hZ hown (host := "") (Or.inl (hw _ (List.mem_of_getElem? (i := 12) rfl))) Via.refl e0 S_SOUTH (g := (mkF m 72 #[.val (.double xx), .second, .val (.double yy), .second, .unset] [])) rfl (hb hby d1_72)
                refine Dn.st st72 ?_
                show Dn p e below s _ _ _ (T72.setTop (mkF m 75 #[.val (.double xx), .second, .val (.double yy), .second, .unset] [(.ref aS)]))
                refine Dn.st (fun _ kk => XS.astore X72.here hx rfl (hb hby d1_75) rfl rfl (l' := #[.val (.double xx), .second, .val (.double yy), .second, .val (.ref aS)]) rfl (XS.goto X72.here hx rfl (pc0 := 77) (pc' := 83) rfl (hb hby d1_77) (by decide) (by decide) (XS.aload X72.here hx rfl (hb hby d1_83) rfl rfl (kk)))) ?_
                show Dn p e below s _ _ _ (T72.setTop (mkF m 85 #[.val (.double xx), .second, .val (.double yy), .second, .val (.ref aS)] [(.ref aS)]))
                exact Dn.ret X72 hlk hx hret rfl (Or.inr (Or.inr (Or.inr (Or.inr ⟨rfl, rfl, rfl⟩)))) (hb hby d1_85) (by rw [e72]; exact ⟨congrArg some (by unfold own_side; rw [if_neg (by omega), if_neg (by omega), if_neg (by omega), if_pos (by omega)]), N0, rfl⟩) (by decide) (by decide)
              · have hi69 := mt (c3_gt _ _).mpr hc69
                refine Dn.st (fun _ kk => XS.ifYes X0.here hx rfl (pc0 := 69) (pc' := 80) rfl (hb hby d1_69) rfl ((if0 _ _).trans (flt hc69).2.2.2) (by decide) (by decide) (XS.aconstNull X0.here hx rfl (hb hby d1_80) (XS.astore X0.here hx rfl (hb hby d1_81) rfl rfl (l' := #[.val (.double xx), .second, .val (.double yy), .second, .val .null]) rfl (XS.aload X0.here hx rfl (hb hby d1_83) rfl rfl (kk))))) ?_
                show Dn p e below s _ _ _ (s₁.setTop (mkF m 85 #[.val (.double xx), .second, .val (.double yy), .second, .val .null] [.null]))
                exact Dn.ret X0 hlk hx hret rfl (Or.inr (Or.inr (Or.inr (Or.inr ⟨rfl, rfl, rfl⟩)))) (hb hby d1_85) (by rw [e0]; exact ⟨congrArg some (by unfold own_side; rw [if_neg (by omega), if_neg (by omega), if_neg (by omega), if_neg (by omega)]), N0, rfl⟩) (by decide) (by decide)
            · have hi63 := mt (c3_eq _ _).mpr hc63
              refine Dn.st (fun _ kk => XS.ifYes X0.here hx rfl (pc0 := 63) (pc' := 80) rfl (hb hby d1_63) rfl ((if0 _ _).trans (feq hc63).2) (by decide) (by decide) (XS.aconstNull X0.here hx rfl (hb hby d1_80) (XS.astore X0.here hx rfl (hb hby d1_81) rfl rfl (l' := #[.val (.double xx), .second, .val (.double yy), .second, .val .null]) rfl (XS.aload X0.here hx rfl (hb hby d1_83) rfl rfl (kk))))) ?_
              show Dn p e below s _ _ _ (s₁.setTop (mkF m 85 #[.val (.double xx), .second, .val (.double yy), .second, .val .null] [.null]))
              exact Dn.ret X0 hlk hx hret rfl (Or.inr (Or.inr (Or.inr (Or.inr ⟨rfl, rfl, rfl⟩)))) (hb hby d1_85) (by rw [e0]; exact ⟨congrArg some (by unfold own_side; rw [if_neg (by omega), if_neg (by omega), if_neg (by omega), if_neg (by omega)]), N0, rfl⟩) (by decide) (by decide)
        · have hi43 := mt (c3_eq _ _).mpr hc43
          refine Dn.st (fun _ kk => XS.ifYes X0.here hx rfl (pc0 := 43) (pc' := 60) rfl (hb hby d1_43) rfl ((if0 _ _).trans (feq hc43).2) (by decide) (by decide) (XS.dloadN X0.here hx rfl (hb hby d1_60) rfl  (XS.dconst0 X0.here hx rfl (hb hby d1_61) rfl (XS.dcmpS X0.here hx rfl (hb hby d1_62) rfl (show cmpValue (FP.dcmp xx FP.dconst0) .l = (c3 ix 0) from (DS.cmpV dx (DS.zero tt) _)) (kk))))) ?_
          show Dn p e below s _ _ _ (s₁.setTop (mkF m 63 #[.val (.double xx), .second, .val (.double yy), .second, .unset] [(.int (c3 ix 0))]))
          by_cases hc63 : (c3 ix 0) = (0 : Int32)
          · have hi63 := (c3_eq _ _).mp hc63
            refine Dn.st (fun _ kk => XS.ifNo X0.here hx rfl (hb hby d1_63) rfl ((if0 _ _).trans (teq hc63).2) (XS.dloadN X0.here hx rfl (hb hby d1_66) rfl  (XS.dconst0 X0.here hx rfl (hb hby d1_67) rfl (XS.dcmpS X0.here hx rfl (hb hby d1_68) rfl (show cmpValue (FP.dcmp yy FP.dconst0) .l = (c3 iy 0) from (DS.cmpV dy (DS.zero tt) _)) (kk))))) ?_
            show Dn p e below s _ _ _ (s₁.setTop (mkF m 69 #[.val (.double xx), .second, .val (.double yy), .second, .unset] [(.int (c3 iy 0))]))
            by_cases hc69 : (0 : Int32) < (c3 iy 0)
            · have hi69 := (c3_gt _ _).mp hc69
              refine Dn.st (fun _ kk => XS.ifNo X0.here hx rfl (hb hby d1_69) rfl ((if0 _ _).trans (tlt hc69).2.2.2) (kk)) ?_
              show Dn p e below s _ _ _ (s₁.setTop (mkF m 72 #[.val (.double xx), .second, .val (.double yy), .second, .unset] []))
              obtain ⟨T72, X72, e72, st72⟩ := getS2 X0 hx hZ hown (host := "") (Or.inl (hw _ (List.mem_of_getElem? (i := 12) rfl))) Via.refl e0 S_SOUTH (g := (mkF m 72 #[.val (.double xx), .second, .val (.double yy), .second, .unset] [])) rfl (hb hby d1_72)
              refine Dn.st st72 ?_
              show Dn p e below s _ _ _ (T72.setTop (mkF m 75 #[.val (.double xx), .second, .val (.double yy), .second, .unset] [(.ref aS)]))
              refine Dn.st (fun _ kk => XS.astore X72.here hx rfl (hb hby d1_75) rfl rfl (l' := #[.val (.double xx), .second, .val (.double yy), .second, .val (.ref aS)]) rfl (XS.goto X72.here hx rfl (pc0 := 77) (pc' := 83) rfl (hb hby d1_77) (by decide) (by decide) (XS.aload X72.here hx rfl (hb hby d1_83) rfl rfl (kk)))) ?_
              show Dn p e below s _ _ _ (T72.setTop (mkF m 85 #[.val (.double xx), .second, .val (.double yy), .second, .val (.ref aS)] [(.ref aS)]))
              exact Dn.ret X72 hlk hx hret rfl (Or.inr (Or.inr (Or.inr (Or.inr ⟨rfl, rfl, rfl⟩)))) (hb hby d1_85) (by rw [e72]; exact ⟨congrArg some (by unfold own_side; rw [if_neg (by omega), if_neg (by omega), if_neg (by omega), if_pos (by omega)]), N0, rfl⟩) (by decide) (by decide)
            · have hi69 := mt (c3_gt _ _).mpr hc69
              refine Dn.st (fun _ kk => XS.ifYes X0.here hx rfl (pc0 := 69) (pc' := 80) rfl (hb hby d1_69) rfl ((if0 _ _).trans (flt hc69).2.2.2) (by decide) (by decide) (XS.aconstNull X0.here hx rfl (hb hby d1_80) (XS.astore X0.here hx rfl (hb hby d1_81) rfl rfl (l' := #[.val (.double xx), .second, .val (.double yy), .second, .val .null]) rfl (XS.aload X0.here hx rfl (hb hby d1_83) rfl rfl (kk))))) ?_
              show Dn p e below s _ _ _ (s₁.setTop (mkF m 85 #[.val (.double xx), .second, .val (.double yy), .second, .val .null] [.null]))
              exact Dn.ret X0 hlk hx hret rfl (Or.inr (Or.inr (Or.inr (Or.inr ⟨rfl, rfl, rfl⟩)))) (hb hby d1_85) (by rw [e0]; exact ⟨congrArg some (by unfold own_side; rw [if_neg (by omega), if_neg (by omega), if_neg (by omega), if_neg (by omega)]), N0, rfl⟩) (by decide) (by decide)
          · have hi63 := mt (c3_eq _ _).mpr hc63
            refine Dn.st (fun _ kk => XS.ifYes X0.here hx rfl (pc0 := 63) (pc' := 80) rfl (hb hby d1_63) rfl ((if0 _ _).trans (feq hc63).2) (by decide) (by decide) (XS.aconstNull X0.here hx rfl (hb hby d1_80) (XS.astore X0.here hx rfl (hb hby d1_81) rfl rfl (l' := #[.val (.double xx), .second, .val (.double yy), .second, .val .null]) rfl (XS.aload X0.here hx rfl (hb hby d1_83) rfl rfl (kk))))) ?_
            show Dn p e below s _ _ _ (s₁.setTop (mkF m 85 #[.val (.double xx), .second, .val (.double yy), .second, .val .null] [.null]))
            exact Dn.ret X0 hlk hx hret rfl (Or.inr (Or.inr (Or.inr (Or.inr ⟨rfl, rfl, rfl⟩)))) (hb hby d1_85) (by rw [e0]; exact ⟨congrArg some (by unfold own_side; rw [if_neg (by omega), if_neg (by omega), if_neg (by omega), if_neg (by omega)]), N0, rfl⟩) (by decide) (by decide)
  · have hi3 := mt (c3_eq _ _).mpr hc3
    refine Dn.st (fun _ kk => XS.ifYes X0.here hx rfl (pc0 := 3) (pc' := 20) rfl (hb hby d1_3) rfl ((if0 _ _).trans (feq hc3).2) (by decide) (by decide) (XS.dloadN X0.here hx rfl (hb hby d1_20) rfl  (XS.dconst0 X0.here hx rfl (hb hby d1_21) rfl (XS.dcmpS X0.here hx rfl (hb hby d1_22) rfl (show cmpValue (FP.dcmp yy FP.dconst0) .l = (c3 iy 0) from (DS.cmpV dy (DS.zero tt) _)) (kk))))) ?_
    show Dn p e below s _ _ _ (s₁.setTop (mkF m 23 #[.val (.double xx), .second, .val (.double yy), .second, .unset] [(.int (c3 iy 0))]))
    by_cases hc23 : (c3 iy 0) = (0 : Int32)
    · have hi23 := (c3_eq _ _).mp hc23
      refine Dn.st (fun _ kk => XS.ifNo X0.here hx rfl (hb hby d1_23) rfl ((if0 _ _).trans (teq hc23).2) (XS.dloadN X0.here hx rfl (hb hby d1_26) rfl  (XS.dconst0 X0.here hx rfl (hb hby d1_27) rfl (XS.dcmpS X0.here hx rfl (hb hby d1_28) rfl (show cmpValue (FP.dcmp xx FP.dconst0) .l = (c3 ix 0) from (DS.cmpV dx (DS.zero tt) _)) (kk))))) ?_
      show Dn p e below s _ _ _ (s₁.setTop (mkF m 29 #[.val (.double xx), .second, .val (.double yy), .second, .unset] [(.int (c3 ix 0))]))
      by_cases hc29 : (0 : Int32) < (c3 ix 0)
      · have hi29 := (c3_gt _ _).mp hc29
        refine Dn.st (fun _ kk => XS.ifNo X0.here hx rfl (hb hby d1_29) rfl ((if0 _ _).trans (tlt hc29).2.2.2) (kk)) ?_
        show Dn p e below s _ _ _ (s₁.setTop (mkF m 32 #[.val (.double xx), .second, .val (.double yy), .second, .unset] []))
        obtain ⟨T32, X32, e32, st32⟩ := getS2 X0 hx hZ hown (host := "") (Or.inl (hw _ (List.mem_of_getElem? (i := 9) rfl))) Via.refl e0 S_EAST (g := (mkF m 32 #[.val (.double xx), .second, .val (.double yy), .second, .unset] [])) rfl (hb hby d1_32)
        refine Dn.st st32 ?_
        show Dn p e below s _ _ _ (T32.setTop (mkF m 35 #[.val (.double xx), .second, .val (.double yy), .second, .unset] [(.ref aE)]))
        refine Dn.st (fun _ kk => XS.astore X32.here hx rfl (hb hby d1_35) rfl rfl (l' := #[.val (.double xx), .second, .val (.double yy), .second, .val (.ref aE)]) rfl (XS.goto X32.here hx rfl (pc0 := 37) (pc' := 83) rfl (hb hby d1_37) (by decide) (by decide) (XS.aload X32.here hx rfl (hb hby d1_83) rfl rfl (kk)))) ?_
        show Dn p e below s _ _ _ (T32.setTop (mkF m 85 #[.val (.double xx), .second, .val (.double yy), .second, .val (.ref aE)] [(.ref aE)]))
        exact Dn.ret X32 hlk hx hret rfl (Or.inr (Or.inr (Or.inr (Or.inr ⟨rfl, rfl, rfl⟩)))) (hb hby d1_85) (by rw [e32]; exact ⟨congrArg some (by unfold own_side; rw [if_neg (by omega), if_pos (by omega)]), N0, rfl⟩) (by decide) (by decide)
      · have hi29 := mt (c3_gt _ _).mpr hc29
        refine Dn.st (fun _ kk => XS.ifYes X0.here hx rfl (pc0 := 29) (pc' := 40) rfl (hb hby d1_29) rfl ((if0 _ _).trans (flt hc29).2.2.2) (by decide) (by decide) (XS.dloadN X0.here hx rfl (hb hby d1_40) rfl  (XS.dconst0 X0.here hx rfl (hb hby d1_41) rfl (XS.dcmpS X0.here hx rfl (hb hby d1_42) rfl (show cmpValue (FP.dcmp xx FP.dconst0) .l = (c3 ix 0) from (DS.cmpV dx (DS.zero tt) _)) (kk))))) ?_
        show Dn p e below s _ _ _ (s₁.setTop (mkF m 43 #[.val (.double xx), .second, .val (.double yy), .second, .unset] [(.int (c3 ix 0))]))
        by_cases hc43 : (c3 ix 0) = (0 : Int32)
        · have hi43 := (c3_eq _ _).mp hc43
          refine Dn.st (fun _ kk => XS.ifNo X0.here hx rfl (hb hby d1_43) rfl ((if0 _ _).trans (teq hc43).2) (XS.dloadN X0.here hx rfl (hb hby d1_46) rfl  (XS.dconst0 X0.here hx rfl (hb hby d1_47) rfl (XS.dcmpS X0.here hx rfl (hb hby d1_48) rfl (show cmpValue (FP.dcmp yy FP.dconst0) .g = (c3 iy 0) from (DS.cmpV dy (DS.zero tt) _)) (kk))))) ?_
          show Dn p e below s _ _ _ (s₁.setTop (mkF m 49 #[.val (.double xx), .second, .val (.double yy), .second, .unset] [(.int (c3 iy 0))]))
          by_cases hc49 : (c3 iy 0) < (0 : Int32)
          · have hi49 := (c3_lt _ _).mp hc49
            refine Dn.st (fun _ kk => XS.ifNo X0.here hx rfl (hb hby d1_49) rfl ((if0 _ _).trans (tlt hc49).2.1) (kk)) ?_
            show Dn p e below s _ _ _ (s₁.setTop (mkF m 52 #[.val (.double xx), .second, .val (.double yy), .second, .unset] []))
            obtain ⟨T52, X52, e52, st52⟩ := getS2 X0 hx hZ hown (host := "") (Or.inl (hw _ (List.mem_of_getElem? (i := 18) rfl))) Via.refl e0 S_NORTH (g := (mkF m 52 #[.val (.double xx), .second, .val (.double yy), .second, .unset] [])) rfl (hb hby d1_52)
            refine Dn.st st52 ?_
            show Dn p e below s _ _ _ (T52.setTop (mkF m 55 #[.val (.double xx), .second, .val (.double yy), .second, .unset] [(.ref aN)]))
            refine Dn.st (fun _ kk => XS.astore X52.here hx rfl (hb hby d1_55) rfl rfl (l' := #[.val (.double xx), .second, .val (.double yy), .second, .val (.ref aN)]) rfl (XS.goto X52.here hx rfl (pc0 := 57) (pc' := 83) rfl (hb hby d1_57) (by decide) (by decide) (XS.aload X52.here hx rfl (hb hby d1_83) rfl rfl (kk)))) ?_
            show Dn p e below s _ _ _ (T52.setTop (mkF m 85 #[.val (.double xx), .second, .val (.double yy), .second, .val (.ref aN)] [(.ref aN)]))
            exact Dn.ret X52 hlk hx hret rfl (Or.inr (Or.inr (Or.inr (Or.inr ⟨rfl, rfl, rfl⟩)))) (hb hby d1_85) (by rw [e52]; exact ⟨congrArg some (by unfold own_side; rw [if_neg (by omega), if_neg (by omega), if_pos (by omega)]), N0, rfl⟩) (by decide) (by decide)
          · have hi49 := mt (c3_lt _ _).mpr hc49
            refine Dn.st (fun _ kk => XS.ifYes X0.here hx rfl (pc0 := 49) (pc' := 60) rfl (hb hby d1_49) rfl ((if0 _ _).trans (flt hc49).2.1) (by decide) (by decide) (XS.dloadN X0.here hx rfl (hb hby d1_60) rfl  (XS.dconst0 X0.here hx rfl (hb hby d1_61) rfl (XS.dcmpS X0.here hx rfl (hb hby d1_62) rfl (show cmpValue (FP.dcmp xx FP.dconst0) .l = (c3 ix 0) from (DS.cmpV dx (DS.zero tt) _)) (kk))))) ?_
            show Dn p e below s _ _ _ (s₁.setTop (mkF m 63 #[.val (.double xx), .second, .val (.double yy), .second, .unset] [(.int (c3 ix 0))]))
            by_cases hc63 : (c3 ix 0) = (0 : Int32)
            · have hi63 := (c3_eq _ _).mp hc63
              refine Dn.st (fun _ kk => XS.ifNo X0.here hx rfl (hb hby d1_63) rfl ((if0 _ _).trans (teq hc63).2) (XS.dloadN X0.here hx rfl (hb hby d1_66) rfl  (XS.dconst0 X0.here hx rfl (hb hby d1_67) rfl (XS.dcmpS X0.here hx rfl (hb hby d1_68) rfl (show cmpValue (FP.dcmp yy FP.dconst0) .l = (c3 iy 0) from (DS.cmpV dy (DS.zero tt) _)) (kk))))) ?_
              show Dn p e below s _ _ _ (s₁.setTop (mkF m 69 #[.val (.double xx), .second, .val (.double yy), .second, .unset] [(.int (c3 iy 0))]))
              by_cases hc69 : (0 : Int32) < (c3 iy 0)
              · have hi69 := (c3_gt _ _).mp hc69
                refine Dn.st (fun _ kk => XS.ifNo X0.here hx rfl (hb hby d1_69) rfl ((if0 _ _).trans (tlt hc69).2.2.2) (kk)) ?_
                show Dn p e below s _ _ _ (s₁.setTop (mkF m 72 #[.val (.double xx), .second, .val (.double yy), .second, .unset] []))
                obtain ⟨T72, X72, e72, st72⟩ := getS2 X0 hx hZ hown (host := "") (Or.inl (hw _ (List.mem_of_getElem? (i := 12) rfl))) Via.refl e0 S_SOUTH (g := (mkF m 72 #[.val (.double xx), .second, .val (.double yy), .second, .unset] [])) rfl (hb hby d1_72)
                refine Dn.st st72 ?_
                show Dn p e below s _ _ _ (T72.setTop (mkF m 75 #[.val (.double xx), .second, .val (.double yy), .second, .unset] [(.ref aS)]))
                refine Dn.st (fun _ kk => XS.astore X72.here hx rfl (hb hby d1_75) rfl rfl (l' := #[.val (.double xx), .second, .val (.double yy), .second, .val (.ref aS)]) rfl (XS.goto X72.here hx rfl (pc0 := 77) (pc' := 83) rfl (hb hby d1_77) (by decide) (by decide) (XS.aload X72.here hx rfl (hb hby d1_83) rfl rfl (kk)))) ?_
                show Dn p e below s _ _ _ (T72.setTop (mkF m 85 #[.val (.double xx), .second, .val (.double yy), .second, .val (.ref aS)] [(.ref aS)]))
                exact Dn.ret X72 hlk hx hret rfl (Or.inr (Or.inr (Or.inr (Or.inr ⟨rfl, rfl, rfl⟩)))) (hb hby d1_85) (by rw [e72]; exact ⟨congrArg some (by unfold own_side; rw [if_neg (by omega), if_neg (by omega), if_neg (by omega), if_pos (by omega)]), N0, rfl⟩) (by decide) (by decide)
              · have hi69 := mt (c3_gt _ _).mpr hc69
                refine Dn.st (fun _ kk => XS.ifYes X0.here hx rfl (pc0 := 69) (pc' := 80) rfl (hb hby d1_69) rfl ((if0 _ _).trans (flt hc69).2.2.2) (by decide) (by decide) (XS.aconstNull X0.here hx rfl (hb hby d1_80) (XS.astore X0.here hx rfl (hb hby d1_81) rfl rfl (l' := #[.val (.double xx), .second, .val (.double yy), .second, .val .null]) rfl (XS.aload X0.here hx rfl (hb hby d1_83) rfl rfl (kk))))) ?_
                show Dn p e below s _ _ _ (s₁.setTop (mkF m 85 #[.val (.double xx), .second, .val (.double yy), .second, .val .null] [.null]))
                exact Dn.ret X0 hlk hx hret rfl (Or.inr (Or.inr (Or.inr (Or.inr ⟨rfl, rfl, rfl⟩)))) (hb hby d1_85) (by rw [e0]; exact ⟨congrArg some (by unfold own_side; rw [if_neg (by omega), if_neg (by omega), if_neg (by omega), if_neg (by omega)]), N0, rfl⟩) (by decide) (by decide)
            · have hi63 := mt (c3_eq _ _).mpr hc63
              refine Dn.st (fun _ kk => XS.ifYes X0.here hx rfl (pc0 := 63) (pc' := 80) rfl (hb hby d1_63) rfl ((if0 _ _).trans (feq hc63).2) (by decide) (by decide) (XS.aconstNull X0.here hx rfl (hb hby d1_80) (XS.astore X0.here hx rfl (hb hby d1_81) rfl rfl (l' := #[.val (.double xx), .second, .val (.double yy), .second, .val .null]) rfl (XS.aload X0.here hx rfl (hb hby d1_83) rfl rfl (kk))))) ?_
              show Dn p e below s _ _ _ (s₁.setTop (mkF m 85 #[.val (.double xx), .second, .val (.double yy), .second, .val .null] [.null]))
              exact Dn.ret X0 hlk hx hret rfl (Or.inr (Or.inr (Or.inr (Or.inr ⟨rfl, rfl, rfl⟩)))) (hb hby d1_85) (by rw [e0]; exact ⟨congrArg some (by unfold own_side; rw [if_neg (by omega), if_neg (by omega), if_neg (by omega), if_neg (by omega)]), N0, rfl⟩) (by decide) (by decide)
        · have hi43 := mt (c3_eq _ _).mpr hc43
          refine Dn.st (fun _ kk => XS.ifYes X0.here hx rfl (pc0 := 43) (pc' := 60) rfl (hb hby d1_43) rfl ((if0 _ _).trans (feq hc43).2) (by decide) (by decide) (XS.dloadN X0.here hx rfl (hb hby d1_60) rfl  (XS.dconst0 X0.here hx rfl (hb hby d1_61) rfl (XS.dcmpS X0.here hx rfl (hb hby d1_62) rfl (show cmpValue (FP.dcmp xx FP.dconst0) .l = (c3 ix 0) from (DS.cmpV dx (DS.zero tt) _)) (kk))))) ?_
          show Dn p e below s _ _ _ (s₁.setTop (mkF m 63 #[.val (.double xx), .second, .val (.double yy), .second, .unset] [(.int (c3 ix 0))]))
          by_cases hc63 : (c3 ix 0) = (0 : Int32)
          · have hi63 := (c3_eq _ _).mp hc63
            refine Dn.st (fun _ kk => XS.ifNo X0.here hx rfl (hb hby d1_63) rfl ((if0 _ _).trans (teq hc63).2) (XS.dloadN X0.here hx rfl (hb hby d1_66) rfl  (XS.dconst0 X0.here hx rfl (hb hby d1_67) rfl (XS.dcmpS X0.here hx rfl (hb hby d1_68) rfl (show cmpValue (FP.dcmp yy FP.dconst0) .l = (c3 iy 0) from (DS.cmpV dy (DS.zero tt) _)) (kk))))) ?_
            show Dn p e below s _ _ _ (s₁.setTop (mkF m 69 #[.val (.double xx), .second, .val (.double yy), .second, .unset] [(.int (c3 iy 0))]))
            by_cases hc69 : (0 : Int32) < (c3 iy 0)
            · have hi69 := (c3_gt _ _).mp hc69
              refine Dn.st (fun _ kk => XS.ifNo X0.here hx rfl (hb hby d1_69) rfl ((if0 _ _).trans (tlt hc69).2.2.2) (kk)) ?_
              show Dn p e below s _ _ _ (s₁.setTop (mkF m 72 #[.val (.double xx), .second, .val (.double yy), .second, .unset] []))
              obtain ⟨T72, X72, e72, st72⟩ := getS2 X0 hx hZ hown (host := "") (Or.inl (hw _ (List.mem_of_getElem? (i := 12) rfl))) Via.refl e0 S_SOUTH (g := (mkF m 72 #[.val (.double xx), .second, .val (.double yy), .second, .unset] [])) rfl (hb hby d1_72)
              refine Dn.st st72 ?_
              show Dn p e below s _ _ _ (T72.setTop (mkF m 75 #[.val (.double xx), .second, .val (.double yy), .second, .unset] [(.ref aS)]))
              refine Dn.st (fun _ kk => XS.astore X72.here hx rfl (hb hby d1_75) rfl rfl (l' := #[.val (.double xx), .second, .val (.double yy), .second, .val (.ref aS)]) rfl (XS.goto X72.here hx rfl (pc0 := 77) (pc' := 83) rfl (hb hby d1_77) (by decide) (by decide) (XS.aload X72.here hx rfl (hb hby d1_83) rfl rfl (kk)))) ?_
              show Dn p e below s _ _ _ (T72.setTop (mkF m 85 #[.val (.double xx), .second, .val (.double yy), .second, .val (.ref aS)] [(.ref aS)]))
              exact Dn.ret X72 hlk hx hret rfl (Or.inr (Or.inr (Or.inr (Or.inr ⟨rfl, rfl, rfl⟩)))) (hb hby d1_85) (by rw [e72]; exact ⟨congrArg some (by unfold own_side; rw [if_neg (by omega), if_neg (by omega), if_neg (by omega), if_pos (by omega)]), N0, rfl⟩) (by decide) (by decide)
            · have hi69 := mt (c3_gt _ _).mpr hc69
              refine Dn.st (fun _ kk => XS.ifYes X0.here hx rfl (pc0 := 69) (pc' := 80) rfl (hb hby d1_69) rfl ((if0 _ _).trans (flt hc69).2.2.2) (by decide) (by decide) (XS.aconstNull X0.here hx rfl (hb hby d1_80) (XS.astore X0.here hx rfl (hb hby d1_81) rfl rfl (l' := #[.val (.double xx), .second, .val (.double yy), .second, .val .null]) rfl (XS.aload X0.here hx rfl (hb hby d1_83) rfl rfl (kk))))) ?_
              show Dn p e below s _ _ _ (s₁.setTop (mkF m 85 #[.val (.double xx), .second, .val (.double yy), .second, .val .null] [.null]))
              exact Dn.ret X0 hlk hx hret rfl (Or.inr (Or.inr (Or.inr (Or.inr ⟨rfl, rfl, rfl⟩)))) (hb hby d1_85) (by rw [e0]; exact ⟨congrArg some (by unfold own_side; rw [if_neg (by omega), if_neg (by omega), if_neg (by omega), if_neg (by omega)]), N0, rfl⟩) (by decide) (by decide)
          · have hi63 := mt (c3_eq _ _).mpr hc63
            refine Dn.st (fun _ kk => XS.ifYes X0.here hx rfl (pc0 := 63) (pc' := 80) rfl (hb hby d1_63) rfl ((if0 _ _).trans (feq hc63).2) (by decide) (by decide) (XS.aconstNull X0.here hx rfl (hb hby d1_80) (XS.astore X0.here hx rfl (hb hby d1_81) rfl rfl (l' := #[.val (.double xx), .second, .val (.double yy), .second, .val .null]) rfl (XS.aload X0.here hx rfl (hb hby d1_83) rfl rfl (kk))))) ?_
            show Dn p e below s _ _ _ (s₁.setTop (mkF m 85 #[.val (.double xx), .second, .val (.double yy), .second, .val .null] [.null]))
            exact Dn.ret X0 hlk hx hret rfl (Or.inr (Or.inr (Or.inr (Or.inr ⟨rfl, rfl, rfl⟩)))) (hb hby d1_85) (by rw [e0]; exact ⟨congrArg some (by unfold own_side; rw [if_neg (by omega), if_neg (by omega), if_neg (by omega), if_neg (by omega)]), N0, rfl⟩) (by decide) (by decide)
    · have hi23 := mt (c3_eq _ _).mpr hc23
      refine Dn.st (fun _ kk => XS.ifYes X0.here hx rfl (pc0 := 23) (pc' := 40) rfl (hb hby d1_23) rfl ((if0 _ _).trans (feq hc23).2) (by decide) (by decide) (XS.dloadN X0.here hx rfl (hb hby d1_40) rfl  (XS.dconst0 X0.here hx rfl (hb hby d1_41) rfl (XS.dcmpS X0.here hx rfl (hb hby d1_42) rfl (show cmpValue (FP.dcmp xx FP.dconst0) .l = (c3 ix 0) from (DS.cmpV dx (DS.zero tt) _)) (kk))))) ?_
      show Dn p e below s _ _ _ (s₁.setTop (mkF m 43 #[.val (.double xx), .second, .val (.double yy), .second, .unset] [(.int (c3 ix 0))]))
      by_cases hc43 : (c3 ix 0) = (0 : Int32)
      · have hi43 := (c3_eq _ _).mp hc43
        refine Dn.st (fun _ kk => XS.ifNo X0.here hx rfl (hb hby d1_43) rfl ((if0 _ _).trans (teq hc43).2) (XS.dloadN X0.here hx rfl (hb hby d1_46) rfl  (XS.dconst0 X0.here hx rfl (hb hby d1_47) rfl (XS.dcmpS X0.here hx rfl (hb hby d1_48) rfl (show cmpValue (FP.dcmp yy FP.dconst0) .g = (c3 iy 0) from (DS.cmpV dy (DS.zero tt) _)) (kk))))) ?_
        show Dn p e below s _ _ _ (s₁.setTop (mkF m 49 #[.val (.double xx), .second, .val (.double yy), .second, .unset] [(.int (c3 iy 0))]))
        by_cases hc49 : (c3 iy 0) < (0 : Int32)
        · have hi49 := (c3_lt _ _).mp hc49
          refine Dn.st (fun _ kk => XS.ifNo X0.here hx rfl (hb hby d1_49) rfl ((if0 _ _).trans (tlt hc49).2.1) (kk)) ?_
          show Dn p e below s _ _ _ (s₁.setTop (mkF m 52 #[.val (.double xx), .second, .val (.double yy), .second, .unset] []))
          obtain ⟨T52, X52, e52, st52⟩ := getS2 X0 hx hZ hown (host := "") (Or.inl (hw _ (List.mem_of_getElem? (i := 18) rfl))) Via.refl e0 S_NORTH (g := (mkF m 52 #[.val (.double xx), .second, .val (.double yy), .second, .unset] [])) rfl (hb hby d1_52)
          refine Dn.st st52 ?_
          show Dn p e below s _ _ _ (T52.setTop (mkF m 55 #[.val (.double xx), .second, .val (.double yy), .second, .unset] [(.ref aN)]))
          refine Dn.st (fun _ kk => XS.astore X52.here hx rfl (hb hby d1_55) rfl rfl (l' := #[.val (.double xx), .second, .val (.double yy), .second, .val (.ref aN)]) rfl (XS.goto X52.here hx rfl (pc0 := 57) (pc' := 83) rfl (hb hby d1_57) (by decide) (by decide) (XS.aload X52.here hx rfl (hb hby d1_83) rfl rfl (kk)))) ?_
          show Dn p e below s _ _ _ (T52.setTop (mkF m 85 #[.val (.double xx), .second, .val (.double yy), .second, .val (.ref aN)] [(.ref aN)]))
          exact Dn.ret X52 hlk hx hret rfl (Or.inr (Or.inr (Or.inr (Or.inr ⟨rfl, rfl, rfl⟩)))) (hb hby d1_85) (by rw [e52]; exact ⟨congrArg some (by unfold own_side; rw [if_neg (by omega), if_neg (by omega), if_pos (by omega)]), N0, rfl⟩) (by decide) (by decide)
        · have hi49 := mt (c3_lt _ _).mpr hc49
          refine Dn.st (fun _ kk => XS.ifYes X0.here hx rfl (pc0 := 49) (pc' := 60) rfl (hb hby d1_49) rfl ((if0 _ _).trans (flt hc49).2.1) (by decide) (by decide) (XS.dloadN X0.here hx rfl (hb hby d1_60) rfl  (XS.dconst0 X0.here hx rfl (hb hby d1_61) rfl (XS.dcmpS X0.here hx rfl (hb hby d1_62) rfl (show cmpValue (FP.dcmp xx FP.dconst0) .l = (c3 ix 0) from (DS.cmpV dx (DS.zero tt) _)) (kk))))) ?_
          show Dn p e below s _ _ _ (s₁.setTop (mkF m 63 #[.val (.double xx), .second, .val (.double yy), .second, .unset] [(.int (c3 ix 0))]))
          by_cases hc63 : (c3 ix 0) = (0 : Int32)
          · have hi63 := (c3_eq _ _).mp hc63
            refine Dn.st (fun _ kk => XS.ifNo X0.here hx rfl (hb hby d1_63) rfl ((if0 _ _).trans (teq hc63).2) (XS.dloadN X0.here hx rfl (hb hby d1_66) rfl  (XS.dconst0 X0.here hx rfl (hb hby d1_67) rfl (XS.dcmpS X0.here hx rfl (hb hby d1_68) rfl (show cmpValue (FP.dcmp yy FP.dconst0) .l = (c3 iy 0) from (DS.cmpV dy (DS.zero tt) _)) (kk))))) ?_
            show Dn p e below s _ _ _ (s₁.setTop (mkF m 69 #[.val (.double xx), .second, .val (.double yy), .second, .unset] [(.int (c3 iy 0))]))
            by_cases hc69 : (0 : Int32) < (c3 iy 0)
            · have hi69 := (c3_gt _ _).mp hc69
              refine Dn.st (fun _ kk => XS.ifNo X0.here hx rfl (hb hby d1_69) rfl ((if0 _ _).trans (tlt hc69).2.2.2) (kk)) ?_
              show Dn p e below s _ _ _ (s₁.setTop (mkF m 72 #[.val (.double xx), .second, .val (.double yy), .second, .unset] []))
              obtain ⟨T72, X72, e72, st72⟩ := getS2 X0 hx hZ hown (host := "") (Or.inl (hw _ (List.mem_of_getElem? (i := 12) rfl))) Via.refl e0 S_SOUTH (g := (mkF m 72 #[.val (.double xx), .second, .val (.double yy), .second, .unset] [])) rfl (hb hby d1_72)
              refine Dn.st st72 ?_
              show Dn p e below s _ _ _ (T72.setTop (mkF m 75 #[.val (.double xx), .second, .val (.double yy), .second, .unset] [(.ref aS)]))
              refine Dn.st (fun _ kk => XS.astore X72.here hx rfl (hb hby d1_75) rfl rfl (l' := #[.val (.double xx), .second, .val (.double yy), .second, .val (.ref aS)]) rfl (XS.goto X72.here hx rfl (pc0 := 77) (pc' := 83) rfl (hb hby d1_77) (by decide) (by decide) (XS.aload X72.here hx rfl (hb hby d1_83) rfl rfl (kk)))) ?_
              show Dn p e below s _ _ _ (T72.setTop (mkF m 85 #[.val (.double xx), .second, .val (.double yy), .second, .val (.ref aS)] [(.ref aS)]))
              exact Dn.ret X72 hlk hx hret rfl (Or.inr (Or.inr (Or.inr (Or.inr ⟨rfl, rfl, rfl⟩)))) (hb hby d1_85) (by rw [e72]; exact ⟨congrArg some (by unfold own_side; rw [if_neg (by omega), if_neg (by omega), if_neg (by omega), if_pos (by omega)]), N0, rfl⟩) (by decide) (by decide)
            · have hi69 := mt (c3_gt _ _).mpr hc69
              refine Dn.st (fun _ kk => XS.ifYes X0.here hx rfl (pc0 := 69) (pc' := 80) rfl (hb hby d1_69) rfl ((if0 _ _).trans (flt hc69).2.2.2) (by decide) (by decide) (XS.aconstNull X0.here hx rfl (hb hby d1_80) (XS.astore X0.here hx rfl (hb hby d1_81) rfl rfl (l' := #[.val (.double xx), .second, .val (.double yy), .second, .val .null]) rfl (XS.aload X0.here hx rfl (hb hby d1_83) rfl rfl (kk))))) ?_
              show Dn p e below s _ _ _ (s₁.setTop (mkF m 85 #[.val (.double xx), .second, .val (.double yy), .second, .val .null] [.null]))
              exact Dn.ret X0 hlk hx hret rfl (Or.inr (Or.inr (Or.inr (Or.inr ⟨rfl, rfl, rfl⟩)))) (hb hby d1_85) (by rw [e0]; exact ⟨congrArg some (by unfold own_side; rw [if_neg (by omega), if_neg (by omega), if_neg (by omega), if_neg (by omega)]), N0, rfl⟩) (by decide) (by decide)
          · have hi63 := mt (c3_eq _ _).mpr hc63
            refine Dn.st (fun _ kk => XS.ifYes X0.here hx rfl (pc0 := 63) (pc' := 80) rfl (hb hby d1_63) rfl ((if0 _ _).trans (feq hc63).2) (by decide) (by decide) (XS.aconstNull X0.here hx rfl (hb hby d1_80) (XS.astore X0.here hx rfl (hb hby d1_81) rfl rfl (l' := #[.val (.double xx), .second, .val (.double yy), .second, .val .null]) rfl (XS.aload X0.here hx rfl (hb hby d1_83) rfl rfl (kk))))) ?_
            show Dn p e below s _ _ _ (s₁.setTop (mkF m 85 #[.val (.double xx), .second, .val (.double yy), .second, .val .null] [.null]))
            exact Dn.ret X0 hlk hx hret rfl (Or.inr (Or.inr (Or.inr (Or.inr ⟨rfl, rfl, rfl⟩)))) (hb hby d1_85) (by rw [e0]; exact ⟨congrArg some (by unfold own_side; rw [if_neg (by omega), if_neg (by omega), if_neg (by omega), if_neg (by omega)]), N0, rfl⟩) (by decide) (by decide)
      · have hi43 := mt (c3_eq _ _).mpr hc43
        refine Dn.st (fun _ kk => XS.ifYes X0.here hx rfl (pc0 := 43) (pc' := 60) rfl (hb hby d1_43) rfl ((if0 _ _).trans (feq hc43).2) (by decide) (by decide) (XS.dloadN X0.here hx rfl (hb hby d1_60) rfl  (XS.dconst0 X0.here hx rfl (hb hby d1_61) rfl (XS.dcmpS X0.here hx rfl (hb hby d1_62) rfl (show cmpValue (FP.dcmp xx FP.dconst0) .l = (c3 ix 0) from (DS.cmpV dx (DS.zero tt) _)) (kk))))) ?_
        show Dn p e below s _ _ _ (s₁.setTop (mkF m 63 #[.val (.double xx), .second, .val (.double yy), .second, .unset] [(.int (c3 ix 0))]))
        by_cases hc63 : (c3 ix 0) = (0 : Int32)
        · have hi63 := (c3_eq _ _).mp hc63
          refine Dn.st (fun _ kk => XS.ifNo X0.here hx rfl (hb hby d1_63) rfl ((if0 _ _).trans (teq hc63).2) (XS.dloadN X0.here hx rfl (hb hby d1_66) rfl  (XS.dconst0 X0.here hx rfl (hb hby d1_67) rfl (XS.dcmpS X0.here hx rfl (hb hby d1_68) rfl (show cmpValue (FP.dcmp yy FP.dconst0) .l = (c3 iy 0) from (DS.cmpV dy (DS.zero tt) _)) (kk))))) ?_
          show Dn p e below s _ _ _ (s₁.setTop (mkF m 69 #[.val (.double xx), .second, .val (.double yy), .second, .unset] [(.int (c3 iy 0))]))
          by_cases hc69 : (0 : Int32) < (c3 iy 0)
          · have hi69 := (c3_gt _ _).mp hc69
            refine Dn.st (fun _ kk => XS.ifNo X0.here hx rfl (hb hby d1_69) rfl ((if0 _ _).trans (tlt hc69).2.2.2) (kk)) ?_
            show Dn p e below s _ _ _ (s₁.setTop (mkF m 72 #[.val (.double xx), .second, .val (.double yy), .second, .unset] []))
            obtain ⟨T72, X72, e72, st72⟩ := getS2 X0 hx hZ hown (host := "") (Or.inl (hw _ (List.mem_of_getElem? (i := 12) rfl))) Via.refl e0 S_SOUTH (g := (mkF m 72 #[.val (.double xx), .second, .val (.double yy), .second, .unset] [])) rfl (hb hby d1_72)
            refine Dn.st st72 ?_
            show Dn p e below s _ _ _ (T72.setTop (mkF m 75 #[.val (.double xx), .second, .val (.double yy), .second, .unset] [(.ref aS)]))
            refine Dn.st (fun _ kk => XS.astore X72.here hx rfl (hb hby d1_75) rfl rfl (l' := #[.val (.double xx), .second, .val (.double yy), .second, .val (.ref aS)]) rfl (XS.goto X72.here hx rfl (pc0 := 77) (pc' := 83) rfl (hb hby d1_77) (by decide) (by decide) (XS.aload X72.here hx rfl (hb hby d1_83) rfl rfl (kk)))) ?_
            show Dn p e below s _ _ _ (T72.setTop (mkF m 85 #[.val (.double xx), .second, .val (.double yy), .second, .val (.ref aS)] [(.ref aS)]))
            exact Dn.ret X72 hlk hx hret rfl (Or.inr (Or.inr (Or.inr (Or.inr ⟨rfl, rfl, rfl⟩)))) (hb hby d1_85) (by rw [e72]; exact ⟨congrArg some (by unfold own_side; rw [if_neg (by omega), if_neg (by omega), if_neg (by omega), if_pos (by omega)]), N0, rfl⟩) (by decide) (by decide)
          · have hi69 := mt (c3_gt _ _).mpr hc69
            refine Dn.st (fun _ kk => XS.ifYes X0.here hx rfl (pc0 := 69) (pc' := 80) rfl (hb hby d1_69) rfl ((if0 _ _).trans (flt hc69).2.2.2) (by decide) (by decide) (XS.aconstNull X0.here hx rfl (hb hby d1_80) (XS.astore X0.here hx rfl (hb hby d1_81) rfl rfl (l' := #[.val (.double xx), .second, .val (.double yy), .second, .val .null]) rfl (XS.aload X0.here hx rfl (hb hby d1_83) rfl rfl (kk))))) ?_
            show Dn p e below s _ _ _ (s₁.setTop (mkF m 85 #[.val (.double xx), .second, .val (.double yy), .second, .val .null] [.null]))
            exact Dn.ret X0 hlk hx hret rfl (Or.inr (Or.inr (Or.inr (Or.inr ⟨rfl, rfl, rfl⟩)))) (hb hby d1_85) (by rw [e0]; exact ⟨congrArg some (by unfold own_side; rw [if_neg (by omega), if_neg (by omega), if_neg (by omega), if_neg (by omega)]), N0, rfl⟩) (by decide) (by decide)
        · have hi63 := mt (c3_eq _ _).mpr hc63
          refine Dn.st (fun _ kk => XS.ifYes X0.here hx rfl (pc0 := 63) (pc' := 80) rfl (hb hby d1_63) rfl ((if0 _ _).trans (feq hc63).2) (by decide) (by decide) (XS.aconstNull X0.here hx rfl (hb hby d1_80) (XS.astore X0.here hx rfl (hb hby d1_81) rfl rfl (l' := #[.val (.double xx), .second, .val (.double yy), .second, .val .null]) rfl (XS.aload X0.here hx rfl (hb hby d1_83) rfl rfl (kk))))) ?_
          show Dn p e below s _ _ _ (s₁.setTop (mkF m 85 #[.val (.double xx), .second, .val (.double yy), .second, .val .null] [.null]))
          exact Dn.ret X0 hlk hx hret rfl (Or.inr (Or.inr (Or.inr (Or.inr ⟨rfl, rfl, rfl⟩)))) (hb hby d1_85) (by rw [e0]; exact ⟨congrArg some (by unfold own_side; rw [if_neg (by omega), if_neg (by omega), if_neg (by omega), if_neg (by omega)]), N0, rfl⟩) (by decide) (by decide)

theorem d2_0 : decode method_3_code 0 = .ok (.iload_n 0, 1) := by decide +kernel
theorem d2_1 : decode method_3_code 1 = .ok (.ifCond .ne 9, 3) := by decide +kernel
theorem d2_4 : decode method_3_code 4 = .ok (.iload_n 1, 1) := by decide +kernel
theorem d2_5 : decode method_3_code 5 = .ok (.ifCond .ne 5, 3) := by decide +kernel
theorem d2_8 : decode method_3_code 8 = .ok (.aconst_null, 1) := by decide +kernel
theorem d2_9 : decode method_3_code 9 = .ok (.areturn, 1) := by decide +kernel
theorem d2_10 : decode method_3_code 10 = .ok (.iload_n 0, 1) := by decide +kernel
theorem d2_11 : decode method_3_code 11 = .ok (.ifCond .eq 9, 3) := by decide +kernel
theorem d2_14 : decode method_3_code 14 = .ok (.iload_n 1, 1) := by decide +kernel
theorem d2_15 : decode method_3_code 15 = .ok (.ifCond .eq 5, 3) := by decide +kernel
theorem d2_18 : decode method_3_code 18 = .ok (.aconst_null, 1) := by decide +kernel
theorem d2_19 : decode method_3_code 19 = .ok (.areturn, 1) := by decide +kernel
theorem d2_20 : decode method_3_code 20 = .ok (.iload_n 1, 1) := by decide +kernel
theorem d2_21 : decode method_3_code 21 = .ok (.ifCond .ne 15, 3) := by decide +kernel
theorem d2_24 : decode method_3_code 24 = .ok (.iload_n 0, 1) := by decide +kernel
theorem d2_25 : decode method_3_code 25 = .ok (.ifCond .ge 7, 3) := by decide +kernel
theorem d2_28 : decode method_3_code 28 = .ok (.getstatic 20, 3) := by decide +kernel
theorem d2_31 : decode method_3_code 31 = .ok (.areturn, 1) := by decide +kernel
theorem d2_32 : decode method_3_code 32 = .ok (.getstatic 24, 3) := by decide +kernel
theorem d2_35 : decode method_3_code 35 = .ok (.areturn, 1) := by decide +kernel
theorem d2_36 : decode method_3_code 36 = .ok (.iload_n 1, 1) := by decide +kernel
theorem d2_37 : decode method_3_code 37 = .ok (.ifCond .ge 7, 3) := by decide +kernel
theorem d2_40 : decode method_3_code 40 = .ok (.getstatic 27, 3) := by decide +kernel
theorem d2_43 : decode method_3_code 43 = .ok (.areturn, 1) := by decide +kernel
theorem d2_44 : decode method_3_code 44 = .ok (.getstatic 30, 3) := by decide +kernel
theorem d2_47 : decode method_3_code 47 = .ok (.areturn, 1) := by decide +kernel
theorem pn1 : plainName "com/example/vias_for_diagrams/viasfordiagrams/PortSideOfStepPinLaw" = true := by first | (simp [plainName, overriddenIn]; done) | decide +kernel
theorem ef2_rm2 (m : MethodId) (x0 : Int32) (x1 : Int32) : entryFrame m #[(.int x0), (.int x1)] 2 = mkF m 0 #[.val (.int x0), .val (.int x1)] [] := by first | (simp [entryFrame, mkF, argsToLocals, Value.category]; done) | rfl
def Q2 (Z : State) (x1 : Int32) (y1 : Int32) (aW aE aN aS : Addr) (h0 : Heap) (n0 : Nat) (v : Option Value) (h : Heap) (L : List Loc) : Prop := v = some (own_side aW aE aN aS x1.toInt y1.toInt) ∧ Fr n0 L ∧ h = h0
set_option maxRecDepth 65536 in
set_option maxHeartbeats 40000000 in
theorem rm2 (l : Launch) (Z : State) (a0 : Array Value) (hw : ∀ d ∈ tables_1, d.before a0 Z = true) (ws : List Jvm.Cond) (x1 : Int32) (y1 : Int32) (aW aE aN aS : Addr) (h0 : Heap) (n0 : Nat) (Z0 : n0 ≤ h0.size) (S_WEST : Sta Z h0 "com/example/vias_for_diagrams/viasfordiagrams/PortSide" "WEST" "Lcom/example/vias_for_diagrams/viasfordiagrams/PortSide;" (.ref aW)) (S_EAST : Sta Z h0 "com/example/vias_for_diagrams/viasfordiagrams/PortSide" "EAST" "Lcom/example/vias_for_diagrams/viasfordiagrams/PortSide;" (.ref aE)) (S_NORTH : Sta Z h0 "com/example/vias_for_diagrams/viasfordiagrams/PortSide" "NORTH" "Lcom/example/vias_for_diagrams/viasfordiagrams/PortSide;" (.ref aN)) (S_SOUTH : Sta Z h0 "com/example/vias_for_diagrams/viasfordiagrams/PortSide" "SOUTH" "Lcom/example/vias_for_diagrams/viasfordiagrams/PortSide;" (.ref aS)) :
    MetFree l (⟨"com/example/vias_for_diagrams/viasfordiagrams/PortSideOfStepPinLaw", "expected", "(II)Lcom/example/vias_for_diagrams/viasfordiagrams/PortSide;"⟩ : MethodName) (head1 (Jvm.Cond.code (⟨"com/example/vias_for_diagrams/viasfordiagrams/PortSideOfStepPinLaw", "expected", "(II)Lcom/example/vias_for_diagrams/viasfordiagrams/PortSide;"⟩ : MethodName) method_3_code 2 (some (.object "com/example/vias_for_diagrams/viasfordiagrams/PortSide")) :: ws) ({ frames := 0, cells := 0, slots := 0, locals := 0 } : Room)) (fun aa UU => aa = #[(.int x1), (.int y1)] ∧ Z.Warmed39 UU.vm ∧ UU.heap = h0) (fun _ _ _ _ _ => True) (fun _ UU oo UU' => ∃ vv LL, oo = .returned vv ∧ Q2 Z x1 y1 aW aE aN aS h0 n0 vv UU'.heap LL ∧ FrameEnd UU oo UU' LL ({ frames := 0, cells := 0, slots := 0, locals := 0 } : Room).cells ({ frames := 0, cells := 0, slots := 0, locals := 0 } : Room).slots) := by
  refine MetFree.of_bodySF (plainFor_of_name pn1) hisR ?_
  intro p e s m args below meth c s₁ Bd hml0 hP hK
  obtain ⟨rfl, hZ, hh⟩ := hP
  have hx := Bd.exec
  have hby := Bd.bytes
  have hlk : meth.locks = false := BodyLoose.notSynchronized Bd
  have hret := Bd.returns
  have hml : c.maxLocals = 2 := hml0
  have hown : s.vm.findClass "com/example/vias_for_diagrams/viasfordiagrams/PortSideOfStepPinLaw" = some m.cls := findClass_of_methodNamed Bd.named
  have hnm := (name_of_methodNamed Bd.named Bd.method).1
  have X0 : Stand p l e ({ frames := 0, cells := 0, slots := 0, locals := 0 } : Room) s m #[(.int x1), (.int y1)] below meth c s₁ [] 0 0 := Stand.of_body Bd
  have e0 : s₁.heap = h0 := by rw [← hh, Bd.state]; rfl
  have N0 := Fr.nil n0
  have r_x1 := rng32 x1
  have r_y1 := rng32 y1
  show Dn p e below s (Q2 Z x1 y1 aW aE aN aS h0 n0) ({ frames := 0, cells := 0, slots := 0, locals := 0 } : Room).cells ({ frames := 0, cells := 0, slots := 0, locals := 0 } : Room).slots (s₁.setTop (entryFrame m #[(.int x1), (.int y1)] 2))
  refine Dn.st (fun _ kk => castTop (ef2_rm2 m x1 y1) kk) ?_
  show Dn p e below s _ _ _ (s₁.setTop (mkF m 0 #[.val (.int x1), .val (.int y1)] []))
  refine Dn.st (fun _ kk => XS.iloadN X0.here hx rfl (hb hby d2_0) rfl  (kk)) ?_
  show Dn p e below s _ _ _ (s₁.setTop (mkF m 1 #[.val (.int x1), .val (.int y1)] [(.int x1)]))
  by_cases hc1 : x1 = (0 : Int32)
  · have hi1 : x1.toInt = 0 := congrArg Int32.toInt hc1
    refine Dn.st (fun _ kk => XS.ifNo X0.here hx rfl (hb hby d2_1) rfl ((if0 _ _).trans (teq hc1).2) (XS.iloadN X0.here hx rfl (hb hby d2_4) rfl  (kk))) ?_
    show Dn p e below s _ _ _ (s₁.setTop (mkF m 5 #[.val (.int x1), .val (.int y1)] [(.int y1)]))
    by_cases hc5 : y1 = (0 : Int32)
    · have hi5 : y1.toInt = 0 := congrArg Int32.toInt hc5
      refine Dn.st (fun _ kk => XS.ifNo X0.here hx rfl (hb hby d2_5) rfl ((if0 _ _).trans (teq hc5).2) (XS.aconstNull X0.here hx rfl (hb hby d2_8) (kk))) ?_
      show Dn p e below s _ _ _ (s₁.setTop (mkF m 9 #[.val (.int x1), .val (.int y1)] [.null]))
      exact Dn.ret X0 hlk hx hret rfl (Or.inr (Or.inr (Or.inr (Or.inr ⟨rfl, rfl, rfl⟩)))) (hb hby d2_9) (by rw [e0]; exact ⟨congrArg some (by unfold own_side; rw [if_neg (by omega), if_neg (by omega), if_neg (by omega), if_neg (by omega)]), N0, rfl⟩) (by decide) (by decide)
    · have hi5 : ¬ y1.toInt = 0 := fun qq => hc5 (Int32.toInt_inj.mp qq)
      refine Dn.st (fun _ kk => XS.ifYes X0.here hx rfl (pc0 := 5) (pc' := 10) rfl (hb hby d2_5) rfl ((if0 _ _).trans (feq hc5).2) (by decide) (by decide) (XS.iloadN X0.here hx rfl (hb hby d2_10) rfl  (kk))) ?_
      show Dn p e below s _ _ _ (s₁.setTop (mkF m 11 #[.val (.int x1), .val (.int y1)] [(.int x1)]))
      by_cases hc11 : x1 = (0 : Int32)
      · have hi11 : x1.toInt = 0 := congrArg Int32.toInt hc11
        refine Dn.st (fun _ kk => XS.ifYes X0.here hx rfl (pc0 := 11) (pc' := 20) rfl (hb hby d2_11) rfl ((if0 _ _).trans (teq hc11).1) (by decide) (by decide) (XS.iloadN X0.here hx rfl (hb hby d2_20) rfl  (kk))) ?_
        show Dn p e below s _ _ _ (s₁.setTop (mkF m 21 #[.val (.int x1), .val (.int y1)] [(.int y1)]))
        by_cases hc21 : y1 = (0 : Int32)
        · have hi21 : y1.toInt = 0 := congrArg Int32.toInt hc21
          refine Dn.st (fun _ kk => XS.ifNo X0.here hx rfl (hb hby d2_21) rfl ((if0 _ _).trans (teq hc21).2) (XS.iloadN X0.here hx rfl (hb hby d2_24) rfl  (kk))) ?_
          show Dn p e below s _ _ _ (s₁.setTop (mkF m 25 #[.val (.int x1), .val (.int y1)] [(.int x1)]))
          by_cases hc25 : x1 < (0 : Int32)
          · have hi25 : x1.toInt < 0 := Int32.lt_iff_toInt_lt.mp hc25
            refine Dn.st (fun _ kk => XS.ifNo X0.here hx rfl (hb hby d2_25) rfl ((if0 _ _).trans (tlt hc25).2.1) (kk)) ?_
            show Dn p e below s _ _ _ (s₁.setTop (mkF m 28 #[.val (.int x1), .val (.int y1)] []))
            obtain ⟨T28, X28, e28, st28⟩ := getS2 X0 hx hZ hown (host := "") (Or.inl (hw _ (List.mem_of_getElem? (i := 17) rfl))) Via.refl e0 S_WEST (g := (mkF m 28 #[.val (.int x1), .val (.int y1)] [])) rfl (hb hby d2_28)
            refine Dn.st st28 ?_
            show Dn p e below s _ _ _ (T28.setTop (mkF m 31 #[.val (.int x1), .val (.int y1)] [(.ref aW)]))
            exact Dn.ret X28 hlk hx hret rfl (Or.inr (Or.inr (Or.inr (Or.inr ⟨rfl, rfl, rfl⟩)))) (hb hby d2_31) (by rw [e28]; exact ⟨congrArg some (by unfold own_side; rw [if_pos (by omega)]), N0, rfl⟩) (by decide) (by decide)
          · have hi25 : ¬ x1.toInt < 0 := fun qq => hc25 (Int32.lt_iff_toInt_lt.mpr qq)
            refine Dn.st (fun _ kk => XS.ifYes X0.here hx rfl (pc0 := 25) (pc' := 32) rfl (hb hby d2_25) rfl ((if0 _ _).trans (flt hc25).2.1) (by decide) (by decide) (kk)) ?_
            show Dn p e below s _ _ _ (s₁.setTop (mkF m 32 #[.val (.int x1), .val (.int y1)] []))
            obtain ⟨T32, X32, e32, st32⟩ := getS2 X0 hx hZ hown (host := "") (Or.inl (hw _ (List.mem_of_getElem? (i := 11) rfl))) Via.refl e0 S_EAST (g := (mkF m 32 #[.val (.int x1), .val (.int y1)] [])) rfl (hb hby d2_32)
            refine Dn.st st32 ?_
            show Dn p e below s _ _ _ (T32.setTop (mkF m 35 #[.val (.int x1), .val (.int y1)] [(.ref aE)]))
            exact Dn.ret X32 hlk hx hret rfl (Or.inr (Or.inr (Or.inr (Or.inr ⟨rfl, rfl, rfl⟩)))) (hb hby d2_35) (by rw [e32]; exact ⟨congrArg some (by unfold own_side; rw [if_neg (by omega), if_pos (by omega)]), N0, rfl⟩) (by decide) (by decide)
        · have hi21 : ¬ y1.toInt = 0 := fun qq => hc21 (Int32.toInt_inj.mp qq)
          refine Dn.st (fun _ kk => XS.ifYes X0.here hx rfl (pc0 := 21) (pc' := 36) rfl (hb hby d2_21) rfl ((if0 _ _).trans (feq hc21).2) (by decide) (by decide) (XS.iloadN X0.here hx rfl (hb hby d2_36) rfl  (kk))) ?_
          show Dn p e below s _ _ _ (s₁.setTop (mkF m 37 #[.val (.int x1), .val (.int y1)] [(.int y1)]))
          by_cases hc37 : y1 < (0 : Int32)
          · have hi37 : y1.toInt < 0 := Int32.lt_iff_toInt_lt.mp hc37
            refine Dn.st (fun _ kk => XS.ifNo X0.here hx rfl (hb hby d2_37) rfl ((if0 _ _).trans (tlt hc37).2.1) (kk)) ?_
            show Dn p e below s _ _ _ (s₁.setTop (mkF m 40 #[.val (.int x1), .val (.int y1)] []))
            obtain ⟨T40, X40, e40, st40⟩ := getS2 X0 hx hZ hown (host := "") (Or.inl (hw _ (List.mem_of_getElem? (i := 20) rfl))) Via.refl e0 S_NORTH (g := (mkF m 40 #[.val (.int x1), .val (.int y1)] [])) rfl (hb hby d2_40)
            refine Dn.st st40 ?_
            show Dn p e below s _ _ _ (T40.setTop (mkF m 43 #[.val (.int x1), .val (.int y1)] [(.ref aN)]))
            exact Dn.ret X40 hlk hx hret rfl (Or.inr (Or.inr (Or.inr (Or.inr ⟨rfl, rfl, rfl⟩)))) (hb hby d2_43) (by rw [e40]; exact ⟨congrArg some (by unfold own_side; rw [if_neg (by omega), if_neg (by omega), if_pos (by omega)]), N0, rfl⟩) (by decide) (by decide)
          · have hi37 : ¬ y1.toInt < 0 := fun qq => hc37 (Int32.lt_iff_toInt_lt.mpr qq)
            refine Dn.st (fun _ kk => XS.ifYes X0.here hx rfl (pc0 := 37) (pc' := 44) rfl (hb hby d2_37) rfl ((if0 _ _).trans (flt hc37).2.1) (by decide) (by decide) (kk)) ?_
            show Dn p e below s _ _ _ (s₁.setTop (mkF m 44 #[.val (.int x1), .val (.int y1)] []))
            obtain ⟨T44, X44, e44, st44⟩ := getS2 X0 hx hZ hown (host := "") (Or.inl (hw _ (List.mem_of_getElem? (i := 14) rfl))) Via.refl e0 S_SOUTH (g := (mkF m 44 #[.val (.int x1), .val (.int y1)] [])) rfl (hb hby d2_44)
            refine Dn.st st44 ?_
            show Dn p e below s _ _ _ (T44.setTop (mkF m 47 #[.val (.int x1), .val (.int y1)] [(.ref aS)]))
            exact Dn.ret X44 hlk hx hret rfl (Or.inr (Or.inr (Or.inr (Or.inr ⟨rfl, rfl, rfl⟩)))) (hb hby d2_47) (by rw [e44]; exact ⟨congrArg some (by unfold own_side; rw [if_neg (by omega), if_neg (by omega), if_neg (by omega), if_pos (by omega)]), N0, rfl⟩) (by decide) (by decide)
      · have hi11 : ¬ x1.toInt = 0 := fun qq => hc11 (Int32.toInt_inj.mp qq)
        refine Dn.st (fun _ kk => XS.ifNo X0.here hx rfl (hb hby d2_11) rfl ((if0 _ _).trans (feq hc11).1) (XS.iloadN X0.here hx rfl (hb hby d2_14) rfl  (kk))) ?_
        show Dn p e below s _ _ _ (s₁.setTop (mkF m 15 #[.val (.int x1), .val (.int y1)] [(.int y1)]))
        by_cases hc15 : y1 = (0 : Int32)
        · have hi15 : y1.toInt = 0 := congrArg Int32.toInt hc15
          refine Dn.st (fun _ kk => XS.ifYes X0.here hx rfl (pc0 := 15) (pc' := 20) rfl (hb hby d2_15) rfl ((if0 _ _).trans (teq hc15).1) (by decide) (by decide) (XS.iloadN X0.here hx rfl (hb hby d2_20) rfl  (kk))) ?_
          show Dn p e below s _ _ _ (s₁.setTop (mkF m 21 #[.val (.int x1), .val (.int y1)] [(.int y1)]))
          by_cases hc21 : y1 = (0 : Int32)
          · have hi21 : y1.toInt = 0 := congrArg Int32.toInt hc21
            refine Dn.st (fun _ kk => XS.ifNo X0.here hx rfl (hb hby d2_21) rfl ((if0 _ _).trans (teq hc21).2) (XS.iloadN X0.here hx rfl (hb hby d2_24) rfl  (kk))) ?_
            show Dn p e below s _ _ _ (s₁.setTop (mkF m 25 #[.val (.int x1), .val (.int y1)] [(.int x1)]))
            by_cases hc25 : x1 < (0 : Int32)
            · have hi25 : x1.toInt < 0 := Int32.lt_iff_toInt_lt.mp hc25
              refine Dn.st (fun _ kk => XS.ifNo X0.here hx rfl (hb hby d2_25) rfl ((if0 _ _).trans (tlt hc25).2.1) (kk)) ?_
              show Dn p e below s _ _ _ (s₁.setTop (mkF m 28 #[.val (.int x1), .val (.int y1)] []))
              obtain ⟨T28, X28, e28, st28⟩ := getS2 X0 hx hZ hown (host := "") (Or.inl (hw _ (List.mem_of_getElem? (i := 17) rfl))) Via.refl e0 S_WEST (g := (mkF m 28 #[.val (.int x1), .val (.int y1)] [])) rfl (hb hby d2_28)
              refine Dn.st st28 ?_
              show Dn p e below s _ _ _ (T28.setTop (mkF m 31 #[.val (.int x1), .val (.int y1)] [(.ref aW)]))
              exact Dn.ret X28 hlk hx hret rfl (Or.inr (Or.inr (Or.inr (Or.inr ⟨rfl, rfl, rfl⟩)))) (hb hby d2_31) (by rw [e28]; exact ⟨congrArg some (by unfold own_side; rw [if_pos (by omega)]), N0, rfl⟩) (by decide) (by decide)
            · have hi25 : ¬ x1.toInt < 0 := fun qq => hc25 (Int32.lt_iff_toInt_lt.mpr qq)
              refine Dn.st (fun _ kk => XS.ifYes X0.here hx rfl (pc0 := 25) (pc' := 32) rfl (hb hby d2_25) rfl ((if0 _ _).trans (flt hc25).2.1) (by decide) (by decide) (kk)) ?_
              show Dn p e below s _ _ _ (s₁.setTop (mkF m 32 #[.val (.int x1), .val (.int y1)] []))
              obtain ⟨T32, X32, e32, st32⟩ := getS2 X0 hx hZ hown (host := "") (Or.inl (hw _ (List.mem_of_getElem? (i := 11) rfl))) Via.refl e0 S_EAST (g := (mkF m 32 #[.val (.int x1), .val (.int y1)] [])) rfl (hb hby d2_32)
              refine Dn.st st32 ?_
              show Dn p e below s _ _ _ (T32.setTop (mkF m 35 #[.val (.int x1), .val (.int y1)] [(.ref aE)]))
              exact Dn.ret X32 hlk hx hret rfl (Or.inr (Or.inr (Or.inr (Or.inr ⟨rfl, rfl, rfl⟩)))) (hb hby d2_35) (by rw [e32]; exact ⟨congrArg some (by unfold own_side; rw [if_neg (by omega), if_pos (by omega)]), N0, rfl⟩) (by decide) (by decide)
          · have hi21 : ¬ y1.toInt = 0 := fun qq => hc21 (Int32.toInt_inj.mp qq)
            refine Dn.st (fun _ kk => XS.ifYes X0.here hx rfl (pc0 := 21) (pc' := 36) rfl (hb hby d2_21) rfl ((if0 _ _).trans (feq hc21).2) (by decide) (by decide) (XS.iloadN X0.here hx rfl (hb hby d2_36) rfl  (kk))) ?_
            show Dn p e below s _ _ _ (s₁.setTop (mkF m 37 #[.val (.int x1), .val (.int y1)] [(.int y1)]))
            by_cases hc37 : y1 < (0 : Int32)
            · have hi37 : y1.toInt < 0 := Int32.lt_iff_toInt_lt.mp hc37
              refine Dn.st (fun _ kk => XS.ifNo X0.here hx rfl (hb hby d2_37) rfl ((if0 _ _).trans (tlt hc37).2.1) (kk)) ?_
              show Dn p e below s _ _ _ (s₁.setTop (mkF m 40 #[.val (.int x1), .val (.int y1)] []))
              obtain ⟨T40, X40, e40, st40⟩ := getS2 X0 hx hZ hown (host := "") (Or.inl (hw _ (List.mem_of_getElem? (i := 20) rfl))) Via.refl e0 S_NORTH (g := (mkF m 40 #[.val (.int x1), .val (.int y1)] [])) rfl (hb hby d2_40)
              refine Dn.st st40 ?_
              show Dn p e below s _ _ _ (T40.setTop (mkF m 43 #[.val (.int x1), .val (.int y1)] [(.ref aN)]))
              exact Dn.ret X40 hlk hx hret rfl (Or.inr (Or.inr (Or.inr (Or.inr ⟨rfl, rfl, rfl⟩)))) (hb hby d2_43) (by rw [e40]; exact ⟨congrArg some (by unfold own_side; rw [if_neg (by omega), if_neg (by omega), if_pos (by omega)]), N0, rfl⟩) (by decide) (by decide)
            · have hi37 : ¬ y1.toInt < 0 := fun qq => hc37 (Int32.lt_iff_toInt_lt.mpr qq)
              refine Dn.st (fun _ kk => XS.ifYes X0.here hx rfl (pc0 := 37) (pc' := 44) rfl (hb hby d2_37) rfl ((if0 _ _).trans (flt hc37).2.1) (by decide) (by decide) (kk)) ?_
              show Dn p e below s _ _ _ (s₁.setTop (mkF m 44 #[.val (.int x1), .val (.int y1)] []))
              obtain ⟨T44, X44, e44, st44⟩ := getS2 X0 hx hZ hown (host := "") (Or.inl (hw _ (List.mem_of_getElem? (i := 14) rfl))) Via.refl e0 S_SOUTH (g := (mkF m 44 #[.val (.int x1), .val (.int y1)] [])) rfl (hb hby d2_44)
              refine Dn.st st44 ?_
              show Dn p e below s _ _ _ (T44.setTop (mkF m 47 #[.val (.int x1), .val (.int y1)] [(.ref aS)]))
              exact Dn.ret X44 hlk hx hret rfl (Or.inr (Or.inr (Or.inr (Or.inr ⟨rfl, rfl, rfl⟩)))) (hb hby d2_47) (by rw [e44]; exact ⟨congrArg some (by unfold own_side; rw [if_neg (by omega), if_neg (by omega), if_neg (by omega), if_pos (by omega)]), N0, rfl⟩) (by decide) (by decide)
        · have hi15 : ¬ y1.toInt = 0 := fun qq => hc15 (Int32.toInt_inj.mp qq)
          refine Dn.st (fun _ kk => XS.ifNo X0.here hx rfl (hb hby d2_15) rfl ((if0 _ _).trans (feq hc15).1) (XS.aconstNull X0.here hx rfl (hb hby d2_18) (kk))) ?_
          show Dn p e below s _ _ _ (s₁.setTop (mkF m 19 #[.val (.int x1), .val (.int y1)] [.null]))
          exact Dn.ret X0 hlk hx hret rfl (Or.inr (Or.inr (Or.inr (Or.inr ⟨rfl, rfl, rfl⟩)))) (hb hby d2_19) (by rw [e0]; exact ⟨congrArg some (by unfold own_side; rw [if_neg (by omega), if_neg (by omega), if_neg (by omega), if_neg (by omega)]), N0, rfl⟩) (by decide) (by decide)
  · have hi1 : ¬ x1.toInt = 0 := fun qq => hc1 (Int32.toInt_inj.mp qq)
    refine Dn.st (fun _ kk => XS.ifYes X0.here hx rfl (pc0 := 1) (pc' := 10) rfl (hb hby d2_1) rfl ((if0 _ _).trans (feq hc1).2) (by decide) (by decide) (XS.iloadN X0.here hx rfl (hb hby d2_10) rfl  (kk))) ?_
    show Dn p e below s _ _ _ (s₁.setTop (mkF m 11 #[.val (.int x1), .val (.int y1)] [(.int x1)]))
    by_cases hc11 : x1 = (0 : Int32)
    · have hi11 : x1.toInt = 0 := congrArg Int32.toInt hc11
      refine Dn.st (fun _ kk => XS.ifYes X0.here hx rfl (pc0 := 11) (pc' := 20) rfl (hb hby d2_11) rfl ((if0 _ _).trans (teq hc11).1) (by decide) (by decide) (XS.iloadN X0.here hx rfl (hb hby d2_20) rfl  (kk))) ?_
      show Dn p e below s _ _ _ (s₁.setTop (mkF m 21 #[.val (.int x1), .val (.int y1)] [(.int y1)]))
      by_cases hc21 : y1 = (0 : Int32)
      · have hi21 : y1.toInt = 0 := congrArg Int32.toInt hc21
        refine Dn.st (fun _ kk => XS.ifNo X0.here hx rfl (hb hby d2_21) rfl ((if0 _ _).trans (teq hc21).2) (XS.iloadN X0.here hx rfl (hb hby d2_24) rfl  (kk))) ?_
        show Dn p e below s _ _ _ (s₁.setTop (mkF m 25 #[.val (.int x1), .val (.int y1)] [(.int x1)]))
        by_cases hc25 : x1 < (0 : Int32)
        · have hi25 : x1.toInt < 0 := Int32.lt_iff_toInt_lt.mp hc25
          refine Dn.st (fun _ kk => XS.ifNo X0.here hx rfl (hb hby d2_25) rfl ((if0 _ _).trans (tlt hc25).2.1) (kk)) ?_
          show Dn p e below s _ _ _ (s₁.setTop (mkF m 28 #[.val (.int x1), .val (.int y1)] []))
          obtain ⟨T28, X28, e28, st28⟩ := getS2 X0 hx hZ hown (host := "") (Or.inl (hw _ (List.mem_of_getElem? (i := 17) rfl))) Via.refl e0 S_WEST (g := (mkF m 28 #[.val (.int x1), .val (.int y1)] [])) rfl (hb hby d2_28)
          refine Dn.st st28 ?_
          show Dn p e below s _ _ _ (T28.setTop (mkF m 31 #[.val (.int x1), .val (.int y1)] [(.ref aW)]))
          exact Dn.ret X28 hlk hx hret rfl (Or.inr (Or.inr (Or.inr (Or.inr ⟨rfl, rfl, rfl⟩)))) (hb hby d2_31) (by rw [e28]; exact ⟨congrArg some (by unfold own_side; rw [if_pos (by omega)]), N0, rfl⟩) (by decide) (by decide)
        · have hi25 : ¬ x1.toInt < 0 := fun qq => hc25 (Int32.lt_iff_toInt_lt.mpr qq)
          refine Dn.st (fun _ kk => XS.ifYes X0.here hx rfl (pc0 := 25) (pc' := 32) rfl (hb hby d2_25) rfl ((if0 _ _).trans (flt hc25).2.1) (by decide) (by decide) (kk)) ?_
          show Dn p e below s _ _ _ (s₁.setTop (mkF m 32 #[.val (.int x1), .val (.int y1)] []))
          obtain ⟨T32, X32, e32, st32⟩ := getS2 X0 hx hZ hown (host := "") (Or.inl (hw _ (List.mem_of_getElem? (i := 11) rfl))) Via.refl e0 S_EAST (g := (mkF m 32 #[.val (.int x1), .val (.int y1)] [])) rfl (hb hby d2_32)
          refine Dn.st st32 ?_
          show Dn p e below s _ _ _ (T32.setTop (mkF m 35 #[.val (.int x1), .val (.int y1)] [(.ref aE)]))
          exact Dn.ret X32 hlk hx hret rfl (Or.inr (Or.inr (Or.inr (Or.inr ⟨rfl, rfl, rfl⟩)))) (hb hby d2_35) (by rw [e32]; exact ⟨congrArg some (by unfold own_side; rw [if_neg (by omega), if_pos (by omega)]), N0, rfl⟩) (by decide) (by decide)
      · have hi21 : ¬ y1.toInt = 0 := fun qq => hc21 (Int32.toInt_inj.mp qq)
        refine Dn.st (fun _ kk => XS.ifYes X0.here hx rfl (pc0 := 21) (pc' := 36) rfl (hb hby d2_21) rfl ((if0 _ _).trans (feq hc21).2) (by decide) (by decide) (XS.iloadN X0.here hx rfl (hb hby d2_36) rfl  (kk))) ?_
        show Dn p e below s _ _ _ (s₁.setTop (mkF m 37 #[.val (.int x1), .val (.int y1)] [(.int y1)]))
        by_cases hc37 : y1 < (0 : Int32)
        · have hi37 : y1.toInt < 0 := Int32.lt_iff_toInt_lt.mp hc37
          refine Dn.st (fun _ kk => XS.ifNo X0.here hx rfl (hb hby d2_37) rfl ((if0 _ _).trans (tlt hc37).2.1) (kk)) ?_
          show Dn p e below s _ _ _ (s₁.setTop (mkF m 40 #[.val (.int x1), .val (.int y1)] []))
          obtain ⟨T40, X40, e40, st40⟩ := getS2 X0 hx hZ hown (host := "") (Or.inl (hw _ (List.mem_of_getElem? (i := 20) rfl))) Via.refl e0 S_NORTH (g := (mkF m 40 #[.val (.int x1), .val (.int y1)] [])) rfl (hb hby d2_40)
          refine Dn.st st40 ?_
          show Dn p e below s _ _ _ (T40.setTop (mkF m 43 #[.val (.int x1), .val (.int y1)] [(.ref aN)]))
          exact Dn.ret X40 hlk hx hret rfl (Or.inr (Or.inr (Or.inr (Or.inr ⟨rfl, rfl, rfl⟩)))) (hb hby d2_43) (by rw [e40]; exact ⟨congrArg some (by unfold own_side; rw [if_neg (by omega), if_neg (by omega), if_pos (by omega)]), N0, rfl⟩) (by decide) (by decide)
        · have hi37 : ¬ y1.toInt < 0 := fun qq => hc37 (Int32.lt_iff_toInt_lt.mpr qq)
          refine Dn.st (fun _ kk => XS.ifYes X0.here hx rfl (pc0 := 37) (pc' := 44) rfl (hb hby d2_37) rfl ((if0 _ _).trans (flt hc37).2.1) (by decide) (by decide) (kk)) ?_
          show Dn p e below s _ _ _ (s₁.setTop (mkF m 44 #[.val (.int x1), .val (.int y1)] []))
          obtain ⟨T44, X44, e44, st44⟩ := getS2 X0 hx hZ hown (host := "") (Or.inl (hw _ (List.mem_of_getElem? (i := 14) rfl))) Via.refl e0 S_SOUTH (g := (mkF m 44 #[.val (.int x1), .val (.int y1)] [])) rfl (hb hby d2_44)
          refine Dn.st st44 ?_
          show Dn p e below s _ _ _ (T44.setTop (mkF m 47 #[.val (.int x1), .val (.int y1)] [(.ref aS)]))
          exact Dn.ret X44 hlk hx hret rfl (Or.inr (Or.inr (Or.inr (Or.inr ⟨rfl, rfl, rfl⟩)))) (hb hby d2_47) (by rw [e44]; exact ⟨congrArg some (by unfold own_side; rw [if_neg (by omega), if_neg (by omega), if_neg (by omega), if_pos (by omega)]), N0, rfl⟩) (by decide) (by decide)
    · have hi11 : ¬ x1.toInt = 0 := fun qq => hc11 (Int32.toInt_inj.mp qq)
      refine Dn.st (fun _ kk => XS.ifNo X0.here hx rfl (hb hby d2_11) rfl ((if0 _ _).trans (feq hc11).1) (XS.iloadN X0.here hx rfl (hb hby d2_14) rfl  (kk))) ?_
      show Dn p e below s _ _ _ (s₁.setTop (mkF m 15 #[.val (.int x1), .val (.int y1)] [(.int y1)]))
      by_cases hc15 : y1 = (0 : Int32)
      · have hi15 : y1.toInt = 0 := congrArg Int32.toInt hc15
        refine Dn.st (fun _ kk => XS.ifYes X0.here hx rfl (pc0 := 15) (pc' := 20) rfl (hb hby d2_15) rfl ((if0 _ _).trans (teq hc15).1) (by decide) (by decide) (XS.iloadN X0.here hx rfl (hb hby d2_20) rfl  (kk))) ?_
        show Dn p e below s _ _ _ (s₁.setTop (mkF m 21 #[.val (.int x1), .val (.int y1)] [(.int y1)]))
        by_cases hc21 : y1 = (0 : Int32)
        · have hi21 : y1.toInt = 0 := congrArg Int32.toInt hc21
          refine Dn.st (fun _ kk => XS.ifNo X0.here hx rfl (hb hby d2_21) rfl ((if0 _ _).trans (teq hc21).2) (XS.iloadN X0.here hx rfl (hb hby d2_24) rfl  (kk))) ?_
          show Dn p e below s _ _ _ (s₁.setTop (mkF m 25 #[.val (.int x1), .val (.int y1)] [(.int x1)]))
          by_cases hc25 : x1 < (0 : Int32)
          · have hi25 : x1.toInt < 0 := Int32.lt_iff_toInt_lt.mp hc25
            refine Dn.st (fun _ kk => XS.ifNo X0.here hx rfl (hb hby d2_25) rfl ((if0 _ _).trans (tlt hc25).2.1) (kk)) ?_
            show Dn p e below s _ _ _ (s₁.setTop (mkF m 28 #[.val (.int x1), .val (.int y1)] []))
            obtain ⟨T28, X28, e28, st28⟩ := getS2 X0 hx hZ hown (host := "") (Or.inl (hw _ (List.mem_of_getElem? (i := 17) rfl))) Via.refl e0 S_WEST (g := (mkF m 28 #[.val (.int x1), .val (.int y1)] [])) rfl (hb hby d2_28)
            refine Dn.st st28 ?_
            show Dn p e below s _ _ _ (T28.setTop (mkF m 31 #[.val (.int x1), .val (.int y1)] [(.ref aW)]))
            exact Dn.ret X28 hlk hx hret rfl (Or.inr (Or.inr (Or.inr (Or.inr ⟨rfl, rfl, rfl⟩)))) (hb hby d2_31) (by rw [e28]; exact ⟨congrArg some (by unfold own_side; rw [if_pos (by omega)]), N0, rfl⟩) (by decide) (by decide)
          · have hi25 : ¬ x1.toInt < 0 := fun qq => hc25 (Int32.lt_iff_toInt_lt.mpr qq)
            refine Dn.st (fun _ kk => XS.ifYes X0.here hx rfl (pc0 := 25) (pc' := 32) rfl (hb hby d2_25) rfl ((if0 _ _).trans (flt hc25).2.1) (by decide) (by decide) (kk)) ?_
            show Dn p e below s _ _ _ (s₁.setTop (mkF m 32 #[.val (.int x1), .val (.int y1)] []))
            obtain ⟨T32, X32, e32, st32⟩ := getS2 X0 hx hZ hown (host := "") (Or.inl (hw _ (List.mem_of_getElem? (i := 11) rfl))) Via.refl e0 S_EAST (g := (mkF m 32 #[.val (.int x1), .val (.int y1)] [])) rfl (hb hby d2_32)
            refine Dn.st st32 ?_
            show Dn p e below s _ _ _ (T32.setTop (mkF m 35 #[.val (.int x1), .val (.int y1)] [(.ref aE)]))
            exact Dn.ret X32 hlk hx hret rfl (Or.inr (Or.inr (Or.inr (Or.inr ⟨rfl, rfl, rfl⟩)))) (hb hby d2_35) (by rw [e32]; exact ⟨congrArg some (by unfold own_side; rw [if_neg (by omega), if_pos (by omega)]), N0, rfl⟩) (by decide) (by decide)
        · have hi21 : ¬ y1.toInt = 0 := fun qq => hc21 (Int32.toInt_inj.mp qq)
          refine Dn.st (fun _ kk => XS.ifYes X0.here hx rfl (pc0 := 21) (pc' := 36) rfl (hb hby d2_21) rfl ((if0 _ _).trans (feq hc21).2) (by decide) (by decide) (XS.iloadN X0.here hx rfl (hb hby d2_36) rfl  (kk))) ?_
          show Dn p e below s _ _ _ (s₁.setTop (mkF m 37 #[.val (.int x1), .val (.int y1)] [(.int y1)]))
          by_cases hc37 : y1 < (0 : Int32)
          · have hi37 : y1.toInt < 0 := Int32.lt_iff_toInt_lt.mp hc37
            refine Dn.st (fun _ kk => XS.ifNo X0.here hx rfl (hb hby d2_37) rfl ((if0 _ _).trans (tlt hc37).2.1) (kk)) ?_
            show Dn p e below s _ _ _ (s₁.setTop (mkF m 40 #[.val (.int x1), .val (.int y1)] []))
            obtain ⟨T40, X40, e40, st40⟩ := getS2 X0 hx hZ hown (host := "") (Or.inl (hw _ (List.mem_of_getElem? (i := 20) rfl))) Via.refl e0 S_NORTH (g := (mkF m 40 #[.val (.int x1), .val (.int y1)] [])) rfl (hb hby d2_40)
            refine Dn.st st40 ?_
            show Dn p e below s _ _ _ (T40.setTop (mkF m 43 #[.val (.int x1), .val (.int y1)] [(.ref aN)]))
            exact Dn.ret X40 hlk hx hret rfl (Or.inr (Or.inr (Or.inr (Or.inr ⟨rfl, rfl, rfl⟩)))) (hb hby d2_43) (by rw [e40]; exact ⟨congrArg some (by unfold own_side; rw [if_neg (by omega), if_neg (by omega), if_pos (by omega)]), N0, rfl⟩) (by decide) (by decide)
          · have hi37 : ¬ y1.toInt < 0 := fun qq => hc37 (Int32.lt_iff_toInt_lt.mpr qq)
            refine Dn.st (fun _ kk => XS.ifYes X0.here hx rfl (pc0 := 37) (pc' := 44) rfl (hb hby d2_37) rfl ((if0 _ _).trans (flt hc37).2.1) (by decide) (by decide) (kk)) ?_
            show Dn p e below s _ _ _ (s₁.setTop (mkF m 44 #[.val (.int x1), .val (.int y1)] []))
            obtain ⟨T44, X44, e44, st44⟩ := getS2 X0 hx hZ hown (host := "") (Or.inl (hw _ (List.mem_of_getElem? (i := 14) rfl))) Via.refl e0 S_SOUTH (g := (mkF m 44 #[.val (.int x1), .val (.int y1)] [])) rfl (hb hby d2_44)
            refine Dn.st st44 ?_
            show Dn p e below s _ _ _ (T44.setTop (mkF m 47 #[.val (.int x1), .val (.int y1)] [(.ref aS)]))
            exact Dn.ret X44 hlk hx hret rfl (Or.inr (Or.inr (Or.inr (Or.inr ⟨rfl, rfl, rfl⟩)))) (hb hby d2_47) (by rw [e44]; exact ⟨congrArg some (by unfold own_side; rw [if_neg (by omega), if_neg (by omega), if_neg (by omega), if_pos (by omega)]), N0, rfl⟩) (by decide) (by decide)
      · have hi15 : ¬ y1.toInt = 0 := fun qq => hc15 (Int32.toInt_inj.mp qq)
        refine Dn.st (fun _ kk => XS.ifNo X0.here hx rfl (hb hby d2_15) rfl ((if0 _ _).trans (feq hc15).1) (XS.aconstNull X0.here hx rfl (hb hby d2_18) (kk))) ?_
        show Dn p e below s _ _ _ (s₁.setTop (mkF m 19 #[.val (.int x1), .val (.int y1)] [.null]))
        exact Dn.ret X0 hlk hx hret rfl (Or.inr (Or.inr (Or.inr (Or.inr ⟨rfl, rfl, rfl⟩)))) (hb hby d2_19) (by rw [e0]; exact ⟨congrArg some (by unfold own_side; rw [if_neg (by omega), if_neg (by omega), if_neg (by omega), if_neg (by omega)]), N0, rfl⟩) (by decide) (by decide)

theorem pd0 : parseMethodDescriptor "(DD)Lcom/example/vias_for_diagrams/viasfordiagrams/PortSide;" = some ⟨[.double, .double], some (.object "com/example/vias_for_diagrams/viasfordiagrams/PortSide")⟩ := by decide +kernel
theorem pd1 : parseMethodDescriptor "(II)Lcom/example/vias_for_diagrams/viasfordiagrams/PortSide;" = some ⟨[.int, .int], some (.object "com/example/vias_for_diagrams/viasfordiagrams/PortSide")⟩ := by decide +kernel
theorem ef0_rm0 (m : MethodId) (x0 : Int32) (x1 : Int32) (x2 : Int32) (x3 : Int32) : entryFrame m #[(.int x0), (.int x1), (.int x2), (.int x3)] maxLocals = mkF m 0 #[.val (.int x0), .val (.int x1), .val (.int x2), .val (.int x3), .unset, .unset, .unset, .unset, .unset, .unset, .unset, .unset, .unset] [] := by first | (simp [entryFrame, mkF, argsToLocals, Value.category, maxLocals]; done) | rfl
def Q0 (Z : State) (p0 : Int32) (p1 : Int32) (p2 : Int32) (p3 : Int32) (aW aE aN aS : Addr) (h0 : Heap) (n0 : Nat) (v : Option Value) (h : Heap) (L : List Loc) : Prop := v = some (.int 1) ∧ Fr n0 L
set_option maxRecDepth 65536 in
set_option maxHeartbeats 40000000 in
theorem rm0 (l : Launch) (Z : State) (a0 : Array Value) (hw : ∀ d ∈ tables_1, d.before a0 Z = true) (ws : List Jvm.Cond) (p0 : Int32) (p1 : Int32) (p2 : Int32) (p3 : Int32) (aW aE aN aS : Addr) (h0 : Heap) (n0 : Nat) (Z0 : n0 ≤ h0.size) (S_WEST : Sta Z h0 "com/example/vias_for_diagrams/viasfordiagrams/PortSide" "WEST" "Lcom/example/vias_for_diagrams/viasfordiagrams/PortSide;" (.ref aW)) (S_EAST : Sta Z h0 "com/example/vias_for_diagrams/viasfordiagrams/PortSide" "EAST" "Lcom/example/vias_for_diagrams/viasfordiagrams/PortSide;" (.ref aE)) (S_NORTH : Sta Z h0 "com/example/vias_for_diagrams/viasfordiagrams/PortSide" "NORTH" "Lcom/example/vias_for_diagrams/viasfordiagrams/PortSide;" (.ref aN)) (S_SOUTH : Sta Z h0 "com/example/vias_for_diagrams/viasfordiagrams/PortSide" "SOUTH" "Lcom/example/vias_for_diagrams/viasfordiagrams/PortSide;" (.ref aS)) :
    MetFree l x (head1 (Jvm.Cond.code x code maxLocals ret :: ws) room_1) (fun aa UU => aa = #[(.int p0), (.int p1), (.int p2), (.int p3)] ∧ Z.Warmed39 UU.vm ∧ UU.heap = h0) (fun _ _ _ _ _ => True) (fun _ UU oo UU' => ∃ vv LL, oo = .returned vv ∧ Q0 Z p0 p1 p2 p3 aW aE aN aS h0 n0 vv UU'.heap LL ∧ FrameEnd UU oo UU' LL 0 0) := by
  refine MetFree.of_bodySF (plainFor_of_name pn1) hisR ?_
  intro p e s m args below meth c s₁ Bd hml0 hP hK
  obtain ⟨rfl, hZ, hh⟩ := hP
  have hx := Bd.exec
  have hby := Bd.bytes
  have hlk : meth.locks = false := BodyLoose.notSynchronized Bd
  have hret := Bd.returns
  have hml : c.maxLocals = 13 := hml0
  have hown : s.vm.findClass "com/example/vias_for_diagrams/viasfordiagrams/PortSideOfStepPinLaw" = some m.cls := findClass_of_methodNamed Bd.named
  have hnm := (name_of_methodNamed Bd.named Bd.method).1
  have X0 : Stand p l e room_1 s m #[(.int p0), (.int p1), (.int p2), (.int p3)] below meth c s₁ [] 0 0 := Stand.of_body Bd
  have e0 : s₁.heap = h0 := by rw [← hh, Bd.state]; rfl
  have N0 := Fr.nil n0
  have r_p0 := rng32 p0
  have r_p1 := rng32 p1
  have r_p2 := rng32 p2
  have r_p3 := rng32 p3
  show Dn p e below s (Q0 Z p0 p1 p2 p3 aW aE aN aS h0 n0) 0 0 (s₁.setTop (entryFrame m #[(.int p0), (.int p1), (.int p2), (.int p3)] maxLocals))
  refine Dn.st (fun _ kk => castTop (ef0_rm0 m p0 p1 p2 p3) kk) ?_
  show Dn p e below s _ _ _ (s₁.setTop (mkF m 0 #[.val (.int p0), .val (.int p1), .val (.int p2), .val (.int p3), .unset, .unset, .unset, .unset, .unset, .unset, .unset, .unset, .unset] []))
  refine Dn.st (fun _ kk => XS.iloadN X0.here hx rfl (hb hby at_0) rfl  (XS.iconst X0.here hx rfl (hb hby at_1) (XS.iand X0.here hx rfl (hb hby at_2) rfl (kk)))) ?_
  show Dn p e below s _ _ _ (s₁.setTop (mkF m 3 #[.val (.int p0), .val (.int p1), .val (.int p2), .val (.int p3), .unset, .unset, .unset, .unset, .unset, .unset, .unset, .unset, .unset] [(.int (p2 &&& (1 : Int32)))]))
  generalize hv2 : ((p2 &&& (1 : Int32)) : Int32) = v2
  have q2 : v2.toInt = p2.toInt % 2 := by have qq := c_mask p2 (1 : Int32) 1 (by decide) (by decide); rw [hv2] at qq; exact qq
  have r2 := rng32 v2
  show Dn p e below s _ _ _ (s₁.setTop (mkF m 3 #[.val (.int p0), .val (.int p1), .val (.int p2), .val (.int p3), .unset, .unset, .unset, .unset, .unset, .unset, .unset, .unset, .unset] [(.int v2)]))
  by_cases hc3 : v2 = (0 : Int32)
  · have hi3 : v2.toInt = 0 := congrArg Int32.toInt hc3
    refine Dn.st (fun _ kk => XS.ifYes X0.here hx rfl (pc0 := 3) (pc' := 10) rfl (hb hby at_3) rfl ((if0 _ _).trans (teq hc3).1) (by decide) (by decide) (XS.iloadN X0.here hx rfl (hb hby at_10) rfl  (XS.istore X0.here hx rfl (hb hby at_11) rfl (l' := #[.val (.int p0), .val (.int p1), .val (.int p2), .val (.int p3), .val (.int p0), .unset, .unset, .unset, .unset, .unset, .unset, .unset, .unset]) rfl (XS.iloadN X0.here hx rfl (hb hby at_13) rfl  (XS.iconst X0.here hx rfl (hb hby at_14) (XS.iand X0.here hx rfl (hb hby at_15) rfl (kk))))))) ?_
    show Dn p e below s _ _ _ (s₁.setTop (mkF m 16 #[.val (.int p0), .val (.int p1), .val (.int p2), .val (.int p3), .val (.int p0), .unset, .unset, .unset, .unset, .unset, .unset, .unset, .unset] [(.int (p2 &&& (2 : Int32)))]))
    generalize hv15 : ((p2 &&& (2 : Int32)) : Int32) = v15
    have q15 : 0 ≤ v15.toInt ∧ v15.toInt ≤ 2 := by have qq := c_and p2 (2 : Int32) (by decide); rw [hv15] at qq; exact qq
    have r15 := rng32 v15
    show Dn p e below s _ _ _ (s₁.setTop (mkF m 16 #[.val (.int p0), .val (.int p1), .val (.int p2), .val (.int p3), .val (.int p0), .unset, .unset, .unset, .unset, .unset, .unset, .unset, .unset] [(.int v15)]))
    by_cases hc16 : v15 = (0 : Int32)
    · have hi16 : v15.toInt = 0 := congrArg Int32.toInt hc16
      refine Dn.st (fun _ kk => XS.ifYes X0.here hx rfl (pc0 := 16) (pc' := 23) rfl (hb hby at_16) rfl ((if0 _ _).trans (teq hc16).1) (by decide) (by decide) (XS.iloadN X0.here hx rfl (hb hby at_23) rfl  (XS.istore X0.here hx rfl (hb hby at_24) rfl (l' := #[.val (.int p0), .val (.int p1), .val (.int p2), .val (.int p3), .val (.int p0), .val (.int p1), .unset, .unset, .unset, .unset, .unset, .unset, .unset]) rfl (XS.lconst X0.here hx rfl (hb hby at_26) (XS.iloadN X0.here hx rfl (hb hby at_27) rfl  (X0.ldcInt hx hown (mvT hZ (hw _ (List.mem_of_getElem? (i := 0) rfl))) (g := (mkF m 28 #[.val (.int p0), .val (.int p1), .val (.int p2), .val (.int p3), .val (.int p0), .val (.int p1), .unset, .unset, .unset, .unset, .unset, .unset, .unset] [(.int p3), (.long (1 : Int64))])) rfl (hb hby at_28) _ (kk))))))) ?_
      show Dn p e below s _ _ _ (s₁.setTop (mkF m 30 #[.val (.int p0), .val (.int p1), .val (.int p2), .val (.int p3), .val (.int p0), .val (.int p1), .unset, .unset, .unset, .unset, .unset, .unset, .unset] [(.int (2147483647 : Int32)), (.int p3), (.long (1 : Int64))]))
      refine Dn.st (fun _ kk => XS.iand X0.here hx rfl (hb hby at_30) rfl (kk)) ?_
      show Dn p e below s _ _ _ (s₁.setTop (mkF m 31 #[.val (.int p0), .val (.int p1), .val (.int p2), .val (.int p3), .val (.int p0), .val (.int p1), .unset, .unset, .unset, .unset, .unset, .unset, .unset] [(.int (p3 &&& (2147483647 : Int32))), (.long (1 : Int64))]))
      generalize hv30 : ((p3 &&& (2147483647 : Int32)) : Int32) = v30
      have q30 : v30.toInt = p3.toInt % 2147483648 := by have qq := c_mask p3 (2147483647 : Int32) 31 (by decide) (by decide); rw [hv30] at qq; exact qq
      have r30 := rng32 v30
      show Dn p e below s _ _ _ (s₁.setTop (mkF m 31 #[.val (.int p0), .val (.int p1), .val (.int p2), .val (.int p3), .val (.int p0), .val (.int p1), .unset, .unset, .unset, .unset, .unset, .unset, .unset] [(.int v30), (.long (1 : Int64))]))
      refine Dn.st (fun _ kk => XS.bipush X0.here hx rfl (hb hby at_31) (iremM X0 hx rfl (hb hby at_33) rfl (by decide) (kk))) ?_
      show Dn p e below s _ _ _ (s₁.setTop (mkF m 34 #[.val (.int p0), .val (.int p1), .val (.int p2), .val (.int p3), .val (.int p0), .val (.int p1), .unset, .unset, .unset, .unset, .unset, .unset, .unset] [(.int (v30 % (63 : Int32))), (.long (1 : Int64))]))
      generalize hv33 : ((v30 % (63 : Int32)) : Int32) = v33
      have q33 : (0 ≤ v30.toInt → v33.toInt = v30.toInt % 63) ∧ (v30.toInt < 0 → v33.toInt = -((-v30.toInt) % 63)) := by have qq := c_irem v30 (63 : Int32) 63 rfl; rw [hv33] at qq; exact qq
      have r33 := rng32 v33
      show Dn p e below s _ _ _ (s₁.setTop (mkF m 34 #[.val (.int p0), .val (.int p1), .val (.int p2), .val (.int p3), .val (.int p0), .val (.int p1), .unset, .unset, .unset, .unset, .unset, .unset, .unset] [(.int v33), (.long (1 : Int64))]))
      refine Dn.st (fun _ kk => XS.lshl X0.here hx rfl (hb hby at_34) rfl (kk)) ?_
      show Dn p e below s _ _ _ (s₁.setTop (mkF m 35 #[.val (.int p0), .val (.int p1), .val (.int p2), .val (.int p3), .val (.int p0), .val (.int p1), .unset, .unset, .unset, .unset, .unset, .unset, .unset] [(.long ((1 : Int64) <<< (v33 &&& 0x3f).toInt64))]))
      generalize hv34 : (((1 : Int64) <<< (v33 &&& 0x3f).toInt64) : Int64) = v34
      have r34 := rng64 v34
      show Dn p e below s _ _ _ (s₁.setTop (mkF m 35 #[.val (.int p0), .val (.int p1), .val (.int p2), .val (.int p3), .val (.int p0), .val (.int p1), .unset, .unset, .unset, .unset, .unset, .unset, .unset] [(.long v34)]))
      have d35 : DS 0 ((2 ^ v33.toInt.toNat : Nat) : Int) (FP.l2d v34) := hv34 ▸ own_pw v33 (by omega) (by omega)
      refine Dn.st (fun _ kk => XS.l2dS X0.here hx rfl (hb hby at_35) rfl rfl (kk)) ?_
      show Dn p e below s _ _ _ (s₁.setTop (mkF m 36 #[.val (.int p0), .val (.int p1), .val (.int p2), .val (.int p3), .val (.int p0), .val (.int p1), .unset, .unset, .unset, .unset, .unset, .unset, .unset] [(.double (FP.l2d v34))]))
      generalize hv35 : ((FP.l2d v34) : UInt64) = v35 at d35 ⊢
      show Dn p e below s _ _ _ (s₁.setTop (mkF m 36 #[.val (.int p0), .val (.int p1), .val (.int p2), .val (.int p3), .val (.int p0), .val (.int p1), .unset, .unset, .unset, .unset, .unset, .unset, .unset] [(.double v35)]))
      refine Dn.st (fun _ kk => XS.dstore X0.here hx rfl (hb hby at_36) rfl (l' := #[.val (.int p0), .val (.int p1), .val (.int p2), .val (.int p3), .val (.int p0), .val (.int p1), .val (.double v35), .second, .unset, .unset, .unset, .unset, .unset]) rfl (XS.iload X0.here hx rfl (hb hby at_38) rfl  (kk))) ?_
      show Dn p e below s _ _ _ (s₁.setTop (mkF m 40 #[.val (.int p0), .val (.int p1), .val (.int p2), .val (.int p3), .val (.int p0), .val (.int p1), .val (.double v35), .second, .unset, .unset, .unset, .unset, .unset] [(.int p0)]))
      have d40 := DS.i2d p0
      refine Dn.st (fun _ kk => XS.i2dS X0.here hx rfl (hb hby at_40) rfl rfl (kk)) ?_
      show Dn p e below s _ _ _ (s₁.setTop (mkF m 41 #[.val (.int p0), .val (.int p1), .val (.int p2), .val (.int p3), .val (.int p0), .val (.int p1), .val (.double v35), .second, .unset, .unset, .unset, .unset, .unset] [(.double (FP.i2d p0))]))
      generalize hv40 : ((FP.i2d p0) : UInt64) = v40 at d40 ⊢
      show Dn p e below s _ _ _ (s₁.setTop (mkF m 41 #[.val (.int p0), .val (.int p1), .val (.int p2), .val (.int p3), .val (.int p0), .val (.int p1), .val (.double v35), .second, .unset, .unset, .unset, .unset, .unset] [(.double v40)]))
      refine Dn.st (fun _ kk => XS.dload X0.here hx rfl (hb hby at_41) rfl  (kk)) ?_
      show Dn p e below s _ _ _ (s₁.setTop (mkF m 43 #[.val (.int p0), .val (.int p1), .val (.int p2), .val (.int p3), .val (.int p0), .val (.int p1), .val (.double v35), .second, .unset, .unset, .unset, .unset, .unset] [(.double v35), (.double v40)]))
      have d43 : DS (0 + v33.toInt.toNat) p0.toInt (FP.ddiv v40 v35) := DS.divp d40 d35 (by first | omega | decide) (by omega)
      refine Dn.st (fun _ kk => XS.ddivS X0.here hx rfl (hb hby at_43) rfl d43.nn rfl (kk)) ?_
      show Dn p e below s _ _ _ (s₁.setTop (mkF m 44 #[.val (.int p0), .val (.int p1), .val (.int p2), .val (.int p3), .val (.int p0), .val (.int p1), .val (.double v35), .second, .unset, .unset, .unset, .unset, .unset] [(.double (FP.ddiv v40 v35))]))
      generalize hv43 : ((FP.ddiv v40 v35) : UInt64) = v43 at d43 ⊢
      show Dn p e below s _ _ _ (s₁.setTop (mkF m 44 #[.val (.int p0), .val (.int p1), .val (.int p2), .val (.int p3), .val (.int p0), .val (.int p1), .val (.double v35), .second, .unset, .unset, .unset, .unset, .unset] [(.double v43)]))
      refine Dn.st (fun _ kk => XS.dstore X0.here hx rfl (hb hby at_44) rfl (l' := #[.val (.int p0), .val (.int p1), .val (.int p2), .val (.int p3), .val (.int p0), .val (.int p1), .val (.double v35), .second, .val (.double v43), .second, .unset, .unset, .unset]) rfl (XS.iload X0.here hx rfl (hb hby at_46) rfl  (kk))) ?_
      show Dn p e below s _ _ _ (s₁.setTop (mkF m 48 #[.val (.int p0), .val (.int p1), .val (.int p2), .val (.int p3), .val (.int p0), .val (.int p1), .val (.double v35), .second, .val (.double v43), .second, .unset, .unset, .unset] [(.int p1)]))
      have d48 := DS.i2d p1
      refine Dn.st (fun _ kk => XS.i2dS X0.here hx rfl (hb hby at_48) rfl rfl (kk)) ?_
      show Dn p e below s _ _ _ (s₁.setTop (mkF m 49 #[.val (.int p0), .val (.int p1), .val (.int p2), .val (.int p3), .val (.int p0), .val (.int p1), .val (.double v35), .second, .val (.double v43), .second, .unset, .unset, .unset] [(.double (FP.i2d p1))]))
      generalize hv48 : ((FP.i2d p1) : UInt64) = v48 at d48 ⊢
      show Dn p e below s _ _ _ (s₁.setTop (mkF m 49 #[.val (.int p0), .val (.int p1), .val (.int p2), .val (.int p3), .val (.int p0), .val (.int p1), .val (.double v35), .second, .val (.double v43), .second, .unset, .unset, .unset] [(.double v48)]))
      refine Dn.st (fun _ kk => XS.dload X0.here hx rfl (hb hby at_49) rfl  (kk)) ?_
      show Dn p e below s _ _ _ (s₁.setTop (mkF m 51 #[.val (.int p0), .val (.int p1), .val (.int p2), .val (.int p3), .val (.int p0), .val (.int p1), .val (.double v35), .second, .val (.double v43), .second, .unset, .unset, .unset] [(.double v35), (.double v48)]))
      have d51 : DS (0 + v33.toInt.toNat) p1.toInt (FP.ddiv v48 v35) := DS.divp d48 d35 (by first | omega | decide) (by omega)
      refine Dn.st (fun _ kk => XS.ddivS X0.here hx rfl (hb hby at_51) rfl d51.nn rfl (kk)) ?_
      show Dn p e below s _ _ _ (s₁.setTop (mkF m 52 #[.val (.int p0), .val (.int p1), .val (.int p2), .val (.int p3), .val (.int p0), .val (.int p1), .val (.double v35), .second, .val (.double v43), .second, .unset, .unset, .unset] [(.double (FP.ddiv v48 v35))]))
      generalize hv51 : ((FP.ddiv v48 v35) : UInt64) = v51 at d51 ⊢
      show Dn p e below s _ _ _ (s₁.setTop (mkF m 52 #[.val (.int p0), .val (.int p1), .val (.int p2), .val (.int p3), .val (.int p0), .val (.int p1), .val (.double v35), .second, .val (.double v43), .second, .unset, .unset, .unset] [(.double v51)]))
      refine Dn.st (fun _ kk => XS.dstore X0.here hx rfl (hb hby at_52) rfl (l' := #[.val (.int p0), .val (.int p1), .val (.int p2), .val (.int p3), .val (.int p0), .val (.int p1), .val (.double v35), .second, .val (.double v43), .second, .val (.double v51), .second, .unset]) rfl (XS.dload X0.here hx rfl (hb hby at_54) rfl  (XS.dload X0.here hx rfl (hb hby at_56) rfl  (kk)))) ?_
      show Dn p e below s _ _ _ (s₁.setTop (mkF m 58 #[.val (.int p0), .val (.int p1), .val (.int p2), .val (.int p3), .val (.int p0), .val (.int p1), .val (.double v35), .second, .val (.double v43), .second, .val (.double v51), .second, .unset] [(.double v51), (.double v43)]))
      obtain ⟨_, _, ⟨T58, L58, k58, n58⟩, -, X58, ⟨Lc58, hQ58, l58, y58, z58⟩, st58⟩ := Jvm.LawKit.callS X0 hx (y := (⟨"com/example/vias_for_diagrams/viasfordiagrams/PortSide", "ofStep", "(DD)Lcom/example/vias_for_diagrams/viasfordiagrams/PortSide;"⟩ : MethodName)) hown (mvT hZ (hw _ (List.mem_of_getElem? (i := 1) rfl))) (mvT hZ (hw _ (List.mem_of_getElem? (i := 2) rfl))) (mvT hZ (hw _ (List.mem_of_getElem? (i := 3) rfl))) (mvT hZ (hw _ (List.mem_of_getElem? (i := 4) rfl))) (by decide) (backOf (W := 0) (rm1 l Z a0 hw [] v43 v51 aW aE aN aS p0.toInt p1.toInt (0 + v33.toInt.toNat) h0 n0 Z0 S_WEST S_EAST S_NORTH S_SOUTH d43 d51) hZ (hw _ (List.mem_of_getElem? (i := 4) rfl)) (hw _ (List.mem_of_getElem? (i := 3) rfl)) (by decide) (by decide)) (g := (mkF m 58 #[.val (.int p0), .val (.int p1), .val (.int p2), .val (.int p3), .val (.int p0), .val (.int p1), .val (.double v35), .second, .val (.double v43), .second, .val (.double v51), .second, .unset] [(.double v51), (.double v43)])) rfl (by rw [hml]; rfl) (argsL := [(.double v43), (.double v51)]) (rest := []) (lenOf pd0 rfl) rfl (by show 2 * 0 + _ ≤ _; exact Nat.le_of_eq rfl) (hb hby at_58) (fun _ _ => ⟨rfl, e0, (by decide : 0 + 0 ≤ _), (by decide : 0 + 0 ≤ _)⟩)
      dsimp only [Pt.U, Pt.locs, Pt.cells, Pt.slots] at X58 l58 y58 z58 st58 hQ58
      subst l58 y58 z58
      obtain ⟨hv58, Nq58, hh58⟩ := hQ58
      subst hv58
      have hr58 := own_side_ref aW aE aN aS p0.toInt p1.toInt
      generalize hs58 : own_side aW aE aN aS p0.toInt p1.toInt = sv58 at st58 hr58
      have N58 := Fr.app N0 Nq58
      refine Dn.st st58 ?_
      rcases ref_cases hr58 with rfl | ⟨r58, rfl⟩
      · show Dn p e below s _ _ _ (T58.setTop (mkF m 61 #[.val (.int p0), .val (.int p1), .val (.int p2), .val (.int p3), .val (.int p0), .val (.int p1), .val (.double v35), .second, .val (.double v43), .second, .val (.double v51), .second, .unset] [.null]))
        refine Dn.st (fun _ kk => XS.astore X58.here hx rfl (hb hby at_61) rfl rfl (l' := #[.val (.int p0), .val (.int p1), .val (.int p2), .val (.int p3), .val (.int p0), .val (.int p1), .val (.double v35), .second, .val (.double v43), .second, .val (.double v51), .second, .val .null]) rfl (XS.aload X58.here hx rfl (hb hby at_63) rfl rfl (XS.iload X58.here hx rfl (hb hby at_65) rfl  (XS.iload X58.here hx rfl (hb hby at_67) rfl  (kk))))) ?_
        show Dn p e below s _ _ _ (T58.setTop (mkF m 69 #[.val (.int p0), .val (.int p1), .val (.int p2), .val (.int p3), .val (.int p0), .val (.int p1), .val (.double v35), .second, .val (.double v43), .second, .val (.double v51), .second, .val .null] [(.int p1), (.int p0), .null]))
        obtain ⟨_, _, ⟨T69, L69, k69, n69⟩, -, X69, ⟨Lc69, hQ69, l69, y69, z69⟩, st69⟩ := Jvm.LawKit.callS X58 hx (y := (⟨"com/example/vias_for_diagrams/viasfordiagrams/PortSideOfStepPinLaw", "expected", "(II)Lcom/example/vias_for_diagrams/viasfordiagrams/PortSide;"⟩ : MethodName)) hown (mvT hZ (hw _ (List.mem_of_getElem? (i := 5) rfl))) (mvT hZ (hw _ (List.mem_of_getElem? (i := 6) rfl))) (mvT hZ (hw _ (List.mem_of_getElem? (i := 7) rfl))) (mvT hZ (hw _ (List.mem_of_getElem? (i := 8) rfl))) (by decide) (backOf (W := 1) (rm2 l Z a0 hw [] p0 p1 aW aE aN aS h0 n0 Z0 S_WEST S_EAST S_NORTH S_SOUTH) hZ (hw _ (List.mem_of_getElem? (i := 8) rfl)) (hw _ (List.mem_of_getElem? (i := 7) rfl)) (by decide) (by decide)) (g := (mkF m 69 #[.val (.int p0), .val (.int p1), .val (.int p2), .val (.int p3), .val (.int p0), .val (.int p1), .val (.double v35), .second, .val (.double v43), .second, .val (.double v51), .second, .val .null] [(.int p1), (.int p0), .null])) rfl (by rw [hml]; rfl) (argsL := [(.int p0), (.int p1)]) (rest := [.null]) (lenOf pd1 rfl) rfl (by show 2 * 0 + _ ≤ _; exact Nat.le_of_eq rfl) (hb hby at_69) (fun _ _ => ⟨rfl, hh58, (by decide : 0 + 0 ≤ _), (by decide : 0 + 0 ≤ _)⟩)
        dsimp only [Pt.U, Pt.locs, Pt.cells, Pt.slots] at X69 l69 y69 z69 st69 hQ69
        subst l69 y69 z69
        obtain ⟨hv69, Nq69, hh69⟩ := hQ69
        rw [hs58] at hv69
        subst hv69
        have N69 := Fr.app N58 Nq69
        refine Dn.st st69 ?_
        show Dn p e below s _ _ _ (T69.setTop (mkF m 72 #[.val (.int p0), .val (.int p1), .val (.int p2), .val (.int p3), .val (.int p0), .val (.int p1), .val (.double v35), .second, .val (.double v43), .second, .val (.double v51), .second, .val .null] [.null, .null]))
        refine Dn.st (fun _ kk => Jvm.RoadKit.acmp (g := (mkF m 72 #[.val (.int p0), .val (.int p1), .val (.int p2), .val (.int p3), .val (.int p0), .val (.int p1), .val (.double v35), .second, .val (.double v43), .second, .val (.double v51), .second, .val .null] [.null, .null])) X69 hx rfl rfl rfl (pc0 := 72) (pc' := 75) (same := true) rfl (hb hby at_72) rfl (decide_eq_true rfl) (by decide) (by decide) (XS.iconst X69.here hx rfl (hb hby at_75) (XS.goto X69.here hx rfl (pc0 := 76) (pc' := 80) rfl (hb hby at_76) (by decide) (by decide) (kk)))) ?_
        show Dn p e below s _ _ _ (T69.setTop (mkF m 80 #[.val (.int p0), .val (.int p1), .val (.int p2), .val (.int p3), .val (.int p0), .val (.int p1), .val (.double v35), .second, .val (.double v43), .second, .val (.double v51), .second, .val .null] [(.int (1 : Int32))]))
        exact Dn.ret X69 hlk hx hret rfl (Or.inl ⟨rfl, Or.inr (Or.inl rfl), _, rfl⟩) (hb hby at_80) (by rw [hh69]; exact ⟨rfl, N69⟩) (by decide) (by decide)
      · show Dn p e below s _ _ _ (T58.setTop (mkF m 61 #[.val (.int p0), .val (.int p1), .val (.int p2), .val (.int p3), .val (.int p0), .val (.int p1), .val (.double v35), .second, .val (.double v43), .second, .val (.double v51), .second, .unset] [(.ref r58)]))
        refine Dn.st (fun _ kk => XS.astore X58.here hx rfl (hb hby at_61) rfl rfl (l' := #[.val (.int p0), .val (.int p1), .val (.int p2), .val (.int p3), .val (.int p0), .val (.int p1), .val (.double v35), .second, .val (.double v43), .second, .val (.double v51), .second, .val (.ref r58)]) rfl (XS.aload X58.here hx rfl (hb hby at_63) rfl rfl (XS.iload X58.here hx rfl (hb hby at_65) rfl  (XS.iload X58.here hx rfl (hb hby at_67) rfl  (kk))))) ?_
        show Dn p e below s _ _ _ (T58.setTop (mkF m 69 #[.val (.int p0), .val (.int p1), .val (.int p2), .val (.int p3), .val (.int p0), .val (.int p1), .val (.double v35), .second, .val (.double v43), .second, .val (.double v51), .second, .val (.ref r58)] [(.int p1), (.int p0), (.ref r58)]))
        obtain ⟨_, _, ⟨T69, L69, k69, n69⟩, -, X69, ⟨Lc69, hQ69, l69, y69, z69⟩, st69⟩ := Jvm.LawKit.callS X58 hx (y := (⟨"com/example/vias_for_diagrams/viasfordiagrams/PortSideOfStepPinLaw", "expected", "(II)Lcom/example/vias_for_diagrams/viasfordiagrams/PortSide;"⟩ : MethodName)) hown (mvT hZ (hw _ (List.mem_of_getElem? (i := 5) rfl))) (mvT hZ (hw _ (List.mem_of_getElem? (i := 6) rfl))) (mvT hZ (hw _ (List.mem_of_getElem? (i := 7) rfl))) (mvT hZ (hw _ (List.mem_of_getElem? (i := 8) rfl))) (by decide) (backOf (W := 1) (rm2 l Z a0 hw [] p0 p1 aW aE aN aS h0 n0 Z0 S_WEST S_EAST S_NORTH S_SOUTH) hZ (hw _ (List.mem_of_getElem? (i := 8) rfl)) (hw _ (List.mem_of_getElem? (i := 7) rfl)) (by decide) (by decide)) (g := (mkF m 69 #[.val (.int p0), .val (.int p1), .val (.int p2), .val (.int p3), .val (.int p0), .val (.int p1), .val (.double v35), .second, .val (.double v43), .second, .val (.double v51), .second, .val (.ref r58)] [(.int p1), (.int p0), (.ref r58)])) rfl (by rw [hml]; rfl) (argsL := [(.int p0), (.int p1)]) (rest := [(.ref r58)]) (lenOf pd1 rfl) rfl (by show 2 * 0 + _ ≤ _; exact Nat.le_of_eq rfl) (hb hby at_69) (fun _ _ => ⟨rfl, hh58, (by decide : 0 + 0 ≤ _), (by decide : 0 + 0 ≤ _)⟩)
        dsimp only [Pt.U, Pt.locs, Pt.cells, Pt.slots] at X69 l69 y69 z69 st69 hQ69
        subst l69 y69 z69
        obtain ⟨hv69, Nq69, hh69⟩ := hQ69
        rw [hs58] at hv69
        subst hv69
        have N69 := Fr.app N58 Nq69
        refine Dn.st st69 ?_
        show Dn p e below s _ _ _ (T69.setTop (mkF m 72 #[.val (.int p0), .val (.int p1), .val (.int p2), .val (.int p3), .val (.int p0), .val (.int p1), .val (.double v35), .second, .val (.double v43), .second, .val (.double v51), .second, .val (.ref r58)] [(.ref r58), (.ref r58)]))
        refine Dn.st (fun _ kk => Jvm.RoadKit.acmp (g := (mkF m 72 #[.val (.int p0), .val (.int p1), .val (.int p2), .val (.int p3), .val (.int p0), .val (.int p1), .val (.double v35), .second, .val (.double v43), .second, .val (.double v51), .second, .val (.ref r58)] [(.ref r58), (.ref r58)])) X69 hx rfl rfl rfl (pc0 := 72) (pc' := 75) (same := true) rfl (hb hby at_72) rfl (decide_eq_true rfl) (by decide) (by decide) (XS.iconst X69.here hx rfl (hb hby at_75) (XS.goto X69.here hx rfl (pc0 := 76) (pc' := 80) rfl (hb hby at_76) (by decide) (by decide) (kk)))) ?_
        show Dn p e below s _ _ _ (T69.setTop (mkF m 80 #[.val (.int p0), .val (.int p1), .val (.int p2), .val (.int p3), .val (.int p0), .val (.int p1), .val (.double v35), .second, .val (.double v43), .second, .val (.double v51), .second, .val (.ref r58)] [(.int (1 : Int32))]))
        exact Dn.ret X69 hlk hx hret rfl (Or.inl ⟨rfl, Or.inr (Or.inl rfl), _, rfl⟩) (hb hby at_80) (by rw [hh69]; exact ⟨rfl, N69⟩) (by decide) (by decide)
    · have hi16 : ¬ v15.toInt = 0 := fun qq => hc16 (Int32.toInt_inj.mp qq)
      refine Dn.st (fun _ kk => XS.ifNo X0.here hx rfl (hb hby at_16) rfl ((if0 _ _).trans (feq hc16).1) (XS.iconst X0.here hx rfl (hb hby at_19) (XS.goto X0.here hx rfl (pc0 := 20) (pc' := 24) rfl (hb hby at_20) (by decide) (by decide) (XS.istore X0.here hx rfl (hb hby at_24) rfl (l' := #[.val (.int p0), .val (.int p1), .val (.int p2), .val (.int p3), .val (.int p0), .val (.int (0 : Int32)), .unset, .unset, .unset, .unset, .unset, .unset, .unset]) rfl (XS.lconst X0.here hx rfl (hb hby at_26) (XS.iloadN X0.here hx rfl (hb hby at_27) rfl  (kk))))))) ?_
      show Dn p e below s _ _ _ (s₁.setTop (mkF m 28 #[.val (.int p0), .val (.int p1), .val (.int p2), .val (.int p3), .val (.int p0), .val (.int (0 : Int32)), .unset, .unset, .unset, .unset, .unset, .unset, .unset] [(.int p3), (.long (1 : Int64))]))
      refine Dn.st (fun _ kk => X0.ldcInt hx hown (mvT hZ (hw _ (List.mem_of_getElem? (i := 0) rfl))) (g := (mkF m 28 #[.val (.int p0), .val (.int p1), .val (.int p2), .val (.int p3), .val (.int p0), .val (.int (0 : Int32)), .unset, .unset, .unset, .unset, .unset, .unset, .unset] [(.int p3), (.long (1 : Int64))])) rfl (hb hby at_28) _ (XS.iand X0.here hx rfl (hb hby at_30) rfl (kk))) ?_
      show Dn p e below s _ _ _ (s₁.setTop (mkF m 31 #[.val (.int p0), .val (.int p1), .val (.int p2), .val (.int p3), .val (.int p0), .val (.int (0 : Int32)), .unset, .unset, .unset, .unset, .unset, .unset, .unset] [(.int (p3 &&& (2147483647 : Int32))), (.long (1 : Int64))]))
      generalize hv30 : ((p3 &&& (2147483647 : Int32)) : Int32) = v30
      have q30 : v30.toInt = p3.toInt % 2147483648 := by have qq := c_mask p3 (2147483647 : Int32) 31 (by decide) (by decide); rw [hv30] at qq; exact qq
      have r30 := rng32 v30
      show Dn p e below s _ _ _ (s₁.setTop (mkF m 31 #[.val (.int p0), .val (.int p1), .val (.int p2), .val (.int p3), .val (.int p0), .val (.int (0 : Int32)), .unset, .unset, .unset, .unset, .unset, .unset, .unset] [(.int v30), (.long (1 : Int64))]))
      refine Dn.st (fun _ kk => XS.bipush X0.here hx rfl (hb hby at_31) (iremM X0 hx rfl (hb hby at_33) rfl (by decide) (kk))) ?_
      show Dn p e below s _ _ _ (s₁.setTop (mkF m 34 #[.val (.int p0), .val (.int p1), .val (.int p2), .val (.int p3), .val (.int p0), .val (.int (0 : Int32)), .unset, .unset, .unset, .unset, .unset, .unset, .unset] [(.int (v30 % (63 : Int32))), (.long (1 : Int64))]))
      generalize hv33 : ((v30 % (63 : Int32)) : Int32) = v33
      have q33 : (0 ≤ v30.toInt → v33.toInt = v30.toInt % 63) ∧ (v30.toInt < 0 → v33.toInt = -((-v30.toInt) % 63)) := by have qq := c_irem v30 (63 : Int32) 63 rfl; rw [hv33] at qq; exact qq
      have r33 := rng32 v33
      show Dn p e below s _ _ _ (s₁.setTop (mkF m 34 #[.val (.int p0), .val (.int p1), .val (.int p2), .val (.int p3), .val (.int p0), .val (.int (0 : Int32)), .unset, .unset, .unset, .unset, .unset, .unset, .unset] [(.int v33), (.long (1 : Int64))]))
      refine Dn.st (fun _ kk => XS.lshl X0.here hx rfl (hb hby at_34) rfl (kk)) ?_
      show Dn p e below s _ _ _ (s₁.setTop (mkF m 35 #[.val (.int p0), .val (.int p1), .val (.int p2), .val (.int p3), .val (.int p0), .val (.int (0 : Int32)), .unset, .unset, .unset, .unset, .unset, .unset, .unset] [(.long ((1 : Int64) <<< (v33 &&& 0x3f).toInt64))]))
      generalize hv34 : (((1 : Int64) <<< (v33 &&& 0x3f).toInt64) : Int64) = v34
      have r34 := rng64 v34
      show Dn p e below s _ _ _ (s₁.setTop (mkF m 35 #[.val (.int p0), .val (.int p1), .val (.int p2), .val (.int p3), .val (.int p0), .val (.int (0 : Int32)), .unset, .unset, .unset, .unset, .unset, .unset, .unset] [(.long v34)]))
      have d35 : DS 0 ((2 ^ v33.toInt.toNat : Nat) : Int) (FP.l2d v34) := hv34 ▸ own_pw v33 (by omega) (by omega)
      refine Dn.st (fun _ kk => XS.l2dS X0.here hx rfl (hb hby at_35) rfl rfl (kk)) ?_
      show Dn p e below s _ _ _ (s₁.setTop (mkF m 36 #[.val (.int p0), .val (.int p1), .val (.int p2), .val (.int p3), .val (.int p0), .val (.int (0 : Int32)), .unset, .unset, .unset, .unset, .unset, .unset, .unset] [(.double (FP.l2d v34))]))
      generalize hv35 : ((FP.l2d v34) : UInt64) = v35 at d35 ⊢
      show Dn p e below s _ _ _ (s₁.setTop (mkF m 36 #[.val (.int p0), .val (.int p1), .val (.int p2), .val (.int p3), .val (.int p0), .val (.int (0 : Int32)), .unset, .unset, .unset, .unset, .unset, .unset, .unset] [(.double v35)]))
      refine Dn.st (fun _ kk => XS.dstore X0.here hx rfl (hb hby at_36) rfl (l' := #[.val (.int p0), .val (.int p1), .val (.int p2), .val (.int p3), .val (.int p0), .val (.int (0 : Int32)), .val (.double v35), .second, .unset, .unset, .unset, .unset, .unset]) rfl (XS.iload X0.here hx rfl (hb hby at_38) rfl  (kk))) ?_
      show Dn p e below s _ _ _ (s₁.setTop (mkF m 40 #[.val (.int p0), .val (.int p1), .val (.int p2), .val (.int p3), .val (.int p0), .val (.int (0 : Int32)), .val (.double v35), .second, .unset, .unset, .unset, .unset, .unset] [(.int p0)]))
      have d40 := DS.i2d p0
      refine Dn.st (fun _ kk => XS.i2dS X0.here hx rfl (hb hby at_40) rfl rfl (kk)) ?_
      show Dn p e below s _ _ _ (s₁.setTop (mkF m 41 #[.val (.int p0), .val (.int p1), .val (.int p2), .val (.int p3), .val (.int p0), .val (.int (0 : Int32)), .val (.double v35), .second, .unset, .unset, .unset, .unset, .unset] [(.double (FP.i2d p0))]))
      generalize hv40 : ((FP.i2d p0) : UInt64) = v40 at d40 ⊢
      show Dn p e below s _ _ _ (s₁.setTop (mkF m 41 #[.val (.int p0), .val (.int p1), .val (.int p2), .val (.int p3), .val (.int p0), .val (.int (0 : Int32)), .val (.double v35), .second, .unset, .unset, .unset, .unset, .unset] [(.double v40)]))
      refine Dn.st (fun _ kk => XS.dload X0.here hx rfl (hb hby at_41) rfl  (kk)) ?_
      show Dn p e below s _ _ _ (s₁.setTop (mkF m 43 #[.val (.int p0), .val (.int p1), .val (.int p2), .val (.int p3), .val (.int p0), .val (.int (0 : Int32)), .val (.double v35), .second, .unset, .unset, .unset, .unset, .unset] [(.double v35), (.double v40)]))
      have d43 : DS (0 + v33.toInt.toNat) p0.toInt (FP.ddiv v40 v35) := DS.divp d40 d35 (by first | omega | decide) (by omega)
      refine Dn.st (fun _ kk => XS.ddivS X0.here hx rfl (hb hby at_43) rfl d43.nn rfl (kk)) ?_
      show Dn p e below s _ _ _ (s₁.setTop (mkF m 44 #[.val (.int p0), .val (.int p1), .val (.int p2), .val (.int p3), .val (.int p0), .val (.int (0 : Int32)), .val (.double v35), .second, .unset, .unset, .unset, .unset, .unset] [(.double (FP.ddiv v40 v35))]))
      generalize hv43 : ((FP.ddiv v40 v35) : UInt64) = v43 at d43 ⊢
      show Dn p e below s _ _ _ (s₁.setTop (mkF m 44 #[.val (.int p0), .val (.int p1), .val (.int p2), .val (.int p3), .val (.int p0), .val (.int (0 : Int32)), .val (.double v35), .second, .unset, .unset, .unset, .unset, .unset] [(.double v43)]))
      refine Dn.st (fun _ kk => XS.dstore X0.here hx rfl (hb hby at_44) rfl (l' := #[.val (.int p0), .val (.int p1), .val (.int p2), .val (.int p3), .val (.int p0), .val (.int (0 : Int32)), .val (.double v35), .second, .val (.double v43), .second, .unset, .unset, .unset]) rfl (XS.iload X0.here hx rfl (hb hby at_46) rfl  (kk))) ?_
      show Dn p e below s _ _ _ (s₁.setTop (mkF m 48 #[.val (.int p0), .val (.int p1), .val (.int p2), .val (.int p3), .val (.int p0), .val (.int (0 : Int32)), .val (.double v35), .second, .val (.double v43), .second, .unset, .unset, .unset] [(.int (0 : Int32))]))
      have d48 := DS.i2d (0 : Int32)
      refine Dn.st (fun _ kk => XS.i2dS X0.here hx rfl (hb hby at_48) rfl rfl (kk)) ?_
      show Dn p e below s _ _ _ (s₁.setTop (mkF m 49 #[.val (.int p0), .val (.int p1), .val (.int p2), .val (.int p3), .val (.int p0), .val (.int (0 : Int32)), .val (.double v35), .second, .val (.double v43), .second, .unset, .unset, .unset] [(.double (FP.i2d (0 : Int32)))]))
      generalize hv48 : ((FP.i2d (0 : Int32)) : UInt64) = v48 at d48 ⊢
      show Dn p e below s _ _ _ (s₁.setTop (mkF m 49 #[.val (.int p0), .val (.int p1), .val (.int p2), .val (.int p3), .val (.int p0), .val (.int (0 : Int32)), .val (.double v35), .second, .val (.double v43), .second, .unset, .unset, .unset] [(.double v48)]))
      refine Dn.st (fun _ kk => XS.dload X0.here hx rfl (hb hby at_49) rfl  (kk)) ?_
      show Dn p e below s _ _ _ (s₁.setTop (mkF m 51 #[.val (.int p0), .val (.int p1), .val (.int p2), .val (.int p3), .val (.int p0), .val (.int (0 : Int32)), .val (.double v35), .second, .val (.double v43), .second, .unset, .unset, .unset] [(.double v35), (.double v48)]))
      have d51 : DS (0 + v33.toInt.toNat) (0 : Int32).toInt (FP.ddiv v48 v35) := DS.divp d48 d35 (by first | omega | decide) (by omega)
      refine Dn.st (fun _ kk => XS.ddivS X0.here hx rfl (hb hby at_51) rfl d51.nn rfl (kk)) ?_
      show Dn p e below s _ _ _ (s₁.setTop (mkF m 52 #[.val (.int p0), .val (.int p1), .val (.int p2), .val (.int p3), .val (.int p0), .val (.int (0 : Int32)), .val (.double v35), .second, .val (.double v43), .second, .unset, .unset, .unset] [(.double (FP.ddiv v48 v35))]))
      generalize hv51 : ((FP.ddiv v48 v35) : UInt64) = v51 at d51 ⊢
      show Dn p e below s _ _ _ (s₁.setTop (mkF m 52 #[.val (.int p0), .val (.int p1), .val (.int p2), .val (.int p3), .val (.int p0), .val (.int (0 : Int32)), .val (.double v35), .second, .val (.double v43), .second, .unset, .unset, .unset] [(.double v51)]))
      refine Dn.st (fun _ kk => XS.dstore X0.here hx rfl (hb hby at_52) rfl (l' := #[.val (.int p0), .val (.int p1), .val (.int p2), .val (.int p3), .val (.int p0), .val (.int (0 : Int32)), .val (.double v35), .second, .val (.double v43), .second, .val (.double v51), .second, .unset]) rfl (XS.dload X0.here hx rfl (hb hby at_54) rfl  (XS.dload X0.here hx rfl (hb hby at_56) rfl  (kk)))) ?_
      show Dn p e below s _ _ _ (s₁.setTop (mkF m 58 #[.val (.int p0), .val (.int p1), .val (.int p2), .val (.int p3), .val (.int p0), .val (.int (0 : Int32)), .val (.double v35), .second, .val (.double v43), .second, .val (.double v51), .second, .unset] [(.double v51), (.double v43)]))
      obtain ⟨_, _, ⟨T58, L58, k58, n58⟩, -, X58, ⟨Lc58, hQ58, l58, y58, z58⟩, st58⟩ := Jvm.LawKit.callS X0 hx (y := (⟨"com/example/vias_for_diagrams/viasfordiagrams/PortSide", "ofStep", "(DD)Lcom/example/vias_for_diagrams/viasfordiagrams/PortSide;"⟩ : MethodName)) hown (mvT hZ (hw _ (List.mem_of_getElem? (i := 1) rfl))) (mvT hZ (hw _ (List.mem_of_getElem? (i := 2) rfl))) (mvT hZ (hw _ (List.mem_of_getElem? (i := 3) rfl))) (mvT hZ (hw _ (List.mem_of_getElem? (i := 4) rfl))) (by decide) (backOf (W := 0) (rm1 l Z a0 hw [] v43 v51 aW aE aN aS p0.toInt (0 : Int32).toInt (0 + v33.toInt.toNat) h0 n0 Z0 S_WEST S_EAST S_NORTH S_SOUTH d43 d51) hZ (hw _ (List.mem_of_getElem? (i := 4) rfl)) (hw _ (List.mem_of_getElem? (i := 3) rfl)) (by decide) (by decide)) (g := (mkF m 58 #[.val (.int p0), .val (.int p1), .val (.int p2), .val (.int p3), .val (.int p0), .val (.int (0 : Int32)), .val (.double v35), .second, .val (.double v43), .second, .val (.double v51), .second, .unset] [(.double v51), (.double v43)])) rfl (by rw [hml]; rfl) (argsL := [(.double v43), (.double v51)]) (rest := []) (lenOf pd0 rfl) rfl (by show 2 * 0 + _ ≤ _; exact Nat.le_of_eq rfl) (hb hby at_58) (fun _ _ => ⟨rfl, e0, (by decide : 0 + 0 ≤ _), (by decide : 0 + 0 ≤ _)⟩)
      dsimp only [Pt.U, Pt.locs, Pt.cells, Pt.slots] at X58 l58 y58 z58 st58 hQ58
      subst l58 y58 z58
      obtain ⟨hv58, Nq58, hh58⟩ := hQ58
      subst hv58
      have hr58 := own_side_ref aW aE aN aS p0.toInt (0 : Int32).toInt
      generalize hs58 : own_side aW aE aN aS p0.toInt (0 : Int32).toInt = sv58 at st58 hr58
      have N58 := Fr.app N0 Nq58
      refine Dn.st st58 ?_
      rcases ref_cases hr58 with rfl | ⟨r58, rfl⟩
      · show Dn p e below s _ _ _ (T58.setTop (mkF m 61 #[.val (.int p0), .val (.int p1), .val (.int p2), .val (.int p3), .val (.int p0), .val (.int (0 : Int32)), .val (.double v35), .second, .val (.double v43), .second, .val (.double v51), .second, .unset] [.null]))
        refine Dn.st (fun _ kk => XS.astore X58.here hx rfl (hb hby at_61) rfl rfl (l' := #[.val (.int p0), .val (.int p1), .val (.int p2), .val (.int p3), .val (.int p0), .val (.int (0 : Int32)), .val (.double v35), .second, .val (.double v43), .second, .val (.double v51), .second, .val .null]) rfl (XS.aload X58.here hx rfl (hb hby at_63) rfl rfl (XS.iload X58.here hx rfl (hb hby at_65) rfl  (XS.iload X58.here hx rfl (hb hby at_67) rfl  (kk))))) ?_
        show Dn p e below s _ _ _ (T58.setTop (mkF m 69 #[.val (.int p0), .val (.int p1), .val (.int p2), .val (.int p3), .val (.int p0), .val (.int (0 : Int32)), .val (.double v35), .second, .val (.double v43), .second, .val (.double v51), .second, .val .null] [(.int (0 : Int32)), (.int p0), .null]))
        obtain ⟨_, _, ⟨T69, L69, k69, n69⟩, -, X69, ⟨Lc69, hQ69, l69, y69, z69⟩, st69⟩ := Jvm.LawKit.callS X58 hx (y := (⟨"com/example/vias_for_diagrams/viasfordiagrams/PortSideOfStepPinLaw", "expected", "(II)Lcom/example/vias_for_diagrams/viasfordiagrams/PortSide;"⟩ : MethodName)) hown (mvT hZ (hw _ (List.mem_of_getElem? (i := 5) rfl))) (mvT hZ (hw _ (List.mem_of_getElem? (i := 6) rfl))) (mvT hZ (hw _ (List.mem_of_getElem? (i := 7) rfl))) (mvT hZ (hw _ (List.mem_of_getElem? (i := 8) rfl))) (by decide) (backOf (W := 1) (rm2 l Z a0 hw [] p0 (0 : Int32) aW aE aN aS h0 n0 Z0 S_WEST S_EAST S_NORTH S_SOUTH) hZ (hw _ (List.mem_of_getElem? (i := 8) rfl)) (hw _ (List.mem_of_getElem? (i := 7) rfl)) (by decide) (by decide)) (g := (mkF m 69 #[.val (.int p0), .val (.int p1), .val (.int p2), .val (.int p3), .val (.int p0), .val (.int (0 : Int32)), .val (.double v35), .second, .val (.double v43), .second, .val (.double v51), .second, .val .null] [(.int (0 : Int32)), (.int p0), .null])) rfl (by rw [hml]; rfl) (argsL := [(.int p0), (.int (0 : Int32))]) (rest := [.null]) (lenOf pd1 rfl) rfl (by show 2 * 0 + _ ≤ _; exact Nat.le_of_eq rfl) (hb hby at_69) (fun _ _ => ⟨rfl, hh58, (by decide : 0 + 0 ≤ _), (by decide : 0 + 0 ≤ _)⟩)
        dsimp only [Pt.U, Pt.locs, Pt.cells, Pt.slots] at X69 l69 y69 z69 st69 hQ69
        subst l69 y69 z69
        obtain ⟨hv69, Nq69, hh69⟩ := hQ69
        rw [hs58] at hv69
        subst hv69
        have N69 := Fr.app N58 Nq69
        refine Dn.st st69 ?_
        show Dn p e below s _ _ _ (T69.setTop (mkF m 72 #[.val (.int p0), .val (.int p1), .val (.int p2), .val (.int p3), .val (.int p0), .val (.int (0 : Int32)), .val (.double v35), .second, .val (.double v43), .second, .val (.double v51), .second, .val .null] [.null, .null]))
        refine Dn.st (fun _ kk => Jvm.RoadKit.acmp (g := (mkF m 72 #[.val (.int p0), .val (.int p1), .val (.int p2), .val (.int p3), .val (.int p0), .val (.int (0 : Int32)), .val (.double v35), .second, .val (.double v43), .second, .val (.double v51), .second, .val .null] [.null, .null])) X69 hx rfl rfl rfl (pc0 := 72) (pc' := 75) (same := true) rfl (hb hby at_72) rfl (decide_eq_true rfl) (by decide) (by decide) (XS.iconst X69.here hx rfl (hb hby at_75) (XS.goto X69.here hx rfl (pc0 := 76) (pc' := 80) rfl (hb hby at_76) (by decide) (by decide) (kk)))) ?_
        show Dn p e below s _ _ _ (T69.setTop (mkF m 80 #[.val (.int p0), .val (.int p1), .val (.int p2), .val (.int p3), .val (.int p0), .val (.int (0 : Int32)), .val (.double v35), .second, .val (.double v43), .second, .val (.double v51), .second, .val .null] [(.int (1 : Int32))]))
        exact Dn.ret X69 hlk hx hret rfl (Or.inl ⟨rfl, Or.inr (Or.inl rfl), _, rfl⟩) (hb hby at_80) (by rw [hh69]; exact ⟨rfl, N69⟩) (by decide) (by decide)
      · show Dn p e below s _ _ _ (T58.setTop (mkF m 61 #[.val (.int p0), .val (.int p1), .val (.int p2), .val (.int p3), .val (.int p0), .val (.int (0 : Int32)), .val (.double v35), .second, .val (.double v43), .second, .val (.double v51), .second, .unset] [(.ref r58)]))
        refine Dn.st (fun _ kk => XS.astore X58.here hx rfl (hb hby at_61) rfl rfl (l' := #[.val (.int p0), .val (.int p1), .val (.int p2), .val (.int p3), .val (.int p0), .val (.int (0 : Int32)), .val (.double v35), .second, .val (.double v43), .second, .val (.double v51), .second, .val (.ref r58)]) rfl (XS.aload X58.here hx rfl (hb hby at_63) rfl rfl (XS.iload X58.here hx rfl (hb hby at_65) rfl  (XS.iload X58.here hx rfl (hb hby at_67) rfl  (kk))))) ?_
        show Dn p e below s _ _ _ (T58.setTop (mkF m 69 #[.val (.int p0), .val (.int p1), .val (.int p2), .val (.int p3), .val (.int p0), .val (.int (0 : Int32)), .val (.double v35), .second, .val (.double v43), .second, .val (.double v51), .second, .val (.ref r58)] [(.int (0 : Int32)), (.int p0), (.ref r58)]))
        obtain ⟨_, _, ⟨T69, L69, k69, n69⟩, -, X69, ⟨Lc69, hQ69, l69, y69, z69⟩, st69⟩ := Jvm.LawKit.callS X58 hx (y := (⟨"com/example/vias_for_diagrams/viasfordiagrams/PortSideOfStepPinLaw", "expected", "(II)Lcom/example/vias_for_diagrams/viasfordiagrams/PortSide;"⟩ : MethodName)) hown (mvT hZ (hw _ (List.mem_of_getElem? (i := 5) rfl))) (mvT hZ (hw _ (List.mem_of_getElem? (i := 6) rfl))) (mvT hZ (hw _ (List.mem_of_getElem? (i := 7) rfl))) (mvT hZ (hw _ (List.mem_of_getElem? (i := 8) rfl))) (by decide) (backOf (W := 1) (rm2 l Z a0 hw [] p0 (0 : Int32) aW aE aN aS h0 n0 Z0 S_WEST S_EAST S_NORTH S_SOUTH) hZ (hw _ (List.mem_of_getElem? (i := 8) rfl)) (hw _ (List.mem_of_getElem? (i := 7) rfl)) (by decide) (by decide)) (g := (mkF m 69 #[.val (.int p0), .val (.int p1), .val (.int p2), .val (.int p3), .val (.int p0), .val (.int (0 : Int32)), .val (.double v35), .second, .val (.double v43), .second, .val (.double v51), .second, .val (.ref r58)] [(.int (0 : Int32)), (.int p0), (.ref r58)])) rfl (by rw [hml]; rfl) (argsL := [(.int p0), (.int (0 : Int32))]) (rest := [(.ref r58)]) (lenOf pd1 rfl) rfl (by show 2 * 0 + _ ≤ _; exact Nat.le_of_eq rfl) (hb hby at_69) (fun _ _ => ⟨rfl, hh58, (by decide : 0 + 0 ≤ _), (by decide : 0 + 0 ≤ _)⟩)
        dsimp only [Pt.U, Pt.locs, Pt.cells, Pt.slots] at X69 l69 y69 z69 st69 hQ69
        subst l69 y69 z69
        obtain ⟨hv69, Nq69, hh69⟩ := hQ69
        rw [hs58] at hv69
        subst hv69
        have N69 := Fr.app N58 Nq69
        refine Dn.st st69 ?_
        show Dn p e below s _ _ _ (T69.setTop (mkF m 72 #[.val (.int p0), .val (.int p1), .val (.int p2), .val (.int p3), .val (.int p0), .val (.int (0 : Int32)), .val (.double v35), .second, .val (.double v43), .second, .val (.double v51), .second, .val (.ref r58)] [(.ref r58), (.ref r58)]))
        refine Dn.st (fun _ kk => Jvm.RoadKit.acmp (g := (mkF m 72 #[.val (.int p0), .val (.int p1), .val (.int p2), .val (.int p3), .val (.int p0), .val (.int (0 : Int32)), .val (.double v35), .second, .val (.double v43), .second, .val (.double v51), .second, .val (.ref r58)] [(.ref r58), (.ref r58)])) X69 hx rfl rfl rfl (pc0 := 72) (pc' := 75) (same := true) rfl (hb hby at_72) rfl (decide_eq_true rfl) (by decide) (by decide) (XS.iconst X69.here hx rfl (hb hby at_75) (XS.goto X69.here hx rfl (pc0 := 76) (pc' := 80) rfl (hb hby at_76) (by decide) (by decide) (kk)))) ?_
        show Dn p e below s _ _ _ (T69.setTop (mkF m 80 #[.val (.int p0), .val (.int p1), .val (.int p2), .val (.int p3), .val (.int p0), .val (.int (0 : Int32)), .val (.double v35), .second, .val (.double v43), .second, .val (.double v51), .second, .val (.ref r58)] [(.int (1 : Int32))]))
        exact Dn.ret X69 hlk hx hret rfl (Or.inl ⟨rfl, Or.inr (Or.inl rfl), _, rfl⟩) (hb hby at_80) (by rw [hh69]; exact ⟨rfl, N69⟩) (by decide) (by decide)
  · have hi3 : ¬ v2.toInt = 0 := fun qq => hc3 (Int32.toInt_inj.mp qq)
    refine Dn.st (fun _ kk => XS.ifNo X0.here hx rfl (hb hby at_3) rfl ((if0 _ _).trans (feq hc3).1) (XS.iconst X0.here hx rfl (hb hby at_6) (XS.goto X0.here hx rfl (pc0 := 7) (pc' := 11) rfl (hb hby at_7) (by decide) (by decide) (XS.istore X0.here hx rfl (hb hby at_11) rfl (l' := #[.val (.int p0), .val (.int p1), .val (.int p2), .val (.int p3), .val (.int (0 : Int32)), .unset, .unset, .unset, .unset, .unset, .unset, .unset, .unset]) rfl (XS.iloadN X0.here hx rfl (hb hby at_13) rfl  (XS.iconst X0.here hx rfl (hb hby at_14) (kk))))))) ?_
    show Dn p e below s _ _ _ (s₁.setTop (mkF m 15 #[.val (.int p0), .val (.int p1), .val (.int p2), .val (.int p3), .val (.int (0 : Int32)), .unset, .unset, .unset, .unset, .unset, .unset, .unset, .unset] [(.int (2 : Int32)), (.int p2)]))
    refine Dn.st (fun _ kk => XS.iand X0.here hx rfl (hb hby at_15) rfl (kk)) ?_
    show Dn p e below s _ _ _ (s₁.setTop (mkF m 16 #[.val (.int p0), .val (.int p1), .val (.int p2), .val (.int p3), .val (.int (0 : Int32)), .unset, .unset, .unset, .unset, .unset, .unset, .unset, .unset] [(.int (p2 &&& (2 : Int32)))]))
    generalize hv15 : ((p2 &&& (2 : Int32)) : Int32) = v15
    have q15 : 0 ≤ v15.toInt ∧ v15.toInt ≤ 2 := by have qq := c_and p2 (2 : Int32) (by decide); rw [hv15] at qq; exact qq
    have r15 := rng32 v15
    show Dn p e below s _ _ _ (s₁.setTop (mkF m 16 #[.val (.int p0), .val (.int p1), .val (.int p2), .val (.int p3), .val (.int (0 : Int32)), .unset, .unset, .unset, .unset, .unset, .unset, .unset, .unset] [(.int v15)]))
    by_cases hc16 : v15 = (0 : Int32)
    · have hi16 : v15.toInt = 0 := congrArg Int32.toInt hc16
      refine Dn.st (fun _ kk => XS.ifYes X0.here hx rfl (pc0 := 16) (pc' := 23) rfl (hb hby at_16) rfl ((if0 _ _).trans (teq hc16).1) (by decide) (by decide) (XS.iloadN X0.here hx rfl (hb hby at_23) rfl  (XS.istore X0.here hx rfl (hb hby at_24) rfl (l' := #[.val (.int p0), .val (.int p1), .val (.int p2), .val (.int p3), .val (.int (0 : Int32)), .val (.int p1), .unset, .unset, .unset, .unset, .unset, .unset, .unset]) rfl (XS.lconst X0.here hx rfl (hb hby at_26) (XS.iloadN X0.here hx rfl (hb hby at_27) rfl  (X0.ldcInt hx hown (mvT hZ (hw _ (List.mem_of_getElem? (i := 0) rfl))) (g := (mkF m 28 #[.val (.int p0), .val (.int p1), .val (.int p2), .val (.int p3), .val (.int (0 : Int32)), .val (.int p1), .unset, .unset, .unset, .unset, .unset, .unset, .unset] [(.int p3), (.long (1 : Int64))])) rfl (hb hby at_28) _ (kk))))))) ?_
      show Dn p e below s _ _ _ (s₁.setTop (mkF m 30 #[.val (.int p0), .val (.int p1), .val (.int p2), .val (.int p3), .val (.int (0 : Int32)), .val (.int p1), .unset, .unset, .unset, .unset, .unset, .unset, .unset] [(.int (2147483647 : Int32)), (.int p3), (.long (1 : Int64))]))
      refine Dn.st (fun _ kk => XS.iand X0.here hx rfl (hb hby at_30) rfl (kk)) ?_
      show Dn p e below s _ _ _ (s₁.setTop (mkF m 31 #[.val (.int p0), .val (.int p1), .val (.int p2), .val (.int p3), .val (.int (0 : Int32)), .val (.int p1), .unset, .unset, .unset, .unset, .unset, .unset, .unset] [(.int (p3 &&& (2147483647 : Int32))), (.long (1 : Int64))]))
      generalize hv30 : ((p3 &&& (2147483647 : Int32)) : Int32) = v30
      have q30 : v30.toInt = p3.toInt % 2147483648 := by have qq := c_mask p3 (2147483647 : Int32) 31 (by decide) (by decide); rw [hv30] at qq; exact qq
      have r30 := rng32 v30
      show Dn p e below s _ _ _ (s₁.setTop (mkF m 31 #[.val (.int p0), .val (.int p1), .val (.int p2), .val (.int p3), .val (.int (0 : Int32)), .val (.int p1), .unset, .unset, .unset, .unset, .unset, .unset, .unset] [(.int v30), (.long (1 : Int64))]))
      refine Dn.st (fun _ kk => XS.bipush X0.here hx rfl (hb hby at_31) (iremM X0 hx rfl (hb hby at_33) rfl (by decide) (kk))) ?_
      show Dn p e below s _ _ _ (s₁.setTop (mkF m 34 #[.val (.int p0), .val (.int p1), .val (.int p2), .val (.int p3), .val (.int (0 : Int32)), .val (.int p1), .unset, .unset, .unset, .unset, .unset, .unset, .unset] [(.int (v30 % (63 : Int32))), (.long (1 : Int64))]))
      generalize hv33 : ((v30 % (63 : Int32)) : Int32) = v33
      have q33 : (0 ≤ v30.toInt → v33.toInt = v30.toInt % 63) ∧ (v30.toInt < 0 → v33.toInt = -((-v30.toInt) % 63)) := by have qq := c_irem v30 (63 : Int32) 63 rfl; rw [hv33] at qq; exact qq
      have r33 := rng32 v33
      show Dn p e below s _ _ _ (s₁.setTop (mkF m 34 #[.val (.int p0), .val (.int p1), .val (.int p2), .val (.int p3), .val (.int (0 : Int32)), .val (.int p1), .unset, .unset, .unset, .unset, .unset, .unset, .unset] [(.int v33), (.long (1 : Int64))]))
      refine Dn.st (fun _ kk => XS.lshl X0.here hx rfl (hb hby at_34) rfl (kk)) ?_
      show Dn p e below s _ _ _ (s₁.setTop (mkF m 35 #[.val (.int p0), .val (.int p1), .val (.int p2), .val (.int p3), .val (.int (0 : Int32)), .val (.int p1), .unset, .unset, .unset, .unset, .unset, .unset, .unset] [(.long ((1 : Int64) <<< (v33 &&& 0x3f).toInt64))]))
      generalize hv34 : (((1 : Int64) <<< (v33 &&& 0x3f).toInt64) : Int64) = v34
      have r34 := rng64 v34
      show Dn p e below s _ _ _ (s₁.setTop (mkF m 35 #[.val (.int p0), .val (.int p1), .val (.int p2), .val (.int p3), .val (.int (0 : Int32)), .val (.int p1), .unset, .unset, .unset, .unset, .unset, .unset, .unset] [(.long v34)]))
      have d35 : DS 0 ((2 ^ v33.toInt.toNat : Nat) : Int) (FP.l2d v34) := hv34 ▸ own_pw v33 (by omega) (by omega)
      refine Dn.st (fun _ kk => XS.l2dS X0.here hx rfl (hb hby at_35) rfl rfl (kk)) ?_
      show Dn p e below s _ _ _ (s₁.setTop (mkF m 36 #[.val (.int p0), .val (.int p1), .val (.int p2), .val (.int p3), .val (.int (0 : Int32)), .val (.int p1), .unset, .unset, .unset, .unset, .unset, .unset, .unset] [(.double (FP.l2d v34))]))
      generalize hv35 : ((FP.l2d v34) : UInt64) = v35 at d35 ⊢
      show Dn p e below s _ _ _ (s₁.setTop (mkF m 36 #[.val (.int p0), .val (.int p1), .val (.int p2), .val (.int p3), .val (.int (0 : Int32)), .val (.int p1), .unset, .unset, .unset, .unset, .unset, .unset, .unset] [(.double v35)]))
      refine Dn.st (fun _ kk => XS.dstore X0.here hx rfl (hb hby at_36) rfl (l' := #[.val (.int p0), .val (.int p1), .val (.int p2), .val (.int p3), .val (.int (0 : Int32)), .val (.int p1), .val (.double v35), .second, .unset, .unset, .unset, .unset, .unset]) rfl (XS.iload X0.here hx rfl (hb hby at_38) rfl  (kk))) ?_
      show Dn p e below s _ _ _ (s₁.setTop (mkF m 40 #[.val (.int p0), .val (.int p1), .val (.int p2), .val (.int p3), .val (.int (0 : Int32)), .val (.int p1), .val (.double v35), .second, .unset, .unset, .unset, .unset, .unset] [(.int (0 : Int32))]))
      have d40 := DS.i2d (0 : Int32)
      refine Dn.st (fun _ kk => XS.i2dS X0.here hx rfl (hb hby at_40) rfl rfl (kk)) ?_
      show Dn p e below s _ _ _ (s₁.setTop (mkF m 41 #[.val (.int p0), .val (.int p1), .val (.int p2), .val (.int p3), .val (.int (0 : Int32)), .val (.int p1), .val (.double v35), .second, .unset, .unset, .unset, .unset, .unset] [(.double (FP.i2d (0 : Int32)))]))
      generalize hv40 : ((FP.i2d (0 : Int32)) : UInt64) = v40 at d40 ⊢
      show Dn p e below s _ _ _ (s₁.setTop (mkF m 41 #[.val (.int p0), .val (.int p1), .val (.int p2), .val (.int p3), .val (.int (0 : Int32)), .val (.int p1), .val (.double v35), .second, .unset, .unset, .unset, .unset, .unset] [(.double v40)]))
      refine Dn.st (fun _ kk => XS.dload X0.here hx rfl (hb hby at_41) rfl  (kk)) ?_
      show Dn p e below s _ _ _ (s₁.setTop (mkF m 43 #[.val (.int p0), .val (.int p1), .val (.int p2), .val (.int p3), .val (.int (0 : Int32)), .val (.int p1), .val (.double v35), .second, .unset, .unset, .unset, .unset, .unset] [(.double v35), (.double v40)]))
      have d43 : DS (0 + v33.toInt.toNat) (0 : Int32).toInt (FP.ddiv v40 v35) := DS.divp d40 d35 (by first | omega | decide) (by omega)
      refine Dn.st (fun _ kk => XS.ddivS X0.here hx rfl (hb hby at_43) rfl d43.nn rfl (kk)) ?_
      show Dn p e below s _ _ _ (s₁.setTop (mkF m 44 #[.val (.int p0), .val (.int p1), .val (.int p2), .val (.int p3), .val (.int (0 : Int32)), .val (.int p1), .val (.double v35), .second, .unset, .unset, .unset, .unset, .unset] [(.double (FP.ddiv v40 v35))]))
      generalize hv43 : ((FP.ddiv v40 v35) : UInt64) = v43 at d43 ⊢
      show Dn p e below s _ _ _ (s₁.setTop (mkF m 44 #[.val (.int p0), .val (.int p1), .val (.int p2), .val (.int p3), .val (.int (0 : Int32)), .val (.int p1), .val (.double v35), .second, .unset, .unset, .unset, .unset, .unset] [(.double v43)]))
      refine Dn.st (fun _ kk => XS.dstore X0.here hx rfl (hb hby at_44) rfl (l' := #[.val (.int p0), .val (.int p1), .val (.int p2), .val (.int p3), .val (.int (0 : Int32)), .val (.int p1), .val (.double v35), .second, .val (.double v43), .second, .unset, .unset, .unset]) rfl (XS.iload X0.here hx rfl (hb hby at_46) rfl  (kk))) ?_
      show Dn p e below s _ _ _ (s₁.setTop (mkF m 48 #[.val (.int p0), .val (.int p1), .val (.int p2), .val (.int p3), .val (.int (0 : Int32)), .val (.int p1), .val (.double v35), .second, .val (.double v43), .second, .unset, .unset, .unset] [(.int p1)]))
      have d48 := DS.i2d p1
      refine Dn.st (fun _ kk => XS.i2dS X0.here hx rfl (hb hby at_48) rfl rfl (kk)) ?_
      show Dn p e below s _ _ _ (s₁.setTop (mkF m 49 #[.val (.int p0), .val (.int p1), .val (.int p2), .val (.int p3), .val (.int (0 : Int32)), .val (.int p1), .val (.double v35), .second, .val (.double v43), .second, .unset, .unset, .unset] [(.double (FP.i2d p1))]))
      generalize hv48 : ((FP.i2d p1) : UInt64) = v48 at d48 ⊢
      show Dn p e below s _ _ _ (s₁.setTop (mkF m 49 #[.val (.int p0), .val (.int p1), .val (.int p2), .val (.int p3), .val (.int (0 : Int32)), .val (.int p1), .val (.double v35), .second, .val (.double v43), .second, .unset, .unset, .unset] [(.double v48)]))
      refine Dn.st (fun _ kk => XS.dload X0.here hx rfl (hb hby at_49) rfl  (kk)) ?_
      show Dn p e below s _ _ _ (s₁.setTop (mkF m 51 #[.val (.int p0), .val (.int p1), .val (.int p2), .val (.int p3), .val (.int (0 : Int32)), .val (.int p1), .val (.double v35), .second, .val (.double v43), .second, .unset, .unset, .unset] [(.double v35), (.double v48)]))
      have d51 : DS (0 + v33.toInt.toNat) p1.toInt (FP.ddiv v48 v35) := DS.divp d48 d35 (by first | omega | decide) (by omega)
      refine Dn.st (fun _ kk => XS.ddivS X0.here hx rfl (hb hby at_51) rfl d51.nn rfl (kk)) ?_
      show Dn p e below s _ _ _ (s₁.setTop (mkF m 52 #[.val (.int p0), .val (.int p1), .val (.int p2), .val (.int p3), .val (.int (0 : Int32)), .val (.int p1), .val (.double v35), .second, .val (.double v43), .second, .unset, .unset, .unset] [(.double (FP.ddiv v48 v35))]))
      generalize hv51 : ((FP.ddiv v48 v35) : UInt64) = v51 at d51 ⊢
      show Dn p e below s _ _ _ (s₁.setTop (mkF m 52 #[.val (.int p0), .val (.int p1), .val (.int p2), .val (.int p3), .val (.int (0 : Int32)), .val (.int p1), .val (.double v35), .second, .val (.double v43), .second, .unset, .unset, .unset] [(.double v51)]))
      refine Dn.st (fun _ kk => XS.dstore X0.here hx rfl (hb hby at_52) rfl (l' := #[.val (.int p0), .val (.int p1), .val (.int p2), .val (.int p3), .val (.int (0 : Int32)), .val (.int p1), .val (.double v35), .second, .val (.double v43), .second, .val (.double v51), .second, .unset]) rfl (XS.dload X0.here hx rfl (hb hby at_54) rfl  (XS.dload X0.here hx rfl (hb hby at_56) rfl  (kk)))) ?_
      show Dn p e below s _ _ _ (s₁.setTop (mkF m 58 #[.val (.int p0), .val (.int p1), .val (.int p2), .val (.int p3), .val (.int (0 : Int32)), .val (.int p1), .val (.double v35), .second, .val (.double v43), .second, .val (.double v51), .second, .unset] [(.double v51), (.double v43)]))
      obtain ⟨_, _, ⟨T58, L58, k58, n58⟩, -, X58, ⟨Lc58, hQ58, l58, y58, z58⟩, st58⟩ := Jvm.LawKit.callS X0 hx (y := (⟨"com/example/vias_for_diagrams/viasfordiagrams/PortSide", "ofStep", "(DD)Lcom/example/vias_for_diagrams/viasfordiagrams/PortSide;"⟩ : MethodName)) hown (mvT hZ (hw _ (List.mem_of_getElem? (i := 1) rfl))) (mvT hZ (hw _ (List.mem_of_getElem? (i := 2) rfl))) (mvT hZ (hw _ (List.mem_of_getElem? (i := 3) rfl))) (mvT hZ (hw _ (List.mem_of_getElem? (i := 4) rfl))) (by decide) (backOf (W := 0) (rm1 l Z a0 hw [] v43 v51 aW aE aN aS (0 : Int32).toInt p1.toInt (0 + v33.toInt.toNat) h0 n0 Z0 S_WEST S_EAST S_NORTH S_SOUTH d43 d51) hZ (hw _ (List.mem_of_getElem? (i := 4) rfl)) (hw _ (List.mem_of_getElem? (i := 3) rfl)) (by decide) (by decide)) (g := (mkF m 58 #[.val (.int p0), .val (.int p1), .val (.int p2), .val (.int p3), .val (.int (0 : Int32)), .val (.int p1), .val (.double v35), .second, .val (.double v43), .second, .val (.double v51), .second, .unset] [(.double v51), (.double v43)])) rfl (by rw [hml]; rfl) (argsL := [(.double v43), (.double v51)]) (rest := []) (lenOf pd0 rfl) rfl (by show 2 * 0 + _ ≤ _; exact Nat.le_of_eq rfl) (hb hby at_58) (fun _ _ => ⟨rfl, e0, (by decide : 0 + 0 ≤ _), (by decide : 0 + 0 ≤ _)⟩)
      dsimp only [Pt.U, Pt.locs, Pt.cells, Pt.slots] at X58 l58 y58 z58 st58 hQ58
      subst l58 y58 z58
      obtain ⟨hv58, Nq58, hh58⟩ := hQ58
      subst hv58
      have hr58 := own_side_ref aW aE aN aS (0 : Int32).toInt p1.toInt
      generalize hs58 : own_side aW aE aN aS (0 : Int32).toInt p1.toInt = sv58 at st58 hr58
      have N58 := Fr.app N0 Nq58
      refine Dn.st st58 ?_
      rcases ref_cases hr58 with rfl | ⟨r58, rfl⟩
      · show Dn p e below s _ _ _ (T58.setTop (mkF m 61 #[.val (.int p0), .val (.int p1), .val (.int p2), .val (.int p3), .val (.int (0 : Int32)), .val (.int p1), .val (.double v35), .second, .val (.double v43), .second, .val (.double v51), .second, .unset] [.null]))
        refine Dn.st (fun _ kk => XS.astore X58.here hx rfl (hb hby at_61) rfl rfl (l' := #[.val (.int p0), .val (.int p1), .val (.int p2), .val (.int p3), .val (.int (0 : Int32)), .val (.int p1), .val (.double v35), .second, .val (.double v43), .second, .val (.double v51), .second, .val .null]) rfl (XS.aload X58.here hx rfl (hb hby at_63) rfl rfl (XS.iload X58.here hx rfl (hb hby at_65) rfl  (XS.iload X58.here hx rfl (hb hby at_67) rfl  (kk))))) ?_
        show Dn p e below s _ _ _ (T58.setTop (mkF m 69 #[.val (.int p0), .val (.int p1), .val (.int p2), .val (.int p3), .val (.int (0 : Int32)), .val (.int p1), .val (.double v35), .second, .val (.double v43), .second, .val (.double v51), .second, .val .null] [(.int p1), (.int (0 : Int32)), .null]))
        obtain ⟨_, _, ⟨T69, L69, k69, n69⟩, -, X69, ⟨Lc69, hQ69, l69, y69, z69⟩, st69⟩ := Jvm.LawKit.callS X58 hx (y := (⟨"com/example/vias_for_diagrams/viasfordiagrams/PortSideOfStepPinLaw", "expected", "(II)Lcom/example/vias_for_diagrams/viasfordiagrams/PortSide;"⟩ : MethodName)) hown (mvT hZ (hw _ (List.mem_of_getElem? (i := 5) rfl))) (mvT hZ (hw _ (List.mem_of_getElem? (i := 6) rfl))) (mvT hZ (hw _ (List.mem_of_getElem? (i := 7) rfl))) (mvT hZ (hw _ (List.mem_of_getElem? (i := 8) rfl))) (by decide) (backOf (W := 1) (rm2 l Z a0 hw [] (0 : Int32) p1 aW aE aN aS h0 n0 Z0 S_WEST S_EAST S_NORTH S_SOUTH) hZ (hw _ (List.mem_of_getElem? (i := 8) rfl)) (hw _ (List.mem_of_getElem? (i := 7) rfl)) (by decide) (by decide)) (g := (mkF m 69 #[.val (.int p0), .val (.int p1), .val (.int p2), .val (.int p3), .val (.int (0 : Int32)), .val (.int p1), .val (.double v35), .second, .val (.double v43), .second, .val (.double v51), .second, .val .null] [(.int p1), (.int (0 : Int32)), .null])) rfl (by rw [hml]; rfl) (argsL := [(.int (0 : Int32)), (.int p1)]) (rest := [.null]) (lenOf pd1 rfl) rfl (by show 2 * 0 + _ ≤ _; exact Nat.le_of_eq rfl) (hb hby at_69) (fun _ _ => ⟨rfl, hh58, (by decide : 0 + 0 ≤ _), (by decide : 0 + 0 ≤ _)⟩)
        dsimp only [Pt.U, Pt.locs, Pt.cells, Pt.slots] at X69 l69 y69 z69 st69 hQ69
        subst l69 y69 z69
        obtain ⟨hv69, Nq69, hh69⟩ := hQ69
        rw [hs58] at hv69
        subst hv69
        have N69 := Fr.app N58 Nq69
        refine Dn.st st69 ?_
        show Dn p e below s _ _ _ (T69.setTop (mkF m 72 #[.val (.int p0), .val (.int p1), .val (.int p2), .val (.int p3), .val (.int (0 : Int32)), .val (.int p1), .val (.double v35), .second, .val (.double v43), .second, .val (.double v51), .second, .val .null] [.null, .null]))
        refine Dn.st (fun _ kk => Jvm.RoadKit.acmp (g := (mkF m 72 #[.val (.int p0), .val (.int p1), .val (.int p2), .val (.int p3), .val (.int (0 : Int32)), .val (.int p1), .val (.double v35), .second, .val (.double v43), .second, .val (.double v51), .second, .val .null] [.null, .null])) X69 hx rfl rfl rfl (pc0 := 72) (pc' := 75) (same := true) rfl (hb hby at_72) rfl (decide_eq_true rfl) (by decide) (by decide) (XS.iconst X69.here hx rfl (hb hby at_75) (XS.goto X69.here hx rfl (pc0 := 76) (pc' := 80) rfl (hb hby at_76) (by decide) (by decide) (kk)))) ?_
        show Dn p e below s _ _ _ (T69.setTop (mkF m 80 #[.val (.int p0), .val (.int p1), .val (.int p2), .val (.int p3), .val (.int (0 : Int32)), .val (.int p1), .val (.double v35), .second, .val (.double v43), .second, .val (.double v51), .second, .val .null] [(.int (1 : Int32))]))
        exact Dn.ret X69 hlk hx hret rfl (Or.inl ⟨rfl, Or.inr (Or.inl rfl), _, rfl⟩) (hb hby at_80) (by rw [hh69]; exact ⟨rfl, N69⟩) (by decide) (by decide)
      · show Dn p e below s _ _ _ (T58.setTop (mkF m 61 #[.val (.int p0), .val (.int p1), .val (.int p2), .val (.int p3), .val (.int (0 : Int32)), .val (.int p1), .val (.double v35), .second, .val (.double v43), .second, .val (.double v51), .second, .unset] [(.ref r58)]))
        refine Dn.st (fun _ kk => XS.astore X58.here hx rfl (hb hby at_61) rfl rfl (l' := #[.val (.int p0), .val (.int p1), .val (.int p2), .val (.int p3), .val (.int (0 : Int32)), .val (.int p1), .val (.double v35), .second, .val (.double v43), .second, .val (.double v51), .second, .val (.ref r58)]) rfl (XS.aload X58.here hx rfl (hb hby at_63) rfl rfl (XS.iload X58.here hx rfl (hb hby at_65) rfl  (XS.iload X58.here hx rfl (hb hby at_67) rfl  (kk))))) ?_
        show Dn p e below s _ _ _ (T58.setTop (mkF m 69 #[.val (.int p0), .val (.int p1), .val (.int p2), .val (.int p3), .val (.int (0 : Int32)), .val (.int p1), .val (.double v35), .second, .val (.double v43), .second, .val (.double v51), .second, .val (.ref r58)] [(.int p1), (.int (0 : Int32)), (.ref r58)]))
        obtain ⟨_, _, ⟨T69, L69, k69, n69⟩, -, X69, ⟨Lc69, hQ69, l69, y69, z69⟩, st69⟩ := Jvm.LawKit.callS X58 hx (y := (⟨"com/example/vias_for_diagrams/viasfordiagrams/PortSideOfStepPinLaw", "expected", "(II)Lcom/example/vias_for_diagrams/viasfordiagrams/PortSide;"⟩ : MethodName)) hown (mvT hZ (hw _ (List.mem_of_getElem? (i := 5) rfl))) (mvT hZ (hw _ (List.mem_of_getElem? (i := 6) rfl))) (mvT hZ (hw _ (List.mem_of_getElem? (i := 7) rfl))) (mvT hZ (hw _ (List.mem_of_getElem? (i := 8) rfl))) (by decide) (backOf (W := 1) (rm2 l Z a0 hw [] (0 : Int32) p1 aW aE aN aS h0 n0 Z0 S_WEST S_EAST S_NORTH S_SOUTH) hZ (hw _ (List.mem_of_getElem? (i := 8) rfl)) (hw _ (List.mem_of_getElem? (i := 7) rfl)) (by decide) (by decide)) (g := (mkF m 69 #[.val (.int p0), .val (.int p1), .val (.int p2), .val (.int p3), .val (.int (0 : Int32)), .val (.int p1), .val (.double v35), .second, .val (.double v43), .second, .val (.double v51), .second, .val (.ref r58)] [(.int p1), (.int (0 : Int32)), (.ref r58)])) rfl (by rw [hml]; rfl) (argsL := [(.int (0 : Int32)), (.int p1)]) (rest := [(.ref r58)]) (lenOf pd1 rfl) rfl (by show 2 * 0 + _ ≤ _; exact Nat.le_of_eq rfl) (hb hby at_69) (fun _ _ => ⟨rfl, hh58, (by decide : 0 + 0 ≤ _), (by decide : 0 + 0 ≤ _)⟩)
        dsimp only [Pt.U, Pt.locs, Pt.cells, Pt.slots] at X69 l69 y69 z69 st69 hQ69
        subst l69 y69 z69
        obtain ⟨hv69, Nq69, hh69⟩ := hQ69
        rw [hs58] at hv69
        subst hv69
        have N69 := Fr.app N58 Nq69
        refine Dn.st st69 ?_
        show Dn p e below s _ _ _ (T69.setTop (mkF m 72 #[.val (.int p0), .val (.int p1), .val (.int p2), .val (.int p3), .val (.int (0 : Int32)), .val (.int p1), .val (.double v35), .second, .val (.double v43), .second, .val (.double v51), .second, .val (.ref r58)] [(.ref r58), (.ref r58)]))
        refine Dn.st (fun _ kk => Jvm.RoadKit.acmp (g := (mkF m 72 #[.val (.int p0), .val (.int p1), .val (.int p2), .val (.int p3), .val (.int (0 : Int32)), .val (.int p1), .val (.double v35), .second, .val (.double v43), .second, .val (.double v51), .second, .val (.ref r58)] [(.ref r58), (.ref r58)])) X69 hx rfl rfl rfl (pc0 := 72) (pc' := 75) (same := true) rfl (hb hby at_72) rfl (decide_eq_true rfl) (by decide) (by decide) (XS.iconst X69.here hx rfl (hb hby at_75) (XS.goto X69.here hx rfl (pc0 := 76) (pc' := 80) rfl (hb hby at_76) (by decide) (by decide) (kk)))) ?_
        show Dn p e below s _ _ _ (T69.setTop (mkF m 80 #[.val (.int p0), .val (.int p1), .val (.int p2), .val (.int p3), .val (.int (0 : Int32)), .val (.int p1), .val (.double v35), .second, .val (.double v43), .second, .val (.double v51), .second, .val (.ref r58)] [(.int (1 : Int32))]))
        exact Dn.ret X69 hlk hx hret rfl (Or.inl ⟨rfl, Or.inr (Or.inl rfl), _, rfl⟩) (hb hby at_80) (by rw [hh69]; exact ⟨rfl, N69⟩) (by decide) (by decide)
    · have hi16 : ¬ v15.toInt = 0 := fun qq => hc16 (Int32.toInt_inj.mp qq)
      refine Dn.st (fun _ kk => XS.ifNo X0.here hx rfl (hb hby at_16) rfl ((if0 _ _).trans (feq hc16).1) (XS.iconst X0.here hx rfl (hb hby at_19) (XS.goto X0.here hx rfl (pc0 := 20) (pc' := 24) rfl (hb hby at_20) (by decide) (by decide) (XS.istore X0.here hx rfl (hb hby at_24) rfl (l' := #[.val (.int p0), .val (.int p1), .val (.int p2), .val (.int p3), .val (.int (0 : Int32)), .val (.int (0 : Int32)), .unset, .unset, .unset, .unset, .unset, .unset, .unset]) rfl (XS.lconst X0.here hx rfl (hb hby at_26) (XS.iloadN X0.here hx rfl (hb hby at_27) rfl  (kk))))))) ?_
      show Dn p e below s _ _ _ (s₁.setTop (mkF m 28 #[.val (.int p0), .val (.int p1), .val (.int p2), .val (.int p3), .val (.int (0 : Int32)), .val (.int (0 : Int32)), .unset, .unset, .unset, .unset, .unset, .unset, .unset] [(.int p3), (.long (1 : Int64))]))
      refine Dn.st (fun _ kk => X0.ldcInt hx hown (mvT hZ (hw _ (List.mem_of_getElem? (i := 0) rfl))) (g := (mkF m 28 #[.val (.int p0), .val (.int p1), .val (.int p2), .val (.int p3), .val (.int (0 : Int32)), .val (.int (0 : Int32)), .unset, .unset, .unset, .unset, .unset, .unset, .unset] [(.int p3), (.long (1 : Int64))])) rfl (hb hby at_28) _ (XS.iand X0.here hx rfl (hb hby at_30) rfl (kk))) ?_
      show Dn p e below s _ _ _ (s₁.setTop (mkF m 31 #[.val (.int p0), .val (.int p1), .val (.int p2), .val (.int p3), .val (.int (0 : Int32)), .val (.int (0 : Int32)), .unset, .unset, .unset, .unset, .unset, .unset, .unset] [(.int (p3 &&& (2147483647 : Int32))), (.long (1 : Int64))]))
      generalize hv30 : ((p3 &&& (2147483647 : Int32)) : Int32) = v30
      have q30 : v30.toInt = p3.toInt % 2147483648 := by have qq := c_mask p3 (2147483647 : Int32) 31 (by decide) (by decide); rw [hv30] at qq; exact qq
      have r30 := rng32 v30
      show Dn p e below s _ _ _ (s₁.setTop (mkF m 31 #[.val (.int p0), .val (.int p1), .val (.int p2), .val (.int p3), .val (.int (0 : Int32)), .val (.int (0 : Int32)), .unset, .unset, .unset, .unset, .unset, .unset, .unset] [(.int v30), (.long (1 : Int64))]))
      refine Dn.st (fun _ kk => XS.bipush X0.here hx rfl (hb hby at_31) (iremM X0 hx rfl (hb hby at_33) rfl (by decide) (kk))) ?_
      show Dn p e below s _ _ _ (s₁.setTop (mkF m 34 #[.val (.int p0), .val (.int p1), .val (.int p2), .val (.int p3), .val (.int (0 : Int32)), .val (.int (0 : Int32)), .unset, .unset, .unset, .unset, .unset, .unset, .unset] [(.int (v30 % (63 : Int32))), (.long (1 : Int64))]))
      generalize hv33 : ((v30 % (63 : Int32)) : Int32) = v33
      have q33 : (0 ≤ v30.toInt → v33.toInt = v30.toInt % 63) ∧ (v30.toInt < 0 → v33.toInt = -((-v30.toInt) % 63)) := by have qq := c_irem v30 (63 : Int32) 63 rfl; rw [hv33] at qq; exact qq
      have r33 := rng32 v33
      show Dn p e below s _ _ _ (s₁.setTop (mkF m 34 #[.val (.int p0), .val (.int p1), .val (.int p2), .val (.int p3), .val (.int (0 : Int32)), .val (.int (0 : Int32)), .unset, .unset, .unset, .unset, .unset, .unset, .unset] [(.int v33), (.long (1 : Int64))]))
      refine Dn.st (fun _ kk => XS.lshl X0.here hx rfl (hb hby at_34) rfl (kk)) ?_
      show Dn p e below s _ _ _ (s₁.setTop (mkF m 35 #[.val (.int p0), .val (.int p1), .val (.int p2), .val (.int p3), .val (.int (0 : Int32)), .val (.int (0 : Int32)), .unset, .unset, .unset, .unset, .unset, .unset, .unset] [(.long ((1 : Int64) <<< (v33 &&& 0x3f).toInt64))]))
      generalize hv34 : (((1 : Int64) <<< (v33 &&& 0x3f).toInt64) : Int64) = v34
      have r34 := rng64 v34
      show Dn p e below s _ _ _ (s₁.setTop (mkF m 35 #[.val (.int p0), .val (.int p1), .val (.int p2), .val (.int p3), .val (.int (0 : Int32)), .val (.int (0 : Int32)), .unset, .unset, .unset, .unset, .unset, .unset, .unset] [(.long v34)]))
      have d35 : DS 0 ((2 ^ v33.toInt.toNat : Nat) : Int) (FP.l2d v34) := hv34 ▸ own_pw v33 (by omega) (by omega)
      refine Dn.st (fun _ kk => XS.l2dS X0.here hx rfl (hb hby at_35) rfl rfl (kk)) ?_
      show Dn p e below s _ _ _ (s₁.setTop (mkF m 36 #[.val (.int p0), .val (.int p1), .val (.int p2), .val (.int p3), .val (.int (0 : Int32)), .val (.int (0 : Int32)), .unset, .unset, .unset, .unset, .unset, .unset, .unset] [(.double (FP.l2d v34))]))
      generalize hv35 : ((FP.l2d v34) : UInt64) = v35 at d35 ⊢
      show Dn p e below s _ _ _ (s₁.setTop (mkF m 36 #[.val (.int p0), .val (.int p1), .val (.int p2), .val (.int p3), .val (.int (0 : Int32)), .val (.int (0 : Int32)), .unset, .unset, .unset, .unset, .unset, .unset, .unset] [(.double v35)]))
      refine Dn.st (fun _ kk => XS.dstore X0.here hx rfl (hb hby at_36) rfl (l' := #[.val (.int p0), .val (.int p1), .val (.int p2), .val (.int p3), .val (.int (0 : Int32)), .val (.int (0 : Int32)), .val (.double v35), .second, .unset, .unset, .unset, .unset, .unset]) rfl (XS.iload X0.here hx rfl (hb hby at_38) rfl  (kk))) ?_
      show Dn p e below s _ _ _ (s₁.setTop (mkF m 40 #[.val (.int p0), .val (.int p1), .val (.int p2), .val (.int p3), .val (.int (0 : Int32)), .val (.int (0 : Int32)), .val (.double v35), .second, .unset, .unset, .unset, .unset, .unset] [(.int (0 : Int32))]))
      have d40 := DS.i2d (0 : Int32)
      refine Dn.st (fun _ kk => XS.i2dS X0.here hx rfl (hb hby at_40) rfl rfl (kk)) ?_
      show Dn p e below s _ _ _ (s₁.setTop (mkF m 41 #[.val (.int p0), .val (.int p1), .val (.int p2), .val (.int p3), .val (.int (0 : Int32)), .val (.int (0 : Int32)), .val (.double v35), .second, .unset, .unset, .unset, .unset, .unset] [(.double (FP.i2d (0 : Int32)))]))
      generalize hv40 : ((FP.i2d (0 : Int32)) : UInt64) = v40 at d40 ⊢
      show Dn p e below s _ _ _ (s₁.setTop (mkF m 41 #[.val (.int p0), .val (.int p1), .val (.int p2), .val (.int p3), .val (.int (0 : Int32)), .val (.int (0 : Int32)), .val (.double v35), .second, .unset, .unset, .unset, .unset, .unset] [(.double v40)]))
      refine Dn.st (fun _ kk => XS.dload X0.here hx rfl (hb hby at_41) rfl  (kk)) ?_
      show Dn p e below s _ _ _ (s₁.setTop (mkF m 43 #[.val (.int p0), .val (.int p1), .val (.int p2), .val (.int p3), .val (.int (0 : Int32)), .val (.int (0 : Int32)), .val (.double v35), .second, .unset, .unset, .unset, .unset, .unset] [(.double v35), (.double v40)]))
      have d43 : DS (0 + v33.toInt.toNat) (0 : Int32).toInt (FP.ddiv v40 v35) := DS.divp d40 d35 (by first | omega | decide) (by omega)
      refine Dn.st (fun _ kk => XS.ddivS X0.here hx rfl (hb hby at_43) rfl d43.nn rfl (kk)) ?_
      show Dn p e below s _ _ _ (s₁.setTop (mkF m 44 #[.val (.int p0), .val (.int p1), .val (.int p2), .val (.int p3), .val (.int (0 : Int32)), .val (.int (0 : Int32)), .val (.double v35), .second, .unset, .unset, .unset, .unset, .unset] [(.double (FP.ddiv v40 v35))]))
      generalize hv43 : ((FP.ddiv v40 v35) : UInt64) = v43 at d43 ⊢
      show Dn p e below s _ _ _ (s₁.setTop (mkF m 44 #[.val (.int p0), .val (.int p1), .val (.int p2), .val (.int p3), .val (.int (0 : Int32)), .val (.int (0 : Int32)), .val (.double v35), .second, .unset, .unset, .unset, .unset, .unset] [(.double v43)]))
      refine Dn.st (fun _ kk => XS.dstore X0.here hx rfl (hb hby at_44) rfl (l' := #[.val (.int p0), .val (.int p1), .val (.int p2), .val (.int p3), .val (.int (0 : Int32)), .val (.int (0 : Int32)), .val (.double v35), .second, .val (.double v43), .second, .unset, .unset, .unset]) rfl (XS.iload X0.here hx rfl (hb hby at_46) rfl  (kk))) ?_
      show Dn p e below s _ _ _ (s₁.setTop (mkF m 48 #[.val (.int p0), .val (.int p1), .val (.int p2), .val (.int p3), .val (.int (0 : Int32)), .val (.int (0 : Int32)), .val (.double v35), .second, .val (.double v43), .second, .unset, .unset, .unset] [(.int (0 : Int32))]))
      have d48 := DS.i2d (0 : Int32)
      refine Dn.st (fun _ kk => XS.i2dS X0.here hx rfl (hb hby at_48) rfl rfl (kk)) ?_
      show Dn p e below s _ _ _ (s₁.setTop (mkF m 49 #[.val (.int p0), .val (.int p1), .val (.int p2), .val (.int p3), .val (.int (0 : Int32)), .val (.int (0 : Int32)), .val (.double v35), .second, .val (.double v43), .second, .unset, .unset, .unset] [(.double (FP.i2d (0 : Int32)))]))
      generalize hv48 : ((FP.i2d (0 : Int32)) : UInt64) = v48 at d48 ⊢
      show Dn p e below s _ _ _ (s₁.setTop (mkF m 49 #[.val (.int p0), .val (.int p1), .val (.int p2), .val (.int p3), .val (.int (0 : Int32)), .val (.int (0 : Int32)), .val (.double v35), .second, .val (.double v43), .second, .unset, .unset, .unset] [(.double v48)]))
      refine Dn.st (fun _ kk => XS.dload X0.here hx rfl (hb hby at_49) rfl  (kk)) ?_
      show Dn p e below s _ _ _ (s₁.setTop (mkF m 51 #[.val (.int p0), .val (.int p1), .val (.int p2), .val (.int p3), .val (.int (0 : Int32)), .val (.int (0 : Int32)), .val (.double v35), .second, .val (.double v43), .second, .unset, .unset, .unset] [(.double v35), (.double v48)]))
      have d51 : DS (0 + v33.toInt.toNat) (0 : Int32).toInt (FP.ddiv v48 v35) := DS.divp d48 d35 (by first | omega | decide) (by omega)
      refine Dn.st (fun _ kk => XS.ddivS X0.here hx rfl (hb hby at_51) rfl d51.nn rfl (kk)) ?_
      show Dn p e below s _ _ _ (s₁.setTop (mkF m 52 #[.val (.int p0), .val (.int p1), .val (.int p2), .val (.int p3), .val (.int (0 : Int32)), .val (.int (0 : Int32)), .val (.double v35), .second, .val (.double v43), .second, .unset, .unset, .unset] [(.double (FP.ddiv v48 v35))]))
      generalize hv51 : ((FP.ddiv v48 v35) : UInt64) = v51 at d51 ⊢
      show Dn p e below s _ _ _ (s₁.setTop (mkF m 52 #[.val (.int p0), .val (.int p1), .val (.int p2), .val (.int p3), .val (.int (0 : Int32)), .val (.int (0 : Int32)), .val (.double v35), .second, .val (.double v43), .second, .unset, .unset, .unset] [(.double v51)]))
      refine Dn.st (fun _ kk => XS.dstore X0.here hx rfl (hb hby at_52) rfl (l' := #[.val (.int p0), .val (.int p1), .val (.int p2), .val (.int p3), .val (.int (0 : Int32)), .val (.int (0 : Int32)), .val (.double v35), .second, .val (.double v43), .second, .val (.double v51), .second, .unset]) rfl (XS.dload X0.here hx rfl (hb hby at_54) rfl  (XS.dload X0.here hx rfl (hb hby at_56) rfl  (kk)))) ?_
      show Dn p e below s _ _ _ (s₁.setTop (mkF m 58 #[.val (.int p0), .val (.int p1), .val (.int p2), .val (.int p3), .val (.int (0 : Int32)), .val (.int (0 : Int32)), .val (.double v35), .second, .val (.double v43), .second, .val (.double v51), .second, .unset] [(.double v51), (.double v43)]))
      obtain ⟨_, _, ⟨T58, L58, k58, n58⟩, -, X58, ⟨Lc58, hQ58, l58, y58, z58⟩, st58⟩ := Jvm.LawKit.callS X0 hx (y := (⟨"com/example/vias_for_diagrams/viasfordiagrams/PortSide", "ofStep", "(DD)Lcom/example/vias_for_diagrams/viasfordiagrams/PortSide;"⟩ : MethodName)) hown (mvT hZ (hw _ (List.mem_of_getElem? (i := 1) rfl))) (mvT hZ (hw _ (List.mem_of_getElem? (i := 2) rfl))) (mvT hZ (hw _ (List.mem_of_getElem? (i := 3) rfl))) (mvT hZ (hw _ (List.mem_of_getElem? (i := 4) rfl))) (by decide) (backOf (W := 0) (rm1 l Z a0 hw [] v43 v51 aW aE aN aS (0 : Int32).toInt (0 : Int32).toInt (0 + v33.toInt.toNat) h0 n0 Z0 S_WEST S_EAST S_NORTH S_SOUTH d43 d51) hZ (hw _ (List.mem_of_getElem? (i := 4) rfl)) (hw _ (List.mem_of_getElem? (i := 3) rfl)) (by decide) (by decide)) (g := (mkF m 58 #[.val (.int p0), .val (.int p1), .val (.int p2), .val (.int p3), .val (.int (0 : Int32)), .val (.int (0 : Int32)), .val (.double v35), .second, .val (.double v43), .second, .val (.double v51), .second, .unset] [(.double v51), (.double v43)])) rfl (by rw [hml]; rfl) (argsL := [(.double v43), (.double v51)]) (rest := []) (lenOf pd0 rfl) rfl (by show 2 * 0 + _ ≤ _; exact Nat.le_of_eq rfl) (hb hby at_58) (fun _ _ => ⟨rfl, e0, (by decide : 0 + 0 ≤ _), (by decide : 0 + 0 ≤ _)⟩)
      dsimp only [Pt.U, Pt.locs, Pt.cells, Pt.slots] at X58 l58 y58 z58 st58 hQ58
      subst l58 y58 z58
      obtain ⟨hv58, Nq58, hh58⟩ := hQ58
      subst hv58
      have hr58 := own_side_ref aW aE aN aS (0 : Int32).toInt (0 : Int32).toInt
      generalize hs58 : own_side aW aE aN aS (0 : Int32).toInt (0 : Int32).toInt = sv58 at st58 hr58
      have N58 := Fr.app N0 Nq58
      refine Dn.st st58 ?_
      rcases ref_cases hr58 with rfl | ⟨r58, rfl⟩
      · show Dn p e below s _ _ _ (T58.setTop (mkF m 61 #[.val (.int p0), .val (.int p1), .val (.int p2), .val (.int p3), .val (.int (0 : Int32)), .val (.int (0 : Int32)), .val (.double v35), .second, .val (.double v43), .second, .val (.double v51), .second, .unset] [.null]))
        refine Dn.st (fun _ kk => XS.astore X58.here hx rfl (hb hby at_61) rfl rfl (l' := #[.val (.int p0), .val (.int p1), .val (.int p2), .val (.int p3), .val (.int (0 : Int32)), .val (.int (0 : Int32)), .val (.double v35), .second, .val (.double v43), .second, .val (.double v51), .second, .val .null]) rfl (XS.aload X58.here hx rfl (hb hby at_63) rfl rfl (XS.iload X58.here hx rfl (hb hby at_65) rfl  (XS.iload X58.here hx rfl (hb hby at_67) rfl  (kk))))) ?_
        show Dn p e below s _ _ _ (T58.setTop (mkF m 69 #[.val (.int p0), .val (.int p1), .val (.int p2), .val (.int p3), .val (.int (0 : Int32)), .val (.int (0 : Int32)), .val (.double v35), .second, .val (.double v43), .second, .val (.double v51), .second, .val .null] [(.int (0 : Int32)), (.int (0 : Int32)), .null]))
        obtain ⟨_, _, ⟨T69, L69, k69, n69⟩, -, X69, ⟨Lc69, hQ69, l69, y69, z69⟩, st69⟩ := Jvm.LawKit.callS X58 hx (y := (⟨"com/example/vias_for_diagrams/viasfordiagrams/PortSideOfStepPinLaw", "expected", "(II)Lcom/example/vias_for_diagrams/viasfordiagrams/PortSide;"⟩ : MethodName)) hown (mvT hZ (hw _ (List.mem_of_getElem? (i := 5) rfl))) (mvT hZ (hw _ (List.mem_of_getElem? (i := 6) rfl))) (mvT hZ (hw _ (List.mem_of_getElem? (i := 7) rfl))) (mvT hZ (hw _ (List.mem_of_getElem? (i := 8) rfl))) (by decide) (backOf (W := 1) (rm2 l Z a0 hw [] (0 : Int32) (0 : Int32) aW aE aN aS h0 n0 Z0 S_WEST S_EAST S_NORTH S_SOUTH) hZ (hw _ (List.mem_of_getElem? (i := 8) rfl)) (hw _ (List.mem_of_getElem? (i := 7) rfl)) (by decide) (by decide)) (g := (mkF m 69 #[.val (.int p0), .val (.int p1), .val (.int p2), .val (.int p3), .val (.int (0 : Int32)), .val (.int (0 : Int32)), .val (.double v35), .second, .val (.double v43), .second, .val (.double v51), .second, .val .null] [(.int (0 : Int32)), (.int (0 : Int32)), .null])) rfl (by rw [hml]; rfl) (argsL := [(.int (0 : Int32)), (.int (0 : Int32))]) (rest := [.null]) (lenOf pd1 rfl) rfl (by show 2 * 0 + _ ≤ _; exact Nat.le_of_eq rfl) (hb hby at_69) (fun _ _ => ⟨rfl, hh58, (by decide : 0 + 0 ≤ _), (by decide : 0 + 0 ≤ _)⟩)
        dsimp only [Pt.U, Pt.locs, Pt.cells, Pt.slots] at X69 l69 y69 z69 st69 hQ69
        subst l69 y69 z69
        obtain ⟨hv69, Nq69, hh69⟩ := hQ69
        rw [hs58] at hv69
        subst hv69
        have N69 := Fr.app N58 Nq69
        refine Dn.st st69 ?_
        show Dn p e below s _ _ _ (T69.setTop (mkF m 72 #[.val (.int p0), .val (.int p1), .val (.int p2), .val (.int p3), .val (.int (0 : Int32)), .val (.int (0 : Int32)), .val (.double v35), .second, .val (.double v43), .second, .val (.double v51), .second, .val .null] [.null, .null]))
        refine Dn.st (fun _ kk => Jvm.RoadKit.acmp (g := (mkF m 72 #[.val (.int p0), .val (.int p1), .val (.int p2), .val (.int p3), .val (.int (0 : Int32)), .val (.int (0 : Int32)), .val (.double v35), .second, .val (.double v43), .second, .val (.double v51), .second, .val .null] [.null, .null])) X69 hx rfl rfl rfl (pc0 := 72) (pc' := 75) (same := true) rfl (hb hby at_72) rfl (decide_eq_true rfl) (by decide) (by decide) (XS.iconst X69.here hx rfl (hb hby at_75) (XS.goto X69.here hx rfl (pc0 := 76) (pc' := 80) rfl (hb hby at_76) (by decide) (by decide) (kk)))) ?_
        show Dn p e below s _ _ _ (T69.setTop (mkF m 80 #[.val (.int p0), .val (.int p1), .val (.int p2), .val (.int p3), .val (.int (0 : Int32)), .val (.int (0 : Int32)), .val (.double v35), .second, .val (.double v43), .second, .val (.double v51), .second, .val .null] [(.int (1 : Int32))]))
        exact Dn.ret X69 hlk hx hret rfl (Or.inl ⟨rfl, Or.inr (Or.inl rfl), _, rfl⟩) (hb hby at_80) (by rw [hh69]; exact ⟨rfl, N69⟩) (by decide) (by decide)
      · show Dn p e below s _ _ _ (T58.setTop (mkF m 61 #[.val (.int p0), .val (.int p1), .val (.int p2), .val (.int p3), .val (.int (0 : Int32)), .val (.int (0 : Int32)), .val (.double v35), .second, .val (.double v43), .second, .val (.double v51), .second, .unset] [(.ref r58)]))
        refine Dn.st (fun _ kk => XS.astore X58.here hx rfl (hb hby at_61) rfl rfl (l' := #[.val (.int p0), .val (.int p1), .val (.int p2), .val (.int p3), .val (.int (0 : Int32)), .val (.int (0 : Int32)), .val (.double v35), .second, .val (.double v43), .second, .val (.double v51), .second, .val (.ref r58)]) rfl (XS.aload X58.here hx rfl (hb hby at_63) rfl rfl (XS.iload X58.here hx rfl (hb hby at_65) rfl  (XS.iload X58.here hx rfl (hb hby at_67) rfl  (kk))))) ?_
        show Dn p e below s _ _ _ (T58.setTop (mkF m 69 #[.val (.int p0), .val (.int p1), .val (.int p2), .val (.int p3), .val (.int (0 : Int32)), .val (.int (0 : Int32)), .val (.double v35), .second, .val (.double v43), .second, .val (.double v51), .second, .val (.ref r58)] [(.int (0 : Int32)), (.int (0 : Int32)), (.ref r58)]))
        obtain ⟨_, _, ⟨T69, L69, k69, n69⟩, -, X69, ⟨Lc69, hQ69, l69, y69, z69⟩, st69⟩ := Jvm.LawKit.callS X58 hx (y := (⟨"com/example/vias_for_diagrams/viasfordiagrams/PortSideOfStepPinLaw", "expected", "(II)Lcom/example/vias_for_diagrams/viasfordiagrams/PortSide;"⟩ : MethodName)) hown (mvT hZ (hw _ (List.mem_of_getElem? (i := 5) rfl))) (mvT hZ (hw _ (List.mem_of_getElem? (i := 6) rfl))) (mvT hZ (hw _ (List.mem_of_getElem? (i := 7) rfl))) (mvT hZ (hw _ (List.mem_of_getElem? (i := 8) rfl))) (by decide) (backOf (W := 1) (rm2 l Z a0 hw [] (0 : Int32) (0 : Int32) aW aE aN aS h0 n0 Z0 S_WEST S_EAST S_NORTH S_SOUTH) hZ (hw _ (List.mem_of_getElem? (i := 8) rfl)) (hw _ (List.mem_of_getElem? (i := 7) rfl)) (by decide) (by decide)) (g := (mkF m 69 #[.val (.int p0), .val (.int p1), .val (.int p2), .val (.int p3), .val (.int (0 : Int32)), .val (.int (0 : Int32)), .val (.double v35), .second, .val (.double v43), .second, .val (.double v51), .second, .val (.ref r58)] [(.int (0 : Int32)), (.int (0 : Int32)), (.ref r58)])) rfl (by rw [hml]; rfl) (argsL := [(.int (0 : Int32)), (.int (0 : Int32))]) (rest := [(.ref r58)]) (lenOf pd1 rfl) rfl (by show 2 * 0 + _ ≤ _; exact Nat.le_of_eq rfl) (hb hby at_69) (fun _ _ => ⟨rfl, hh58, (by decide : 0 + 0 ≤ _), (by decide : 0 + 0 ≤ _)⟩)
        dsimp only [Pt.U, Pt.locs, Pt.cells, Pt.slots] at X69 l69 y69 z69 st69 hQ69
        subst l69 y69 z69
        obtain ⟨hv69, Nq69, hh69⟩ := hQ69
        rw [hs58] at hv69
        subst hv69
        have N69 := Fr.app N58 Nq69
        refine Dn.st st69 ?_
        show Dn p e below s _ _ _ (T69.setTop (mkF m 72 #[.val (.int p0), .val (.int p1), .val (.int p2), .val (.int p3), .val (.int (0 : Int32)), .val (.int (0 : Int32)), .val (.double v35), .second, .val (.double v43), .second, .val (.double v51), .second, .val (.ref r58)] [(.ref r58), (.ref r58)]))
        refine Dn.st (fun _ kk => Jvm.RoadKit.acmp (g := (mkF m 72 #[.val (.int p0), .val (.int p1), .val (.int p2), .val (.int p3), .val (.int (0 : Int32)), .val (.int (0 : Int32)), .val (.double v35), .second, .val (.double v43), .second, .val (.double v51), .second, .val (.ref r58)] [(.ref r58), (.ref r58)])) X69 hx rfl rfl rfl (pc0 := 72) (pc' := 75) (same := true) rfl (hb hby at_72) rfl (decide_eq_true rfl) (by decide) (by decide) (XS.iconst X69.here hx rfl (hb hby at_75) (XS.goto X69.here hx rfl (pc0 := 76) (pc' := 80) rfl (hb hby at_76) (by decide) (by decide) (kk)))) ?_
        show Dn p e below s _ _ _ (T69.setTop (mkF m 80 #[.val (.int p0), .val (.int p1), .val (.int p2), .val (.int p3), .val (.int (0 : Int32)), .val (.int (0 : Int32)), .val (.double v35), .second, .val (.double v43), .second, .val (.double v51), .second, .val (.ref r58)] [(.int (1 : Int32))]))
        exact Dn.ret X69 hlk hx hret rfl (Or.inl ⟨rfl, Or.inr (Or.inl rfl), _, rfl⟩) (hb hby at_80) (by rw [hh69]; exact ⟨rfl, N69⟩) (by decide) (by decide)

set_option maxRecDepth 65536 in
set_option maxHeartbeats 40000000 in
theorem comes_1 {Post : Tables → Env → Array Value → State → Outcome → State → Prop} (hpost : ∀ tb e args s v u, (limb_1_1.after args s (.returned v) u = true ∧ limb_1_2.after args s (.returned v) u = true ∧ True) → FrameEnd s (.returned v) u (Jvm.fieldLocs frame_1_writes args s ++ Jvm.arrayLocs frame_1_arrays args s ++ Jvm.staticLocs frame_1_statics s) 0 0 → Post tb e args s (.returned v) u) :
    ArmFor flags0 classFile x code maxLocals ret World_1 tables_1 room_1 Calls_1 rest_1 Pre_1 Post := by
  intro l hfl _ _ p e ha hc hk s m args below hf hA hF happ hP
  obtain ⟨hcalls, hrest, hpre⟩ := hP
  obtain ⟨-, -, -, hnamed, -, -, -, hat⟩ := (Spec.applies_iff hf).mp happ
  obtain ⟨hg, hn⟩ := and_e (Cond.before_iff.mp (show (Jvm.Cond.and given_1 narrow_1).before args s = true from hpre))
  obtain ⟨g1a, g1b⟩ := and_e hg
  obtain ⟨g2a, g2b⟩ := and_e g1b
  obtain ⟨g3a, g3b⟩ := and_e g2b
  obtain ⟨g4a, g4b⟩ := and_e g3b
  obtain ⟨g5a, g5b⟩ := and_e hn
  obtain ⟨g6a, g6b⟩ := and_e g5b
  obtain ⟨g7a, g7b⟩ := and_e g6b
  obtain ⟨w0, w1, w2, w3, rfl⟩ : ∃ w0 w1 w2 w3 : Value, args = #[w0, w1, w2, w3] := by
    have hs : args.size = 4 := by simpa [Cond.value, given_1] using g1a
    obtain ⟨L⟩ := args
    match L, hs with
    | [w0, w1, w2, w3], _ => exact ⟨w0, w1, w2, w3, rfl⟩
  have hw := fun d (hd : d ∈ tables_1) => atoms_spec (ws := Jvm.Cond.code x code maxLocals ret :: tables_1) hat d (List.mem_cons_of_mem _ hd)
  have hfit : Fit s := fun {y c} hc i hi => by
    obtain ⟨ha, rfl⟩ := Array.getElem?_eq_some_iff.mp hc
    have q := List.all_eq_true.mp ((Array.all_eq_true_iff_forall_mem.mp hF) _ (Array.getElem_mem ha)) i (List.mem_range.mpr hi)
    simpa [Array.getElem?_eq_getElem hi] using q
  obtain ⟨i0, ei0⟩ := is_v g2a
  obtain rfl : w0 = (.int i0) := Option.some.inj ei0
  obtain ⟨i1, ei1⟩ := is_v g3a
  obtain rfl : w1 = (.int i1) := Option.some.inj ei1
  obtain ⟨i2, ei2⟩ := is_v g4a
  obtain rfl : w2 = (.int i2) := Option.some.inj ei2
  obtain ⟨i3, ei3⟩ := is_v g4b
  obtain rfl : w3 = (.int i3) := Option.some.inj ei3
  obtain ⟨a_EAST, v_EAST⟩ := exa_v g5a
  have S_EAST := Sta.start v_EAST (Or.inr ⟨(hw _ (List.mem_of_getElem? (i := 3) rfl)), (hw _ (List.mem_of_getElem? (i := 10) rfl))⟩)
  have E_EAST := Exa.start v_EAST g5a
  obtain ⟨a_SOUTH, v_SOUTH⟩ := exa_v g6a
  have S_SOUTH := Sta.start v_SOUTH (Or.inr ⟨(hw _ (List.mem_of_getElem? (i := 3) rfl)), (hw _ (List.mem_of_getElem? (i := 13) rfl))⟩)
  have E_SOUTH := Exa.start v_SOUTH g6a
  obtain ⟨a_WEST, v_WEST⟩ := exa_v g7a
  have S_WEST := Sta.start v_WEST (Or.inr ⟨(hw _ (List.mem_of_getElem? (i := 3) rfl)), (hw _ (List.mem_of_getElem? (i := 16) rfl))⟩)
  have E_WEST := Exa.start v_WEST g7a
  obtain ⟨a_NORTH, v_NORTH⟩ := exa_v g7b
  have S_NORTH := Sta.start v_NORTH (Or.inr ⟨(hw _ (List.mem_of_getElem? (i := 3) rfl)), (hw _ (List.mem_of_getElem? (i := 19) rfl))⟩)
  have E_NORTH := Exa.start v_NORTH g7b
  obtain ⟨n, o, h1, h2, h3, _, L, rfl, ⟨rfl, N⟩, hq⟩ := rm0 l s _ hw tables_1 i0 i1 i2 i3 a_WEST a_EAST a_NORTH a_SOUTH s.heap s.heap.size (Nat.le_refl _) S_WEST S_EAST S_NORTH S_SOUTH p e ha hc hk s m _ below hf ((Spec.applies_iff_loose hf).mp happ).1 ⟨rfl, State.Warmed39.refl s, rfl⟩ trivial
  refine ⟨n, _, h1, h2, h3, hpost _ _ _ _ _ _ ⟨Cond.after_iff.mpr rfl, Cond.after_iff.mpr (eq_i res_at (Term.int_eval (1)) rfl), trivial⟩ ⟨hq.1, hq.2.1, (hq.2.2.sift fun y hy => Or.inr (N y hy)).mono (by decide) (by decide)⟩⟩
theorem main_1_1 : Claimed_1_1 := comes_1 fun _ _ _ _ _ _ h hF => ⟨h.1, hF⟩
theorem main_1_2 : Claimed_1_2 := comes_1 fun _ _ _ _ _ _ h hF => ⟨h.2.1, hF⟩
end Jvm.Pilot.@@N@@
namespace Jvm.Pilot.@@N@@
open Jvm Jvm.ClassFile Sem Op Lib Jvm.Free Jvm.Stand Jvm.Pilot.@@N@@.Jvm.D
/-! MADE BY PROGRAM (witnessworld.py) out of the Statement's table words and the real class files: 12 classes; the members and pool entries that the words name. The judged class is class 1, her method 1. -/
namespace start1
open Jvm.ClassFile
def u (s : String) : CpInfo := .utf8 (stringToUtf16 s)
/-- a pool by its gaps: so many unusable entries, then the entry; so many at the end -/
def gap : Nat → List CpInfo → List CpInfo
  | 0, r => r
  | n + 1, r => .unusable :: gap n r
def poolList (es : List (Nat × CpInfo)) (last : Nat) : List CpInfo := es.foldr (fun e r => gap e.1 (e.2 :: r)) (gap last [])
def pool (es : List (Nat × CpInfo)) (last : Nat) : Array CpInfo := ⟨poolList es last⟩
def fileOf (pool : Array CpInfo) (this : Nat) (attrs : Array Attribute := #[]) (ms : Array MethodInfo := #[]) (fl : Nat := 33) (sup : Nat := 0) (ifs : Array Nat := #[]) (fds : Array FieldInfo := #[]) : ClassFile where
  minorVersion := 0
  majorVersion := 65
  constantPool := pool
  accessFlags := fl
  thisClass := this
  superClass := sup
  interfaces := ifs
  fields := fds
  methods := ms
  attributes := attrs
def plain (name : String) (sup : Option ClassId) : Class where
  name := name
  kind := .ordinary
  loader := none
  accessFlags := 33
  super := sup
  interfaces := #[]
  cf := none
  fields := #[]
  methods := #[]
  instanceTypes := #[]
  staticTypes := #[]
  resolved := #[]
  callSites := []
  init := .initialized
  statics := none
  mirror := none

def pool0 : Array CpInfo := pool [(5, u "<init>"), (0, u "()V"), (1, .class_ 10), (1, u "java/lang/Object")] 113

def k0m0 : Method := { name := "<init>", desc := "()V", sig := { parameters := [], returnType := none }, accessFlags := 1, code := none }
/-- java/lang/Object -/
def k0 : Class := { plain "java/lang/Object" none with
  accessFlags := 33
  interfaces := #[]
  cf := some (fileOf pool0 8 #[] #[{ accessFlags := 1, nameIndex := 5, descriptorIndex := 6, attributes := #[] }] 33 0 #[] #[])
  fields := #[]
  methods := #[k0m0]
  instanceTypes := #[]
  staticTypes := #[]
  resolved := Array.replicate 124 none
  statics := none }

def pool1 : Array CpInfo := pool [(2, .class_ 4), (1, u "java/lang/Object"), (0, u "<init>"), (0, u "()V"), (0, .integer 2147483647), (0, .methodref 9 10), (0, .class_ 11), (0, .nameAndType 12 13), (0, u "com/example/vias_for_diagrams/viasfordiagrams/PortSide"), (0, u "ofStep"), (0, u "(DD)Lcom/example/vias_for_diagrams/viasfordiagrams/PortSide;"), (0, .methodref 15 16), (0, .class_ 17), (0, .nameAndType 18 19), (0, u "com/example/vias_for_diagrams/viasfordiagrams/PortSideOfStepPinLaw"), (0, u "expected"), (0, u "(II)Lcom/example/vias_for_diagrams/viasfordiagrams/PortSide;"), (0, .fieldref 9 21), (0, .nameAndType 22 23), (0, u "WEST"), (0, u "Lcom/example/vias_for_diagrams/viasfordiagrams/PortSide;"), (0, .fieldref 9 25), (0, .nameAndType 26 23), (0, u "EAST"), (0, .fieldref 9 28), (0, .nameAndType 29 23), (0, u "NORTH"), (0, .fieldref 9 31), (0, .nameAndType 32 23), (0, u "SOUTH"), (2, u "law"), (0, u "(IIII)Z")] 3

def k1m0 : Method := { name := "<init>", desc := "()V", sig := { parameters := [], returnType := none }, accessFlags := 1, code := none }
def k1c1 : Code := { maxStack := 4, maxLocals := 13, code := code, exceptionTable := #[], attributes := #[] }
def k1m1 : Method := { name := "law", desc := "(IIII)Z", sig := { parameters := [.int, .int, .int, .int], returnType := some .boolean }, accessFlags := 9, code := some k1c1 }
def k1c2 : Code := { maxStack := 1, maxLocals := 2, code := method_3_code, exceptionTable := #[], attributes := #[] }
def k1m2 : Method := { name := "expected", desc := "(II)Lcom/example/vias_for_diagrams/viasfordiagrams/PortSide;", sig := { parameters := [.int, .int], returnType := some (.object "com/example/vias_for_diagrams/viasfordiagrams/PortSide") }, accessFlags := 10, code := some k1c2 }
/-- com/example/vias_for_diagrams/viasfordiagrams/PortSideOfStepPinLaw -/
def k1 : Class := { plain "com/example/vias_for_diagrams/viasfordiagrams/PortSideOfStepPinLaw" (some 0) with
  accessFlags := 49
  interfaces := #[]
  cf := some (fileOf pool1 15 #[] #[{ accessFlags := 1, nameIndex := 5, descriptorIndex := 6, attributes := #[] }, { accessFlags := 9, nameIndex := 35, descriptorIndex := 36, attributes := #[] }, { accessFlags := 10, nameIndex := 18, descriptorIndex := 19, attributes := #[] }] 49 2 #[] #[])
  fields := #[]
  methods := #[k1m0, k1m1, k1m2]
  instanceTypes := #[]
  staticTypes := #[]
  resolved := Array.replicate 40 none
  statics := none }

def pool2 : Array CpInfo := pool [(1, .class_ 2), (0, u "java/lang/constant/Constable"), (0, .class_ 4), (0, u "java/lang/Object")] 6

/-- java/lang/constant/Constable -/
def k2 : Class := { plain "java/lang/constant/Constable" (some 0) with
  accessFlags := 1537
  interfaces := #[]
  cf := some (fileOf pool2 1 #[] #[] 1537 3 #[] #[])
  fields := #[]
  methods := #[]
  instanceTypes := #[]
  staticTypes := #[]
  resolved := Array.replicate 11 none
  statics := none }

def pool3 : Array CpInfo := pool [(1, .class_ 2), (0, u "java/lang/Comparable"), (0, .class_ 4), (0, u "java/lang/Object")] 7

/-- java/lang/Comparable -/
def k3 : Class := { plain "java/lang/Comparable" (some 0) with
  accessFlags := 1537
  interfaces := #[]
  cf := some (fileOf pool3 1 #[] #[] 1537 3 #[] #[])
  fields := #[]
  methods := #[]
  instanceTypes := #[]
  staticTypes := #[]
  resolved := Array.replicate 12 none
  statics := none }

def pool4 : Array CpInfo := pool [(1, .class_ 2), (0, u "java/io/Serializable"), (0, .class_ 4), (0, u "java/lang/Object")] 2

/-- java/io/Serializable -/
def k4 : Class := { plain "java/io/Serializable" (some 0) with
  accessFlags := 1537
  interfaces := #[]
  cf := some (fileOf pool4 1 #[] #[] 1537 3 #[] #[])
  fields := #[]
  methods := #[]
  instanceTypes := #[]
  staticTypes := #[]
  resolved := Array.replicate 7 none
  statics := none }

def pool5 : Array CpInfo := pool [(2, .class_ 4), (1, u "java/lang/Enum"), (0, u "name"), (0, u "Ljava/lang/String;"), (2, u "ordinal"), (0, u "I"), (1, .class_ 14), (1, u "java/lang/Object"), (4, u "hash"), (86, .class_ 108), (1, u "java/lang/Enum$EnumDesc"), (2, .class_ 112), (0, u "java/lang/constant/Constable"), (0, .class_ 114), (0, u "java/lang/Comparable"), (0, .class_ 116), (0, u "java/io/Serializable")] 87

/-- java/lang/Enum -/
def k5 : Class := { plain "java/lang/Enum" (some 0) with
  accessFlags := 1057
  interfaces := #[2, 3, 4]
  cf := some (fileOf pool5 2 #[.nestMembers #[106]] #[] 1057 12 #[111, 113, 115] #[{ accessFlags := 18, nameIndex := 5, descriptorIndex := 6, attributes := #[] }, { accessFlags := 18, nameIndex := 9, descriptorIndex := 10, attributes := #[] }, { accessFlags := 2, nameIndex := 19, descriptorIndex := 10, attributes := #[] }])
  fields := #[{ name := "name", type := (.object "java/lang/String"), accessFlags := 18, slot := 0, constantValue := 0 }, { name := "ordinal", type := .int, accessFlags := 18, slot := 1, constantValue := 0 }, { name := "hash", type := .int, accessFlags := 2, slot := 2, constantValue := 0 }]
  methods := #[]
  instanceTypes := #[(.object "java/lang/String"), .int, .int]
  staticTypes := #[]
  resolved := Array.replicate 204 none
  statics := none }

def pool6 : Array CpInfo := pool [(1, .class_ 2), (0, u "com/example/vias_for_diagrams/viasfordiagrams/PortSide"), (0, .fieldref 1 4), (0, .nameAndType 5 6), (0, u "WEST"), (0, u "Lcom/example/vias_for_diagrams/viasfordiagrams/PortSide;"), (0, .fieldref 1 8), (0, .nameAndType 9 6), (0, u "EAST"), (0, .fieldref 1 11), (0, .nameAndType 12 6), (0, u "NORTH"), (0, .fieldref 1 14), (0, .nameAndType 15 6), (0, u "SOUTH"), (2, u "$VALUES"), (0, u "[Lcom/example/vias_for_diagrams/viasfordiagrams/PortSide;"), (6, .class_ 28), (1, u "java/lang/Enum"), (54, u "ofStep"), (0, u "(DD)Lcom/example/vias_for_diagrams/viasfordiagrams/PortSide;")] 6

def k6c0 : Code := { maxStack := 4, maxLocals := 5, code := prog_29_method_5_code, exceptionTable := #[], attributes := #[] }
def k6m0 : Method := { name := "ofStep", desc := "(DD)Lcom/example/vias_for_diagrams/viasfordiagrams/PortSide;", sig := { parameters := [.double, .double], returnType := some (.object "com/example/vias_for_diagrams/viasfordiagrams/PortSide") }, accessFlags := 8, code := some k6c0 }
/-- com/example/vias_for_diagrams/viasfordiagrams/PortSide -/
def k6 : Class := { plain "com/example/vias_for_diagrams/viasfordiagrams/PortSide" (some 5) with
  accessFlags := 16433
  interfaces := #[]
  cf := some (fileOf pool6 1 #[] #[{ accessFlags := 8, nameIndex := 83, descriptorIndex := 84, attributes := #[] }] 16433 26 #[] #[{ accessFlags := 16409, nameIndex := 5, descriptorIndex := 6, attributes := #[] }, { accessFlags := 16409, nameIndex := 9, descriptorIndex := 6, attributes := #[] }, { accessFlags := 16409, nameIndex := 12, descriptorIndex := 6, attributes := #[] }, { accessFlags := 16409, nameIndex := 15, descriptorIndex := 6, attributes := #[] }, { accessFlags := 4122, nameIndex := 18, descriptorIndex := 19, attributes := #[] }])
  fields := #[{ name := "WEST", type := (.object "com/example/vias_for_diagrams/viasfordiagrams/PortSide"), accessFlags := 16409, slot := 0, constantValue := 0 }, { name := "EAST", type := (.object "com/example/vias_for_diagrams/viasfordiagrams/PortSide"), accessFlags := 16409, slot := 1, constantValue := 0 }, { name := "NORTH", type := (.object "com/example/vias_for_diagrams/viasfordiagrams/PortSide"), accessFlags := 16409, slot := 2, constantValue := 0 }, { name := "SOUTH", type := (.object "com/example/vias_for_diagrams/viasfordiagrams/PortSide"), accessFlags := 16409, slot := 3, constantValue := 0 }, { name := "$VALUES", type := (.array (.object "com/example/vias_for_diagrams/viasfordiagrams/PortSide")), accessFlags := 4122, slot := 4, constantValue := 0 }]
  methods := #[k6m0]
  instanceTypes := #[(.object "java/lang/String"), .int, .int]
  staticTypes := #[(.object "com/example/vias_for_diagrams/viasfordiagrams/PortSide"), (.object "com/example/vias_for_diagrams/viasfordiagrams/PortSide"), (.object "com/example/vias_for_diagrams/viasfordiagrams/PortSide"), (.object "com/example/vias_for_diagrams/viasfordiagrams/PortSide"), (.array (.object "com/example/vias_for_diagrams/viasfordiagrams/PortSide"))]
  resolved := Array.replicate 91 none
  statics := some 0 }

def pool7 : Array CpInfo := pool [(1, u "java/lang/Cloneable"), (0, .class_ 1), (0, u "java/lang/Object"), (0, .class_ 3)] 3

/-- java/lang/Cloneable -/
def k7 : Class := { plain "java/lang/Cloneable" (some 0) with
  accessFlags := 1537
  interfaces := #[]
  cf := some (fileOf pool7 2 #[] #[] 1537 4 #[] #[])
  fields := #[]
  methods := #[]
  instanceTypes := #[]
  staticTypes := #[]
  resolved := Array.replicate 8 none
  statics := none }

/-- the primitive byte -/
def k8 : Class := { plain "byte" none with kind := .primitive 'B', accessFlags := 0x411 }
/-- [B -/
def k9 : Class := { plain "[B" (some 0) with kind := .array 8 .byte, interfaces := #[7, 4], accessFlags := 1041 }

/-- the primitive int -/
def k10 : Class := { plain "int" none with kind := .primitive 'I', accessFlags := 0x411 }
/-- [I -/
def k11 : Class := { plain "[I" (some 0) with kind := .array 10 .int, interfaces := #[7, 4], accessFlags := 1041 }

def heap : Heap := #[{ cls := 6, slots := #[.ref 3, .ref 1, .ref 4, .ref 2, .null], vm := .statics 6 },
  { cls := 6, slots := #[.null, .int 0, .int 0], vm := .none },
  { cls := 6, slots := #[.null, .int 0, .int 0], vm := .none },
  { cls := 6, slots := #[.null, .int 0, .int 0], vm := .none },
  { cls := 6, slots := #[.null, .int 0, .int 0], vm := .none }]
def classes : Array Class := #[k0, k1, k2, k3, k4, k5, k6, k7, k8, k9, k10, k11]
def interned : List (Array UInt16 × Addr) := []
def slotsUsed : Nat := 17
def theMethod : MethodId := ⟨1, 1⟩
def args0 : Array Value := #[.int 5, .int 6, .int 7, .int 8]
def aboutOver (below : List Frame) : State where
  vm := { classes := classes, interned := interned.toArray }
  heap := heap
  slotsUsed := slotsUsed
  threads := #[{ frames := .invoking theMethod args0 :: below }]
def below0 : List Frame := [.native { method := ⟨0, 0⟩, args := #[] }]
def about1 : State := aboutOver below0
def p0 : Program := .bare "" "" ""
def e0 : Env := launch0.env 0 0 0
theorem w_frames : about1.frames = Frame.invoking theMethod args0 :: below0 := rfl
set_option maxRecDepth 65536 in
theorem w_args : argsFit about1.vm theMethod args0 = true := by decide +kernel
set_option maxRecDepth 65536 in
theorem w_heap : heapFits about1 = true := by decide +kernel
set_option maxRecDepth 65536 in
theorem w_runnable : about1.curStatus? = some .runnable := by decide +kernel
set_option maxRecDepth 65536 in
theorem w_alone : about1.alone = true := by decide +kernel
set_option maxRecDepth 65536 in
theorem w_named : about1.methodNamed? x = some theMethod := by decide +kernel
set_option maxRecDepth 65536 in
theorem w_hears : about1.hears theMethod below0 = true := by decide +kernel
set_option maxRecDepth 65536 in
theorem w_ripe : about1.ripe theMethod args0 below0 = true := by decide +kernel
theorem w_running : about1.status = .running := rfl
set_option maxRecDepth 65536 in
theorem w_room : about1.hasRoom e0.platform room_1 = true :=
  launch0.hasRoom_least _ room_1 (by decide +kernel) (by decide +kernel) (by decide +kernel) (by decide +kernel) (by decide +kernel) (by decide +kernel)
theorem allAtoms_all (ts : List Jvm.Cond) (a : Array Jvm.Value) (st : Jvm.State) : (allAtoms ts).before a st = ts.all (fun c => c.before a st) := by
  induction ts with
  | nil => rfl
  | cons c t ih =>
    show (Jvm.Cond.and c (allAtoms t)).before a st = _
    rw [Jvm.Cond.before_and, ih, List.all_cons]
def words1 : List Jvm.Cond := Jvm.Cond.code x code maxLocals ret :: tables_1
/-- a 'code' word, met by the world's own term for the bytes: nothing is compared byte by byte -/
theorem code_word {y : MethodName} {bytes : ByteArray} {mx : Nat} {rt : Option FieldType} {a : Array Value} {s : State} {m : MethodId} {meth : Method} {c : Code} (h1 : s.methodNamed? y = some m) (h2 : s.vm.method? m = some meth) (h3 : meth.code = some c) (h4 : c.code = bytes)
    (h5 : (c.maxLocals == mx && c.exceptionTable.isEmpty && decide (c.maxStack ≤ mostOperands) && decide (meth.sig.returnType = rt) && !meth.locks && decide (parseMethodDescriptor y.desc = some meth.sig)) = true) : (Jvm.Cond.code y bytes mx rt).before a s = true := by
  simp only [Bool.and_eq_true, beq_iff_eq, Bool.not_eq_true', decide_eq_true_eq] at h5
  obtain ⟨⟨⟨⟨⟨g1, g2⟩, g3⟩, g4⟩, g5⟩, g6⟩ := h5
  simp [Cond.before, Cond.holds, Cond.value, h1, h2, h3, h4, g1, g2, g3, g4, g5, g6]
def isCode : Jvm.Cond → Bool
  | .code _ _ _ _ => true
  | _ => false
theorem all_split {L : List Jvm.Cond} {P : Jvm.Cond → Bool} (h1 : L.all (fun c => isCode c || P c) = true) (h2 : ∀ c ∈ L.filter isCode, P c = true) : L.all P = true := by
  refine List.all_eq_true.mpr fun c hc => ?_
  have h := List.all_eq_true.mp h1 c hc
  rcases Bool.eq_false_or_eq_true (isCode c) with hi | hi
  · exact h2 c (List.mem_filter.mpr ⟨hc, hi⟩)
  · simpa [hi] using h
set_option maxRecDepth 65536 in
theorem w_c0 : (Jvm.Cond.code x code maxLocals ret).before args0 about1 = true := code_word (m := ⟨1, 1⟩) (meth := k1m1) (c := k1c1) (by decide +kernel) rfl rfl rfl (by decide +kernel)
set_option maxRecDepth 65536 in
theorem w_c1 : (Jvm.Cond.code ({ cls := "com/example/vias_for_diagrams/viasfordiagrams/PortSide", name := "ofStep", desc := "(DD)Lcom/example/vias_for_diagrams/viasfordiagrams/PortSide;" } : Jvm.MethodName) prog_29_method_5_code (5 : Nat) (Option.some (Jvm.ClassFile.FieldType.object "com/example/vias_for_diagrams/viasfordiagrams/PortSide"))).before args0 about1 = true := code_word (m := ⟨6, 0⟩) (meth := k6m0) (c := k6c0) (by decide +kernel) rfl rfl rfl (by decide +kernel)
set_option maxRecDepth 65536 in
theorem w_c2 : (Jvm.Cond.code ({ cls := "com/example/vias_for_diagrams/viasfordiagrams/PortSideOfStepPinLaw", name := "expected", desc := "(II)Lcom/example/vias_for_diagrams/viasfordiagrams/PortSide;" } : Jvm.MethodName) method_3_code (2 : Nat) (Option.some (Jvm.ClassFile.FieldType.object "com/example/vias_for_diagrams/viasfordiagrams/PortSide"))).before args0 about1 = true := code_word (m := ⟨1, 2⟩) (meth := k1m2) (c := k1c2) (by decide +kernel) rfl rfl rfl (by decide +kernel)
def codes1 : List Jvm.Cond := [Jvm.Cond.code x code maxLocals ret, Jvm.Cond.code ({ cls := "com/example/vias_for_diagrams/viasfordiagrams/PortSide", name := "ofStep", desc := "(DD)Lcom/example/vias_for_diagrams/viasfordiagrams/PortSide;" } : Jvm.MethodName) prog_29_method_5_code (5 : Nat) (Option.some (Jvm.ClassFile.FieldType.object "com/example/vias_for_diagrams/viasfordiagrams/PortSide")), Jvm.Cond.code ({ cls := "com/example/vias_for_diagrams/viasfordiagrams/PortSideOfStepPinLaw", name := "expected", desc := "(II)Lcom/example/vias_for_diagrams/viasfordiagrams/PortSide;" } : Jvm.MethodName) method_3_code (2 : Nat) (Option.some (Jvm.ClassFile.FieldType.object "com/example/vias_for_diagrams/viasfordiagrams/PortSide"))]
set_option maxRecDepth 65536 in
theorem codes_eq : words1.filter isCode = codes1 := rfl
theorem w_codes : ∀ c ∈ words1.filter isCode, c.before args0 about1 = true := by
  rw [codes_eq]
  intro c hc
  simp only [codes1, List.mem_cons, List.not_mem_nil, or_false] at hc
  rcases hc with rfl | rfl | rfl
  · exact w_c0
  · exact w_c1
  · exact w_c2
set_option maxRecDepth 65536 in
theorem w_t1 : words1.all (fun c => isCode c || c.before args0 about1) = true := by decide +kernel
theorem w_tables : (allAtoms (Jvm.Cond.code x code maxLocals ret :: tables_1)).before args0 about1 = true := by
  rw [allAtoms_all]
  show words1.all (fun c => c.before args0 about1) = true
  refine all_split ?_ w_codes
  rw [w_t1]
set_option maxRecDepth 65536 in
theorem w_case : (Jvm.Cond.and given_1 narrow_1).before args0 about1 = true := by decide +kernel
theorem w_applies : (headSpec (Jvm.Cond.code x code maxLocals ret :: tables_1) room_1).applies x e0.platform about1 = true :=
  (Spec.applies_iff w_frames).mpr ⟨w_running, w_runnable, w_alone, w_named, w_hears, w_ripe, w_room, w_tables⟩
theorem atStart : AtStart classFile x code maxLocals ret World_1 tables_1 room_1 Calls_1 rest_1 Pre_1 launch0 p0 e0 about1 theMethod args0 below0 :=
  ⟨lists_1, trivial, launch0.admits_env _ _ _, launch0.least_env, fairChoices_fair.cas, fairChoices_fair.clock, w_frames, w_args, w_heap, w_applies, trivial, trivial, w_case⟩
end start1
theorem witness_1 : WitnessClaimed_1 := ⟨start1.p0, start1.e0, start1.about1, start1.theMethod, start1.args0, start1.below0, start1.atStart⟩
end Jvm.Pilot.@@N@@
