import JvmDerived
import JvmDerived.Pilot.@@N@@Statement
import JvmDerived.Pilot.@@N@@Code
set_option linter.unusedVariables false
set_option linter.unusedSimpArgs false
namespace Jvm.Pilot.@@N@@
open Jvm Jvm.ClassFile Sem Op Lib Jvm.Free Jvm.Stand Jvm.LawKit Jvm.RoadKit Bundle Jvm.Pilot.@@N@@.Jvm.D
section Own
variable {p : Program} {l : Launch} {e : Env} {R : Room} {s : State} {m : MethodId} {args : Array Value} {below : List Frame} {meth : Method} {c : Code} {T : State} {locs : List Loc} {cells slots : Nat}
/-- the run from A ends, returns what Q says, and has made and written no more than told -/
def Dn (p : Program) (e : Env) (below : List Frame) (s : State) (Q : Option Value → Heap → List Loc → Prop) (rc rs : Nat) (A : State) : Prop :=
  ∃ s₂ o, Steps p.tables e below A s₂ ∧ s₂.status = .running ∧ Ended s₂ below o ∧ ∃ v L, o = .returned v ∧ Q v s₂.heap L ∧ FrameEnd s o s₂ L rc rs
theorem Dn.st {Q : Option Value → Heap → List Loc → Prop} {rc rs : Nat} {A B : State} (h : ∀ t, Steps p.tables e below B t → Steps p.tables e below A t) (k : Dn p e below s Q rc rs B) : Dn p e below s Q rc rs A := by
  obtain ⟨s2, o, h1, h2⟩ := k; exact ⟨s2, o, h _ h1, h2⟩
theorem Dn.tr {Q : Option Value → Heap → List Loc → Prop} {rc rs : Nat} {A B : State} (h : Steps p.tables e below A B) (k : Dn p e below s Q rc rs B) : Dn p e below s Q rc rs A := by
  obtain ⟨s2, o, h1, h2⟩ := k; exact ⟨s2, o, h.trans h1, h2⟩
theorem Dn.ret (X : Stand p l e R s m args below meth c T locs cells slots) (hlk : meth.locks = false) (hx : p.tables.exec = Jvm.exec) {pc : Nat} {Ls : Array Slot} {w : Value} {t : FieldType} {i : Instr} {rest : List Value} (hret : meth.sig.returnType = some t) (hn : narrow t w = w)
    (hi : (i = .ireturn ∧ (t = .int ∨ t = .boolean ∨ t = .byte ∨ t = .char ∨ t = .short) ∧ ∃ z, w = .int z) ∨ (i = .lreturn ∧ t = .long ∧ ∃ z, w = .long z) ∨ (i = .dreturn ∧ t = .double ∧ ∃ z, w = .double z) ∨ (i = .freturn ∧ t = .float ∧ ∃ z, w = .float z) ∨ (i = .areturn ∧ t.isReference = true ∧ w.isRef = true))
    (hd : decode c.code pc = .ok (i, 1)) {Q : Option Value → Heap → List Loc → Prop} {rc rs : Nat} (hq : Q (some w) T.heap locs) (hc : cells ≤ rc) (hs : slots ≤ rs) : Dn p e below s Q rc rs (T.setTop (mkF m pc Ls (w :: rest))) := by
  obtain ⟨fs, hr, hrun, hended, hW, hsame⟩ := X.leave (v := some w) (fun h => by rw [hret] at h; cases h) hlk
  exact ⟨_, _, retOut X hx hret hn hi hd hr, hrun, hended, _, _, rfl, hq, ⟨_, rfl⟩, hW, hsame.mono hc hs⟩
theorem Dn.ret0 (X : Stand p l e R s m args below meth c T locs cells slots) (hlk : meth.locks = false) (hx : p.tables.exec = Jvm.exec) {pc : Nat} {Ls : Array Slot} (hret : meth.sig.returnType = none)
    (hd : decode c.code pc = .ok (.return_, 1)) {Q : Option Value → Heap → List Loc → Prop} {rc rs : Nat} (hq : Q none T.heap locs) (hc : cells ≤ rc) (hs : slots ≤ rs) : Dn p e below s Q rc rs (T.setTop (mkF m pc Ls [])) := by
  obtain ⟨fs, hr, hrun, hended, hW, hsame⟩ := X.leave (v := none) (fun _ => rfl) hlk
  exact ⟨_, _, X.returnOut hx hret hd hr, hrun, hended, _, _, rfl, hq, ⟨_, rfl⟩, hW, hsame.mono hc hs⟩
theorem own_iincW {tb : Tables} [Ours tb] {target : State} {g : JFrame} (h : At T m c below) (hx : tb.exec = Jvm.exec) (hg : g.method = m) {k : Nat} {cst : Int} {x : Int32} {l' : Array Slot} (hd : decode c.code g.pc = .ok (.iinc k cst, 6)) (hl : g.locals[k]? = some (.val (.int x))) (hl' : storeLocals g.locals k (.int (x + Int32.ofInt cst)) = some l')
    (hr : Steps tb e below (T.setTop { g with pc := g.pc + 6, locals := l' }) target) : Steps tb e below (T.setTop g) target := by
  subst hg
  jvm_step h [h.top, hx, hd, hl, hl']
  exact hr
theorem own_dremS {tb : Tables} [Ours tb] {target : State} {g : JFrame} (h : At T m c below) (hx : tb.exec = Jvm.exec) (hg : g.method = m) {x y v : UInt64} {rest : List Value} (hd : decode c.code g.pc = .ok (.drem, 1)) (hs : g.stack = .double y :: .double x :: rest) (hn : Jvm.Free.Fl.NoNaN64 (FP.drem x y)) (hv : FP.drem x y = v)
    (hr : Steps tb e below (T.setTop { g with pc := g.pc + 1, stack := .double v :: rest }) target) : Steps tb e below (T.setTop g) target := by
  subst hg; subst hv
  obtain ⟨gm, gp, gl, gs, gk, ge, gr⟩ := g
  simp only at hs hd
  subst hs
  jvm_step h [h.top, hx, hd, Op.drem.at_number h.top hn]
  exact hr
end Own
section Dyad
open Jvm.FP Jvm.FP.Core Jvm.Free.Fl
/-- the datum with its exponent moved by k -/
def sft (k : Nat) : Datum → Datum
  | .nan => .nan
  | .inf s => .inf s
  | .fin s c q => .fin s c (q + (k : Int))
/-- x is the number i / 2^k -/
def DS (k : Nat) (i : Int) (x : UInt64) : Prop := Whole i (sft k (val64 x))
theorem sft_zero (d : Datum) : sft 0 d = d := by
  cases d with
  | nan => rfl
  | inf s => rfl
  | fin s c q => show Datum.fin s c (q + ((0 : Nat) : Int)) = _; rw [Int.natCast_zero, Int.add_zero]
theorem sft_sum (k : Nat) (x y : Datum) : exactSum (sft k x) (sft k y) = sft k (exactSum x y) := by
  cases x with
  | nan => rfl
  | inf s =>
    cases y with
    | nan => rfl
    | inf t => show (if s = t then Datum.inf s else .nan) = sft k (if s = t then Datum.inf s else .nan); split <;> rfl
    | fin t d r => rfl
  | fin s c q =>
    cases y with
    | nan => rfl
    | inf t => rfl
    | fin t d r =>
      have h : min (q + (k : Int)) (r + k) = min q r + k := by omega
      have h1 : q + (k : Int) - (min q r + k) = q - min q r := by omega
      have h2 : r + (k : Int) - (min q r + k) = r - min q r := by omega
      have hu : sumUnits s c (q + k) t d (r + k) (min (q + k) (r + k)) = sumUnits s c q t d r (min q r) := by
        show signed s (c * 2 ^ (q + (k : Int) - min (q + k) (r + k)).toNat) + signed t (d * 2 ^ (r + (k : Int) - min (q + k) (r + k)).toNat) = signed s (c * 2 ^ (q - min q r).toNat) + signed t (d * 2 ^ (r - min q r).toNat)
        rw [h, h1, h2]
      show Datum.fin (sumSign s t (sumUnits s c (q + k) t d (r + k) (min (q + k) (r + k)))) (sumUnits s c (q + k) t d (r + k) (min (q + k) (r + k))).natAbs (min (q + k) (r + k)) = Datum.fin (sumSign s t (sumUnits s c q t d r (min q r))) (sumUnits s c q t d r (min q r)).natAbs (min q r + k)
      rw [hu, h]
theorem sft_negate (k : Nat) (x : Datum) : negate (sft k x) = sft k (negate x) := by cases x <;> rfl
theorem sft_product (k m : Nat) (x y : Datum) : exactProduct (sft k x) (sft m y) = sft (k + m) (exactProduct x y) := by
  cases x with
  | nan => rfl
  | inf s =>
    cases y with
    | nan => rfl
    | inf t => rfl
    | fin t d r => show (if d = 0 then Datum.nan else .inf (s != t)) = sft (k + m) (if d = 0 then Datum.nan else .inf (s != t)); split <;> rfl
  | fin s c q =>
    cases y with
    | nan => rfl
    | inf t => show (if c = 0 then Datum.nan else .inf (s != t)) = sft (k + m) (if c = 0 then Datum.nan else .inf (s != t)); split <;> rfl
    | fin t d r =>
      show Datum.fin (s != t) (c * d) (q + k + (r + m)) = Datum.fin (s != t) (c * d) (q + r + ((k + m : Nat) : Int))
      congr 1; omega
theorem sft_order (k : Nat) (x y : Datum) : order (sft k x) (sft k y) = order x y := by
  cases x with
  | nan => rfl
  | inf s => cases y <;> rfl
  | fin s c q =>
    cases y with
    | nan => rfl
    | inf t => rfl
    | fin t d r =>
      have h : min (q + (k : Int)) (r + k) = min q r + k := by omega
      have h1 : q + (k : Int) - (min q r + k) = q - min q r := by omega
      have h2 : r + (k : Int) - (min q r + k) = r - min q r := by omega
      show some (compare (signed s (c * 2 ^ (q + (k : Int) - min (q + k) (r + k)).toNat)) (signed t (d * 2 ^ (r + (k : Int) - min (q + k) (r + k)).toNat))) = some (compare (signed s (c * 2 ^ (q - min q r).toNat)) (signed t (d * 2 ^ (r - min q r).toNat)))
      rw [h, h1, h2]
theorem b64_qmin : b64.qmin = -1074 := by decide +kernel
theorem b64_qmax : b64.qmax = 971 := by decide +kernel
theorem b64_tails : b64.tails = 4503599627370496 := by decide +kernel
theorem fits64 (s : Bool) (c : Nat) (q : Int) : Core.fits b64 (.fin s c q) ↔ c < 2 ^ 53 ∧ -1074 ≤ q ∧ q ≤ 971 ∧ (q = -1074 ∨ 4503599627370496 ≤ c) := by
  show (c < 2 ^ 53 ∧ b64.qmin ≤ q ∧ q ≤ b64.qmax ∧ (q = b64.qmin ∨ b64.tails ≤ c)) ↔ _
  rw [b64_qmin, b64_qmax, b64_tails]
/-- n / 2^k is a double, for n up to 2^53 and k up to 1022 -/
theorem natFitS (s : Bool) {n k : Nat} (hk : k ≤ 1022) (hn : n ≤ 2 ^ 53) :
    ∃ c q, Core.fits b64 (.fin s c q) ∧ n * 2 ^ (-(k : Int) - q).toNat = c * 1 * 2 ^ (q - -(k : Int)).toNat := by
  by_cases h0 : n = 0
  · subst h0
    exact ⟨0, b64.qmin, zero_fits good_b64 s, by simp⟩
  · obtain ⟨c, q, hf, hv⟩ := natFit good_b64 wide_b64 s (show n ≤ 2 ^ b64.p from hn)
    rw [fits64] at hf
    have hq : -52 ≤ q := by
      refine Int.not_lt.mp fun hlt => ?_
      have e1 : (q - 0).toNat = 0 := by omega
      have e2 : (0 - q).toNat = 53 + ((0 - q).toNat - 53) := by omega
      rw [e1, e2, Nat.pow_add] at hv
      have p := Nat.two_pow_pos ((0 - q).toNat - 53)
      have : 2 ^ 53 * 1 ≤ 2 ^ 53 * 2 ^ ((0 - q).toNat - 53) := Nat.mul_le_mul_left _ p
      have : 1 * (2 ^ 53 * 2 ^ ((0 - q).toNat - 53)) ≤ n * (2 ^ 53 * 2 ^ ((0 - q).toNat - 53)) := Nat.mul_le_mul_right _ (by omega)
      omega
    refine ⟨c, q - k, (fits64 _ _ _).mpr ⟨hf.1, by omega, by omega, Or.inr (hf.2.2.2.resolve_left (by omega))⟩, ?_⟩
    rw [show -(k : Int) - (q - k) = 0 - q by omega, show q - k - -(k : Int) = q - 0 by omega]
    exact hv
theorem whole_signed {i : Int} {s : Bool} {c : Nat} {q : Int} (h : Whole i (.fin s c q)) : signed s i.natAbs = i := by
  by_cases hi : i = 0
  · rw [hi]; exact signed_zero s
  · rw [whole_sign h hi]; unfold signed
    by_cases h : i < 0 <;> simp [h] <;> omega
theorem ds_round {k : Nat} {i : Int} {d : Datum} (hk : k ≤ 1022) (hi : i.natAbs ≤ 2 ^ 53) (h : Whole i (sft k d)) : Whole i (sft k (Core.round b64 d)) := by
  cases d with
  | nan => exact h.elim
  | inf s => exact h.elim
  | fin s c q =>
    have hs := whole_signed h
    have h1 := whole_natAbs h
    obtain ⟨c', q', hfit, hv⟩ := natFitS s hk hi
    have e1 : Core.round b64 (.fin s c q) = roundRatio b64 s i.natAbs 1 (-(k : Int)) := by
      refine roundRatio_congr (by decide) (by decide) ?_
      rw [show q - -(k : Int) = q + k by omega, show -(k : Int) - q = -(q + k) by omega]
      simpa using h1
    rw [e1, roundRatio_exact good_b64 (by decide) hfit hv]
    show signed s (c' * 2 ^ (q' + (k : Int)).toNat) = i * _
    rw [show -(k : Int) - q' = -(q' + k) by omega, show q' - -(k : Int) = q' + k by omega, Nat.mul_one] at hv
    rw [← hv, signed_mul, hs]
theorem DS.nn {k : Nat} {i : Int} {x : UInt64} (h : DS k i x) : NoNaN64 x := val64_no.mpr fun q => by
  unfold DS at h; rw [q] at h; exact h.elim
theorem DS.fin {k : Nat} {i : Int} {x : UInt64} (h : DS k i x) : ∃ s c q, val64 x = .fin s c q ∧ Whole i (.fin s c (q + (k : Int))) := by
  unfold DS at h
  cases e : val64 x with
  | nan => rw [e] at h; exact h.elim
  | inf s => rw [e] at h; exact h.elim
  | fin s c q => rw [e] at h; exact ⟨s, c, q, rfl, h⟩
theorem DS.lit {k : Nat} {i : Int} {x : UInt64} {s : Bool} {c : Nat} {q : Int} (hv : val64 x = .fin s c q) (he : signed s (c * 2 ^ (q + (k : Int)).toNat) = i * ((2 ^ (-(q + (k : Int))).toNat : Nat) : Int)) : DS k i x := by
  unfold DS; rw [hv]; exact he
theorem DS.i2d (v : Int32) : DS 0 v.toInt (FP.i2d v) := by unfold DS; rw [sft_zero]; exact i2d_int v
theorem DS.l2d {v : Int64} (h : v.toInt.natAbs ≤ 2 ^ 53) : DS 0 v.toInt (FP.l2d v) := by unfold DS; rw [sft_zero]; exact l2d_int h
theorem DS.dint {i : Int} {x : UInt64} (h : DS 0 i x) : DInt i x := by unfold DS at h; rw [sft_zero] at h; exact h
theorem DS.zero (k : Nat) : DS k 0 0 := DS.lit (s := false) (c := 0) (q := -1074) (by decide +kernel) (by rw [Nat.zero_mul, Int.zero_mul]; rfl)
theorem DS.add {k : Nat} {i j : Int} {x y : UInt64} (hx : DS k i x) (hy : DS k j y) (hb : (i + j).natAbs ≤ 2 ^ 53) (hk : k ≤ 1022) : DS k (i + j) (FP.dadd x y) := by
  show Whole _ (sft k (val64 (Core.dadd x y)))
  rw [val64_dadd]; refine ds_round hk hb ?_; rw [← sft_sum]; exact whole_sum hx hy
theorem DS.sub {k : Nat} {i j : Int} {x y : UInt64} (hx : DS k i x) (hy : DS k j y) (hb : (i - j).natAbs ≤ 2 ^ 53) (hk : k ≤ 1022) : DS k (i - j) (FP.dsub x y) := by
  show Whole _ (sft k (val64 (Core.dsub x y)))
  rw [val64_dsub]; refine ds_round hk hb ?_; rw [← sft_sum, ← sft_negate, Int.sub_eq_add_neg]; exact whole_sum hx (whole_negate hy)
theorem DS.mul {k m : Nat} {i j : Int} {x y : UInt64} (hx : DS k i x) (hy : DS m j y) (hb : (i * j).natAbs ≤ 2 ^ 53) (hk : k + m ≤ 1022) : DS (k + m) (i * j) (FP.dmul x y) := by
  show Whole _ (sft (k + m) (val64 (Core.dmul x y)))
  rw [val64_dmul]; refine ds_round hk hb ?_; rw [← sft_product]; exact whole_product hx hy
theorem DS.cmp {k : Nat} {i j : Int} {x y : UInt64} (hx : DS k i x) (hy : DS k j y) : FP.dcmp x y = some (compare i j) := by
  show order (val64 x) (val64 y) = _
  rw [← sft_order k]; exact order_whole hx hy
/-- what dcmp pushes -/
def c3 (i j : Int) : Int32 := if i < j then -1 else if i = j then 0 else 1
theorem c3_lt (i j : Int) : c3 i j < 0 ↔ i < j := by unfold c3; split <;> (try split) <;> simp_all <;> first | decide | omega
theorem c3_gt (i j : Int) : 0 < c3 i j ↔ j < i := by unfold c3; split <;> (try split) <;> simp_all <;> first | decide | omega
theorem c3_eq (i j : Int) : c3 i j = 0 ↔ i = j := by unfold c3; split <;> (try split) <;> simp_all <;> first | decide | omega
theorem cmpV_int (i j : Int) (o : CmpOp) : cmpValue (some (compare i j)) o = c3 i j := by
  unfold c3
  by_cases h1 : i < j
  · have : compare i j = .lt := by simp [compare, compareOfLessAndEq, h1]
    rw [this, if_pos h1]; cases o <;> rfl
  · by_cases h2 : i = j
    · have : compare i j = .eq := by simp [compare, compareOfLessAndEq, h2]
      rw [this, if_neg h1, if_pos h2]; cases o <;> rfl
    · have : compare i j = .gt := by simp [compare, compareOfLessAndEq, h1, h2]
      rw [this, if_neg h1, if_neg h2]; cases o <;> rfl
theorem DS.cmpV {k : Nat} {i j : Int} {x y : UInt64} (hx : DS k i x) (hy : DS k j y) (o : CmpOp) : cmpValue (FP.dcmp x y) o = c3 i j := by rw [hx.cmp hy]; exact cmpV_int i j o
theorem whole_iff {i : Int} {s : Bool} {c : Nat} {q : Int} {N : Nat} (h : 0 ≤ q + N) : Whole i (.fin s c q) ↔ signed s c * ((2 ^ (q + N).toNat : Nat) : Int) = i * ((2 ^ N : Nat) : Int) := by
  show signed s (c * 2 ^ q.toNat) = i * ((2 ^ (-q).toNat : Nat) : Int) ↔ _
  rw [signed_mul]
  have e : q.toNat + N = (q + N).toNat + (-q).toNat := by omega
  have p1 : ((2 ^ N : Nat) : Int) ≠ 0 := by have := Nat.two_pow_pos N; omega
  have p2 : ((2 ^ (-q).toNat : Nat) : Int) ≠ 0 := by have := Nat.two_pow_pos (-q).toNat; omega
  have e1 : signed s c * ((2 ^ q.toNat : Nat) : Int) * ((2 ^ N : Nat) : Int) = signed s c * ((2 ^ (q + N).toNat : Nat) : Int) * ((2 ^ (-q).toNat : Nat) : Int) := by
    rw [Int.mul_assoc, Int.mul_assoc, ← Int.natCast_mul, ← Int.natCast_mul, ← Nat.pow_add, ← Nat.pow_add, e]
  constructor
  · intro hh
    refine Int.eq_of_mul_eq_mul_right p2 ?_
    rw [← e1, hh]; ac_rfl
  · intro hh
    refine Int.eq_of_mul_eq_mul_right p1 ?_
    rw [e1, hh]; ac_rfl
theorem DS.up {k : Nat} {i : Int} {x : UInt64} (h : DS k i x) (m : Nat) : DS (k + m) (i * ((2 ^ m : Nat) : Int)) x := by
  obtain ⟨s, c, q, e, hw⟩ := h.fin
  unfold DS; rw [e]
  show Whole _ (.fin s c (q + ((k + m : Nat) : Int)))
  rw [whole_iff (N := (-q).toNat) (by omega)]
  rw [whole_iff (N := (-q).toNat + m) (by omega)] at hw
  rw [show q + (k : Int) + (((-q).toNat + m : Nat) : Int) = q + ((k + m : Nat) : Int) + ((-q).toNat : Nat) by omega] at hw
  rw [hw, Nat.pow_add, Int.natCast_mul]; ac_rfl
theorem DS.cast {k k' : Nat} {i i' : Int} {x : UInt64} (h : DS k i x) (e1 : k = k') (e2 : i = i') : DS k' i' x := e1 ▸ e2 ▸ h
/-- the quotient, as the rounding of a ratio of whole numbers -/
theorem ds_quot {k m : Nat} {i j : Int} {x y : UInt64} (hx : DS k i x) (hy : DS m j y) (hj : j ≠ 0) :
    ∃ s t, signed s i.natAbs = i ∧ signed t j.natAbs = j ∧ val64 (FP.ddiv x y) = roundRatio b64 (s != t) i.natAbs j.natAbs ((m : Int) - k) := by
  obtain ⟨s, c, q, e, hw⟩ := hx.fin
  obtain ⟨t, d, r, e', hw'⟩ := hy.fin
  have hd : d ≠ 0 := fun z => hj ((whole_zero hw').mp z)
  have h1 := whole_natAbs hw
  have h2 := whole_natAbs hw'
  refine ⟨s, t, whole_signed hw, whole_signed hw', ?_⟩
  show val64 (Core.ddiv x y) = _
  rw [val64_ddiv, e, e']
  show (if d = 0 then _ else roundRatio b64 (s != t) c d (q - r)) = _
  rw [if_neg hd]
  have hj' : 0 < j.natAbs := by omega
  rw [roundRatio_congr (A' := i.natAbs) (B' := d) (e' := -(k : Int) - r) (by omega) (by omega) (by
    rw [show q - r - (-(k : Int) - r) = q + k by omega, show -(k : Int) - r - (q - r) = -(q + k) by omega, Nat.mul_right_comm, h1]; ac_rfl)]
  refine roundRatio_congr (by omega) hj' ?_
  rw [show -(k : Int) - r - ((m : Int) - k) = -(r + m) by omega, show (m : Int) - k - (-(k : Int) - r) = r + m by omega, Nat.mul_assoc, ← h2]; ac_rfl
theorem DS.div {k m n : Nat} {i j Q : Int} {x y : UInt64} (hx : DS k i x) (hy : DS m j y) (hj : j ≠ 0) (hQ : i * ((2 ^ (m + n) : Nat) : Int) = Q * j * ((2 ^ k : Nat) : Int)) (hb : Q.natAbs ≤ 2 ^ 53) (hn : n ≤ 1022) : DS n Q (FP.ddiv x y) := by
  obtain ⟨s, t, hs, ht, hv⟩ := ds_quot hx hy hj
  obtain ⟨c', q', hfit, hf⟩ := natFitS (s != t) hn hb
  have hj' : 0 < j.natAbs := by omega
  have hQn : i.natAbs * 2 ^ (m + n) = Q.natAbs * j.natAbs * 2 ^ k := by
    have := congrArg Int.natAbs hQ
    rwa [Int.natAbs_mul, Int.natAbs_mul, Int.natAbs_mul, Int.natAbs_natCast, Int.natAbs_natCast] at this
  have e1 : roundRatio b64 (s != t) i.natAbs j.natAbs ((m : Int) - k) = roundRatio b64 (s != t) Q.natAbs 1 (-(n : Int)) := by
    refine roundRatio_congr hj' (by decide) ?_
    rw [Nat.mul_one]
    have ea : m + n = ((m : Int) - k - -(n : Int)).toNat + min (m + n) k := by omega
    have eb : k = (-(n : Int) - ((m : Int) - k)).toNat + min (m + n) k := by omega
    generalize ((m : Int) - k - -(n : Int)).toNat = u at ea ⊢
    generalize (-(n : Int) - ((m : Int) - k)).toNat = w at eb ⊢
    have hQ2 : i.natAbs * 2 ^ (u + min (m + n) k) = Q.natAbs * j.natAbs * 2 ^ (w + min (m + n) k) := by rw [← ea, ← eb]; exact hQn
    rw [Nat.pow_add, Nat.pow_add, ← Nat.mul_assoc, ← Nat.mul_assoc] at hQ2
    exact Nat.eq_of_mul_eq_mul_right (Nat.two_pow_pos _) hQ2
  rw [e1, roundRatio_exact good_b64 (by decide) hfit hf] at hv
  unfold DS; rw [hv]
  show signed (s != t) (c' * 2 ^ (q' + (n : Int)).toNat) = Q * _
  rw [show -(n : Int) - q' = -(q' + n) by omega, show q' - -(n : Int) = q' + n by omega, Nat.mul_one] at hf
  rw [← hf, signed_mul]
  congr 1
  have hp : (0 : Int) < ((2 ^ (m + n) : Nat) : Int) := by have := Nat.two_pow_pos (m + n); omega
  have hp2 : (0 : Int) < ((2 ^ k : Nat) : Int) := by have := Nat.two_pow_pos k; omega
  generalize ((2 ^ (m + n) : Nat) : Int) = P1 at hQ hp
  generalize ((2 ^ k : Nat) : Int) = P2 at hQ hp2
  -- the sign of the quotient
  have key : signed (s != t) (Q.natAbs * (j.natAbs * j.natAbs)) = Q * (j.natAbs * j.natAbs : Nat) := by
    have e2 : signed (s != t) (i.natAbs * j.natAbs) = i * j := by rw [signed_xor, hs, ht]
    have e3 : i.natAbs * P1.natAbs = Q.natAbs * j.natAbs * P2.natAbs := by
      have := congrArg Int.natAbs hQ
      rwa [Int.natAbs_mul, Int.natAbs_mul, Int.natAbs_mul] at this
    have e4 : signed (s != t) (Q.natAbs * (j.natAbs * j.natAbs)) * P2 = Q * (j.natAbs * j.natAbs : Nat) * P2 := by
      have p2 : P2 = (P2.natAbs : Int) := by omega
      have p1 : P1 = (P1.natAbs : Int) := by omega
      calc signed (s != t) (Q.natAbs * (j.natAbs * j.natAbs)) * P2
          = signed (s != t) (Q.natAbs * (j.natAbs * j.natAbs) * P2.natAbs) := by rw [signed_mul _ (Q.natAbs * (j.natAbs * j.natAbs)), ← p2]
        _ = signed (s != t) (i.natAbs * j.natAbs * P1.natAbs) := by
            congr 1
            calc Q.natAbs * (j.natAbs * j.natAbs) * P2.natAbs = (Q.natAbs * j.natAbs * P2.natAbs) * j.natAbs := by ac_rfl
              _ = i.natAbs * j.natAbs * P1.natAbs := by rw [← e3]; ac_rfl
        _ = i * j * P1 := by rw [signed_mul, e2, ← p1]
        _ = (i * P1) * j := by ac_rfl
        _ = Q * (j * j) * P2 := by rw [hQ]; ac_rfl
        _ = Q * (j.natAbs * j.natAbs : Nat) * P2 := by rw [Int.natCast_mul, Int.natAbs_mul_self' j]
    exact Int.eq_of_mul_eq_mul_right (by omega) e4
  rw [signed_mul] at key
  exact Int.eq_of_mul_eq_mul_right (by have : 0 < j.natAbs * j.natAbs := Nat.mul_pos hj' hj'; omega) key
/-- by a power of two -/
theorem DS.divp {k t : Nat} {i : Int} {x y : UInt64} (hx : DS k i x) (hy : DS 0 ((2 ^ t : Nat) : Int) y) (hb : i.natAbs ≤ 2 ^ 53) (hn : k + t ≤ 1022) : DS (k + t) i (FP.ddiv x y) :=
  DS.div hx hy (by have := Nat.two_pow_pos t; omega) (by rw [Nat.zero_add, Nat.pow_add, Int.natCast_mul]; ac_rfl) hb hn
theorem sft_rem (k : Nat) (x y : Datum) : exactRemainder (sft k x) (sft k y) = sft k (exactRemainder x y) := by
  cases x with
  | nan => rfl
  | inf s => rfl
  | fin s c q =>
    cases y with
    | nan => rfl
    | inf t => rfl
    | fin t d r =>
      have h : min (q + (k : Int)) (r + k) = min q r + k := by omega
      have h1 : q + (k : Int) - (min q r + k) = q - min q r := by omega
      have h2 : r + (k : Int) - (min q r + k) = r - min q r := by omega
      show (if d = 0 then Datum.nan else .fin s (c * 2 ^ (q + (k : Int) - min (q + k) (r + k)).toNat % (d * 2 ^ (r + (k : Int) - min (q + k) (r + k)).toNat)) (min (q + k) (r + k))) = sft k (if d = 0 then Datum.nan else .fin s (c * 2 ^ (q - min q r).toNat % (d * 2 ^ (r - min q r).toNat)) (min q r))
      rw [h, h1, h2]; split <;> rfl
theorem signed_tmod {s : Bool} {i : Int} (hs : signed s i.natAbs = i) (j : Int) : signed s (i.natAbs % j.natAbs) = i.tmod j := by
  cases i with
  | ofNat a =>
    have e : Int.tmod (Int.ofNat a) j = ((a % j.natAbs : Nat) : Int) := by cases j <;> rfl
    rw [e]; show signed s (a % j.natAbs) = _
    have hs' : signed s a = (a : Int) := hs
    cases s with
    | false => rfl
    | true =>
      have h0 : a = 0 := by
        have : -(a : Int) = (a : Int) := hs'
        omega
      subst h0; rw [Nat.zero_mod]; rfl
  | negSucc a =>
    have e : Int.tmod (Int.negSucc a) j = -(((a + 1) % j.natAbs : Nat) : Int) := by cases j <;> rfl
    rw [e]; show signed s ((a + 1) % j.natAbs) = _
    cases s with
    | true => rfl
    | false =>
      have : ((a + 1 : Nat) : Int) = Int.negSucc a := hs
      omega
theorem whole_rem {i j : Int} {x y : Datum} (hx : Whole i x) (hy : Whole j y) (hj : j ≠ 0) : Whole (i.tmod j) (exactRemainder x y) := by
  cases x with
  | nan => exact hx.elim
  | inf => exact hx.elim
  | fin s c q =>
  cases y with
  | nan => exact hy.elim
  | inf => exact hy.elim
  | fin t d r =>
    have hd : d ≠ 0 := fun z => hj ((whole_zero hy).mp z)
    have h1 := congrArg Int.natAbs (whole_units hx (e := min q r) (by omega))
    have h2 := congrArg Int.natAbs (whole_units hy (e := min q r) (by omega))
    rw [Int.natAbs_mul, Int.natAbs_mul, Int.natAbs_natCast, Int.natAbs_natCast, natAbs_signed] at h1 h2
    show Whole _ (if d = 0 then _ else Datum.fin s (inUnits c q (min q r) % inUnits d r (min q r)) (min q r))
    rw [if_neg hd]
    show signed s (inUnits c q (min q r) % inUnits d r (min q r) * 2 ^ (min q r).toNat) = i.tmod j * ((2 ^ (-(min q r)).toNat : Nat) : Int)
    rw [← Nat.mul_mod_mul_right, h1, h2, Nat.mul_mod_mul_right, signed_mul, signed_tmod (whole_signed hx)]
theorem DS.rem {k : Nat} {i j : Int} {x y : UInt64} (hx : DS k i x) (hy : DS k j y) (hj : j ≠ 0) (hb : (i.tmod j).natAbs ≤ 2 ^ 53) (hk : k ≤ 1022) : DS k (i.tmod j) (FP.drem x y) := by
  show Whole _ (sft k (val64 (Core.drem x y)))
  rw [val64_drem]; refine ds_round hk hb ?_; rw [← sft_rem]; exact whole_rem hx hy hj
end Dyad
theorem d1_0 : decode jdk_29_method_69_code 0 = .ok (.iload_n 0, 1) := by decide +kernel
theorem d1_1 : decode jdk_29_method_69_code 1 = .ok (.iload_n 1, 1) := by decide +kernel
theorem d1_2 : decode jdk_29_method_69_code 2 = .ok (.if_icmp .gt 7, 3) := by decide +kernel
theorem d1_5 : decode jdk_29_method_69_code 5 = .ok (.iload_n 0, 1) := by decide +kernel
theorem d1_6 : decode jdk_29_method_69_code 6 = .ok (.goto 4, 3) := by decide +kernel
theorem d1_9 : decode jdk_29_method_69_code 9 = .ok (.iload_n 1, 1) := by decide +kernel
theorem d1_10 : decode jdk_29_method_69_code 10 = .ok (.ireturn, 1) := by decide +kernel
theorem ef1_rm1 (m : MethodId) (x0 : Int32) (x1 : Int32) : entryFrame m #[(.int x0), (.int x1)] 2 = mkF m 0 #[.val (.int x0), .val (.int x1)] [] := by first | (simp [entryFrame, mkF, argsToLocals, Value.category]; done) | rfl
def Q1 (Z : State) (x1 : Int32) (y1 : Int32) (h0 : Heap) (n0 : Nat) (v : Option Value) (h : Heap) (L : List Loc) : Prop := ∃ z : Int32, v = some (.int z) ∧ (z.toInt ≤ x1.toInt ∧ z.toInt ≤ y1.toInt ∧ (z.toInt = x1.toInt ∨ z.toInt = y1.toInt)) ∧ Fr n0 L ∧ h = h0
set_option maxRecDepth 65536 in
set_option maxHeartbeats 40000000 in
theorem rm1 (l : Launch) (Z : State) (a0 : Array Value) (hw : ∀ d ∈ tables_1, d.before a0 Z = true) (ws : List Jvm.Cond) (x1 : Int32) (y1 : Int32) (h0 : Heap) (n0 : Nat) (Z0 : n0 ≤ h0.size) :
    MetFree l (⟨"java/lang/Math", "min", "(II)I"⟩ : MethodName) (head1 (Jvm.Cond.code (⟨"java/lang/Math", "min", "(II)I"⟩ : MethodName) jdk_29_method_69_code 2 (some .int) :: ws) ({ frames := 0, cells := 0, slots := 0, locals := 0 } : Room)) (fun aa UU => aa = #[(.int x1), (.int y1)] ∧ Z.Warmed39 UU.vm ∧ UU.heap = h0) (fun _ _ _ _ _ => True) (fun _ UU oo UU' => ∃ vv LL, oo = .returned vv ∧ Q1 Z x1 y1 h0 n0 vv UU'.heap LL ∧ FrameEnd UU oo UU' LL ({ frames := 0, cells := 0, slots := 0, locals := 0 } : Room).cells ({ frames := 0, cells := 0, slots := 0, locals := 0 } : Room).slots) := by
  refine MetFree.of_bodySF (Jvm.Free.JP.mathPlain rfl (by decide +kernel)) hisR ?_
  intro p e s m args below meth c s₁ Bd hml0 hP hK
  obtain ⟨rfl, hZ, hh⟩ := hP
  have hx := Bd.exec
  have hby := Bd.bytes
  have hlk : meth.locks = false := BodyLoose.notSynchronized Bd
  have hret := Bd.returns
  have hml : c.maxLocals = 2 := hml0
  have hown : s.vm.findClass "java/lang/Math" = some m.cls := findClass_of_methodNamed Bd.named
  have hnm := (name_of_methodNamed Bd.named Bd.method).1
  have X0 : Stand p l e ({ frames := 0, cells := 0, slots := 0, locals := 0 } : Room) s m #[(.int x1), (.int y1)] below meth c s₁ [] 0 0 := Stand.of_body Bd
  have e0 : s₁.heap = h0 := by rw [← hh, Bd.state]; rfl
  have N0 := Fr.nil n0
  have r_x1 := rng32 x1
  have r_y1 := rng32 y1
  show Dn p e below s (Q1 Z x1 y1 h0 n0) ({ frames := 0, cells := 0, slots := 0, locals := 0 } : Room).cells ({ frames := 0, cells := 0, slots := 0, locals := 0 } : Room).slots (s₁.setTop (entryFrame m #[(.int x1), (.int y1)] 2))
  refine Dn.st (fun _ kk => castTop (ef1_rm1 m x1 y1) kk) ?_
  show Dn p e below s _ _ _ (s₁.setTop (mkF m 0 #[.val (.int x1), .val (.int y1)] []))
  refine Dn.st (fun _ kk => XS.iloadN X0.here hx rfl (hb hby d1_0) rfl  (XS.iloadN X0.here hx rfl (hb hby d1_1) rfl  (kk))) ?_
  show Dn p e below s _ _ _ (s₁.setTop (mkF m 2 #[.val (.int x1), .val (.int y1)] [(.int y1), (.int x1)]))
  by_cases hc2 : y1 < x1
  · have hi2 : y1.toInt < x1.toInt := Int32.lt_iff_toInt_lt.mp hc2
    refine Dn.st (fun _ kk => XS.icmpYes X0.here hx rfl (pc0 := 2) (pc' := 9) rfl (hb hby d1_2) rfl (tlt hc2).2.2.1 (by decide) (by decide) (XS.iloadN X0.here hx rfl (hb hby d1_9) rfl  (kk))) ?_
    show Dn p e below s _ _ _ (s₁.setTop (mkF m 10 #[.val (.int x1), .val (.int y1)] [(.int y1)]))
    exact Dn.ret X0 hlk hx hret rfl (Or.inl ⟨rfl, Or.inl rfl, _, rfl⟩) (hb hby d1_10) (by rw [e0]; exact ⟨_, rfl, by omega, N0, rfl⟩) (by decide) (by decide)
  · have hi2 : ¬ y1.toInt < x1.toInt := fun qq => hc2 (Int32.lt_iff_toInt_lt.mpr qq)
    refine Dn.st (fun _ kk => XS.icmpNo X0.here hx rfl (hb hby d1_2) rfl (flt hc2).2.2.1 (XS.iloadN X0.here hx rfl (hb hby d1_5) rfl  (XS.goto X0.here hx rfl (pc0 := 6) (pc' := 10) rfl (hb hby d1_6) (by decide) (by decide) (kk)))) ?_
    show Dn p e below s _ _ _ (s₁.setTop (mkF m 10 #[.val (.int x1), .val (.int y1)] [(.int x1)]))
    exact Dn.ret X0 hlk hx hret rfl (Or.inl ⟨rfl, Or.inl rfl, _, rfl⟩) (hb hby d1_10) (by rw [e0]; exact ⟨_, rfl, by omega, N0, rfl⟩) (by decide) (by decide)

theorem d2_0 : decode jdk_29_method_65_code 0 = .ok (.iload_n 0, 1) := by decide +kernel
theorem d2_1 : decode jdk_29_method_65_code 1 = .ok (.iload_n 1, 1) := by decide +kernel
theorem d2_2 : decode jdk_29_method_65_code 2 = .ok (.if_icmp .lt 7, 3) := by decide +kernel
theorem d2_5 : decode jdk_29_method_65_code 5 = .ok (.iload_n 0, 1) := by decide +kernel
theorem d2_6 : decode jdk_29_method_65_code 6 = .ok (.goto 4, 3) := by decide +kernel
theorem d2_9 : decode jdk_29_method_65_code 9 = .ok (.iload_n 1, 1) := by decide +kernel
theorem d2_10 : decode jdk_29_method_65_code 10 = .ok (.ireturn, 1) := by decide +kernel
theorem ef2_rm2 (m : MethodId) (x0 : Int32) (x1 : Int32) : entryFrame m #[(.int x0), (.int x1)] 2 = mkF m 0 #[.val (.int x0), .val (.int x1)] [] := by first | (simp [entryFrame, mkF, argsToLocals, Value.category]; done) | rfl
def Q2 (Z : State) (x1 : Int32) (y1 : Int32) (h0 : Heap) (n0 : Nat) (v : Option Value) (h : Heap) (L : List Loc) : Prop := ∃ z : Int32, v = some (.int z) ∧ (z.toInt ≥ x1.toInt ∧ z.toInt ≥ y1.toInt ∧ (z.toInt = x1.toInt ∨ z.toInt = y1.toInt)) ∧ Fr n0 L ∧ h = h0
set_option maxRecDepth 65536 in
set_option maxHeartbeats 40000000 in
theorem rm2 (l : Launch) (Z : State) (a0 : Array Value) (hw : ∀ d ∈ tables_1, d.before a0 Z = true) (ws : List Jvm.Cond) (x1 : Int32) (y1 : Int32) (h0 : Heap) (n0 : Nat) (Z0 : n0 ≤ h0.size) :
    MetFree l (⟨"java/lang/Math", "max", "(II)I"⟩ : MethodName) (head1 (Jvm.Cond.code (⟨"java/lang/Math", "max", "(II)I"⟩ : MethodName) jdk_29_method_65_code 2 (some .int) :: ws) ({ frames := 0, cells := 0, slots := 0, locals := 0 } : Room)) (fun aa UU => aa = #[(.int x1), (.int y1)] ∧ Z.Warmed39 UU.vm ∧ UU.heap = h0) (fun _ _ _ _ _ => True) (fun _ UU oo UU' => ∃ vv LL, oo = .returned vv ∧ Q2 Z x1 y1 h0 n0 vv UU'.heap LL ∧ FrameEnd UU oo UU' LL ({ frames := 0, cells := 0, slots := 0, locals := 0 } : Room).cells ({ frames := 0, cells := 0, slots := 0, locals := 0 } : Room).slots) := by
  refine MetFree.of_bodySF (Jvm.Free.JP.mathPlain rfl (by decide +kernel)) hisR ?_
  intro p e s m args below meth c s₁ Bd hml0 hP hK
  obtain ⟨rfl, hZ, hh⟩ := hP
  have hx := Bd.exec
  have hby := Bd.bytes
  have hlk : meth.locks = false := BodyLoose.notSynchronized Bd
  have hret := Bd.returns
  have hml : c.maxLocals = 2 := hml0
  have hown : s.vm.findClass "java/lang/Math" = some m.cls := findClass_of_methodNamed Bd.named
  have hnm := (name_of_methodNamed Bd.named Bd.method).1
  have X0 : Stand p l e ({ frames := 0, cells := 0, slots := 0, locals := 0 } : Room) s m #[(.int x1), (.int y1)] below meth c s₁ [] 0 0 := Stand.of_body Bd
  have e0 : s₁.heap = h0 := by rw [← hh, Bd.state]; rfl
  have N0 := Fr.nil n0
  have r_x1 := rng32 x1
  have r_y1 := rng32 y1
  show Dn p e below s (Q2 Z x1 y1 h0 n0) ({ frames := 0, cells := 0, slots := 0, locals := 0 } : Room).cells ({ frames := 0, cells := 0, slots := 0, locals := 0 } : Room).slots (s₁.setTop (entryFrame m #[(.int x1), (.int y1)] 2))
  refine Dn.st (fun _ kk => castTop (ef2_rm2 m x1 y1) kk) ?_
  show Dn p e below s _ _ _ (s₁.setTop (mkF m 0 #[.val (.int x1), .val (.int y1)] []))
  refine Dn.st (fun _ kk => XS.iloadN X0.here hx rfl (hb hby d2_0) rfl  (XS.iloadN X0.here hx rfl (hb hby d2_1) rfl  (kk))) ?_
  show Dn p e below s _ _ _ (s₁.setTop (mkF m 2 #[.val (.int x1), .val (.int y1)] [(.int y1), (.int x1)]))
  by_cases hc2 : x1 < y1
  · have hi2 : x1.toInt < y1.toInt := Int32.lt_iff_toInt_lt.mp hc2
    refine Dn.st (fun _ kk => XS.icmpYes X0.here hx rfl (pc0 := 2) (pc' := 9) rfl (hb hby d2_2) rfl (tlt hc2).1 (by decide) (by decide) (XS.iloadN X0.here hx rfl (hb hby d2_9) rfl  (kk))) ?_
    show Dn p e below s _ _ _ (s₁.setTop (mkF m 10 #[.val (.int x1), .val (.int y1)] [(.int y1)]))
    exact Dn.ret X0 hlk hx hret rfl (Or.inl ⟨rfl, Or.inl rfl, _, rfl⟩) (hb hby d2_10) (by rw [e0]; exact ⟨_, rfl, by omega, N0, rfl⟩) (by decide) (by decide)
  · have hi2 : ¬ x1.toInt < y1.toInt := fun qq => hc2 (Int32.lt_iff_toInt_lt.mpr qq)
    refine Dn.st (fun _ kk => XS.icmpNo X0.here hx rfl (hb hby d2_2) rfl (flt hc2).1 (XS.iloadN X0.here hx rfl (hb hby d2_5) rfl  (XS.goto X0.here hx rfl (pc0 := 6) (pc' := 10) rfl (hb hby d2_6) (by decide) (by decide) (kk)))) ?_
    show Dn p e below s _ _ _ (s₁.setTop (mkF m 10 #[.val (.int x1), .val (.int y1)] [(.int x1)]))
    exact Dn.ret X0 hlk hx hret rfl (Or.inl ⟨rfl, Or.inl rfl, _, rfl⟩) (hb hby d2_10) (by rw [e0]; exact ⟨_, rfl, by omega, N0, rfl⟩) (by decide) (by decide)

theorem d3_0 : decode prog_30_method_1_code 0 = .ok (.aload_n 0, 1) := by decide +kernel
theorem d3_1 : decode prog_30_method_1_code 1 = .ok (.invokespecial 1, 3) := by decide +kernel
theorem d3_4 : decode prog_30_method_1_code 4 = .ok (.aload_n 0, 1) := by decide +kernel
theorem d3_5 : decode prog_30_method_1_code 5 = .ok (.dload_n 1, 1) := by decide +kernel
theorem d3_6 : decode prog_30_method_1_code 6 = .ok (.putfield 7, 3) := by decide +kernel
theorem d3_9 : decode prog_30_method_1_code 9 = .ok (.aload_n 0, 1) := by decide +kernel
theorem d3_10 : decode prog_30_method_1_code 10 = .ok (.dload_n 3, 1) := by decide +kernel
theorem d3_11 : decode prog_30_method_1_code 11 = .ok (.putfield 13, 3) := by decide +kernel
theorem d3_14 : decode prog_30_method_1_code 14 = .ok (.aload_n 0, 1) := by decide +kernel
theorem d3_15 : decode prog_30_method_1_code 15 = .ok (.dload 5, 2) := by decide +kernel
theorem d3_17 : decode prog_30_method_1_code 17 = .ok (.putfield 16, 3) := by decide +kernel
theorem d3_20 : decode prog_30_method_1_code 20 = .ok (.aload_n 0, 1) := by decide +kernel
theorem d3_21 : decode prog_30_method_1_code 21 = .ok (.dload 7, 2) := by decide +kernel
theorem d3_23 : decode prog_30_method_1_code 23 = .ok (.putfield 19, 3) := by decide +kernel
theorem d3_26 : decode prog_30_method_1_code 26 = .ok (.return_, 1) := by decide +kernel
theorem pn0 : plainName "com/example/vias_for_diagrams/viasfordiagrams/Rect" = true := by first | (simp [plainName, overriddenIn]; done) | decide +kernel
theorem ef3_rm3 (m : MethodId) (x0 : Addr) (x1 : UInt64) (x2 : UInt64) (x3 : UInt64) (x4 : UInt64) : entryFrame m #[(.ref x0), (.double x1), (.double x2), (.double x3), (.double x4)] 9 = mkF m 0 #[.val (.ref x0), .val (.double x1), .second, .val (.double x2), .second, .val (.double x3), .second, .val (.double x4), .second] [] := by first | (simp [entryFrame, mkF, argsToLocals, Value.category]; done) | rfl
def Q3 (Z : State) (a : Addr) (fl : UInt64) (ft : UInt64) (fr : UInt64) (fb : UInt64) (h0 : Heap) (n0 : Nat) (v : Option Value) (h : Heap) (L : List Loc) : Prop := v = none ∧ Fr n0 L ∧ Keep h0 h [a] ∧ Exa Z h a "com/example/vias_for_diagrams/viasfordiagrams/Rect" ∧ (Fld Z h a "com/example/vias_for_diagrams/viasfordiagrams/Rect" "left" "D" (.double fl)) ∧ (Fld Z h a "com/example/vias_for_diagrams/viasfordiagrams/Rect" "top" "D" (.double ft)) ∧ (Fld Z h a "com/example/vias_for_diagrams/viasfordiagrams/Rect" "right" "D" (.double fr)) ∧ (Fld Z h a "com/example/vias_for_diagrams/viasfordiagrams/Rect" "bottom" "D" (.double fb))
set_option maxRecDepth 65536 in
set_option maxHeartbeats 40000000 in
theorem rm3 (l : Launch) (Z : State) (a0 : Array Value) (hw : ∀ d ∈ tables_1, d.before a0 Z = true) (ws : List Jvm.Cond) (a : Addr) (fl : UInt64) (ft : UInt64) (fr : UInt64) (fb : UInt64) (h0 : Heap) (n0 : Nat) (Z0 : n0 ≤ h0.size) (ga : n0 ≤ a) (Ea : Exa Z h0 a "com/example/vias_for_diagrams/viasfordiagrams/Rect") (F0 : Fld Z h0 a "com/example/vias_for_diagrams/viasfordiagrams/Rect" "left" "D" (.double 0)) (F1 : Fld Z h0 a "com/example/vias_for_diagrams/viasfordiagrams/Rect" "top" "D" (.double 0)) (F2 : Fld Z h0 a "com/example/vias_for_diagrams/viasfordiagrams/Rect" "right" "D" (.double 0)) (F3 : Fld Z h0 a "com/example/vias_for_diagrams/viasfordiagrams/Rect" "bottom" "D" (.double 0)) :
    MetFree l (⟨"com/example/vias_for_diagrams/viasfordiagrams/Rect", "<init>", "(DDDD)V"⟩ : MethodName) (head1 (Jvm.Cond.code (⟨"com/example/vias_for_diagrams/viasfordiagrams/Rect", "<init>", "(DDDD)V"⟩ : MethodName) prog_30_method_1_code 9 none :: ws) ({ frames := 1, cells := 0, slots := 0, locals := 12 } : Room)) (fun aa UU => aa = #[(.ref a), (.double fl), (.double ft), (.double fr), (.double fb)] ∧ Z.Warmed39 UU.vm ∧ UU.heap = h0) (fun _ _ _ _ _ => True) (fun _ UU oo UU' => ∃ vv LL, oo = .returned vv ∧ Q3 Z a fl ft fr fb h0 n0 vv UU'.heap LL ∧ FrameEnd UU oo UU' LL ({ frames := 1, cells := 0, slots := 0, locals := 12 } : Room).cells ({ frames := 1, cells := 0, slots := 0, locals := 12 } : Room).slots) := by
  refine MetFree.of_bodySF (plainFor_of_name pn0) hisR ?_
  intro p e s m args below meth c s₁ Bd hml0 hP hK
  obtain ⟨rfl, hZ, hh⟩ := hP
  have hx := Bd.exec
  have hby := Bd.bytes
  have hlk : meth.locks = false := BodyLoose.notSynchronized Bd
  have hret := Bd.returns
  have hml : c.maxLocals = 9 := hml0
  have hown : s.vm.findClass "com/example/vias_for_diagrams/viasfordiagrams/Rect" = some m.cls := findClass_of_methodNamed Bd.named
  have hnm := (name_of_methodNamed Bd.named Bd.method).1
  have X0 : Stand p l e ({ frames := 1, cells := 0, slots := 0, locals := 12 } : Room) s m #[(.ref a), (.double fl), (.double ft), (.double fr), (.double fb)] below meth c s₁ [] 0 0 := Stand.of_body Bd
  have e0 : s₁.heap = h0 := by rw [← hh, Bd.state]; rfl
  have N0 := Fr.nil n0
  show Dn p e below s (Q3 Z a fl ft fr fb h0 n0) ({ frames := 1, cells := 0, slots := 0, locals := 12 } : Room).cells ({ frames := 1, cells := 0, slots := 0, locals := 12 } : Room).slots (s₁.setTop (entryFrame m #[(.ref a), (.double fl), (.double ft), (.double fr), (.double fb)] 9))
  refine Dn.st (fun _ kk => castTop (ef3_rm3 m a fl ft fr fb) kk) ?_
  show Dn p e below s _ _ _ (s₁.setTop (mkF m 0 #[.val (.ref a), .val (.double fl), .second, .val (.double ft), .second, .val (.double fr), .second, .val (.double fb), .second] []))
  refine Dn.st (fun _ kk => XS.aloadN X0.here hx rfl (hb hby d3_0) rfl rfl (kk)) ?_
  show Dn p e below s _ _ _ (s₁.setTop (mkF m 1 #[.val (.ref a), .val (.double fl), .second, .val (.double ft), .second, .val (.double fr), .second, .val (.double fb), .second] [(.ref a)]))
  obtain ⟨T1, X1, e1, st1⟩ := initO X0 hx hZ hown (hw _ (List.mem_of_getElem? (i := 13) rfl)) (hw _ (List.mem_of_getElem? (i := 14) rfl)) (hw _ (List.mem_of_getElem? (i := 15) rfl)) e0 (g := (mkF m 1 #[.val (.ref a), .val (.double fl), .second, .val (.double ft), .second, .val (.double fr), .second, .val (.double fb), .second] [(.ref a)])) rfl (by rw [hml]; rfl) rfl (hb hby d3_1) (by decide) (W := 0) (by show 2 * 0 + _ ≤ _; exact Nat.le_of_eq rfl) (by decide)
  refine Dn.st st1 ?_
  show Dn p e below s _ _ _ (T1.setTop (mkF m 4 #[.val (.ref a), .val (.double fl), .second, .val (.double ft), .second, .val (.double fr), .second, .val (.double fb), .second] []))
  refine Dn.st (fun _ kk => XS.aloadN X1.here hx rfl (hb hby d3_4) rfl rfl (XS.dloadN X1.here hx rfl (hb hby d3_5) rfl  (kk))) ?_
  show Dn p e below s _ _ _ (T1.setTop (mkF m 6 #[.val (.ref a), .val (.double fl), .second, .val (.double ft), .second, .val (.double fr), .second, .val (.double fb), .second] [(.double fl), (.ref a)]))
  obtain ⟨T6, h6, X6, e6, W6, st6⟩ := putF X1 hx hZ hown (host := "") (Or.inl (hw _ (List.mem_of_getElem? (i := 16) rfl))) Via.refl e1 F0 Ea (Or.inr ⟨(hw _ (List.mem_of_getElem? (i := 17) rfl)), rfl, hnm⟩) (hw _ (List.mem_of_getElem? (i := 8) rfl)) (ty := .double) (by decide) rfl rfl (g := (mkF m 6 #[.val (.ref a), .val (.double fl), .second, .val (.double ft), .second, .val (.double fr), .second, .val (.double fb), .second] [(.double fl), (.ref a)])) rfl rfl (hb hby d3_6)
  have E_a_6 := Ea.wr W6
  have F_a_top_6 := F1.other W6 (Or.inr (slot_ne (Or.inr (hw _ (List.mem_of_getElem? (i := 19) rfl))) (Or.inr (hw _ (List.mem_of_getElem? (i := 17) rfl))) (by decide) (t := .double) (t' := .double) (by decide) (by decide)))
  have F_a_right_6 := F2.other W6 (Or.inr (slot_ne (Or.inr (hw _ (List.mem_of_getElem? (i := 21) rfl))) (Or.inr (hw _ (List.mem_of_getElem? (i := 17) rfl))) (by decide) (t := .double) (t' := .double) (by decide) (by decide)))
  have F_a_bottom_6 := F3.other W6 (Or.inr (slot_ne (Or.inr (hw _ (List.mem_of_getElem? (i := 23) rfl))) (Or.inr (hw _ (List.mem_of_getElem? (i := 17) rfl))) (by decide) (t := .double) (t' := .double) (by decide) (by decide)))
  have F_a_left_6 := F0.same W6
  have K6 := (Keep.refl h0 [a]).wr W6 (Or.inl (List.mem_of_getElem? (i := 0) rfl))
  have N6 := Fr.snoc X6 N0 ga
  have Z6 : n0 ≤ h6.size := Nat.le_trans Z0 (Keep.of_wr W6).1
  refine Dn.st st6 ?_
  show Dn p e below s _ _ _ (T6.setTop (mkF m 9 #[.val (.ref a), .val (.double fl), .second, .val (.double ft), .second, .val (.double fr), .second, .val (.double fb), .second] []))
  refine Dn.st (fun _ kk => XS.aloadN X6.here hx rfl (hb hby d3_9) rfl rfl (XS.dloadN X6.here hx rfl (hb hby d3_10) rfl  (kk))) ?_
  show Dn p e below s _ _ _ (T6.setTop (mkF m 11 #[.val (.ref a), .val (.double fl), .second, .val (.double ft), .second, .val (.double fr), .second, .val (.double fb), .second] [(.double ft), (.ref a)]))
  obtain ⟨T11, h11, X11, e11, W11, st11⟩ := putF X6 hx hZ hown (host := "") (Or.inl (hw _ (List.mem_of_getElem? (i := 18) rfl))) Via.refl e6 F_a_top_6 E_a_6 (Or.inr ⟨(hw _ (List.mem_of_getElem? (i := 19) rfl)), rfl, hnm⟩) (hw _ (List.mem_of_getElem? (i := 8) rfl)) (ty := .double) (by decide) rfl rfl (g := (mkF m 11 #[.val (.ref a), .val (.double fl), .second, .val (.double ft), .second, .val (.double fr), .second, .val (.double fb), .second] [(.double ft), (.ref a)])) rfl rfl (hb hby d3_11)
  have E_a_11 := E_a_6.wr W11
  have F_a_left_11 := F_a_left_6.other W11 (Or.inr (slot_ne (Or.inr (hw _ (List.mem_of_getElem? (i := 17) rfl))) (Or.inr (hw _ (List.mem_of_getElem? (i := 19) rfl))) (by decide) (t := .double) (t' := .double) (by decide) (by decide)))
  have F_a_right_11 := F_a_right_6.other W11 (Or.inr (slot_ne (Or.inr (hw _ (List.mem_of_getElem? (i := 21) rfl))) (Or.inr (hw _ (List.mem_of_getElem? (i := 19) rfl))) (by decide) (t := .double) (t' := .double) (by decide) (by decide)))
  have F_a_bottom_11 := F_a_bottom_6.other W11 (Or.inr (slot_ne (Or.inr (hw _ (List.mem_of_getElem? (i := 23) rfl))) (Or.inr (hw _ (List.mem_of_getElem? (i := 19) rfl))) (by decide) (t := .double) (t' := .double) (by decide) (by decide)))
  have F_a_top_11 := F_a_top_6.same W11
  have K11 := K6.wr W11 (Or.inl (List.mem_of_getElem? (i := 0) rfl))
  have N11 := Fr.snoc X11 N6 ga
  have Z11 : n0 ≤ h11.size := Nat.le_trans Z6 (Keep.of_wr W11).1
  refine Dn.st st11 ?_
  show Dn p e below s _ _ _ (T11.setTop (mkF m 14 #[.val (.ref a), .val (.double fl), .second, .val (.double ft), .second, .val (.double fr), .second, .val (.double fb), .second] []))
  refine Dn.st (fun _ kk => XS.aloadN X11.here hx rfl (hb hby d3_14) rfl rfl (XS.dload X11.here hx rfl (hb hby d3_15) rfl  (kk))) ?_
  show Dn p e below s _ _ _ (T11.setTop (mkF m 17 #[.val (.ref a), .val (.double fl), .second, .val (.double ft), .second, .val (.double fr), .second, .val (.double fb), .second] [(.double fr), (.ref a)]))
  obtain ⟨T17, h17, X17, e17, W17, st17⟩ := putF X11 hx hZ hown (host := "") (Or.inl (hw _ (List.mem_of_getElem? (i := 20) rfl))) Via.refl e11 F_a_right_11 E_a_11 (Or.inr ⟨(hw _ (List.mem_of_getElem? (i := 21) rfl)), rfl, hnm⟩) (hw _ (List.mem_of_getElem? (i := 8) rfl)) (ty := .double) (by decide) rfl rfl (g := (mkF m 17 #[.val (.ref a), .val (.double fl), .second, .val (.double ft), .second, .val (.double fr), .second, .val (.double fb), .second] [(.double fr), (.ref a)])) rfl rfl (hb hby d3_17)
  have E_a_17 := E_a_11.wr W17
  have F_a_left_17 := F_a_left_11.other W17 (Or.inr (slot_ne (Or.inr (hw _ (List.mem_of_getElem? (i := 17) rfl))) (Or.inr (hw _ (List.mem_of_getElem? (i := 21) rfl))) (by decide) (t := .double) (t' := .double) (by decide) (by decide)))
  have F_a_top_17 := F_a_top_11.other W17 (Or.inr (slot_ne (Or.inr (hw _ (List.mem_of_getElem? (i := 19) rfl))) (Or.inr (hw _ (List.mem_of_getElem? (i := 21) rfl))) (by decide) (t := .double) (t' := .double) (by decide) (by decide)))
  have F_a_bottom_17 := F_a_bottom_11.other W17 (Or.inr (slot_ne (Or.inr (hw _ (List.mem_of_getElem? (i := 23) rfl))) (Or.inr (hw _ (List.mem_of_getElem? (i := 21) rfl))) (by decide) (t := .double) (t' := .double) (by decide) (by decide)))
  have F_a_right_17 := F_a_right_11.same W17
  have K17 := K11.wr W17 (Or.inl (List.mem_of_getElem? (i := 0) rfl))
  have N17 := Fr.snoc X17 N11 ga
  have Z17 : n0 ≤ h17.size := Nat.le_trans Z11 (Keep.of_wr W17).1
  refine Dn.st st17 ?_
  show Dn p e below s _ _ _ (T17.setTop (mkF m 20 #[.val (.ref a), .val (.double fl), .second, .val (.double ft), .second, .val (.double fr), .second, .val (.double fb), .second] []))
  refine Dn.st (fun _ kk => XS.aloadN X17.here hx rfl (hb hby d3_20) rfl rfl (XS.dload X17.here hx rfl (hb hby d3_21) rfl  (kk))) ?_
  show Dn p e below s _ _ _ (T17.setTop (mkF m 23 #[.val (.ref a), .val (.double fl), .second, .val (.double ft), .second, .val (.double fr), .second, .val (.double fb), .second] [(.double fb), (.ref a)]))
  obtain ⟨T23, h23, X23, e23, W23, st23⟩ := putF X17 hx hZ hown (host := "") (Or.inl (hw _ (List.mem_of_getElem? (i := 22) rfl))) Via.refl e17 F_a_bottom_17 E_a_17 (Or.inr ⟨(hw _ (List.mem_of_getElem? (i := 23) rfl)), rfl, hnm⟩) (hw _ (List.mem_of_getElem? (i := 8) rfl)) (ty := .double) (by decide) rfl rfl (g := (mkF m 23 #[.val (.ref a), .val (.double fl), .second, .val (.double ft), .second, .val (.double fr), .second, .val (.double fb), .second] [(.double fb), (.ref a)])) rfl rfl (hb hby d3_23)
  have E_a_23 := E_a_17.wr W23
  have F_a_left_23 := F_a_left_17.other W23 (Or.inr (slot_ne (Or.inr (hw _ (List.mem_of_getElem? (i := 17) rfl))) (Or.inr (hw _ (List.mem_of_getElem? (i := 23) rfl))) (by decide) (t := .double) (t' := .double) (by decide) (by decide)))
  have F_a_top_23 := F_a_top_17.other W23 (Or.inr (slot_ne (Or.inr (hw _ (List.mem_of_getElem? (i := 19) rfl))) (Or.inr (hw _ (List.mem_of_getElem? (i := 23) rfl))) (by decide) (t := .double) (t' := .double) (by decide) (by decide)))
  have F_a_right_23 := F_a_right_17.other W23 (Or.inr (slot_ne (Or.inr (hw _ (List.mem_of_getElem? (i := 21) rfl))) (Or.inr (hw _ (List.mem_of_getElem? (i := 23) rfl))) (by decide) (t := .double) (t' := .double) (by decide) (by decide)))
  have F_a_bottom_23 := F_a_bottom_17.same W23
  have K23 := K17.wr W23 (Or.inl (List.mem_of_getElem? (i := 0) rfl))
  have N23 := Fr.snoc X23 N17 ga
  have Z23 : n0 ≤ h23.size := Nat.le_trans Z17 (Keep.of_wr W23).1
  refine Dn.st st23 ?_
  show Dn p e below s _ _ _ (T23.setTop (mkF m 26 #[.val (.ref a), .val (.double fl), .second, .val (.double ft), .second, .val (.double fr), .second, .val (.double fb), .second] []))
  exact Dn.ret0 X23 hlk hx hret (hb hby d3_26) (by rw [e23]; exact ⟨rfl, N23, K23, E_a_23, F_a_left_23, F_a_top_23, F_a_right_23, F_a_bottom_23⟩) (by decide) (by decide)

theorem d5_0 : decode method_3_code 0 = .ok (.iload_n 1, 1) := by decide +kernel
theorem d5_1 : decode method_3_code 1 = .ok (.iload_n 0, 1) := by decide +kernel
theorem d5_2 : decode method_3_code 2 = .ok (.if_icmp .gt 12, 3) := by decide +kernel
theorem d5_5 : decode method_3_code 5 = .ok (.iload_n 0, 1) := by decide +kernel
theorem d5_6 : decode method_3_code 6 = .ok (.iload_n 2, 1) := by decide +kernel
theorem d5_7 : decode method_3_code 7 = .ok (.if_icmp .gt 7, 3) := by decide +kernel
theorem d5_10 : decode method_3_code 10 = .ok (.iconst 1, 1) := by decide +kernel
theorem d5_11 : decode method_3_code 11 = .ok (.goto 4, 3) := by decide +kernel
theorem d5_14 : decode method_3_code 14 = .ok (.iconst 0, 1) := by decide +kernel
theorem d5_15 : decode method_3_code 15 = .ok (.ireturn, 1) := by decide +kernel
theorem pn1 : plainName "com/example/vias_for_diagrams/viasfordiagrams/RectHoldsPinLaw" = true := by first | (simp [plainName, overriddenIn]; done) | decide +kernel
theorem ef5_rm5 (m : MethodId) (x0 : Int32) (x1 : Int32) (x2 : Int32) : entryFrame m #[(.int x0), (.int x1), (.int x2)] 3 = mkF m 0 #[.val (.int x0), .val (.int x1), .val (.int x2)] [] := by first | (simp [entryFrame, mkF, argsToLocals, Value.category]; done) | rfl
def Q5 (Z : State) (v1 : Int32) (lo : Int32) (hi : Int32) (h0 : Heap) (n0 : Nat) (v : Option Value) (h : Heap) (L : List Loc) : Prop := ∃ z : Int32, v = some (.int z) ∧ ((z = 1 ∧ (lo.toInt ≤ v1.toInt ∧ v1.toInt ≤ hi.toInt)) ∨ (z = 0 ∧ ¬ (lo.toInt ≤ v1.toInt ∧ v1.toInt ≤ hi.toInt))) ∧ Fr n0 L ∧ h = h0
set_option maxRecDepth 65536 in
set_option maxHeartbeats 40000000 in
theorem rm5 (l : Launch) (Z : State) (a0 : Array Value) (hw : ∀ d ∈ tables_1, d.before a0 Z = true) (ws : List Jvm.Cond) (v1 : Int32) (lo : Int32) (hi : Int32) (h0 : Heap) (n0 : Nat) (Z0 : n0 ≤ h0.size) :
    MetFree l (⟨"com/example/vias_for_diagrams/viasfordiagrams/RectHoldsPinLaw", "between", "(III)Z"⟩ : MethodName) (head1 (Jvm.Cond.code (⟨"com/example/vias_for_diagrams/viasfordiagrams/RectHoldsPinLaw", "between", "(III)Z"⟩ : MethodName) method_3_code 3 (some .boolean) :: ws) ({ frames := 0, cells := 0, slots := 0, locals := 0 } : Room)) (fun aa UU => aa = #[(.int v1), (.int lo), (.int hi)] ∧ Z.Warmed39 UU.vm ∧ UU.heap = h0) (fun _ _ _ _ _ => True) (fun _ UU oo UU' => ∃ vv LL, oo = .returned vv ∧ Q5 Z v1 lo hi h0 n0 vv UU'.heap LL ∧ FrameEnd UU oo UU' LL ({ frames := 0, cells := 0, slots := 0, locals := 0 } : Room).cells ({ frames := 0, cells := 0, slots := 0, locals := 0 } : Room).slots) := by
  refine MetFree.of_bodySF (plainFor_of_name pn1) hisR ?_
  intro p e s m args below meth c s₁ Bd hml0 hP hK
  obtain ⟨rfl, hZ, hh⟩ := hP
  have hx := Bd.exec
  have hby := Bd.bytes
  have hlk : meth.locks = false := BodyLoose.notSynchronized Bd
  have hret := Bd.returns
  have hml : c.maxLocals = 3 := hml0
  have hown : s.vm.findClass "com/example/vias_for_diagrams/viasfordiagrams/RectHoldsPinLaw" = some m.cls := findClass_of_methodNamed Bd.named
  have hnm := (name_of_methodNamed Bd.named Bd.method).1
  have X0 : Stand p l e ({ frames := 0, cells := 0, slots := 0, locals := 0 } : Room) s m #[(.int v1), (.int lo), (.int hi)] below meth c s₁ [] 0 0 := Stand.of_body Bd
  have e0 : s₁.heap = h0 := by rw [← hh, Bd.state]; rfl
  have N0 := Fr.nil n0
  have r_v1 := rng32 v1
  have r_lo := rng32 lo
  have r_hi := rng32 hi
  show Dn p e below s (Q5 Z v1 lo hi h0 n0) ({ frames := 0, cells := 0, slots := 0, locals := 0 } : Room).cells ({ frames := 0, cells := 0, slots := 0, locals := 0 } : Room).slots (s₁.setTop (entryFrame m #[(.int v1), (.int lo), (.int hi)] 3))
  refine Dn.st (fun _ kk => castTop (ef5_rm5 m v1 lo hi) kk) ?_
  show Dn p e below s _ _ _ (s₁.setTop (mkF m 0 #[.val (.int v1), .val (.int lo), .val (.int hi)] []))
  refine Dn.st (fun _ kk => XS.iloadN X0.here hx rfl (hb hby d5_0) rfl  (XS.iloadN X0.here hx rfl (hb hby d5_1) rfl  (kk))) ?_
  show Dn p e below s _ _ _ (s₁.setTop (mkF m 2 #[.val (.int v1), .val (.int lo), .val (.int hi)] [(.int v1), (.int lo)]))
  by_cases hc2 : v1 < lo
  · have hi2 : v1.toInt < lo.toInt := Int32.lt_iff_toInt_lt.mp hc2
    refine Dn.st (fun _ kk => XS.icmpYes X0.here hx rfl (pc0 := 2) (pc' := 14) rfl (hb hby d5_2) rfl (tlt hc2).2.2.1 (by decide) (by decide) (XS.iconst X0.here hx rfl (hb hby d5_14) (kk))) ?_
    show Dn p e below s _ _ _ (s₁.setTop (mkF m 15 #[.val (.int v1), .val (.int lo), .val (.int hi)] [(.int (0 : Int32))]))
    exact Dn.ret X0 hlk hx hret rfl (Or.inl ⟨rfl, Or.inr (Or.inl rfl), _, rfl⟩) (hb hby d5_15) (by rw [e0]; exact ⟨_, rfl, Or.inr ⟨rfl, by omega⟩, N0, rfl⟩) (by decide) (by decide)
  · have hi2 : ¬ v1.toInt < lo.toInt := fun qq => hc2 (Int32.lt_iff_toInt_lt.mpr qq)
    refine Dn.st (fun _ kk => XS.icmpNo X0.here hx rfl (hb hby d5_2) rfl (flt hc2).2.2.1 (XS.iloadN X0.here hx rfl (hb hby d5_5) rfl  (XS.iloadN X0.here hx rfl (hb hby d5_6) rfl  (kk)))) ?_
    show Dn p e below s _ _ _ (s₁.setTop (mkF m 7 #[.val (.int v1), .val (.int lo), .val (.int hi)] [(.int hi), (.int v1)]))
    by_cases hc7 : hi < v1
    · have hi7 : hi.toInt < v1.toInt := Int32.lt_iff_toInt_lt.mp hc7
      refine Dn.st (fun _ kk => XS.icmpYes X0.here hx rfl (pc0 := 7) (pc' := 14) rfl (hb hby d5_7) rfl (tlt hc7).2.2.1 (by decide) (by decide) (XS.iconst X0.here hx rfl (hb hby d5_14) (kk))) ?_
      show Dn p e below s _ _ _ (s₁.setTop (mkF m 15 #[.val (.int v1), .val (.int lo), .val (.int hi)] [(.int (0 : Int32))]))
      exact Dn.ret X0 hlk hx hret rfl (Or.inl ⟨rfl, Or.inr (Or.inl rfl), _, rfl⟩) (hb hby d5_15) (by rw [e0]; exact ⟨_, rfl, Or.inr ⟨rfl, by omega⟩, N0, rfl⟩) (by decide) (by decide)
    · have hi7 : ¬ hi.toInt < v1.toInt := fun qq => hc7 (Int32.lt_iff_toInt_lt.mpr qq)
      refine Dn.st (fun _ kk => XS.icmpNo X0.here hx rfl (hb hby d5_7) rfl (flt hc7).2.2.1 (XS.iconst X0.here hx rfl (hb hby d5_10) (XS.goto X0.here hx rfl (pc0 := 11) (pc' := 15) rfl (hb hby d5_11) (by decide) (by decide) (kk)))) ?_
      show Dn p e below s _ _ _ (s₁.setTop (mkF m 15 #[.val (.int v1), .val (.int lo), .val (.int hi)] [(.int (1 : Int32))]))
      exact Dn.ret X0 hlk hx hret rfl (Or.inl ⟨rfl, Or.inr (Or.inl rfl), _, rfl⟩) (hb hby d5_15) (by rw [e0]; exact ⟨_, rfl, Or.inl ⟨rfl, by omega⟩, N0, rfl⟩) (by decide) (by decide)

theorem d6_0 : decode prog_30_method_13_code 0 = .ok (.aload_n 0, 1) := by decide +kernel
theorem d6_1 : decode prog_30_method_13_code 1 = .ok (.getfield 7, 3) := by decide +kernel
theorem d6_4 : decode prog_30_method_13_code 4 = .ok (.aload_n 1, 1) := by decide +kernel
theorem d6_5 : decode prog_30_method_13_code 5 = .ok (.getfield 7, 3) := by decide +kernel
theorem d6_8 : decode prog_30_method_13_code 8 = .ok (.dcmp .g, 1) := by decide +kernel
theorem d6_9 : decode prog_30_method_13_code 9 = .ok (.ifCond .gt 43, 3) := by decide +kernel
theorem d6_12 : decode prog_30_method_13_code 12 = .ok (.aload_n 1, 1) := by decide +kernel
theorem d6_13 : decode prog_30_method_13_code 13 = .ok (.getfield 16, 3) := by decide +kernel
theorem d6_16 : decode prog_30_method_13_code 16 = .ok (.aload_n 0, 1) := by decide +kernel
theorem d6_17 : decode prog_30_method_13_code 17 = .ok (.getfield 16, 3) := by decide +kernel
theorem d6_20 : decode prog_30_method_13_code 20 = .ok (.dcmp .g, 1) := by decide +kernel
theorem d6_21 : decode prog_30_method_13_code 21 = .ok (.ifCond .gt 31, 3) := by decide +kernel
theorem d6_24 : decode prog_30_method_13_code 24 = .ok (.aload_n 0, 1) := by decide +kernel
theorem d6_25 : decode prog_30_method_13_code 25 = .ok (.getfield 13, 3) := by decide +kernel
theorem d6_28 : decode prog_30_method_13_code 28 = .ok (.aload_n 1, 1) := by decide +kernel
theorem d6_29 : decode prog_30_method_13_code 29 = .ok (.getfield 13, 3) := by decide +kernel
theorem d6_32 : decode prog_30_method_13_code 32 = .ok (.dcmp .g, 1) := by decide +kernel
theorem d6_33 : decode prog_30_method_13_code 33 = .ok (.ifCond .gt 19, 3) := by decide +kernel
theorem d6_36 : decode prog_30_method_13_code 36 = .ok (.aload_n 1, 1) := by decide +kernel
theorem d6_37 : decode prog_30_method_13_code 37 = .ok (.getfield 19, 3) := by decide +kernel
theorem d6_40 : decode prog_30_method_13_code 40 = .ok (.aload_n 0, 1) := by decide +kernel
theorem d6_41 : decode prog_30_method_13_code 41 = .ok (.getfield 19, 3) := by decide +kernel
theorem d6_44 : decode prog_30_method_13_code 44 = .ok (.dcmp .g, 1) := by decide +kernel
theorem d6_45 : decode prog_30_method_13_code 45 = .ok (.ifCond .gt 7, 3) := by decide +kernel
theorem d6_48 : decode prog_30_method_13_code 48 = .ok (.iconst 1, 1) := by decide +kernel
theorem d6_49 : decode prog_30_method_13_code 49 = .ok (.goto 4, 3) := by decide +kernel
theorem d6_52 : decode prog_30_method_13_code 52 = .ok (.iconst 0, 1) := by decide +kernel
theorem d6_53 : decode prog_30_method_13_code 53 = .ok (.ireturn, 1) := by decide +kernel
theorem ef6_rm6 (m : MethodId) (x0 : Addr) (x1 : Addr) : entryFrame m #[(.ref x0), (.ref x1)] 2 = mkF m 0 #[.val (.ref x0), .val (.ref x1)] [] := by first | (simp [entryFrame, mkF, argsToLocals, Value.category]; done) | rfl
def Q6 (Z : State) (a : Addr) (a2 : Addr) (fl1 ft1 fr1 fb1 fl2 ft2 fr2 fb2 : UInt64) (il1 it1 ir1 ib1 il2 it2 ir2 ib2 : Int) (h0 : Heap) (n0 : Nat) (v : Option Value) (h : Heap) (L : List Loc) : Prop := ∃ z : Int32, v = some (.int z) ∧ ((z = 1 ∧ (il1 ≤ il2 ∧ ir2 ≤ ir1 ∧ it1 ≤ it2 ∧ ib2 ≤ ib1)) ∨ (z = 0 ∧ ¬ (il1 ≤ il2 ∧ ir2 ≤ ir1 ∧ it1 ≤ it2 ∧ ib2 ≤ ib1))) ∧ Fr n0 L ∧ h = h0
set_option maxRecDepth 65536 in
set_option maxHeartbeats 40000000 in
theorem rm6 (l : Launch) (Z : State) (a0 : Array Value) (hw : ∀ d ∈ tables_1, d.before a0 Z = true) (ws : List Jvm.Cond) (a : Addr) (a2 : Addr) (fl1 ft1 fr1 fb1 fl2 ft2 fr2 fb2 : UInt64) (il1 it1 ir1 ib1 il2 it2 ir2 ib2 : Int) (h0 : Heap) (n0 : Nat) (Z0 : n0 ≤ h0.size) (Fl1 : Fld Z h0 a "com/example/vias_for_diagrams/viasfordiagrams/Rect" "left" "D" (.double fl1)) (Ft1 : Fld Z h0 a "com/example/vias_for_diagrams/viasfordiagrams/Rect" "top" "D" (.double ft1)) (Fr1 : Fld Z h0 a "com/example/vias_for_diagrams/viasfordiagrams/Rect" "right" "D" (.double fr1)) (Fb1 : Fld Z h0 a "com/example/vias_for_diagrams/viasfordiagrams/Rect" "bottom" "D" (.double fb1)) (Fl2 : Fld Z h0 a2 "com/example/vias_for_diagrams/viasfordiagrams/Rect" "left" "D" (.double fl2)) (Ft2 : Fld Z h0 a2 "com/example/vias_for_diagrams/viasfordiagrams/Rect" "top" "D" (.double ft2)) (Fr2 : Fld Z h0 a2 "com/example/vias_for_diagrams/viasfordiagrams/Rect" "right" "D" (.double fr2)) (Fb2 : Fld Z h0 a2 "com/example/vias_for_diagrams/viasfordiagrams/Rect" "bottom" "D" (.double fb2)) (dl1 : DS 0 il1 fl1) (dt1 : DS 0 it1 ft1) (dr1 : DS 0 ir1 fr1) (db1 : DS 0 ib1 fb1) (dl2 : DS 0 il2 fl2) (dt2 : DS 0 it2 ft2) (dr2 : DS 0 ir2 fr2) (db2 : DS 0 ib2 fb2) :
    MetFree l (⟨"com/example/vias_for_diagrams/viasfordiagrams/Rect", "holds", "(Lcom/example/vias_for_diagrams/viasfordiagrams/Rect;)Z"⟩ : MethodName) (head1 (Jvm.Cond.code (⟨"com/example/vias_for_diagrams/viasfordiagrams/Rect", "holds", "(Lcom/example/vias_for_diagrams/viasfordiagrams/Rect;)Z"⟩ : MethodName) prog_30_method_13_code 2 (some .boolean) :: ws) ({ frames := 0, cells := 0, slots := 0, locals := 0 } : Room)) (fun aa UU => aa = #[(.ref a), (.ref a2)] ∧ Z.Warmed39 UU.vm ∧ UU.heap = h0) (fun _ _ _ _ _ => True) (fun _ UU oo UU' => ∃ vv LL, oo = .returned vv ∧ Q6 Z a a2 fl1 ft1 fr1 fb1 fl2 ft2 fr2 fb2 il1 it1 ir1 ib1 il2 it2 ir2 ib2 h0 n0 vv UU'.heap LL ∧ FrameEnd UU oo UU' LL ({ frames := 0, cells := 0, slots := 0, locals := 0 } : Room).cells ({ frames := 0, cells := 0, slots := 0, locals := 0 } : Room).slots) := by
  refine MetFree.of_bodySF (plainFor_of_name pn0) hisR ?_
  intro p e s m args below meth c s₁ Bd hml0 hP hK
  obtain ⟨rfl, hZ, hh⟩ := hP
  have hx := Bd.exec
  have hby := Bd.bytes
  have hlk : meth.locks = false := BodyLoose.notSynchronized Bd
  have hret := Bd.returns
  have hml : c.maxLocals = 2 := hml0
  have hown : s.vm.findClass "com/example/vias_for_diagrams/viasfordiagrams/Rect" = some m.cls := findClass_of_methodNamed Bd.named
  have hnm := (name_of_methodNamed Bd.named Bd.method).1
  have X0 : Stand p l e ({ frames := 0, cells := 0, slots := 0, locals := 0 } : Room) s m #[(.ref a), (.ref a2)] below meth c s₁ [] 0 0 := Stand.of_body Bd
  have e0 : s₁.heap = h0 := by rw [← hh, Bd.state]; rfl
  have N0 := Fr.nil n0
  show Dn p e below s (Q6 Z a a2 fl1 ft1 fr1 fb1 fl2 ft2 fr2 fb2 il1 it1 ir1 ib1 il2 it2 ir2 ib2 h0 n0) ({ frames := 0, cells := 0, slots := 0, locals := 0 } : Room).cells ({ frames := 0, cells := 0, slots := 0, locals := 0 } : Room).slots (s₁.setTop (entryFrame m #[(.ref a), (.ref a2)] 2))
  refine Dn.st (fun _ kk => castTop (ef6_rm6 m a a2) kk) ?_
  show Dn p e below s _ _ _ (s₁.setTop (mkF m 0 #[.val (.ref a), .val (.ref a2)] []))
  refine Dn.st (fun _ kk => XS.aloadN X0.here hx rfl (hb hby d6_0) rfl rfl (kk)) ?_
  show Dn p e below s _ _ _ (s₁.setTop (mkF m 1 #[.val (.ref a), .val (.ref a2)] [(.ref a)]))
  obtain ⟨T1, X1, e1, st1⟩ := getF X0 hx hZ hown (host := "") (Or.inl (hw _ (List.mem_of_getElem? (i := 16) rfl))) Via.refl e0 Fl1 (g := (mkF m 1 #[.val (.ref a), .val (.ref a2)] [(.ref a)])) rfl rfl (hb hby d6_1)
  refine Dn.st st1 ?_
  show Dn p e below s _ _ _ (T1.setTop (mkF m 4 #[.val (.ref a), .val (.ref a2)] [(.double fl1)]))
  refine Dn.st (fun _ kk => XS.aloadN X1.here hx rfl (hb hby d6_4) rfl rfl (kk)) ?_
  show Dn p e below s _ _ _ (T1.setTop (mkF m 5 #[.val (.ref a), .val (.ref a2)] [(.ref a2), (.double fl1)]))
  obtain ⟨T5, X5, e5, st5⟩ := getF X1 hx hZ hown (host := "") (Or.inl (hw _ (List.mem_of_getElem? (i := 16) rfl))) Via.refl e1 Fl2 (g := (mkF m 5 #[.val (.ref a), .val (.ref a2)] [(.ref a2), (.double fl1)])) rfl rfl (hb hby d6_5)
  refine Dn.st st5 ?_
  show Dn p e below s _ _ _ (T5.setTop (mkF m 8 #[.val (.ref a), .val (.ref a2)] [(.double fl2), (.double fl1)]))
  refine Dn.st (fun _ kk => XS.dcmpS X5.here hx rfl (hb hby d6_8) rfl (DS.cmpV dl1 dl2 _) (kk)) ?_
  show Dn p e below s _ _ _ (T5.setTop (mkF m 9 #[.val (.ref a), .val (.ref a2)] [(.int (c3 il1 il2))]))
  by_cases hc9 : (0 : Int32) < (c3 il1 il2)
  · have hi9 := (c3_gt _ _).mp hc9
    refine Dn.st (fun _ kk => XS.ifYes X5.here hx rfl (pc0 := 9) (pc' := 52) rfl (hb hby d6_9) rfl ((if0 _ _).trans (tlt hc9).2.2.1) (by decide) (by decide) (XS.iconst X5.here hx rfl (hb hby d6_52) (kk))) ?_
    show Dn p e below s _ _ _ (T5.setTop (mkF m 53 #[.val (.ref a), .val (.ref a2)] [(.int (0 : Int32))]))
    exact Dn.ret X5 hlk hx hret rfl (Or.inl ⟨rfl, Or.inr (Or.inl rfl), _, rfl⟩) (hb hby d6_53) (by rw [e5]; exact ⟨_, rfl, Or.inr ⟨rfl, by omega⟩, N0, rfl⟩) (by decide) (by decide)
  · have hi9 := mt (c3_gt _ _).mpr hc9
    refine Dn.st (fun _ kk => XS.ifNo X5.here hx rfl (hb hby d6_9) rfl ((if0 _ _).trans (flt hc9).2.2.1) (XS.aloadN X5.here hx rfl (hb hby d6_12) rfl rfl (kk))) ?_
    show Dn p e below s _ _ _ (T5.setTop (mkF m 13 #[.val (.ref a), .val (.ref a2)] [(.ref a2)]))
    obtain ⟨T13, X13, e13, st13⟩ := getF X5 hx hZ hown (host := "") (Or.inl (hw _ (List.mem_of_getElem? (i := 20) rfl))) Via.refl e5 Fr2 (g := (mkF m 13 #[.val (.ref a), .val (.ref a2)] [(.ref a2)])) rfl rfl (hb hby d6_13)
    refine Dn.st st13 ?_
    show Dn p e below s _ _ _ (T13.setTop (mkF m 16 #[.val (.ref a), .val (.ref a2)] [(.double fr2)]))
    refine Dn.st (fun _ kk => XS.aloadN X13.here hx rfl (hb hby d6_16) rfl rfl (kk)) ?_
    show Dn p e below s _ _ _ (T13.setTop (mkF m 17 #[.val (.ref a), .val (.ref a2)] [(.ref a), (.double fr2)]))
    obtain ⟨T17, X17, e17, st17⟩ := getF X13 hx hZ hown (host := "") (Or.inl (hw _ (List.mem_of_getElem? (i := 20) rfl))) Via.refl e13 Fr1 (g := (mkF m 17 #[.val (.ref a), .val (.ref a2)] [(.ref a), (.double fr2)])) rfl rfl (hb hby d6_17)
    refine Dn.st st17 ?_
    show Dn p e below s _ _ _ (T17.setTop (mkF m 20 #[.val (.ref a), .val (.ref a2)] [(.double fr1), (.double fr2)]))
    refine Dn.st (fun _ kk => XS.dcmpS X17.here hx rfl (hb hby d6_20) rfl (DS.cmpV dr2 dr1 _) (kk)) ?_
    show Dn p e below s _ _ _ (T17.setTop (mkF m 21 #[.val (.ref a), .val (.ref a2)] [(.int (c3 ir2 ir1))]))
    by_cases hc21 : (0 : Int32) < (c3 ir2 ir1)
    · have hi21 := (c3_gt _ _).mp hc21
      refine Dn.st (fun _ kk => XS.ifYes X17.here hx rfl (pc0 := 21) (pc' := 52) rfl (hb hby d6_21) rfl ((if0 _ _).trans (tlt hc21).2.2.1) (by decide) (by decide) (XS.iconst X17.here hx rfl (hb hby d6_52) (kk))) ?_
      show Dn p e below s _ _ _ (T17.setTop (mkF m 53 #[.val (.ref a), .val (.ref a2)] [(.int (0 : Int32))]))
      exact Dn.ret X17 hlk hx hret rfl (Or.inl ⟨rfl, Or.inr (Or.inl rfl), _, rfl⟩) (hb hby d6_53) (by rw [e17]; exact ⟨_, rfl, Or.inr ⟨rfl, by omega⟩, N0, rfl⟩) (by decide) (by decide)
    · have hi21 := mt (c3_gt _ _).mpr hc21
      refine Dn.st (fun _ kk => XS.ifNo X17.here hx rfl (hb hby d6_21) rfl ((if0 _ _).trans (flt hc21).2.2.1) (XS.aloadN X17.here hx rfl (hb hby d6_24) rfl rfl (kk))) ?_
      show Dn p e below s _ _ _ (T17.setTop (mkF m 25 #[.val (.ref a), .val (.ref a2)] [(.ref a)]))
      obtain ⟨T25, X25, e25, st25⟩ := getF X17 hx hZ hown (host := "") (Or.inl (hw _ (List.mem_of_getElem? (i := 18) rfl))) Via.refl e17 Ft1 (g := (mkF m 25 #[.val (.ref a), .val (.ref a2)] [(.ref a)])) rfl rfl (hb hby d6_25)
      refine Dn.st st25 ?_
      show Dn p e below s _ _ _ (T25.setTop (mkF m 28 #[.val (.ref a), .val (.ref a2)] [(.double ft1)]))
      refine Dn.st (fun _ kk => XS.aloadN X25.here hx rfl (hb hby d6_28) rfl rfl (kk)) ?_
      show Dn p e below s _ _ _ (T25.setTop (mkF m 29 #[.val (.ref a), .val (.ref a2)] [(.ref a2), (.double ft1)]))
      obtain ⟨T29, X29, e29, st29⟩ := getF X25 hx hZ hown (host := "") (Or.inl (hw _ (List.mem_of_getElem? (i := 18) rfl))) Via.refl e25 Ft2 (g := (mkF m 29 #[.val (.ref a), .val (.ref a2)] [(.ref a2), (.double ft1)])) rfl rfl (hb hby d6_29)
      refine Dn.st st29 ?_
      show Dn p e below s _ _ _ (T29.setTop (mkF m 32 #[.val (.ref a), .val (.ref a2)] [(.double ft2), (.double ft1)]))
      refine Dn.st (fun _ kk => XS.dcmpS X29.here hx rfl (hb hby d6_32) rfl (DS.cmpV dt1 dt2 _) (kk)) ?_
      show Dn p e below s _ _ _ (T29.setTop (mkF m 33 #[.val (.ref a), .val (.ref a2)] [(.int (c3 it1 it2))]))
      by_cases hc33 : (0 : Int32) < (c3 it1 it2)
      · have hi33 := (c3_gt _ _).mp hc33
        refine Dn.st (fun _ kk => XS.ifYes X29.here hx rfl (pc0 := 33) (pc' := 52) rfl (hb hby d6_33) rfl ((if0 _ _).trans (tlt hc33).2.2.1) (by decide) (by decide) (XS.iconst X29.here hx rfl (hb hby d6_52) (kk))) ?_
        show Dn p e below s _ _ _ (T29.setTop (mkF m 53 #[.val (.ref a), .val (.ref a2)] [(.int (0 : Int32))]))
        exact Dn.ret X29 hlk hx hret rfl (Or.inl ⟨rfl, Or.inr (Or.inl rfl), _, rfl⟩) (hb hby d6_53) (by rw [e29]; exact ⟨_, rfl, Or.inr ⟨rfl, by omega⟩, N0, rfl⟩) (by decide) (by decide)
      · have hi33 := mt (c3_gt _ _).mpr hc33
        refine Dn.st (fun _ kk => XS.ifNo X29.here hx rfl (hb hby d6_33) rfl ((if0 _ _).trans (flt hc33).2.2.1) (XS.aloadN X29.here hx rfl (hb hby d6_36) rfl rfl (kk))) ?_
        show Dn p e below s _ _ _ (T29.setTop (mkF m 37 #[.val (.ref a), .val (.ref a2)] [(.ref a2)]))
        obtain ⟨T37, X37, e37, st37⟩ := getF X29 hx hZ hown (host := "") (Or.inl (hw _ (List.mem_of_getElem? (i := 22) rfl))) Via.refl e29 Fb2 (g := (mkF m 37 #[.val (.ref a), .val (.ref a2)] [(.ref a2)])) rfl rfl (hb hby d6_37)
        refine Dn.st st37 ?_
        show Dn p e below s _ _ _ (T37.setTop (mkF m 40 #[.val (.ref a), .val (.ref a2)] [(.double fb2)]))
        refine Dn.st (fun _ kk => XS.aloadN X37.here hx rfl (hb hby d6_40) rfl rfl (kk)) ?_
        show Dn p e below s _ _ _ (T37.setTop (mkF m 41 #[.val (.ref a), .val (.ref a2)] [(.ref a), (.double fb2)]))
        obtain ⟨T41, X41, e41, st41⟩ := getF X37 hx hZ hown (host := "") (Or.inl (hw _ (List.mem_of_getElem? (i := 22) rfl))) Via.refl e37 Fb1 (g := (mkF m 41 #[.val (.ref a), .val (.ref a2)] [(.ref a), (.double fb2)])) rfl rfl (hb hby d6_41)
        refine Dn.st st41 ?_
        show Dn p e below s _ _ _ (T41.setTop (mkF m 44 #[.val (.ref a), .val (.ref a2)] [(.double fb1), (.double fb2)]))
        refine Dn.st (fun _ kk => XS.dcmpS X41.here hx rfl (hb hby d6_44) rfl (DS.cmpV db2 db1 _) (kk)) ?_
        show Dn p e below s _ _ _ (T41.setTop (mkF m 45 #[.val (.ref a), .val (.ref a2)] [(.int (c3 ib2 ib1))]))
        by_cases hc45 : (0 : Int32) < (c3 ib2 ib1)
        · have hi45 := (c3_gt _ _).mp hc45
          refine Dn.st (fun _ kk => XS.ifYes X41.here hx rfl (pc0 := 45) (pc' := 52) rfl (hb hby d6_45) rfl ((if0 _ _).trans (tlt hc45).2.2.1) (by decide) (by decide) (XS.iconst X41.here hx rfl (hb hby d6_52) (kk))) ?_
          show Dn p e below s _ _ _ (T41.setTop (mkF m 53 #[.val (.ref a), .val (.ref a2)] [(.int (0 : Int32))]))
          exact Dn.ret X41 hlk hx hret rfl (Or.inl ⟨rfl, Or.inr (Or.inl rfl), _, rfl⟩) (hb hby d6_53) (by rw [e41]; exact ⟨_, rfl, Or.inr ⟨rfl, by omega⟩, N0, rfl⟩) (by decide) (by decide)
        · have hi45 := mt (c3_gt _ _).mpr hc45
          refine Dn.st (fun _ kk => XS.ifNo X41.here hx rfl (hb hby d6_45) rfl ((if0 _ _).trans (flt hc45).2.2.1) (XS.iconst X41.here hx rfl (hb hby d6_48) (XS.goto X41.here hx rfl (pc0 := 49) (pc' := 53) rfl (hb hby d6_49) (by decide) (by decide) (kk)))) ?_
          show Dn p e below s _ _ _ (T41.setTop (mkF m 53 #[.val (.ref a), .val (.ref a2)] [(.int (1 : Int32))]))
          exact Dn.ret X41 hlk hx hret rfl (Or.inl ⟨rfl, Or.inr (Or.inl rfl), _, rfl⟩) (hb hby d6_53) (by rw [e41]; exact ⟨_, rfl, Or.inl ⟨rfl, by omega⟩, N0, rfl⟩) (by decide) (by decide)

theorem pd0 : parseMethodDescriptor "(II)I" = some ⟨[.int, .int], some .int⟩ := by decide +kernel
theorem pd1 : parseMethodDescriptor "(DDDD)V" = some ⟨[.double, .double, .double, .double], none⟩ := by decide +kernel
theorem pd2 : parseMethodDescriptor "(III)Z" = some ⟨[.int, .int, .int], some .boolean⟩ := by decide +kernel
theorem pd3 : parseMethodDescriptor "(Lcom/example/vias_for_diagrams/viasfordiagrams/Rect;)Z" = some ⟨[(.object "com/example/vias_for_diagrams/viasfordiagrams/Rect")], some .boolean⟩ := by decide +kernel
theorem ef0_rm0 (m : MethodId) (x0 : Int64) (x1 : Int64) (x2 : Int64) (x3 : Int64) : entryFrame m #[(.long x0), (.long x1), (.long x2), (.long x3)] maxLocals = mkF m 0 #[.val (.long x0), .second, .val (.long x1), .second, .val (.long x2), .second, .val (.long x3), .second, .unset, .unset, .unset, .unset, .unset, .unset, .unset, .unset, .unset, .unset, .unset, .unset, .unset, .unset, .unset] [] := by first | (simp [entryFrame, mkF, argsToLocals, Value.category, maxLocals]; done) | rfl
def Q0 (Z : State) (p0 : Int64) (p1 : Int64) (p2 : Int64) (p3 : Int64) (h0 : Heap) (n0 : Nat) (v : Option Value) (h : Heap) (L : List Loc) : Prop := v = some (.int 1) ∧ Fr n0 L
set_option maxRecDepth 65536 in
set_option maxHeartbeats 40000000 in
theorem rm0 (l : Launch) (Z : State) (a0 : Array Value) (hw : ∀ d ∈ tables_1, d.before a0 Z = true) (ws : List Jvm.Cond) (p0 : Int64) (p1 : Int64) (p2 : Int64) (p3 : Int64) (h0 : Heap) (n0 : Nat) (Z0 : n0 ≤ h0.size) :
    MetFree l x (head1 (Jvm.Cond.code x code maxLocals ret :: ws) room_1) (fun aa UU => aa = #[(.long p0), (.long p1), (.long p2), (.long p3)] ∧ Z.Warmed39 UU.vm ∧ UU.heap = h0) (fun _ _ _ _ _ => True) (fun _ UU oo UU' => ∃ vv LL, oo = .returned vv ∧ Q0 Z p0 p1 p2 p3 h0 n0 vv UU'.heap LL ∧ FrameEnd UU oo UU' LL 16 128) := by
  refine MetFree.of_bodySF (plainFor_of_name pn1) hisR ?_
  intro p e s m args below meth c s₁ Bd hml0 hP hK
  obtain ⟨rfl, hZ, hh⟩ := hP
  have hx := Bd.exec
  have hby := Bd.bytes
  have hlk : meth.locks = false := BodyLoose.notSynchronized Bd
  have hret := Bd.returns
  have hml : c.maxLocals = 23 := hml0
  have hown : s.vm.findClass "com/example/vias_for_diagrams/viasfordiagrams/RectHoldsPinLaw" = some m.cls := findClass_of_methodNamed Bd.named
  have hnm := (name_of_methodNamed Bd.named Bd.method).1
  have X0 : Stand p l e room_1 s m #[(.long p0), (.long p1), (.long p2), (.long p3)] below meth c s₁ [] 0 0 := Stand.of_body Bd
  have e0 : s₁.heap = h0 := by rw [← hh, Bd.state]; rfl
  have N0 := Fr.nil n0
  have r_p0 := rng64 p0
  have r_p1 := rng64 p1
  have r_p2 := rng64 p2
  have r_p3 := rng64 p3
  show Dn p e below s (Q0 Z p0 p1 p2 p3 h0 n0) 16 128 (s₁.setTop (entryFrame m #[(.long p0), (.long p1), (.long p2), (.long p3)] maxLocals))
  refine Dn.st (fun _ kk => castTop (ef0_rm0 m p0 p1 p2 p3) kk) ?_
  show Dn p e below s _ _ _ (s₁.setTop (mkF m 0 #[.val (.long p0), .second, .val (.long p1), .second, .val (.long p2), .second, .val (.long p3), .second, .unset, .unset, .unset, .unset, .unset, .unset, .unset, .unset, .unset, .unset, .unset, .unset, .unset, .unset, .unset] []))
  refine Dn.st (fun _ kk => XS.lloadN X0.here hx rfl (hb hby at_0) rfl  (XS.l2i X0.here hx rfl (hb hby at_1) rfl (kk))) ?_
  show Dn p e below s _ _ _ (s₁.setTop (mkF m 2 #[.val (.long p0), .second, .val (.long p1), .second, .val (.long p2), .second, .val (.long p3), .second, .unset, .unset, .unset, .unset, .unset, .unset, .unset, .unset, .unset, .unset, .unset, .unset, .unset, .unset, .unset] [(.int (p0.toInt32))]))
  generalize hv1 : ((p0.toInt32) : Int32) = v1
  have q1 : (v1.toInt - p0.toInt) % 4294967296 = 0 := by have qq := c_l2i p0; rw [hv1] at qq; exact qq
  have r1 := rng32 v1
  show Dn p e below s _ _ _ (s₁.setTop (mkF m 2 #[.val (.long p0), .second, .val (.long p1), .second, .val (.long p2), .second, .val (.long p3), .second, .unset, .unset, .unset, .unset, .unset, .unset, .unset, .unset, .unset, .unset, .unset, .unset, .unset, .unset, .unset] [(.int v1)]))
  refine Dn.st (fun _ kk => XS.istore X0.here hx rfl (hb hby at_2) rfl (l' := #[.val (.long p0), .second, .val (.long p1), .second, .val (.long p2), .second, .val (.long p3), .second, .val (.int v1), .unset, .unset, .unset, .unset, .unset, .unset, .unset, .unset, .unset, .unset, .unset, .unset, .unset, .unset]) rfl (XS.lloadN X0.here hx rfl (hb hby at_4) rfl  (XS.bipush X0.here hx rfl (hb hby at_5) (XS.lshr X0.here hx rfl (hb hby at_7) rfl (kk))))) ?_
  show Dn p e below s _ _ _ (s₁.setTop (mkF m 8 #[.val (.long p0), .second, .val (.long p1), .second, .val (.long p2), .second, .val (.long p3), .second, .val (.int v1), .unset, .unset, .unset, .unset, .unset, .unset, .unset, .unset, .unset, .unset, .unset, .unset, .unset, .unset] [(.long (p0 >>> ((32 : Int32) &&& 0x3f).toInt64))]))
  generalize hv7 : ((p0 >>> ((32 : Int32) &&& 0x3f).toInt64) : Int64) = v7
  have q7 : v7.toInt = p0.toInt / 4294967296 := by have qq := c_lshr p0 (32 : Int32) 32 (by decide); rw [hv7] at qq; exact qq
  have r7 := rng64 v7
  show Dn p e below s _ _ _ (s₁.setTop (mkF m 8 #[.val (.long p0), .second, .val (.long p1), .second, .val (.long p2), .second, .val (.long p3), .second, .val (.int v1), .unset, .unset, .unset, .unset, .unset, .unset, .unset, .unset, .unset, .unset, .unset, .unset, .unset, .unset] [(.long v7)]))
  refine Dn.st (fun _ kk => XS.l2i X0.here hx rfl (hb hby at_8) rfl (kk)) ?_
  show Dn p e below s _ _ _ (s₁.setTop (mkF m 9 #[.val (.long p0), .second, .val (.long p1), .second, .val (.long p2), .second, .val (.long p3), .second, .val (.int v1), .unset, .unset, .unset, .unset, .unset, .unset, .unset, .unset, .unset, .unset, .unset, .unset, .unset, .unset] [(.int (v7.toInt32))]))
  generalize hv8 : ((v7.toInt32) : Int32) = v8
  have q8 : (v8.toInt - v7.toInt) % 4294967296 = 0 := by have qq := c_l2i v7; rw [hv8] at qq; exact qq
  have r8 := rng32 v8
  show Dn p e below s _ _ _ (s₁.setTop (mkF m 9 #[.val (.long p0), .second, .val (.long p1), .second, .val (.long p2), .second, .val (.long p3), .second, .val (.int v1), .unset, .unset, .unset, .unset, .unset, .unset, .unset, .unset, .unset, .unset, .unset, .unset, .unset, .unset] [(.int v8)]))
  refine Dn.st (fun _ kk => XS.istore X0.here hx rfl (hb hby at_9) rfl (l' := #[.val (.long p0), .second, .val (.long p1), .second, .val (.long p2), .second, .val (.long p3), .second, .val (.int v1), .val (.int v8), .unset, .unset, .unset, .unset, .unset, .unset, .unset, .unset, .unset, .unset, .unset, .unset, .unset]) rfl (XS.lloadN X0.here hx rfl (hb hby at_11) rfl  (XS.l2i X0.here hx rfl (hb hby at_12) rfl (kk)))) ?_
  show Dn p e below s _ _ _ (s₁.setTop (mkF m 13 #[.val (.long p0), .second, .val (.long p1), .second, .val (.long p2), .second, .val (.long p3), .second, .val (.int v1), .val (.int v8), .unset, .unset, .unset, .unset, .unset, .unset, .unset, .unset, .unset, .unset, .unset, .unset, .unset] [(.int (p1.toInt32))]))
  generalize hv12 : ((p1.toInt32) : Int32) = v12
  have q12 : (v12.toInt - p1.toInt) % 4294967296 = 0 := by have qq := c_l2i p1; rw [hv12] at qq; exact qq
  have r12 := rng32 v12
  show Dn p e below s _ _ _ (s₁.setTop (mkF m 13 #[.val (.long p0), .second, .val (.long p1), .second, .val (.long p2), .second, .val (.long p3), .second, .val (.int v1), .val (.int v8), .unset, .unset, .unset, .unset, .unset, .unset, .unset, .unset, .unset, .unset, .unset, .unset, .unset] [(.int v12)]))
  refine Dn.st (fun _ kk => XS.istore X0.here hx rfl (hb hby at_13) rfl (l' := #[.val (.long p0), .second, .val (.long p1), .second, .val (.long p2), .second, .val (.long p3), .second, .val (.int v1), .val (.int v8), .val (.int v12), .unset, .unset, .unset, .unset, .unset, .unset, .unset, .unset, .unset, .unset, .unset, .unset]) rfl (XS.lloadN X0.here hx rfl (hb hby at_15) rfl  (XS.bipush X0.here hx rfl (hb hby at_16) (XS.lshr X0.here hx rfl (hb hby at_18) rfl (kk))))) ?_
  show Dn p e below s _ _ _ (s₁.setTop (mkF m 19 #[.val (.long p0), .second, .val (.long p1), .second, .val (.long p2), .second, .val (.long p3), .second, .val (.int v1), .val (.int v8), .val (.int v12), .unset, .unset, .unset, .unset, .unset, .unset, .unset, .unset, .unset, .unset, .unset, .unset] [(.long (p1 >>> ((32 : Int32) &&& 0x3f).toInt64))]))
  generalize hv18 : ((p1 >>> ((32 : Int32) &&& 0x3f).toInt64) : Int64) = v18
  have q18 : v18.toInt = p1.toInt / 4294967296 := by have qq := c_lshr p1 (32 : Int32) 32 (by decide); rw [hv18] at qq; exact qq
  have r18 := rng64 v18
  show Dn p e below s _ _ _ (s₁.setTop (mkF m 19 #[.val (.long p0), .second, .val (.long p1), .second, .val (.long p2), .second, .val (.long p3), .second, .val (.int v1), .val (.int v8), .val (.int v12), .unset, .unset, .unset, .unset, .unset, .unset, .unset, .unset, .unset, .unset, .unset, .unset] [(.long v18)]))
  refine Dn.st (fun _ kk => XS.l2i X0.here hx rfl (hb hby at_19) rfl (kk)) ?_
  show Dn p e below s _ _ _ (s₁.setTop (mkF m 20 #[.val (.long p0), .second, .val (.long p1), .second, .val (.long p2), .second, .val (.long p3), .second, .val (.int v1), .val (.int v8), .val (.int v12), .unset, .unset, .unset, .unset, .unset, .unset, .unset, .unset, .unset, .unset, .unset, .unset] [(.int (v18.toInt32))]))
  generalize hv19 : ((v18.toInt32) : Int32) = v19
  have q19 : (v19.toInt - v18.toInt) % 4294967296 = 0 := by have qq := c_l2i v18; rw [hv19] at qq; exact qq
  have r19 := rng32 v19
  show Dn p e below s _ _ _ (s₁.setTop (mkF m 20 #[.val (.long p0), .second, .val (.long p1), .second, .val (.long p2), .second, .val (.long p3), .second, .val (.int v1), .val (.int v8), .val (.int v12), .unset, .unset, .unset, .unset, .unset, .unset, .unset, .unset, .unset, .unset, .unset, .unset] [(.int v19)]))
  refine Dn.st (fun _ kk => XS.istore X0.here hx rfl (hb hby at_20) rfl (l' := #[.val (.long p0), .second, .val (.long p1), .second, .val (.long p2), .second, .val (.long p3), .second, .val (.int v1), .val (.int v8), .val (.int v12), .val (.int v19), .unset, .unset, .unset, .unset, .unset, .unset, .unset, .unset, .unset, .unset, .unset]) rfl (XS.lload X0.here hx rfl (hb hby at_22) rfl  (XS.l2i X0.here hx rfl (hb hby at_24) rfl (kk)))) ?_
  show Dn p e below s _ _ _ (s₁.setTop (mkF m 25 #[.val (.long p0), .second, .val (.long p1), .second, .val (.long p2), .second, .val (.long p3), .second, .val (.int v1), .val (.int v8), .val (.int v12), .val (.int v19), .unset, .unset, .unset, .unset, .unset, .unset, .unset, .unset, .unset, .unset, .unset] [(.int (p2.toInt32))]))
  generalize hv24 : ((p2.toInt32) : Int32) = v24
  have q24 : (v24.toInt - p2.toInt) % 4294967296 = 0 := by have qq := c_l2i p2; rw [hv24] at qq; exact qq
  have r24 := rng32 v24
  show Dn p e below s _ _ _ (s₁.setTop (mkF m 25 #[.val (.long p0), .second, .val (.long p1), .second, .val (.long p2), .second, .val (.long p3), .second, .val (.int v1), .val (.int v8), .val (.int v12), .val (.int v19), .unset, .unset, .unset, .unset, .unset, .unset, .unset, .unset, .unset, .unset, .unset] [(.int v24)]))
  refine Dn.st (fun _ kk => XS.istore X0.here hx rfl (hb hby at_25) rfl (l' := #[.val (.long p0), .second, .val (.long p1), .second, .val (.long p2), .second, .val (.long p3), .second, .val (.int v1), .val (.int v8), .val (.int v12), .val (.int v19), .val (.int v24), .unset, .unset, .unset, .unset, .unset, .unset, .unset, .unset, .unset, .unset]) rfl (XS.lload X0.here hx rfl (hb hby at_27) rfl  (XS.bipush X0.here hx rfl (hb hby at_29) (XS.lshr X0.here hx rfl (hb hby at_31) rfl (kk))))) ?_
  show Dn p e below s _ _ _ (s₁.setTop (mkF m 32 #[.val (.long p0), .second, .val (.long p1), .second, .val (.long p2), .second, .val (.long p3), .second, .val (.int v1), .val (.int v8), .val (.int v12), .val (.int v19), .val (.int v24), .unset, .unset, .unset, .unset, .unset, .unset, .unset, .unset, .unset, .unset] [(.long (p2 >>> ((32 : Int32) &&& 0x3f).toInt64))]))
  generalize hv31 : ((p2 >>> ((32 : Int32) &&& 0x3f).toInt64) : Int64) = v31
  have q31 : v31.toInt = p2.toInt / 4294967296 := by have qq := c_lshr p2 (32 : Int32) 32 (by decide); rw [hv31] at qq; exact qq
  have r31 := rng64 v31
  show Dn p e below s _ _ _ (s₁.setTop (mkF m 32 #[.val (.long p0), .second, .val (.long p1), .second, .val (.long p2), .second, .val (.long p3), .second, .val (.int v1), .val (.int v8), .val (.int v12), .val (.int v19), .val (.int v24), .unset, .unset, .unset, .unset, .unset, .unset, .unset, .unset, .unset, .unset] [(.long v31)]))
  refine Dn.st (fun _ kk => XS.l2i X0.here hx rfl (hb hby at_32) rfl (kk)) ?_
  show Dn p e below s _ _ _ (s₁.setTop (mkF m 33 #[.val (.long p0), .second, .val (.long p1), .second, .val (.long p2), .second, .val (.long p3), .second, .val (.int v1), .val (.int v8), .val (.int v12), .val (.int v19), .val (.int v24), .unset, .unset, .unset, .unset, .unset, .unset, .unset, .unset, .unset, .unset] [(.int (v31.toInt32))]))
  generalize hv32 : ((v31.toInt32) : Int32) = v32
  have q32 : (v32.toInt - v31.toInt) % 4294967296 = 0 := by have qq := c_l2i v31; rw [hv32] at qq; exact qq
  have r32 := rng32 v32
  show Dn p e below s _ _ _ (s₁.setTop (mkF m 33 #[.val (.long p0), .second, .val (.long p1), .second, .val (.long p2), .second, .val (.long p3), .second, .val (.int v1), .val (.int v8), .val (.int v12), .val (.int v19), .val (.int v24), .unset, .unset, .unset, .unset, .unset, .unset, .unset, .unset, .unset, .unset] [(.int v32)]))
  refine Dn.st (fun _ kk => XS.istore X0.here hx rfl (hb hby at_33) rfl (l' := #[.val (.long p0), .second, .val (.long p1), .second, .val (.long p2), .second, .val (.long p3), .second, .val (.int v1), .val (.int v8), .val (.int v12), .val (.int v19), .val (.int v24), .val (.int v32), .unset, .unset, .unset, .unset, .unset, .unset, .unset, .unset, .unset]) rfl (XS.lload X0.here hx rfl (hb hby at_35) rfl  (XS.l2i X0.here hx rfl (hb hby at_37) rfl (kk)))) ?_
  show Dn p e below s _ _ _ (s₁.setTop (mkF m 38 #[.val (.long p0), .second, .val (.long p1), .second, .val (.long p2), .second, .val (.long p3), .second, .val (.int v1), .val (.int v8), .val (.int v12), .val (.int v19), .val (.int v24), .val (.int v32), .unset, .unset, .unset, .unset, .unset, .unset, .unset, .unset, .unset] [(.int (p3.toInt32))]))
  generalize hv37 : ((p3.toInt32) : Int32) = v37
  have q37 : (v37.toInt - p3.toInt) % 4294967296 = 0 := by have qq := c_l2i p3; rw [hv37] at qq; exact qq
  have r37 := rng32 v37
  show Dn p e below s _ _ _ (s₁.setTop (mkF m 38 #[.val (.long p0), .second, .val (.long p1), .second, .val (.long p2), .second, .val (.long p3), .second, .val (.int v1), .val (.int v8), .val (.int v12), .val (.int v19), .val (.int v24), .val (.int v32), .unset, .unset, .unset, .unset, .unset, .unset, .unset, .unset, .unset] [(.int v37)]))
  refine Dn.st (fun _ kk => XS.istore X0.here hx rfl (hb hby at_38) rfl (l' := #[.val (.long p0), .second, .val (.long p1), .second, .val (.long p2), .second, .val (.long p3), .second, .val (.int v1), .val (.int v8), .val (.int v12), .val (.int v19), .val (.int v24), .val (.int v32), .val (.int v37), .unset, .unset, .unset, .unset, .unset, .unset, .unset, .unset]) rfl (XS.lload X0.here hx rfl (hb hby at_40) rfl  (XS.bipush X0.here hx rfl (hb hby at_42) (XS.lshr X0.here hx rfl (hb hby at_44) rfl (kk))))) ?_
  show Dn p e below s _ _ _ (s₁.setTop (mkF m 45 #[.val (.long p0), .second, .val (.long p1), .second, .val (.long p2), .second, .val (.long p3), .second, .val (.int v1), .val (.int v8), .val (.int v12), .val (.int v19), .val (.int v24), .val (.int v32), .val (.int v37), .unset, .unset, .unset, .unset, .unset, .unset, .unset, .unset] [(.long (p3 >>> ((32 : Int32) &&& 0x3f).toInt64))]))
  generalize hv44 : ((p3 >>> ((32 : Int32) &&& 0x3f).toInt64) : Int64) = v44
  have q44 : v44.toInt = p3.toInt / 4294967296 := by have qq := c_lshr p3 (32 : Int32) 32 (by decide); rw [hv44] at qq; exact qq
  have r44 := rng64 v44
  show Dn p e below s _ _ _ (s₁.setTop (mkF m 45 #[.val (.long p0), .second, .val (.long p1), .second, .val (.long p2), .second, .val (.long p3), .second, .val (.int v1), .val (.int v8), .val (.int v12), .val (.int v19), .val (.int v24), .val (.int v32), .val (.int v37), .unset, .unset, .unset, .unset, .unset, .unset, .unset, .unset] [(.long v44)]))
  refine Dn.st (fun _ kk => XS.l2i X0.here hx rfl (hb hby at_45) rfl (kk)) ?_
  show Dn p e below s _ _ _ (s₁.setTop (mkF m 46 #[.val (.long p0), .second, .val (.long p1), .second, .val (.long p2), .second, .val (.long p3), .second, .val (.int v1), .val (.int v8), .val (.int v12), .val (.int v19), .val (.int v24), .val (.int v32), .val (.int v37), .unset, .unset, .unset, .unset, .unset, .unset, .unset, .unset] [(.int (v44.toInt32))]))
  generalize hv45 : ((v44.toInt32) : Int32) = v45
  have q45 : (v45.toInt - v44.toInt) % 4294967296 = 0 := by have qq := c_l2i v44; rw [hv45] at qq; exact qq
  have r45 := rng32 v45
  show Dn p e below s _ _ _ (s₁.setTop (mkF m 46 #[.val (.long p0), .second, .val (.long p1), .second, .val (.long p2), .second, .val (.long p3), .second, .val (.int v1), .val (.int v8), .val (.int v12), .val (.int v19), .val (.int v24), .val (.int v32), .val (.int v37), .unset, .unset, .unset, .unset, .unset, .unset, .unset, .unset] [(.int v45)]))
  refine Dn.st (fun _ kk => XS.istore X0.here hx rfl (hb hby at_46) rfl (l' := #[.val (.long p0), .second, .val (.long p1), .second, .val (.long p2), .second, .val (.long p3), .second, .val (.int v1), .val (.int v8), .val (.int v12), .val (.int v19), .val (.int v24), .val (.int v32), .val (.int v37), .val (.int v45), .unset, .unset, .unset, .unset, .unset, .unset, .unset]) rfl (XS.iload X0.here hx rfl (hb hby at_48) rfl  (XS.iload X0.here hx rfl (hb hby at_50) rfl  (kk)))) ?_
  show Dn p e below s _ _ _ (s₁.setTop (mkF m 52 #[.val (.long p0), .second, .val (.long p1), .second, .val (.long p2), .second, .val (.long p3), .second, .val (.int v1), .val (.int v8), .val (.int v12), .val (.int v19), .val (.int v24), .val (.int v32), .val (.int v37), .val (.int v45), .unset, .unset, .unset, .unset, .unset, .unset, .unset] [(.int v32), (.int v24)]))
  obtain ⟨_, _, ⟨T52, L52, k52, n52⟩, -, X52, ⟨Lc52, hQ52, l52, y52, z52⟩, st52⟩ := Jvm.LawKit.callS X0 hx (y := (⟨"java/lang/Math", "min", "(II)I"⟩ : MethodName)) hown (mvT hZ (hw _ (List.mem_of_getElem? (i := 0) rfl))) (mvT hZ (hw _ (List.mem_of_getElem? (i := 1) rfl))) (mvT hZ (hw _ (List.mem_of_getElem? (i := 2) rfl))) (mvT hZ (hw _ (List.mem_of_getElem? (i := 3) rfl))) (by decide) (backOf (W := 0) (rm1 l Z a0 hw [] v24 v32  h0 n0 Z0 ) hZ (hw _ (List.mem_of_getElem? (i := 3) rfl)) (hw _ (List.mem_of_getElem? (i := 2) rfl)) (by decide) (by decide)) (g := (mkF m 52 #[.val (.long p0), .second, .val (.long p1), .second, .val (.long p2), .second, .val (.long p3), .second, .val (.int v1), .val (.int v8), .val (.int v12), .val (.int v19), .val (.int v24), .val (.int v32), .val (.int v37), .val (.int v45), .unset, .unset, .unset, .unset, .unset, .unset, .unset] [(.int v32), (.int v24)])) rfl (by rw [hml]; rfl) (argsL := [(.int v24), (.int v32)]) (rest := []) (lenOf pd0 rfl) rfl (by show 2 * 0 + _ ≤ _; exact Nat.le_of_eq rfl) (hb hby at_52) (fun _ _ => ⟨rfl, e0, (by decide : 0 + 0 ≤ _), (by decide : 0 + 0 ≤ _)⟩)
  dsimp only [Pt.U, Pt.locs, Pt.cells, Pt.slots] at X52 l52 y52 z52 st52 hQ52
  subst l52 y52 z52
  obtain ⟨z52, rfl, hz52, Nq52, hh52⟩ := hQ52
  have N52 := Fr.app N0 Nq52
  refine Dn.st st52 ?_
  show Dn p e below s _ _ _ (T52.setTop (mkF m 55 #[.val (.long p0), .second, .val (.long p1), .second, .val (.long p2), .second, .val (.long p3), .second, .val (.int v1), .val (.int v8), .val (.int v12), .val (.int v19), .val (.int v24), .val (.int v32), .val (.int v37), .val (.int v45), .unset, .unset, .unset, .unset, .unset, .unset, .unset] [(.int z52)]))
  refine Dn.st (fun _ kk => XS.istore X52.here hx rfl (hb hby at_55) rfl (l' := #[.val (.long p0), .second, .val (.long p1), .second, .val (.long p2), .second, .val (.long p3), .second, .val (.int v1), .val (.int v8), .val (.int v12), .val (.int v19), .val (.int v24), .val (.int v32), .val (.int v37), .val (.int v45), .val (.int z52), .unset, .unset, .unset, .unset, .unset, .unset]) rfl (XS.iload X52.here hx rfl (hb hby at_57) rfl  (XS.iload X52.here hx rfl (hb hby at_59) rfl  (kk)))) ?_
  show Dn p e below s _ _ _ (T52.setTop (mkF m 61 #[.val (.long p0), .second, .val (.long p1), .second, .val (.long p2), .second, .val (.long p3), .second, .val (.int v1), .val (.int v8), .val (.int v12), .val (.int v19), .val (.int v24), .val (.int v32), .val (.int v37), .val (.int v45), .val (.int z52), .unset, .unset, .unset, .unset, .unset, .unset] [(.int v32), (.int v24)]))
  obtain ⟨_, _, ⟨T61, L61, k61, n61⟩, -, X61, ⟨Lc61, hQ61, l61, y61, z61⟩, st61⟩ := Jvm.LawKit.callS X52 hx (y := (⟨"java/lang/Math", "max", "(II)I"⟩ : MethodName)) hown (mvT hZ (hw _ (List.mem_of_getElem? (i := 4) rfl))) (mvT hZ (hw _ (List.mem_of_getElem? (i := 5) rfl))) (mvT hZ (hw _ (List.mem_of_getElem? (i := 2) rfl))) (mvT hZ (hw _ (List.mem_of_getElem? (i := 6) rfl))) (by decide) (backOf (W := 0) (rm2 l Z a0 hw [] v24 v32  h0 n0 Z0 ) hZ (hw _ (List.mem_of_getElem? (i := 6) rfl)) (hw _ (List.mem_of_getElem? (i := 2) rfl)) (by decide) (by decide)) (g := (mkF m 61 #[.val (.long p0), .second, .val (.long p1), .second, .val (.long p2), .second, .val (.long p3), .second, .val (.int v1), .val (.int v8), .val (.int v12), .val (.int v19), .val (.int v24), .val (.int v32), .val (.int v37), .val (.int v45), .val (.int z52), .unset, .unset, .unset, .unset, .unset, .unset] [(.int v32), (.int v24)])) rfl (by rw [hml]; rfl) (argsL := [(.int v24), (.int v32)]) (rest := []) (lenOf pd0 rfl) rfl (by show 2 * 0 + _ ≤ _; exact Nat.le_of_eq rfl) (hb hby at_61) (fun _ _ => ⟨rfl, hh52, (by decide : 0 + 0 ≤ _), (by decide : 0 + 0 ≤ _)⟩)
  dsimp only [Pt.U, Pt.locs, Pt.cells, Pt.slots] at X61 l61 y61 z61 st61 hQ61
  subst l61 y61 z61
  obtain ⟨z61, rfl, hz61, Nq61, hh61⟩ := hQ61
  have N61 := Fr.app N52 Nq61
  refine Dn.st st61 ?_
  show Dn p e below s _ _ _ (T61.setTop (mkF m 64 #[.val (.long p0), .second, .val (.long p1), .second, .val (.long p2), .second, .val (.long p3), .second, .val (.int v1), .val (.int v8), .val (.int v12), .val (.int v19), .val (.int v24), .val (.int v32), .val (.int v37), .val (.int v45), .val (.int z52), .unset, .unset, .unset, .unset, .unset, .unset] [(.int z61)]))
  refine Dn.st (fun _ kk => XS.istore X61.here hx rfl (hb hby at_64) rfl (l' := #[.val (.long p0), .second, .val (.long p1), .second, .val (.long p2), .second, .val (.long p3), .second, .val (.int v1), .val (.int v8), .val (.int v12), .val (.int v19), .val (.int v24), .val (.int v32), .val (.int v37), .val (.int v45), .val (.int z52), .val (.int z61), .unset, .unset, .unset, .unset, .unset]) rfl (XS.iload X61.here hx rfl (hb hby at_66) rfl  (XS.iload X61.here hx rfl (hb hby at_68) rfl  (kk)))) ?_
  show Dn p e below s _ _ _ (T61.setTop (mkF m 70 #[.val (.long p0), .second, .val (.long p1), .second, .val (.long p2), .second, .val (.long p3), .second, .val (.int v1), .val (.int v8), .val (.int v12), .val (.int v19), .val (.int v24), .val (.int v32), .val (.int v37), .val (.int v45), .val (.int z52), .val (.int z61), .unset, .unset, .unset, .unset, .unset] [(.int v45), (.int v37)]))
  obtain ⟨_, _, ⟨T70, L70, k70, n70⟩, -, X70, ⟨Lc70, hQ70, l70, y70, z70⟩, st70⟩ := Jvm.LawKit.callS X61 hx (y := (⟨"java/lang/Math", "min", "(II)I"⟩ : MethodName)) hown (mvT hZ (hw _ (List.mem_of_getElem? (i := 0) rfl))) (mvT hZ (hw _ (List.mem_of_getElem? (i := 1) rfl))) (mvT hZ (hw _ (List.mem_of_getElem? (i := 2) rfl))) (mvT hZ (hw _ (List.mem_of_getElem? (i := 3) rfl))) (by decide) (backOf (W := 0) (rm1 l Z a0 hw [] v37 v45  h0 n0 Z0 ) hZ (hw _ (List.mem_of_getElem? (i := 3) rfl)) (hw _ (List.mem_of_getElem? (i := 2) rfl)) (by decide) (by decide)) (g := (mkF m 70 #[.val (.long p0), .second, .val (.long p1), .second, .val (.long p2), .second, .val (.long p3), .second, .val (.int v1), .val (.int v8), .val (.int v12), .val (.int v19), .val (.int v24), .val (.int v32), .val (.int v37), .val (.int v45), .val (.int z52), .val (.int z61), .unset, .unset, .unset, .unset, .unset] [(.int v45), (.int v37)])) rfl (by rw [hml]; rfl) (argsL := [(.int v37), (.int v45)]) (rest := []) (lenOf pd0 rfl) rfl (by show 2 * 0 + _ ≤ _; exact Nat.le_of_eq rfl) (hb hby at_70) (fun _ _ => ⟨rfl, hh61, (by decide : 0 + 0 ≤ _), (by decide : 0 + 0 ≤ _)⟩)
  dsimp only [Pt.U, Pt.locs, Pt.cells, Pt.slots] at X70 l70 y70 z70 st70 hQ70
  subst l70 y70 z70
  obtain ⟨z70, rfl, hz70, Nq70, hh70⟩ := hQ70
  have N70 := Fr.app N61 Nq70
  refine Dn.st st70 ?_
  show Dn p e below s _ _ _ (T70.setTop (mkF m 73 #[.val (.long p0), .second, .val (.long p1), .second, .val (.long p2), .second, .val (.long p3), .second, .val (.int v1), .val (.int v8), .val (.int v12), .val (.int v19), .val (.int v24), .val (.int v32), .val (.int v37), .val (.int v45), .val (.int z52), .val (.int z61), .unset, .unset, .unset, .unset, .unset] [(.int z70)]))
  refine Dn.st (fun _ kk => XS.istore X70.here hx rfl (hb hby at_73) rfl (l' := #[.val (.long p0), .second, .val (.long p1), .second, .val (.long p2), .second, .val (.long p3), .second, .val (.int v1), .val (.int v8), .val (.int v12), .val (.int v19), .val (.int v24), .val (.int v32), .val (.int v37), .val (.int v45), .val (.int z52), .val (.int z61), .val (.int z70), .unset, .unset, .unset, .unset]) rfl (XS.iload X70.here hx rfl (hb hby at_75) rfl  (XS.iload X70.here hx rfl (hb hby at_77) rfl  (kk)))) ?_
  show Dn p e below s _ _ _ (T70.setTop (mkF m 79 #[.val (.long p0), .second, .val (.long p1), .second, .val (.long p2), .second, .val (.long p3), .second, .val (.int v1), .val (.int v8), .val (.int v12), .val (.int v19), .val (.int v24), .val (.int v32), .val (.int v37), .val (.int v45), .val (.int z52), .val (.int z61), .val (.int z70), .unset, .unset, .unset, .unset] [(.int v45), (.int v37)]))
  obtain ⟨_, _, ⟨T79, L79, k79, n79⟩, -, X79, ⟨Lc79, hQ79, l79, y79, z79⟩, st79⟩ := Jvm.LawKit.callS X70 hx (y := (⟨"java/lang/Math", "max", "(II)I"⟩ : MethodName)) hown (mvT hZ (hw _ (List.mem_of_getElem? (i := 4) rfl))) (mvT hZ (hw _ (List.mem_of_getElem? (i := 5) rfl))) (mvT hZ (hw _ (List.mem_of_getElem? (i := 2) rfl))) (mvT hZ (hw _ (List.mem_of_getElem? (i := 6) rfl))) (by decide) (backOf (W := 0) (rm2 l Z a0 hw [] v37 v45  h0 n0 Z0 ) hZ (hw _ (List.mem_of_getElem? (i := 6) rfl)) (hw _ (List.mem_of_getElem? (i := 2) rfl)) (by decide) (by decide)) (g := (mkF m 79 #[.val (.long p0), .second, .val (.long p1), .second, .val (.long p2), .second, .val (.long p3), .second, .val (.int v1), .val (.int v8), .val (.int v12), .val (.int v19), .val (.int v24), .val (.int v32), .val (.int v37), .val (.int v45), .val (.int z52), .val (.int z61), .val (.int z70), .unset, .unset, .unset, .unset] [(.int v45), (.int v37)])) rfl (by rw [hml]; rfl) (argsL := [(.int v37), (.int v45)]) (rest := []) (lenOf pd0 rfl) rfl (by show 2 * 0 + _ ≤ _; exact Nat.le_of_eq rfl) (hb hby at_79) (fun _ _ => ⟨rfl, hh70, (by decide : 0 + 0 ≤ _), (by decide : 0 + 0 ≤ _)⟩)
  dsimp only [Pt.U, Pt.locs, Pt.cells, Pt.slots] at X79 l79 y79 z79 st79 hQ79
  subst l79 y79 z79
  obtain ⟨z79, rfl, hz79, Nq79, hh79⟩ := hQ79
  have N79 := Fr.app N70 Nq79
  refine Dn.st st79 ?_
  show Dn p e below s _ _ _ (T79.setTop (mkF m 82 #[.val (.long p0), .second, .val (.long p1), .second, .val (.long p2), .second, .val (.long p3), .second, .val (.int v1), .val (.int v8), .val (.int v12), .val (.int v19), .val (.int v24), .val (.int v32), .val (.int v37), .val (.int v45), .val (.int z52), .val (.int z61), .val (.int z70), .unset, .unset, .unset, .unset] [(.int z79)]))
  refine Dn.st (fun _ kk => XS.istore X79.here hx rfl (hb hby at_82) rfl (l' := #[.val (.long p0), .second, .val (.long p1), .second, .val (.long p2), .second, .val (.long p3), .second, .val (.int v1), .val (.int v8), .val (.int v12), .val (.int v19), .val (.int v24), .val (.int v32), .val (.int v37), .val (.int v45), .val (.int z52), .val (.int z61), .val (.int z70), .val (.int z79), .unset, .unset, .unset]) rfl (kk)) ?_
  show Dn p e below s _ _ _ (T79.setTop (mkF m 84 #[.val (.long p0), .second, .val (.long p1), .second, .val (.long p2), .second, .val (.long p3), .second, .val (.int v1), .val (.int v8), .val (.int v12), .val (.int v19), .val (.int v24), .val (.int v32), .val (.int v37), .val (.int v45), .val (.int z52), .val (.int z61), .val (.int z70), .val (.int z79), .unset, .unset, .unset] []))
  obtain ⟨T84, h84, X84, e84, E84, A84, D84, -, st84⟩ := newO X79 hx hZ hown (hw _ (List.mem_of_getElem? (i := 7) rfl)) (hw _ (List.mem_of_getElem? (i := 8) rfl)) (hw _ (List.mem_of_getElem? (i := 9) rfl)) hh79 (g := (mkF m 84 #[.val (.long p0), .second, .val (.long p1), .second, .val (.long p2), .second, .val (.long p3), .second, .val (.int v1), .val (.int v8), .val (.int v12), .val (.int v19), .val (.int v24), .val (.int v32), .val (.int v37), .val (.int v45), .val (.int z52), .val (.int z61), .val (.int z70), .val (.int z79), .unset, .unset, .unset] [])) rfl (hb hby at_84) (by decide) (by decide)
  obtain ⟨b84, g84⟩ : ∃ z, z = h0.size := ⟨_, rfl⟩
  rw [← g84] at A84 D84 st84
  have gn_b84 : n0 ≤ b84 := Nat.le_trans Z0 (Nat.le_of_eq g84.symm)
  have Z84 : n0 ≤ h84.size := Nat.le_trans Z0 E84.1
  have F_b84_left : Fld Z h84 b84 "com/example/vias_for_diagrams/viasfordiagrams/Rect" "left" "D" (.double (0 : UInt64)) := D84 (Or.inr (hw _ (List.mem_of_getElem? (i := 17) rfl))) (ty := .double) (by decide)
  have F_b84_top : Fld Z h84 b84 "com/example/vias_for_diagrams/viasfordiagrams/Rect" "top" "D" (.double (0 : UInt64)) := D84 (Or.inr (hw _ (List.mem_of_getElem? (i := 19) rfl))) (ty := .double) (by decide)
  have F_b84_right : Fld Z h84 b84 "com/example/vias_for_diagrams/viasfordiagrams/Rect" "right" "D" (.double (0 : UInt64)) := D84 (Or.inr (hw _ (List.mem_of_getElem? (i := 21) rfl))) (ty := .double) (by decide)
  have F_b84_bottom : Fld Z h84 b84 "com/example/vias_for_diagrams/viasfordiagrams/Rect" "bottom" "D" (.double (0 : UInt64)) := D84 (Or.inr (hw _ (List.mem_of_getElem? (i := 23) rfl))) (ty := .double) (by decide)
  refine Dn.st st84 ?_
  show Dn p e below s _ _ _ (T84.setTop (mkF m 87 #[.val (.long p0), .second, .val (.long p1), .second, .val (.long p2), .second, .val (.long p3), .second, .val (.int v1), .val (.int v8), .val (.int v12), .val (.int v19), .val (.int v24), .val (.int v32), .val (.int v37), .val (.int v45), .val (.int z52), .val (.int z61), .val (.int z70), .val (.int z79), .unset, .unset, .unset] [(.ref b84)]))
  refine Dn.st (fun _ kk => XS.dup X84.here hx rfl (hb hby at_87) rfl rfl (XS.iload X84.here hx rfl (hb hby at_88) rfl  (kk))) ?_
  show Dn p e below s _ _ _ (T84.setTop (mkF m 90 #[.val (.long p0), .second, .val (.long p1), .second, .val (.long p2), .second, .val (.long p3), .second, .val (.int v1), .val (.int v8), .val (.int v12), .val (.int v19), .val (.int v24), .val (.int v32), .val (.int v37), .val (.int v45), .val (.int z52), .val (.int z61), .val (.int z70), .val (.int z79), .unset, .unset, .unset] [(.int v1), (.ref b84), (.ref b84)]))
  have d90 := DS.i2d v1
  refine Dn.st (fun _ kk => XS.i2dS X84.here hx rfl (hb hby at_90) rfl rfl (kk)) ?_
  show Dn p e below s _ _ _ (T84.setTop (mkF m 91 #[.val (.long p0), .second, .val (.long p1), .second, .val (.long p2), .second, .val (.long p3), .second, .val (.int v1), .val (.int v8), .val (.int v12), .val (.int v19), .val (.int v24), .val (.int v32), .val (.int v37), .val (.int v45), .val (.int z52), .val (.int z61), .val (.int z70), .val (.int z79), .unset, .unset, .unset] [(.double (FP.i2d v1)), (.ref b84), (.ref b84)]))
  generalize hv90 : ((FP.i2d v1) : UInt64) = v90 at d90 ⊢
  show Dn p e below s _ _ _ (T84.setTop (mkF m 91 #[.val (.long p0), .second, .val (.long p1), .second, .val (.long p2), .second, .val (.long p3), .second, .val (.int v1), .val (.int v8), .val (.int v12), .val (.int v19), .val (.int v24), .val (.int v32), .val (.int v37), .val (.int v45), .val (.int z52), .val (.int z61), .val (.int z70), .val (.int z79), .unset, .unset, .unset] [(.double v90), (.ref b84), (.ref b84)]))
  refine Dn.st (fun _ kk => XS.iload X84.here hx rfl (hb hby at_91) rfl  (kk)) ?_
  show Dn p e below s _ _ _ (T84.setTop (mkF m 93 #[.val (.long p0), .second, .val (.long p1), .second, .val (.long p2), .second, .val (.long p3), .second, .val (.int v1), .val (.int v8), .val (.int v12), .val (.int v19), .val (.int v24), .val (.int v32), .val (.int v37), .val (.int v45), .val (.int z52), .val (.int z61), .val (.int z70), .val (.int z79), .unset, .unset, .unset] [(.int v8), (.double v90), (.ref b84), (.ref b84)]))
  have d93 := DS.i2d v8
  refine Dn.st (fun _ kk => XS.i2dS X84.here hx rfl (hb hby at_93) rfl rfl (kk)) ?_
  show Dn p e below s _ _ _ (T84.setTop (mkF m 94 #[.val (.long p0), .second, .val (.long p1), .second, .val (.long p2), .second, .val (.long p3), .second, .val (.int v1), .val (.int v8), .val (.int v12), .val (.int v19), .val (.int v24), .val (.int v32), .val (.int v37), .val (.int v45), .val (.int z52), .val (.int z61), .val (.int z70), .val (.int z79), .unset, .unset, .unset] [(.double (FP.i2d v8)), (.double v90), (.ref b84), (.ref b84)]))
  generalize hv93 : ((FP.i2d v8) : UInt64) = v93 at d93 ⊢
  show Dn p e below s _ _ _ (T84.setTop (mkF m 94 #[.val (.long p0), .second, .val (.long p1), .second, .val (.long p2), .second, .val (.long p3), .second, .val (.int v1), .val (.int v8), .val (.int v12), .val (.int v19), .val (.int v24), .val (.int v32), .val (.int v37), .val (.int v45), .val (.int z52), .val (.int z61), .val (.int z70), .val (.int z79), .unset, .unset, .unset] [(.double v93), (.double v90), (.ref b84), (.ref b84)]))
  refine Dn.st (fun _ kk => XS.iload X84.here hx rfl (hb hby at_94) rfl  (kk)) ?_
  show Dn p e below s _ _ _ (T84.setTop (mkF m 96 #[.val (.long p0), .second, .val (.long p1), .second, .val (.long p2), .second, .val (.long p3), .second, .val (.int v1), .val (.int v8), .val (.int v12), .val (.int v19), .val (.int v24), .val (.int v32), .val (.int v37), .val (.int v45), .val (.int z52), .val (.int z61), .val (.int z70), .val (.int z79), .unset, .unset, .unset] [(.int v12), (.double v93), (.double v90), (.ref b84), (.ref b84)]))
  have d96 := DS.i2d v12
  refine Dn.st (fun _ kk => XS.i2dS X84.here hx rfl (hb hby at_96) rfl rfl (kk)) ?_
  show Dn p e below s _ _ _ (T84.setTop (mkF m 97 #[.val (.long p0), .second, .val (.long p1), .second, .val (.long p2), .second, .val (.long p3), .second, .val (.int v1), .val (.int v8), .val (.int v12), .val (.int v19), .val (.int v24), .val (.int v32), .val (.int v37), .val (.int v45), .val (.int z52), .val (.int z61), .val (.int z70), .val (.int z79), .unset, .unset, .unset] [(.double (FP.i2d v12)), (.double v93), (.double v90), (.ref b84), (.ref b84)]))
  generalize hv96 : ((FP.i2d v12) : UInt64) = v96 at d96 ⊢
  show Dn p e below s _ _ _ (T84.setTop (mkF m 97 #[.val (.long p0), .second, .val (.long p1), .second, .val (.long p2), .second, .val (.long p3), .second, .val (.int v1), .val (.int v8), .val (.int v12), .val (.int v19), .val (.int v24), .val (.int v32), .val (.int v37), .val (.int v45), .val (.int z52), .val (.int z61), .val (.int z70), .val (.int z79), .unset, .unset, .unset] [(.double v96), (.double v93), (.double v90), (.ref b84), (.ref b84)]))
  refine Dn.st (fun _ kk => XS.iload X84.here hx rfl (hb hby at_97) rfl  (kk)) ?_
  show Dn p e below s _ _ _ (T84.setTop (mkF m 99 #[.val (.long p0), .second, .val (.long p1), .second, .val (.long p2), .second, .val (.long p3), .second, .val (.int v1), .val (.int v8), .val (.int v12), .val (.int v19), .val (.int v24), .val (.int v32), .val (.int v37), .val (.int v45), .val (.int z52), .val (.int z61), .val (.int z70), .val (.int z79), .unset, .unset, .unset] [(.int v19), (.double v96), (.double v93), (.double v90), (.ref b84), (.ref b84)]))
  have d99 := DS.i2d v19
  refine Dn.st (fun _ kk => XS.i2dS X84.here hx rfl (hb hby at_99) rfl rfl (kk)) ?_
  show Dn p e below s _ _ _ (T84.setTop (mkF m 100 #[.val (.long p0), .second, .val (.long p1), .second, .val (.long p2), .second, .val (.long p3), .second, .val (.int v1), .val (.int v8), .val (.int v12), .val (.int v19), .val (.int v24), .val (.int v32), .val (.int v37), .val (.int v45), .val (.int z52), .val (.int z61), .val (.int z70), .val (.int z79), .unset, .unset, .unset] [(.double (FP.i2d v19)), (.double v96), (.double v93), (.double v90), (.ref b84), (.ref b84)]))
  generalize hv99 : ((FP.i2d v19) : UInt64) = v99 at d99 ⊢
  show Dn p e below s _ _ _ (T84.setTop (mkF m 100 #[.val (.long p0), .second, .val (.long p1), .second, .val (.long p2), .second, .val (.long p3), .second, .val (.int v1), .val (.int v8), .val (.int v12), .val (.int v19), .val (.int v24), .val (.int v32), .val (.int v37), .val (.int v45), .val (.int z52), .val (.int z61), .val (.int z70), .val (.int z79), .unset, .unset, .unset] [(.double v99), (.double v96), (.double v93), (.double v90), (.ref b84), (.ref b84)]))
  obtain ⟨_, _, ⟨T100, L100, k100, n100⟩, -, X100, ⟨Lc100, hQ100, l100, y100, z100⟩, st100⟩ := X84.specialBack hx (y := (⟨"com/example/vias_for_diagrams/viasfordiagrams/Rect", "<init>", "(DDDD)V"⟩ : MethodName)) rfl hown (mvT hZ (hw _ (List.mem_of_getElem? (i := 10) rfl))) (mvT hZ (hw _ (List.mem_of_getElem? (i := 11) rfl))) (mvT hZ (hw _ (List.mem_of_getElem? (i := 12) rfl))) (by decide) (backOf (W := 1) (rm3 l Z a0 hw [] b84 v90 v93 v96 v99  h84 n0 Z84 gn_b84 A84 F_b84_left F_b84_top F_b84_right F_b84_bottom ) hZ (hw _ (List.mem_of_getElem? (i := 12) rfl)) (hw _ (List.mem_of_getElem? (i := 9) rfl)) (by decide) (by decide)) (g := (mkF m 100 #[.val (.long p0), .second, .val (.long p1), .second, .val (.long p2), .second, .val (.long p3), .second, .val (.int v1), .val (.int v8), .val (.int v12), .val (.int v19), .val (.int v24), .val (.int v32), .val (.int v37), .val (.int v45), .val (.int z52), .val (.int z61), .val (.int z70), .val (.int z79), .unset, .unset, .unset] [(.double v99), (.double v96), (.double v93), (.double v90), (.ref b84), (.ref b84)])) rfl (by rw [hml]; rfl) (Steps.refl _) (a := b84) (argsL := [(.double v90), (.double v93), (.double v96), (.double v99)]) (rest := [(.ref b84)]) (lenOf pd1 rfl) rfl (by show 2 * 0 + _ ≤ _; exact Nat.le_of_eq rfl) (hb hby at_100) (fun _ _ => ⟨rfl, e84, (by decide : 1 + 0 ≤ _), (by decide : 4 + 0 ≤ _)⟩)
  dsimp only [Pt.U, Pt.locs, Pt.cells, Pt.slots] at X100 l100 y100 z100 st100 hQ100
  subst l100 y100 z100
  obtain ⟨rfl, Nq100, K100, E_b84_100, F_b84_left_100, F_b84_top_100, F_b84_right_100, F_b84_bottom_100⟩ := hQ100
  have N100 := Fr.app N79 Nq100
  refine Dn.tr st100 ?_
  have Z100 : n0 ≤ T100.heap.size := Nat.le_trans Z84 K100.1
  show Dn p e below s _ _ _ (T100.setTop (mkF m 103 #[.val (.long p0), .second, .val (.long p1), .second, .val (.long p2), .second, .val (.long p3), .second, .val (.int v1), .val (.int v8), .val (.int v12), .val (.int v19), .val (.int v24), .val (.int v32), .val (.int v37), .val (.int v45), .val (.int z52), .val (.int z61), .val (.int z70), .val (.int z79), .unset, .unset, .unset] [(.ref b84)]))
  refine Dn.st (fun _ kk => XS.astore X100.here hx rfl (hb hby at_103) rfl rfl (l' := #[.val (.long p0), .second, .val (.long p1), .second, .val (.long p2), .second, .val (.long p3), .second, .val (.int v1), .val (.int v8), .val (.int v12), .val (.int v19), .val (.int v24), .val (.int v32), .val (.int v37), .val (.int v45), .val (.int z52), .val (.int z61), .val (.int z70), .val (.int z79), .val (.ref b84), .unset, .unset]) rfl (kk)) ?_
  show Dn p e below s _ _ _ (T100.setTop (mkF m 105 #[.val (.long p0), .second, .val (.long p1), .second, .val (.long p2), .second, .val (.long p3), .second, .val (.int v1), .val (.int v8), .val (.int v12), .val (.int v19), .val (.int v24), .val (.int v32), .val (.int v37), .val (.int v45), .val (.int z52), .val (.int z61), .val (.int z70), .val (.int z79), .val (.ref b84), .unset, .unset] []))
  obtain ⟨T105, h105, X105, e105, E105, A105, D105, -, st105⟩ := newO X100 hx hZ hown (hw _ (List.mem_of_getElem? (i := 7) rfl)) (hw _ (List.mem_of_getElem? (i := 8) rfl)) (hw _ (List.mem_of_getElem? (i := 9) rfl)) rfl (g := (mkF m 105 #[.val (.long p0), .second, .val (.long p1), .second, .val (.long p2), .second, .val (.long p3), .second, .val (.int v1), .val (.int v8), .val (.int v12), .val (.int v19), .val (.int v24), .val (.int v32), .val (.int v37), .val (.int v45), .val (.int z52), .val (.int z61), .val (.int z70), .val (.int z79), .val (.ref b84), .unset, .unset] [])) rfl (hb hby at_105) (by decide) (by decide)
  obtain ⟨b105, g105⟩ : ∃ z, z = T100.heap.size := ⟨_, rfl⟩
  rw [← g105] at A105 D105 st105
  have ne_b84_b105 : b84 ≠ b105 := Nat.ne_of_lt (Nat.lt_of_lt_of_le E_b84_100.lt (Nat.le_of_eq g105.symm))
  have E_b84_105 := E_b84_100.ext E105
  have F_b84_left_105 := F_b84_left_100.ext E105
  have F_b84_top_105 := F_b84_top_100.ext E105
  have F_b84_right_105 := F_b84_right_100.ext E105
  have F_b84_bottom_105 := F_b84_bottom_100.ext E105
  have gn_b105 : n0 ≤ b105 := Nat.le_trans Z100 (Nat.le_of_eq g105.symm)
  have Z105 : n0 ≤ h105.size := Nat.le_trans Z100 E105.1
  have F_b105_left : Fld Z h105 b105 "com/example/vias_for_diagrams/viasfordiagrams/Rect" "left" "D" (.double (0 : UInt64)) := D105 (Or.inr (hw _ (List.mem_of_getElem? (i := 17) rfl))) (ty := .double) (by decide)
  have F_b105_top : Fld Z h105 b105 "com/example/vias_for_diagrams/viasfordiagrams/Rect" "top" "D" (.double (0 : UInt64)) := D105 (Or.inr (hw _ (List.mem_of_getElem? (i := 19) rfl))) (ty := .double) (by decide)
  have F_b105_right : Fld Z h105 b105 "com/example/vias_for_diagrams/viasfordiagrams/Rect" "right" "D" (.double (0 : UInt64)) := D105 (Or.inr (hw _ (List.mem_of_getElem? (i := 21) rfl))) (ty := .double) (by decide)
  have F_b105_bottom : Fld Z h105 b105 "com/example/vias_for_diagrams/viasfordiagrams/Rect" "bottom" "D" (.double (0 : UInt64)) := D105 (Or.inr (hw _ (List.mem_of_getElem? (i := 23) rfl))) (ty := .double) (by decide)
  refine Dn.st st105 ?_
  show Dn p e below s _ _ _ (T105.setTop (mkF m 108 #[.val (.long p0), .second, .val (.long p1), .second, .val (.long p2), .second, .val (.long p3), .second, .val (.int v1), .val (.int v8), .val (.int v12), .val (.int v19), .val (.int v24), .val (.int v32), .val (.int v37), .val (.int v45), .val (.int z52), .val (.int z61), .val (.int z70), .val (.int z79), .val (.ref b84), .unset, .unset] [(.ref b105)]))
  refine Dn.st (fun _ kk => XS.dup X105.here hx rfl (hb hby at_108) rfl rfl (XS.iload X105.here hx rfl (hb hby at_109) rfl  (kk))) ?_
  show Dn p e below s _ _ _ (T105.setTop (mkF m 111 #[.val (.long p0), .second, .val (.long p1), .second, .val (.long p2), .second, .val (.long p3), .second, .val (.int v1), .val (.int v8), .val (.int v12), .val (.int v19), .val (.int v24), .val (.int v32), .val (.int v37), .val (.int v45), .val (.int z52), .val (.int z61), .val (.int z70), .val (.int z79), .val (.ref b84), .unset, .unset] [(.int z52), (.ref b105), (.ref b105)]))
  have d111 := DS.i2d z52
  refine Dn.st (fun _ kk => XS.i2dS X105.here hx rfl (hb hby at_111) rfl rfl (kk)) ?_
  show Dn p e below s _ _ _ (T105.setTop (mkF m 112 #[.val (.long p0), .second, .val (.long p1), .second, .val (.long p2), .second, .val (.long p3), .second, .val (.int v1), .val (.int v8), .val (.int v12), .val (.int v19), .val (.int v24), .val (.int v32), .val (.int v37), .val (.int v45), .val (.int z52), .val (.int z61), .val (.int z70), .val (.int z79), .val (.ref b84), .unset, .unset] [(.double (FP.i2d z52)), (.ref b105), (.ref b105)]))
  generalize hv111 : ((FP.i2d z52) : UInt64) = v111 at d111 ⊢
  show Dn p e below s _ _ _ (T105.setTop (mkF m 112 #[.val (.long p0), .second, .val (.long p1), .second, .val (.long p2), .second, .val (.long p3), .second, .val (.int v1), .val (.int v8), .val (.int v12), .val (.int v19), .val (.int v24), .val (.int v32), .val (.int v37), .val (.int v45), .val (.int z52), .val (.int z61), .val (.int z70), .val (.int z79), .val (.ref b84), .unset, .unset] [(.double v111), (.ref b105), (.ref b105)]))
  refine Dn.st (fun _ kk => XS.iload X105.here hx rfl (hb hby at_112) rfl  (kk)) ?_
  show Dn p e below s _ _ _ (T105.setTop (mkF m 114 #[.val (.long p0), .second, .val (.long p1), .second, .val (.long p2), .second, .val (.long p3), .second, .val (.int v1), .val (.int v8), .val (.int v12), .val (.int v19), .val (.int v24), .val (.int v32), .val (.int v37), .val (.int v45), .val (.int z52), .val (.int z61), .val (.int z70), .val (.int z79), .val (.ref b84), .unset, .unset] [(.int z70), (.double v111), (.ref b105), (.ref b105)]))
  have d114 := DS.i2d z70
  refine Dn.st (fun _ kk => XS.i2dS X105.here hx rfl (hb hby at_114) rfl rfl (kk)) ?_
  show Dn p e below s _ _ _ (T105.setTop (mkF m 115 #[.val (.long p0), .second, .val (.long p1), .second, .val (.long p2), .second, .val (.long p3), .second, .val (.int v1), .val (.int v8), .val (.int v12), .val (.int v19), .val (.int v24), .val (.int v32), .val (.int v37), .val (.int v45), .val (.int z52), .val (.int z61), .val (.int z70), .val (.int z79), .val (.ref b84), .unset, .unset] [(.double (FP.i2d z70)), (.double v111), (.ref b105), (.ref b105)]))
  generalize hv114 : ((FP.i2d z70) : UInt64) = v114 at d114 ⊢
  show Dn p e below s _ _ _ (T105.setTop (mkF m 115 #[.val (.long p0), .second, .val (.long p1), .second, .val (.long p2), .second, .val (.long p3), .second, .val (.int v1), .val (.int v8), .val (.int v12), .val (.int v19), .val (.int v24), .val (.int v32), .val (.int v37), .val (.int v45), .val (.int z52), .val (.int z61), .val (.int z70), .val (.int z79), .val (.ref b84), .unset, .unset] [(.double v114), (.double v111), (.ref b105), (.ref b105)]))
  refine Dn.st (fun _ kk => XS.iload X105.here hx rfl (hb hby at_115) rfl  (kk)) ?_
  show Dn p e below s _ _ _ (T105.setTop (mkF m 117 #[.val (.long p0), .second, .val (.long p1), .second, .val (.long p2), .second, .val (.long p3), .second, .val (.int v1), .val (.int v8), .val (.int v12), .val (.int v19), .val (.int v24), .val (.int v32), .val (.int v37), .val (.int v45), .val (.int z52), .val (.int z61), .val (.int z70), .val (.int z79), .val (.ref b84), .unset, .unset] [(.int z61), (.double v114), (.double v111), (.ref b105), (.ref b105)]))
  have d117 := DS.i2d z61
  refine Dn.st (fun _ kk => XS.i2dS X105.here hx rfl (hb hby at_117) rfl rfl (kk)) ?_
  show Dn p e below s _ _ _ (T105.setTop (mkF m 118 #[.val (.long p0), .second, .val (.long p1), .second, .val (.long p2), .second, .val (.long p3), .second, .val (.int v1), .val (.int v8), .val (.int v12), .val (.int v19), .val (.int v24), .val (.int v32), .val (.int v37), .val (.int v45), .val (.int z52), .val (.int z61), .val (.int z70), .val (.int z79), .val (.ref b84), .unset, .unset] [(.double (FP.i2d z61)), (.double v114), (.double v111), (.ref b105), (.ref b105)]))
  generalize hv117 : ((FP.i2d z61) : UInt64) = v117 at d117 ⊢
  show Dn p e below s _ _ _ (T105.setTop (mkF m 118 #[.val (.long p0), .second, .val (.long p1), .second, .val (.long p2), .second, .val (.long p3), .second, .val (.int v1), .val (.int v8), .val (.int v12), .val (.int v19), .val (.int v24), .val (.int v32), .val (.int v37), .val (.int v45), .val (.int z52), .val (.int z61), .val (.int z70), .val (.int z79), .val (.ref b84), .unset, .unset] [(.double v117), (.double v114), (.double v111), (.ref b105), (.ref b105)]))
  refine Dn.st (fun _ kk => XS.iload X105.here hx rfl (hb hby at_118) rfl  (kk)) ?_
  show Dn p e below s _ _ _ (T105.setTop (mkF m 120 #[.val (.long p0), .second, .val (.long p1), .second, .val (.long p2), .second, .val (.long p3), .second, .val (.int v1), .val (.int v8), .val (.int v12), .val (.int v19), .val (.int v24), .val (.int v32), .val (.int v37), .val (.int v45), .val (.int z52), .val (.int z61), .val (.int z70), .val (.int z79), .val (.ref b84), .unset, .unset] [(.int z79), (.double v117), (.double v114), (.double v111), (.ref b105), (.ref b105)]))
  have d120 := DS.i2d z79
  refine Dn.st (fun _ kk => XS.i2dS X105.here hx rfl (hb hby at_120) rfl rfl (kk)) ?_
  show Dn p e below s _ _ _ (T105.setTop (mkF m 121 #[.val (.long p0), .second, .val (.long p1), .second, .val (.long p2), .second, .val (.long p3), .second, .val (.int v1), .val (.int v8), .val (.int v12), .val (.int v19), .val (.int v24), .val (.int v32), .val (.int v37), .val (.int v45), .val (.int z52), .val (.int z61), .val (.int z70), .val (.int z79), .val (.ref b84), .unset, .unset] [(.double (FP.i2d z79)), (.double v117), (.double v114), (.double v111), (.ref b105), (.ref b105)]))
  generalize hv120 : ((FP.i2d z79) : UInt64) = v120 at d120 ⊢
  show Dn p e below s _ _ _ (T105.setTop (mkF m 121 #[.val (.long p0), .second, .val (.long p1), .second, .val (.long p2), .second, .val (.long p3), .second, .val (.int v1), .val (.int v8), .val (.int v12), .val (.int v19), .val (.int v24), .val (.int v32), .val (.int v37), .val (.int v45), .val (.int z52), .val (.int z61), .val (.int z70), .val (.int z79), .val (.ref b84), .unset, .unset] [(.double v120), (.double v117), (.double v114), (.double v111), (.ref b105), (.ref b105)]))
  obtain ⟨_, _, ⟨T121, L121, k121, n121⟩, -, X121, ⟨Lc121, hQ121, l121, y121, z121⟩, st121⟩ := X105.specialBack hx (y := (⟨"com/example/vias_for_diagrams/viasfordiagrams/Rect", "<init>", "(DDDD)V"⟩ : MethodName)) rfl hown (mvT hZ (hw _ (List.mem_of_getElem? (i := 10) rfl))) (mvT hZ (hw _ (List.mem_of_getElem? (i := 11) rfl))) (mvT hZ (hw _ (List.mem_of_getElem? (i := 12) rfl))) (by decide) (backOf (W := 1) (rm3 l Z a0 hw [] b105 v111 v114 v117 v120  h105 n0 Z105 gn_b105 A105 F_b105_left F_b105_top F_b105_right F_b105_bottom ) hZ (hw _ (List.mem_of_getElem? (i := 12) rfl)) (hw _ (List.mem_of_getElem? (i := 9) rfl)) (by decide) (by decide)) (g := (mkF m 121 #[.val (.long p0), .second, .val (.long p1), .second, .val (.long p2), .second, .val (.long p3), .second, .val (.int v1), .val (.int v8), .val (.int v12), .val (.int v19), .val (.int v24), .val (.int v32), .val (.int v37), .val (.int v45), .val (.int z52), .val (.int z61), .val (.int z70), .val (.int z79), .val (.ref b84), .unset, .unset] [(.double v120), (.double v117), (.double v114), (.double v111), (.ref b105), (.ref b105)])) rfl (by rw [hml]; rfl) (Steps.refl _) (a := b105) (argsL := [(.double v111), (.double v114), (.double v117), (.double v120)]) (rest := [(.ref b105)]) (lenOf pd1 rfl) rfl (by show 2 * 0 + _ ≤ _; exact Nat.le_of_eq rfl) (hb hby at_121) (fun _ _ => ⟨rfl, e105, (by decide : 2 + 0 ≤ _), (by decide : 8 + 0 ≤ _)⟩)
  dsimp only [Pt.U, Pt.locs, Pt.cells, Pt.slots] at X121 l121 y121 z121 st121 hQ121
  subst l121 y121 z121
  obtain ⟨rfl, Nq121, K121, E_b105_121, F_b105_left_121, F_b105_top_121, F_b105_right_121, F_b105_bottom_121⟩ := hQ121
  have N121 := Fr.app N100 Nq121
  refine Dn.tr st121 ?_
  have E_b84_121 := E_b84_105.keep K121
  have F_b84_left_121 := F_b84_left_105.keep K121 (ninS ne_b84_b105 nin0)
  have F_b84_top_121 := F_b84_top_105.keep K121 (ninS ne_b84_b105 nin0)
  have F_b84_right_121 := F_b84_right_105.keep K121 (ninS ne_b84_b105 nin0)
  have F_b84_bottom_121 := F_b84_bottom_105.keep K121 (ninS ne_b84_b105 nin0)
  have Z121 : n0 ≤ T121.heap.size := Nat.le_trans Z105 K121.1
  show Dn p e below s _ _ _ (T121.setTop (mkF m 124 #[.val (.long p0), .second, .val (.long p1), .second, .val (.long p2), .second, .val (.long p3), .second, .val (.int v1), .val (.int v8), .val (.int v12), .val (.int v19), .val (.int v24), .val (.int v32), .val (.int v37), .val (.int v45), .val (.int z52), .val (.int z61), .val (.int z70), .val (.int z79), .val (.ref b84), .unset, .unset] [(.ref b105)]))
  refine Dn.st (fun _ kk => XS.astore X121.here hx rfl (hb hby at_124) rfl rfl (l' := #[.val (.long p0), .second, .val (.long p1), .second, .val (.long p2), .second, .val (.long p3), .second, .val (.int v1), .val (.int v8), .val (.int v12), .val (.int v19), .val (.int v24), .val (.int v32), .val (.int v37), .val (.int v45), .val (.int z52), .val (.int z61), .val (.int z70), .val (.int z79), .val (.ref b84), .val (.ref b105), .unset]) rfl (XS.iload X121.here hx rfl (hb hby at_126) rfl  (XS.iload X121.here hx rfl (hb hby at_128) rfl  (XS.iload X121.here hx rfl (hb hby at_130) rfl  (kk))))) ?_
  show Dn p e below s _ _ _ (T121.setTop (mkF m 132 #[.val (.long p0), .second, .val (.long p1), .second, .val (.long p2), .second, .val (.long p3), .second, .val (.int v1), .val (.int v8), .val (.int v12), .val (.int v19), .val (.int v24), .val (.int v32), .val (.int v37), .val (.int v45), .val (.int z52), .val (.int z61), .val (.int z70), .val (.int z79), .val (.ref b84), .val (.ref b105), .unset] [(.int v12), (.int v1), (.int z52)]))
  obtain ⟨_, _, ⟨T132, L132, k132, n132⟩, -, X132, ⟨Lc132, hQ132, l132, y132, z132⟩, st132⟩ := Jvm.LawKit.callS X121 hx (y := (⟨"com/example/vias_for_diagrams/viasfordiagrams/RectHoldsPinLaw", "between", "(III)Z"⟩ : MethodName)) hown (mvT hZ (hw _ (List.mem_of_getElem? (i := 24) rfl))) (mvT hZ (hw _ (List.mem_of_getElem? (i := 25) rfl))) (mvT hZ (hw _ (List.mem_of_getElem? (i := 26) rfl))) (mvT hZ (hw _ (List.mem_of_getElem? (i := 27) rfl))) (by decide) (backOf (W := 0) (rm5 l Z a0 hw [] z52 v1 v12  T121.heap n0 Z121 ) hZ (hw _ (List.mem_of_getElem? (i := 27) rfl)) (hw _ (List.mem_of_getElem? (i := 26) rfl)) (by decide) (by decide)) (g := (mkF m 132 #[.val (.long p0), .second, .val (.long p1), .second, .val (.long p2), .second, .val (.long p3), .second, .val (.int v1), .val (.int v8), .val (.int v12), .val (.int v19), .val (.int v24), .val (.int v32), .val (.int v37), .val (.int v45), .val (.int z52), .val (.int z61), .val (.int z70), .val (.int z79), .val (.ref b84), .val (.ref b105), .unset] [(.int v12), (.int v1), (.int z52)])) rfl (by rw [hml]; rfl) (argsL := [(.int z52), (.int v1), (.int v12)]) (rest := []) (lenOf pd2 rfl) rfl (by show 2 * 0 + _ ≤ _; exact Nat.le_of_eq rfl) (hb hby at_132) (fun _ _ => ⟨rfl, rfl, (by decide : 2 + 0 ≤ _), (by decide : 8 + 0 ≤ _)⟩)
  dsimp only [Pt.U, Pt.locs, Pt.cells, Pt.slots] at X132 l132 y132 z132 st132 hQ132
  subst l132 y132 z132
  obtain ⟨z132, rfl, hz132, Nq132, hh132⟩ := hQ132
  have N132 := Fr.app N121 Nq132
  refine Dn.st st132 ?_
  show Dn p e below s _ _ _ (T132.setTop (mkF m 135 #[.val (.long p0), .second, .val (.long p1), .second, .val (.long p2), .second, .val (.long p3), .second, .val (.int v1), .val (.int v8), .val (.int v12), .val (.int v19), .val (.int v24), .val (.int v32), .val (.int v37), .val (.int v45), .val (.int z52), .val (.int z61), .val (.int z70), .val (.int z79), .val (.ref b84), .val (.ref b105), .unset] [(.int z132)]))
  by_cases hc135 : z132 = (0 : Int32)
  · have hi135 : z132.toInt = 0 := congrArg Int32.toInt hc135
    refine Dn.st (fun _ kk => XS.ifYes X132.here hx rfl (pc0 := 135) (pc' := 178) rfl (hb hby at_135) rfl ((if0 _ _).trans (teq hc135).1) (by decide) (by decide) (XS.iconst X132.here hx rfl (hb hby at_178) (XS.istore X132.here hx rfl (hb hby at_179) rfl (l' := #[.val (.long p0), .second, .val (.long p1), .second, .val (.long p2), .second, .val (.long p3), .second, .val (.int v1), .val (.int v8), .val (.int v12), .val (.int v19), .val (.int v24), .val (.int v32), .val (.int v37), .val (.int v45), .val (.int z52), .val (.int z61), .val (.int z70), .val (.int z79), .val (.ref b84), .val (.ref b105), .val (.int (0 : Int32))]) rfl (XS.aload X132.here hx rfl (hb hby at_181) rfl rfl (XS.aload X132.here hx rfl (hb hby at_183) rfl rfl (kk)))))) ?_
    show Dn p e below s _ _ _ (T132.setTop (mkF m 185 #[.val (.long p0), .second, .val (.long p1), .second, .val (.long p2), .second, .val (.long p3), .second, .val (.int v1), .val (.int v8), .val (.int v12), .val (.int v19), .val (.int v24), .val (.int v32), .val (.int v37), .val (.int v45), .val (.int z52), .val (.int z61), .val (.int z70), .val (.int z79), .val (.ref b84), .val (.ref b105), .val (.int (0 : Int32))] [(.ref b105), (.ref b84)]))
    obtain ⟨cq185, kq185, q185a, q185b, q185c⟩ := isOf hZ hh132 E_b84_121
    obtain ⟨_, _, ⟨T185, L185, k185, n185⟩, -, X185, ⟨Lc185, hQ185, l185, y185, z185⟩, st185⟩ := X132.virtualBack hx (y := (⟨"com/example/vias_for_diagrams/viasfordiagrams/Rect", "holds", "(Lcom/example/vias_for_diagrams/viasfordiagrams/Rect;)Z"⟩ : MethodName)) (z := (⟨"com/example/vias_for_diagrams/viasfordiagrams/Rect", "holds", "(Lcom/example/vias_for_diagrams/viasfordiagrams/Rect;)Z"⟩ : MethodName)) hown (mvT hZ (hw _ (List.mem_of_getElem? (i := 28) rfl))) (mvT hZ (hw _ (List.mem_of_getElem? (i := 29) rfl))) (notFace_of_selects (args := #[]) (mvT hZ (hw _ (List.mem_of_getElem? (i := 31) rfl)))) (mvT hZ (hw _ (List.mem_of_getElem? (i := 31) rfl))) (mvT hZ (hw _ (List.mem_of_getElem? (i := 30) rfl))) (by decide) (backOf (W := 0) (rm6 l Z a0 hw [] b84 b105 v90 v93 v96 v99 v111 v114 v117 v120 v1.toInt v8.toInt v12.toInt v19.toInt z52.toInt z70.toInt z61.toInt z79.toInt T121.heap n0 Z121 F_b84_left_121 F_b84_top_121 F_b84_right_121 F_b84_bottom_121 F_b105_left_121 F_b105_top_121 F_b105_right_121 F_b105_bottom_121 d90 d93 d96 d99 d111 d114 d117 d120) hZ (hw _ (List.mem_of_getElem? (i := 32) rfl)) (hw _ (List.mem_of_getElem? (i := 9) rfl)) (by decide) (by decide)) q185a q185c (g := (mkF m 185 #[.val (.long p0), .second, .val (.long p1), .second, .val (.long p2), .second, .val (.long p3), .second, .val (.int v1), .val (.int v8), .val (.int v12), .val (.int v19), .val (.int v24), .val (.int v32), .val (.int v37), .val (.int v45), .val (.int z52), .val (.int z61), .val (.int z70), .val (.int z79), .val (.ref b84), .val (.ref b105), .val (.int (0 : Int32))] [(.ref b105), (.ref b84)])) rfl (by rw [hml]; rfl) (Steps.refl _) (argsL := [(.ref b105)]) (rest := []) (lenOf pd3 rfl) rfl (by show 2 * 0 + _ ≤ _; exact Nat.le_of_eq rfl) (hb hby at_185) (fun _ _ => ⟨rfl, hh132, (by decide : 2 + 0 ≤ _), (by decide : 8 + 0 ≤ _)⟩)
    dsimp only [Pt.U, Pt.locs, Pt.cells, Pt.slots] at X185 l185 y185 z185 st185 hQ185
    subst l185 y185 z185
    obtain ⟨z185, rfl, hz185, Nq185, hh185⟩ := hQ185
    have N185 := Fr.app N132 Nq185
    refine Dn.tr st185 ?_
    show Dn p e below s _ _ _ (T185.setTop (mkF m 188 #[.val (.long p0), .second, .val (.long p1), .second, .val (.long p2), .second, .val (.long p3), .second, .val (.int v1), .val (.int v8), .val (.int v12), .val (.int v19), .val (.int v24), .val (.int v32), .val (.int v37), .val (.int v45), .val (.int z52), .val (.int z61), .val (.int z70), .val (.int z79), .val (.ref b84), .val (.ref b105), .val (.int (0 : Int32))] [(.int z185)]))
    refine Dn.st (fun _ kk => XS.iload X185.here hx rfl (hb hby at_188) rfl  (kk)) ?_
    show Dn p e below s _ _ _ (T185.setTop (mkF m 190 #[.val (.long p0), .second, .val (.long p1), .second, .val (.long p2), .second, .val (.long p3), .second, .val (.int v1), .val (.int v8), .val (.int v12), .val (.int v19), .val (.int v24), .val (.int v32), .val (.int v37), .val (.int v45), .val (.int z52), .val (.int z61), .val (.int z70), .val (.int z79), .val (.ref b84), .val (.ref b105), .val (.int (0 : Int32))] [(.int (0 : Int32)), (.int z185)]))
    by_cases hc190 : z185 = (0 : Int32)
    · have hi190 : z185.toInt = 0 := congrArg Int32.toInt hc190
      refine Dn.st (fun _ kk => XS.icmpNo X185.here hx rfl (hb hby at_190) rfl (teq hc190).2 (XS.iconst X185.here hx rfl (hb hby at_193) (XS.goto X185.here hx rfl (pc0 := 194) (pc' := 198) rfl (hb hby at_194) (by decide) (by decide) (kk)))) ?_
      show Dn p e below s _ _ _ (T185.setTop (mkF m 198 #[.val (.long p0), .second, .val (.long p1), .second, .val (.long p2), .second, .val (.long p3), .second, .val (.int v1), .val (.int v8), .val (.int v12), .val (.int v19), .val (.int v24), .val (.int v32), .val (.int v37), .val (.int v45), .val (.int z52), .val (.int z61), .val (.int z70), .val (.int z79), .val (.ref b84), .val (.ref b105), .val (.int (0 : Int32))] [(.int (1 : Int32))]))
      exact Dn.ret X185 hlk hx hret rfl (Or.inl ⟨rfl, Or.inr (Or.inl rfl), _, rfl⟩) (hb hby at_198) (by rw [hh185]; exact ⟨rfl, N185⟩) (by decide) (by decide)
    · have hi190 : ¬ z185.toInt = 0 := fun qq => hc190 (Int32.toInt_inj.mp qq)
      refine Dn.st (fun _ kk => XS.icmpYes X185.here hx rfl (pc0 := 190) (pc' := 197) rfl (hb hby at_190) rfl (feq hc190).2 (by decide) (by decide) (kk)) ?_
      show Dn p e below s _ _ _ (T185.setTop (mkF m 197 #[.val (.long p0), .second, .val (.long p1), .second, .val (.long p2), .second, .val (.long p3), .second, .val (.int v1), .val (.int v8), .val (.int v12), .val (.int v19), .val (.int v24), .val (.int v32), .val (.int v37), .val (.int v45), .val (.int z52), .val (.int z61), .val (.int z70), .val (.int z79), .val (.ref b84), .val (.ref b105), .val (.int (0 : Int32))] []))
      exfalso
      simp only [← Int32.toInt_inj] at *
      have e0 : (0 : Int32).toInt = 0 := rfl
      have e1 : (1 : Int32).toInt = 1 := rfl
      omega
  · have hi135 : ¬ z132.toInt = 0 := fun qq => hc135 (Int32.toInt_inj.mp qq)
    refine Dn.st (fun _ kk => XS.ifNo X132.here hx rfl (hb hby at_135) rfl ((if0 _ _).trans (feq hc135).1) (XS.iload X132.here hx rfl (hb hby at_138) rfl  (XS.iload X132.here hx rfl (hb hby at_140) rfl  (XS.iload X132.here hx rfl (hb hby at_142) rfl  (kk))))) ?_
    show Dn p e below s _ _ _ (T132.setTop (mkF m 144 #[.val (.long p0), .second, .val (.long p1), .second, .val (.long p2), .second, .val (.long p3), .second, .val (.int v1), .val (.int v8), .val (.int v12), .val (.int v19), .val (.int v24), .val (.int v32), .val (.int v37), .val (.int v45), .val (.int z52), .val (.int z61), .val (.int z70), .val (.int z79), .val (.ref b84), .val (.ref b105), .unset] [(.int v12), (.int v1), (.int z61)]))
    obtain ⟨_, _, ⟨T144, L144, k144, n144⟩, -, X144, ⟨Lc144, hQ144, l144, y144, z144⟩, st144⟩ := Jvm.LawKit.callS X132 hx (y := (⟨"com/example/vias_for_diagrams/viasfordiagrams/RectHoldsPinLaw", "between", "(III)Z"⟩ : MethodName)) hown (mvT hZ (hw _ (List.mem_of_getElem? (i := 24) rfl))) (mvT hZ (hw _ (List.mem_of_getElem? (i := 25) rfl))) (mvT hZ (hw _ (List.mem_of_getElem? (i := 26) rfl))) (mvT hZ (hw _ (List.mem_of_getElem? (i := 27) rfl))) (by decide) (backOf (W := 0) (rm5 l Z a0 hw [] z61 v1 v12  T121.heap n0 Z121 ) hZ (hw _ (List.mem_of_getElem? (i := 27) rfl)) (hw _ (List.mem_of_getElem? (i := 26) rfl)) (by decide) (by decide)) (g := (mkF m 144 #[.val (.long p0), .second, .val (.long p1), .second, .val (.long p2), .second, .val (.long p3), .second, .val (.int v1), .val (.int v8), .val (.int v12), .val (.int v19), .val (.int v24), .val (.int v32), .val (.int v37), .val (.int v45), .val (.int z52), .val (.int z61), .val (.int z70), .val (.int z79), .val (.ref b84), .val (.ref b105), .unset] [(.int v12), (.int v1), (.int z61)])) rfl (by rw [hml]; rfl) (argsL := [(.int z61), (.int v1), (.int v12)]) (rest := []) (lenOf pd2 rfl) rfl (by show 2 * 0 + _ ≤ _; exact Nat.le_of_eq rfl) (hb hby at_144) (fun _ _ => ⟨rfl, hh132, (by decide : 2 + 0 ≤ _), (by decide : 8 + 0 ≤ _)⟩)
    dsimp only [Pt.U, Pt.locs, Pt.cells, Pt.slots] at X144 l144 y144 z144 st144 hQ144
    subst l144 y144 z144
    obtain ⟨z144, rfl, hz144, Nq144, hh144⟩ := hQ144
    have N144 := Fr.app N132 Nq144
    refine Dn.st st144 ?_
    show Dn p e below s _ _ _ (T144.setTop (mkF m 147 #[.val (.long p0), .second, .val (.long p1), .second, .val (.long p2), .second, .val (.long p3), .second, .val (.int v1), .val (.int v8), .val (.int v12), .val (.int v19), .val (.int v24), .val (.int v32), .val (.int v37), .val (.int v45), .val (.int z52), .val (.int z61), .val (.int z70), .val (.int z79), .val (.ref b84), .val (.ref b105), .unset] [(.int z144)]))
    by_cases hc147 : z144 = (0 : Int32)
    · have hi147 : z144.toInt = 0 := congrArg Int32.toInt hc147
      refine Dn.st (fun _ kk => XS.ifYes X144.here hx rfl (pc0 := 147) (pc' := 178) rfl (hb hby at_147) rfl ((if0 _ _).trans (teq hc147).1) (by decide) (by decide) (XS.iconst X144.here hx rfl (hb hby at_178) (XS.istore X144.here hx rfl (hb hby at_179) rfl (l' := #[.val (.long p0), .second, .val (.long p1), .second, .val (.long p2), .second, .val (.long p3), .second, .val (.int v1), .val (.int v8), .val (.int v12), .val (.int v19), .val (.int v24), .val (.int v32), .val (.int v37), .val (.int v45), .val (.int z52), .val (.int z61), .val (.int z70), .val (.int z79), .val (.ref b84), .val (.ref b105), .val (.int (0 : Int32))]) rfl (XS.aload X144.here hx rfl (hb hby at_181) rfl rfl (XS.aload X144.here hx rfl (hb hby at_183) rfl rfl (kk)))))) ?_
      show Dn p e below s _ _ _ (T144.setTop (mkF m 185 #[.val (.long p0), .second, .val (.long p1), .second, .val (.long p2), .second, .val (.long p3), .second, .val (.int v1), .val (.int v8), .val (.int v12), .val (.int v19), .val (.int v24), .val (.int v32), .val (.int v37), .val (.int v45), .val (.int z52), .val (.int z61), .val (.int z70), .val (.int z79), .val (.ref b84), .val (.ref b105), .val (.int (0 : Int32))] [(.ref b105), (.ref b84)]))
      obtain ⟨cq185, kq185, q185a, q185b, q185c⟩ := isOf hZ hh144 E_b84_121
      obtain ⟨_, _, ⟨T185, L185, k185, n185⟩, -, X185, ⟨Lc185, hQ185, l185, y185, z185⟩, st185⟩ := X144.virtualBack hx (y := (⟨"com/example/vias_for_diagrams/viasfordiagrams/Rect", "holds", "(Lcom/example/vias_for_diagrams/viasfordiagrams/Rect;)Z"⟩ : MethodName)) (z := (⟨"com/example/vias_for_diagrams/viasfordiagrams/Rect", "holds", "(Lcom/example/vias_for_diagrams/viasfordiagrams/Rect;)Z"⟩ : MethodName)) hown (mvT hZ (hw _ (List.mem_of_getElem? (i := 28) rfl))) (mvT hZ (hw _ (List.mem_of_getElem? (i := 29) rfl))) (notFace_of_selects (args := #[]) (mvT hZ (hw _ (List.mem_of_getElem? (i := 31) rfl)))) (mvT hZ (hw _ (List.mem_of_getElem? (i := 31) rfl))) (mvT hZ (hw _ (List.mem_of_getElem? (i := 30) rfl))) (by decide) (backOf (W := 0) (rm6 l Z a0 hw [] b84 b105 v90 v93 v96 v99 v111 v114 v117 v120 v1.toInt v8.toInt v12.toInt v19.toInt z52.toInt z70.toInt z61.toInt z79.toInt T121.heap n0 Z121 F_b84_left_121 F_b84_top_121 F_b84_right_121 F_b84_bottom_121 F_b105_left_121 F_b105_top_121 F_b105_right_121 F_b105_bottom_121 d90 d93 d96 d99 d111 d114 d117 d120) hZ (hw _ (List.mem_of_getElem? (i := 32) rfl)) (hw _ (List.mem_of_getElem? (i := 9) rfl)) (by decide) (by decide)) q185a q185c (g := (mkF m 185 #[.val (.long p0), .second, .val (.long p1), .second, .val (.long p2), .second, .val (.long p3), .second, .val (.int v1), .val (.int v8), .val (.int v12), .val (.int v19), .val (.int v24), .val (.int v32), .val (.int v37), .val (.int v45), .val (.int z52), .val (.int z61), .val (.int z70), .val (.int z79), .val (.ref b84), .val (.ref b105), .val (.int (0 : Int32))] [(.ref b105), (.ref b84)])) rfl (by rw [hml]; rfl) (Steps.refl _) (argsL := [(.ref b105)]) (rest := []) (lenOf pd3 rfl) rfl (by show 2 * 0 + _ ≤ _; exact Nat.le_of_eq rfl) (hb hby at_185) (fun _ _ => ⟨rfl, hh144, (by decide : 2 + 0 ≤ _), (by decide : 8 + 0 ≤ _)⟩)
      dsimp only [Pt.U, Pt.locs, Pt.cells, Pt.slots] at X185 l185 y185 z185 st185 hQ185
      subst l185 y185 z185
      obtain ⟨z185, rfl, hz185, Nq185, hh185⟩ := hQ185
      have N185 := Fr.app N144 Nq185
      refine Dn.tr st185 ?_
      show Dn p e below s _ _ _ (T185.setTop (mkF m 188 #[.val (.long p0), .second, .val (.long p1), .second, .val (.long p2), .second, .val (.long p3), .second, .val (.int v1), .val (.int v8), .val (.int v12), .val (.int v19), .val (.int v24), .val (.int v32), .val (.int v37), .val (.int v45), .val (.int z52), .val (.int z61), .val (.int z70), .val (.int z79), .val (.ref b84), .val (.ref b105), .val (.int (0 : Int32))] [(.int z185)]))
      refine Dn.st (fun _ kk => XS.iload X185.here hx rfl (hb hby at_188) rfl  (kk)) ?_
      show Dn p e below s _ _ _ (T185.setTop (mkF m 190 #[.val (.long p0), .second, .val (.long p1), .second, .val (.long p2), .second, .val (.long p3), .second, .val (.int v1), .val (.int v8), .val (.int v12), .val (.int v19), .val (.int v24), .val (.int v32), .val (.int v37), .val (.int v45), .val (.int z52), .val (.int z61), .val (.int z70), .val (.int z79), .val (.ref b84), .val (.ref b105), .val (.int (0 : Int32))] [(.int (0 : Int32)), (.int z185)]))
      by_cases hc190 : z185 = (0 : Int32)
      · have hi190 : z185.toInt = 0 := congrArg Int32.toInt hc190
        refine Dn.st (fun _ kk => XS.icmpNo X185.here hx rfl (hb hby at_190) rfl (teq hc190).2 (XS.iconst X185.here hx rfl (hb hby at_193) (XS.goto X185.here hx rfl (pc0 := 194) (pc' := 198) rfl (hb hby at_194) (by decide) (by decide) (kk)))) ?_
        show Dn p e below s _ _ _ (T185.setTop (mkF m 198 #[.val (.long p0), .second, .val (.long p1), .second, .val (.long p2), .second, .val (.long p3), .second, .val (.int v1), .val (.int v8), .val (.int v12), .val (.int v19), .val (.int v24), .val (.int v32), .val (.int v37), .val (.int v45), .val (.int z52), .val (.int z61), .val (.int z70), .val (.int z79), .val (.ref b84), .val (.ref b105), .val (.int (0 : Int32))] [(.int (1 : Int32))]))
        exact Dn.ret X185 hlk hx hret rfl (Or.inl ⟨rfl, Or.inr (Or.inl rfl), _, rfl⟩) (hb hby at_198) (by rw [hh185]; exact ⟨rfl, N185⟩) (by decide) (by decide)
      · have hi190 : ¬ z185.toInt = 0 := fun qq => hc190 (Int32.toInt_inj.mp qq)
        refine Dn.st (fun _ kk => XS.icmpYes X185.here hx rfl (pc0 := 190) (pc' := 197) rfl (hb hby at_190) rfl (feq hc190).2 (by decide) (by decide) (kk)) ?_
        show Dn p e below s _ _ _ (T185.setTop (mkF m 197 #[.val (.long p0), .second, .val (.long p1), .second, .val (.long p2), .second, .val (.long p3), .second, .val (.int v1), .val (.int v8), .val (.int v12), .val (.int v19), .val (.int v24), .val (.int v32), .val (.int v37), .val (.int v45), .val (.int z52), .val (.int z61), .val (.int z70), .val (.int z79), .val (.ref b84), .val (.ref b105), .val (.int (0 : Int32))] []))
        exfalso
        simp only [← Int32.toInt_inj] at *
        have e0 : (0 : Int32).toInt = 0 := rfl
        have e1 : (1 : Int32).toInt = 1 := rfl
        omega
    · have hi147 : ¬ z144.toInt = 0 := fun qq => hc147 (Int32.toInt_inj.mp qq)
      refine Dn.st (fun _ kk => XS.ifNo X144.here hx rfl (hb hby at_147) rfl ((if0 _ _).trans (feq hc147).1) (XS.iload X144.here hx rfl (hb hby at_150) rfl  (XS.iload X144.here hx rfl (hb hby at_152) rfl  (XS.iload X144.here hx rfl (hb hby at_154) rfl  (kk))))) ?_
      show Dn p e below s _ _ _ (T144.setTop (mkF m 156 #[.val (.long p0), .second, .val (.long p1), .second, .val (.long p2), .second, .val (.long p3), .second, .val (.int v1), .val (.int v8), .val (.int v12), .val (.int v19), .val (.int v24), .val (.int v32), .val (.int v37), .val (.int v45), .val (.int z52), .val (.int z61), .val (.int z70), .val (.int z79), .val (.ref b84), .val (.ref b105), .unset] [(.int v19), (.int v8), (.int z70)]))
      obtain ⟨_, _, ⟨T156, L156, k156, n156⟩, -, X156, ⟨Lc156, hQ156, l156, y156, z156⟩, st156⟩ := Jvm.LawKit.callS X144 hx (y := (⟨"com/example/vias_for_diagrams/viasfordiagrams/RectHoldsPinLaw", "between", "(III)Z"⟩ : MethodName)) hown (mvT hZ (hw _ (List.mem_of_getElem? (i := 24) rfl))) (mvT hZ (hw _ (List.mem_of_getElem? (i := 25) rfl))) (mvT hZ (hw _ (List.mem_of_getElem? (i := 26) rfl))) (mvT hZ (hw _ (List.mem_of_getElem? (i := 27) rfl))) (by decide) (backOf (W := 0) (rm5 l Z a0 hw [] z70 v8 v19  T121.heap n0 Z121 ) hZ (hw _ (List.mem_of_getElem? (i := 27) rfl)) (hw _ (List.mem_of_getElem? (i := 26) rfl)) (by decide) (by decide)) (g := (mkF m 156 #[.val (.long p0), .second, .val (.long p1), .second, .val (.long p2), .second, .val (.long p3), .second, .val (.int v1), .val (.int v8), .val (.int v12), .val (.int v19), .val (.int v24), .val (.int v32), .val (.int v37), .val (.int v45), .val (.int z52), .val (.int z61), .val (.int z70), .val (.int z79), .val (.ref b84), .val (.ref b105), .unset] [(.int v19), (.int v8), (.int z70)])) rfl (by rw [hml]; rfl) (argsL := [(.int z70), (.int v8), (.int v19)]) (rest := []) (lenOf pd2 rfl) rfl (by show 2 * 0 + _ ≤ _; exact Nat.le_of_eq rfl) (hb hby at_156) (fun _ _ => ⟨rfl, hh144, (by decide : 2 + 0 ≤ _), (by decide : 8 + 0 ≤ _)⟩)
      dsimp only [Pt.U, Pt.locs, Pt.cells, Pt.slots] at X156 l156 y156 z156 st156 hQ156
      subst l156 y156 z156
      obtain ⟨z156, rfl, hz156, Nq156, hh156⟩ := hQ156
      have N156 := Fr.app N144 Nq156
      refine Dn.st st156 ?_
      show Dn p e below s _ _ _ (T156.setTop (mkF m 159 #[.val (.long p0), .second, .val (.long p1), .second, .val (.long p2), .second, .val (.long p3), .second, .val (.int v1), .val (.int v8), .val (.int v12), .val (.int v19), .val (.int v24), .val (.int v32), .val (.int v37), .val (.int v45), .val (.int z52), .val (.int z61), .val (.int z70), .val (.int z79), .val (.ref b84), .val (.ref b105), .unset] [(.int z156)]))
      by_cases hc159 : z156 = (0 : Int32)
      · have hi159 : z156.toInt = 0 := congrArg Int32.toInt hc159
        refine Dn.st (fun _ kk => XS.ifYes X156.here hx rfl (pc0 := 159) (pc' := 178) rfl (hb hby at_159) rfl ((if0 _ _).trans (teq hc159).1) (by decide) (by decide) (XS.iconst X156.here hx rfl (hb hby at_178) (XS.istore X156.here hx rfl (hb hby at_179) rfl (l' := #[.val (.long p0), .second, .val (.long p1), .second, .val (.long p2), .second, .val (.long p3), .second, .val (.int v1), .val (.int v8), .val (.int v12), .val (.int v19), .val (.int v24), .val (.int v32), .val (.int v37), .val (.int v45), .val (.int z52), .val (.int z61), .val (.int z70), .val (.int z79), .val (.ref b84), .val (.ref b105), .val (.int (0 : Int32))]) rfl (XS.aload X156.here hx rfl (hb hby at_181) rfl rfl (XS.aload X156.here hx rfl (hb hby at_183) rfl rfl (kk)))))) ?_
        show Dn p e below s _ _ _ (T156.setTop (mkF m 185 #[.val (.long p0), .second, .val (.long p1), .second, .val (.long p2), .second, .val (.long p3), .second, .val (.int v1), .val (.int v8), .val (.int v12), .val (.int v19), .val (.int v24), .val (.int v32), .val (.int v37), .val (.int v45), .val (.int z52), .val (.int z61), .val (.int z70), .val (.int z79), .val (.ref b84), .val (.ref b105), .val (.int (0 : Int32))] [(.ref b105), (.ref b84)]))
        obtain ⟨cq185, kq185, q185a, q185b, q185c⟩ := isOf hZ hh156 E_b84_121
        obtain ⟨_, _, ⟨T185, L185, k185, n185⟩, -, X185, ⟨Lc185, hQ185, l185, y185, z185⟩, st185⟩ := X156.virtualBack hx (y := (⟨"com/example/vias_for_diagrams/viasfordiagrams/Rect", "holds", "(Lcom/example/vias_for_diagrams/viasfordiagrams/Rect;)Z"⟩ : MethodName)) (z := (⟨"com/example/vias_for_diagrams/viasfordiagrams/Rect", "holds", "(Lcom/example/vias_for_diagrams/viasfordiagrams/Rect;)Z"⟩ : MethodName)) hown (mvT hZ (hw _ (List.mem_of_getElem? (i := 28) rfl))) (mvT hZ (hw _ (List.mem_of_getElem? (i := 29) rfl))) (notFace_of_selects (args := #[]) (mvT hZ (hw _ (List.mem_of_getElem? (i := 31) rfl)))) (mvT hZ (hw _ (List.mem_of_getElem? (i := 31) rfl))) (mvT hZ (hw _ (List.mem_of_getElem? (i := 30) rfl))) (by decide) (backOf (W := 0) (rm6 l Z a0 hw [] b84 b105 v90 v93 v96 v99 v111 v114 v117 v120 v1.toInt v8.toInt v12.toInt v19.toInt z52.toInt z70.toInt z61.toInt z79.toInt T121.heap n0 Z121 F_b84_left_121 F_b84_top_121 F_b84_right_121 F_b84_bottom_121 F_b105_left_121 F_b105_top_121 F_b105_right_121 F_b105_bottom_121 d90 d93 d96 d99 d111 d114 d117 d120) hZ (hw _ (List.mem_of_getElem? (i := 32) rfl)) (hw _ (List.mem_of_getElem? (i := 9) rfl)) (by decide) (by decide)) q185a q185c (g := (mkF m 185 #[.val (.long p0), .second, .val (.long p1), .second, .val (.long p2), .second, .val (.long p3), .second, .val (.int v1), .val (.int v8), .val (.int v12), .val (.int v19), .val (.int v24), .val (.int v32), .val (.int v37), .val (.int v45), .val (.int z52), .val (.int z61), .val (.int z70), .val (.int z79), .val (.ref b84), .val (.ref b105), .val (.int (0 : Int32))] [(.ref b105), (.ref b84)])) rfl (by rw [hml]; rfl) (Steps.refl _) (argsL := [(.ref b105)]) (rest := []) (lenOf pd3 rfl) rfl (by show 2 * 0 + _ ≤ _; exact Nat.le_of_eq rfl) (hb hby at_185) (fun _ _ => ⟨rfl, hh156, (by decide : 2 + 0 ≤ _), (by decide : 8 + 0 ≤ _)⟩)
        dsimp only [Pt.U, Pt.locs, Pt.cells, Pt.slots] at X185 l185 y185 z185 st185 hQ185
        subst l185 y185 z185
        obtain ⟨z185, rfl, hz185, Nq185, hh185⟩ := hQ185
        have N185 := Fr.app N156 Nq185
        refine Dn.tr st185 ?_
        show Dn p e below s _ _ _ (T185.setTop (mkF m 188 #[.val (.long p0), .second, .val (.long p1), .second, .val (.long p2), .second, .val (.long p3), .second, .val (.int v1), .val (.int v8), .val (.int v12), .val (.int v19), .val (.int v24), .val (.int v32), .val (.int v37), .val (.int v45), .val (.int z52), .val (.int z61), .val (.int z70), .val (.int z79), .val (.ref b84), .val (.ref b105), .val (.int (0 : Int32))] [(.int z185)]))
        refine Dn.st (fun _ kk => XS.iload X185.here hx rfl (hb hby at_188) rfl  (kk)) ?_
        show Dn p e below s _ _ _ (T185.setTop (mkF m 190 #[.val (.long p0), .second, .val (.long p1), .second, .val (.long p2), .second, .val (.long p3), .second, .val (.int v1), .val (.int v8), .val (.int v12), .val (.int v19), .val (.int v24), .val (.int v32), .val (.int v37), .val (.int v45), .val (.int z52), .val (.int z61), .val (.int z70), .val (.int z79), .val (.ref b84), .val (.ref b105), .val (.int (0 : Int32))] [(.int (0 : Int32)), (.int z185)]))
        by_cases hc190 : z185 = (0 : Int32)
        · have hi190 : z185.toInt = 0 := congrArg Int32.toInt hc190
          refine Dn.st (fun _ kk => XS.icmpNo X185.here hx rfl (hb hby at_190) rfl (teq hc190).2 (XS.iconst X185.here hx rfl (hb hby at_193) (XS.goto X185.here hx rfl (pc0 := 194) (pc' := 198) rfl (hb hby at_194) (by decide) (by decide) (kk)))) ?_
          show Dn p e below s _ _ _ (T185.setTop (mkF m 198 #[.val (.long p0), .second, .val (.long p1), .second, .val (.long p2), .second, .val (.long p3), .second, .val (.int v1), .val (.int v8), .val (.int v12), .val (.int v19), .val (.int v24), .val (.int v32), .val (.int v37), .val (.int v45), .val (.int z52), .val (.int z61), .val (.int z70), .val (.int z79), .val (.ref b84), .val (.ref b105), .val (.int (0 : Int32))] [(.int (1 : Int32))]))
          exact Dn.ret X185 hlk hx hret rfl (Or.inl ⟨rfl, Or.inr (Or.inl rfl), _, rfl⟩) (hb hby at_198) (by rw [hh185]; exact ⟨rfl, N185⟩) (by decide) (by decide)
        · have hi190 : ¬ z185.toInt = 0 := fun qq => hc190 (Int32.toInt_inj.mp qq)
          refine Dn.st (fun _ kk => XS.icmpYes X185.here hx rfl (pc0 := 190) (pc' := 197) rfl (hb hby at_190) rfl (feq hc190).2 (by decide) (by decide) (kk)) ?_
          show Dn p e below s _ _ _ (T185.setTop (mkF m 197 #[.val (.long p0), .second, .val (.long p1), .second, .val (.long p2), .second, .val (.long p3), .second, .val (.int v1), .val (.int v8), .val (.int v12), .val (.int v19), .val (.int v24), .val (.int v32), .val (.int v37), .val (.int v45), .val (.int z52), .val (.int z61), .val (.int z70), .val (.int z79), .val (.ref b84), .val (.ref b105), .val (.int (0 : Int32))] []))
          exfalso
          simp only [← Int32.toInt_inj] at *
          have e0 : (0 : Int32).toInt = 0 := rfl
          have e1 : (1 : Int32).toInt = 1 := rfl
          omega
      · have hi159 : ¬ z156.toInt = 0 := fun qq => hc159 (Int32.toInt_inj.mp qq)
        refine Dn.st (fun _ kk => XS.ifNo X156.here hx rfl (hb hby at_159) rfl ((if0 _ _).trans (feq hc159).1) (XS.iload X156.here hx rfl (hb hby at_162) rfl  (XS.iload X156.here hx rfl (hb hby at_164) rfl  (XS.iload X156.here hx rfl (hb hby at_166) rfl  (kk))))) ?_
        show Dn p e below s _ _ _ (T156.setTop (mkF m 168 #[.val (.long p0), .second, .val (.long p1), .second, .val (.long p2), .second, .val (.long p3), .second, .val (.int v1), .val (.int v8), .val (.int v12), .val (.int v19), .val (.int v24), .val (.int v32), .val (.int v37), .val (.int v45), .val (.int z52), .val (.int z61), .val (.int z70), .val (.int z79), .val (.ref b84), .val (.ref b105), .unset] [(.int v19), (.int v8), (.int z79)]))
        obtain ⟨_, _, ⟨T168, L168, k168, n168⟩, -, X168, ⟨Lc168, hQ168, l168, y168, z168⟩, st168⟩ := Jvm.LawKit.callS X156 hx (y := (⟨"com/example/vias_for_diagrams/viasfordiagrams/RectHoldsPinLaw", "between", "(III)Z"⟩ : MethodName)) hown (mvT hZ (hw _ (List.mem_of_getElem? (i := 24) rfl))) (mvT hZ (hw _ (List.mem_of_getElem? (i := 25) rfl))) (mvT hZ (hw _ (List.mem_of_getElem? (i := 26) rfl))) (mvT hZ (hw _ (List.mem_of_getElem? (i := 27) rfl))) (by decide) (backOf (W := 0) (rm5 l Z a0 hw [] z79 v8 v19  T121.heap n0 Z121 ) hZ (hw _ (List.mem_of_getElem? (i := 27) rfl)) (hw _ (List.mem_of_getElem? (i := 26) rfl)) (by decide) (by decide)) (g := (mkF m 168 #[.val (.long p0), .second, .val (.long p1), .second, .val (.long p2), .second, .val (.long p3), .second, .val (.int v1), .val (.int v8), .val (.int v12), .val (.int v19), .val (.int v24), .val (.int v32), .val (.int v37), .val (.int v45), .val (.int z52), .val (.int z61), .val (.int z70), .val (.int z79), .val (.ref b84), .val (.ref b105), .unset] [(.int v19), (.int v8), (.int z79)])) rfl (by rw [hml]; rfl) (argsL := [(.int z79), (.int v8), (.int v19)]) (rest := []) (lenOf pd2 rfl) rfl (by show 2 * 0 + _ ≤ _; exact Nat.le_of_eq rfl) (hb hby at_168) (fun _ _ => ⟨rfl, hh156, (by decide : 2 + 0 ≤ _), (by decide : 8 + 0 ≤ _)⟩)
        dsimp only [Pt.U, Pt.locs, Pt.cells, Pt.slots] at X168 l168 y168 z168 st168 hQ168
        subst l168 y168 z168
        obtain ⟨z168, rfl, hz168, Nq168, hh168⟩ := hQ168
        have N168 := Fr.app N156 Nq168
        refine Dn.st st168 ?_
        show Dn p e below s _ _ _ (T168.setTop (mkF m 171 #[.val (.long p0), .second, .val (.long p1), .second, .val (.long p2), .second, .val (.long p3), .second, .val (.int v1), .val (.int v8), .val (.int v12), .val (.int v19), .val (.int v24), .val (.int v32), .val (.int v37), .val (.int v45), .val (.int z52), .val (.int z61), .val (.int z70), .val (.int z79), .val (.ref b84), .val (.ref b105), .unset] [(.int z168)]))
        by_cases hc171 : z168 = (0 : Int32)
        · have hi171 : z168.toInt = 0 := congrArg Int32.toInt hc171
          refine Dn.st (fun _ kk => XS.ifYes X168.here hx rfl (pc0 := 171) (pc' := 178) rfl (hb hby at_171) rfl ((if0 _ _).trans (teq hc171).1) (by decide) (by decide) (XS.iconst X168.here hx rfl (hb hby at_178) (XS.istore X168.here hx rfl (hb hby at_179) rfl (l' := #[.val (.long p0), .second, .val (.long p1), .second, .val (.long p2), .second, .val (.long p3), .second, .val (.int v1), .val (.int v8), .val (.int v12), .val (.int v19), .val (.int v24), .val (.int v32), .val (.int v37), .val (.int v45), .val (.int z52), .val (.int z61), .val (.int z70), .val (.int z79), .val (.ref b84), .val (.ref b105), .val (.int (0 : Int32))]) rfl (XS.aload X168.here hx rfl (hb hby at_181) rfl rfl (XS.aload X168.here hx rfl (hb hby at_183) rfl rfl (kk)))))) ?_
          show Dn p e below s _ _ _ (T168.setTop (mkF m 185 #[.val (.long p0), .second, .val (.long p1), .second, .val (.long p2), .second, .val (.long p3), .second, .val (.int v1), .val (.int v8), .val (.int v12), .val (.int v19), .val (.int v24), .val (.int v32), .val (.int v37), .val (.int v45), .val (.int z52), .val (.int z61), .val (.int z70), .val (.int z79), .val (.ref b84), .val (.ref b105), .val (.int (0 : Int32))] [(.ref b105), (.ref b84)]))
          obtain ⟨cq185, kq185, q185a, q185b, q185c⟩ := isOf hZ hh168 E_b84_121
          obtain ⟨_, _, ⟨T185, L185, k185, n185⟩, -, X185, ⟨Lc185, hQ185, l185, y185, z185⟩, st185⟩ := X168.virtualBack hx (y := (⟨"com/example/vias_for_diagrams/viasfordiagrams/Rect", "holds", "(Lcom/example/vias_for_diagrams/viasfordiagrams/Rect;)Z"⟩ : MethodName)) (z := (⟨"com/example/vias_for_diagrams/viasfordiagrams/Rect", "holds", "(Lcom/example/vias_for_diagrams/viasfordiagrams/Rect;)Z"⟩ : MethodName)) hown (mvT hZ (hw _ (List.mem_of_getElem? (i := 28) rfl))) (mvT hZ (hw _ (List.mem_of_getElem? (i := 29) rfl))) (notFace_of_selects (args := #[]) (mvT hZ (hw _ (List.mem_of_getElem? (i := 31) rfl)))) (mvT hZ (hw _ (List.mem_of_getElem? (i := 31) rfl))) (mvT hZ (hw _ (List.mem_of_getElem? (i := 30) rfl))) (by decide) (backOf (W := 0) (rm6 l Z a0 hw [] b84 b105 v90 v93 v96 v99 v111 v114 v117 v120 v1.toInt v8.toInt v12.toInt v19.toInt z52.toInt z70.toInt z61.toInt z79.toInt T121.heap n0 Z121 F_b84_left_121 F_b84_top_121 F_b84_right_121 F_b84_bottom_121 F_b105_left_121 F_b105_top_121 F_b105_right_121 F_b105_bottom_121 d90 d93 d96 d99 d111 d114 d117 d120) hZ (hw _ (List.mem_of_getElem? (i := 32) rfl)) (hw _ (List.mem_of_getElem? (i := 9) rfl)) (by decide) (by decide)) q185a q185c (g := (mkF m 185 #[.val (.long p0), .second, .val (.long p1), .second, .val (.long p2), .second, .val (.long p3), .second, .val (.int v1), .val (.int v8), .val (.int v12), .val (.int v19), .val (.int v24), .val (.int v32), .val (.int v37), .val (.int v45), .val (.int z52), .val (.int z61), .val (.int z70), .val (.int z79), .val (.ref b84), .val (.ref b105), .val (.int (0 : Int32))] [(.ref b105), (.ref b84)])) rfl (by rw [hml]; rfl) (Steps.refl _) (argsL := [(.ref b105)]) (rest := []) (lenOf pd3 rfl) rfl (by show 2 * 0 + _ ≤ _; exact Nat.le_of_eq rfl) (hb hby at_185) (fun _ _ => ⟨rfl, hh168, (by decide : 2 + 0 ≤ _), (by decide : 8 + 0 ≤ _)⟩)
          dsimp only [Pt.U, Pt.locs, Pt.cells, Pt.slots] at X185 l185 y185 z185 st185 hQ185
          subst l185 y185 z185
          obtain ⟨z185, rfl, hz185, Nq185, hh185⟩ := hQ185
          have N185 := Fr.app N168 Nq185
          refine Dn.tr st185 ?_
          show Dn p e below s _ _ _ (T185.setTop (mkF m 188 #[.val (.long p0), .second, .val (.long p1), .second, .val (.long p2), .second, .val (.long p3), .second, .val (.int v1), .val (.int v8), .val (.int v12), .val (.int v19), .val (.int v24), .val (.int v32), .val (.int v37), .val (.int v45), .val (.int z52), .val (.int z61), .val (.int z70), .val (.int z79), .val (.ref b84), .val (.ref b105), .val (.int (0 : Int32))] [(.int z185)]))
          refine Dn.st (fun _ kk => XS.iload X185.here hx rfl (hb hby at_188) rfl  (kk)) ?_
          show Dn p e below s _ _ _ (T185.setTop (mkF m 190 #[.val (.long p0), .second, .val (.long p1), .second, .val (.long p2), .second, .val (.long p3), .second, .val (.int v1), .val (.int v8), .val (.int v12), .val (.int v19), .val (.int v24), .val (.int v32), .val (.int v37), .val (.int v45), .val (.int z52), .val (.int z61), .val (.int z70), .val (.int z79), .val (.ref b84), .val (.ref b105), .val (.int (0 : Int32))] [(.int (0 : Int32)), (.int z185)]))
          by_cases hc190 : z185 = (0 : Int32)
          · have hi190 : z185.toInt = 0 := congrArg Int32.toInt hc190
            refine Dn.st (fun _ kk => XS.icmpNo X185.here hx rfl (hb hby at_190) rfl (teq hc190).2 (XS.iconst X185.here hx rfl (hb hby at_193) (XS.goto X185.here hx rfl (pc0 := 194) (pc' := 198) rfl (hb hby at_194) (by decide) (by decide) (kk)))) ?_
            show Dn p e below s _ _ _ (T185.setTop (mkF m 198 #[.val (.long p0), .second, .val (.long p1), .second, .val (.long p2), .second, .val (.long p3), .second, .val (.int v1), .val (.int v8), .val (.int v12), .val (.int v19), .val (.int v24), .val (.int v32), .val (.int v37), .val (.int v45), .val (.int z52), .val (.int z61), .val (.int z70), .val (.int z79), .val (.ref b84), .val (.ref b105), .val (.int (0 : Int32))] [(.int (1 : Int32))]))
            exact Dn.ret X185 hlk hx hret rfl (Or.inl ⟨rfl, Or.inr (Or.inl rfl), _, rfl⟩) (hb hby at_198) (by rw [hh185]; exact ⟨rfl, N185⟩) (by decide) (by decide)
          · have hi190 : ¬ z185.toInt = 0 := fun qq => hc190 (Int32.toInt_inj.mp qq)
            refine Dn.st (fun _ kk => XS.icmpYes X185.here hx rfl (pc0 := 190) (pc' := 197) rfl (hb hby at_190) rfl (feq hc190).2 (by decide) (by decide) (kk)) ?_
            show Dn p e below s _ _ _ (T185.setTop (mkF m 197 #[.val (.long p0), .second, .val (.long p1), .second, .val (.long p2), .second, .val (.long p3), .second, .val (.int v1), .val (.int v8), .val (.int v12), .val (.int v19), .val (.int v24), .val (.int v32), .val (.int v37), .val (.int v45), .val (.int z52), .val (.int z61), .val (.int z70), .val (.int z79), .val (.ref b84), .val (.ref b105), .val (.int (0 : Int32))] []))
            exfalso
            simp only [← Int32.toInt_inj] at *
            have e0 : (0 : Int32).toInt = 0 := rfl
            have e1 : (1 : Int32).toInt = 1 := rfl
            omega
        · have hi171 : ¬ z168.toInt = 0 := fun qq => hc171 (Int32.toInt_inj.mp qq)
          refine Dn.st (fun _ kk => XS.ifNo X168.here hx rfl (hb hby at_171) rfl ((if0 _ _).trans (feq hc171).1) (XS.iconst X168.here hx rfl (hb hby at_174) (XS.goto X168.here hx rfl (pc0 := 175) (pc' := 179) rfl (hb hby at_175) (by decide) (by decide) (XS.istore X168.here hx rfl (hb hby at_179) rfl (l' := #[.val (.long p0), .second, .val (.long p1), .second, .val (.long p2), .second, .val (.long p3), .second, .val (.int v1), .val (.int v8), .val (.int v12), .val (.int v19), .val (.int v24), .val (.int v32), .val (.int v37), .val (.int v45), .val (.int z52), .val (.int z61), .val (.int z70), .val (.int z79), .val (.ref b84), .val (.ref b105), .val (.int (1 : Int32))]) rfl (XS.aload X168.here hx rfl (hb hby at_181) rfl rfl (XS.aload X168.here hx rfl (hb hby at_183) rfl rfl (kk))))))) ?_
          show Dn p e below s _ _ _ (T168.setTop (mkF m 185 #[.val (.long p0), .second, .val (.long p1), .second, .val (.long p2), .second, .val (.long p3), .second, .val (.int v1), .val (.int v8), .val (.int v12), .val (.int v19), .val (.int v24), .val (.int v32), .val (.int v37), .val (.int v45), .val (.int z52), .val (.int z61), .val (.int z70), .val (.int z79), .val (.ref b84), .val (.ref b105), .val (.int (1 : Int32))] [(.ref b105), (.ref b84)]))
          obtain ⟨cq185, kq185, q185a, q185b, q185c⟩ := isOf hZ hh168 E_b84_121
          obtain ⟨_, _, ⟨T185, L185, k185, n185⟩, -, X185, ⟨Lc185, hQ185, l185, y185, z185⟩, st185⟩ := X168.virtualBack hx (y := (⟨"com/example/vias_for_diagrams/viasfordiagrams/Rect", "holds", "(Lcom/example/vias_for_diagrams/viasfordiagrams/Rect;)Z"⟩ : MethodName)) (z := (⟨"com/example/vias_for_diagrams/viasfordiagrams/Rect", "holds", "(Lcom/example/vias_for_diagrams/viasfordiagrams/Rect;)Z"⟩ : MethodName)) hown (mvT hZ (hw _ (List.mem_of_getElem? (i := 28) rfl))) (mvT hZ (hw _ (List.mem_of_getElem? (i := 29) rfl))) (notFace_of_selects (args := #[]) (mvT hZ (hw _ (List.mem_of_getElem? (i := 31) rfl)))) (mvT hZ (hw _ (List.mem_of_getElem? (i := 31) rfl))) (mvT hZ (hw _ (List.mem_of_getElem? (i := 30) rfl))) (by decide) (backOf (W := 0) (rm6 l Z a0 hw [] b84 b105 v90 v93 v96 v99 v111 v114 v117 v120 v1.toInt v8.toInt v12.toInt v19.toInt z52.toInt z70.toInt z61.toInt z79.toInt T121.heap n0 Z121 F_b84_left_121 F_b84_top_121 F_b84_right_121 F_b84_bottom_121 F_b105_left_121 F_b105_top_121 F_b105_right_121 F_b105_bottom_121 d90 d93 d96 d99 d111 d114 d117 d120) hZ (hw _ (List.mem_of_getElem? (i := 32) rfl)) (hw _ (List.mem_of_getElem? (i := 9) rfl)) (by decide) (by decide)) q185a q185c (g := (mkF m 185 #[.val (.long p0), .second, .val (.long p1), .second, .val (.long p2), .second, .val (.long p3), .second, .val (.int v1), .val (.int v8), .val (.int v12), .val (.int v19), .val (.int v24), .val (.int v32), .val (.int v37), .val (.int v45), .val (.int z52), .val (.int z61), .val (.int z70), .val (.int z79), .val (.ref b84), .val (.ref b105), .val (.int (1 : Int32))] [(.ref b105), (.ref b84)])) rfl (by rw [hml]; rfl) (Steps.refl _) (argsL := [(.ref b105)]) (rest := []) (lenOf pd3 rfl) rfl (by show 2 * 0 + _ ≤ _; exact Nat.le_of_eq rfl) (hb hby at_185) (fun _ _ => ⟨rfl, hh168, (by decide : 2 + 0 ≤ _), (by decide : 8 + 0 ≤ _)⟩)
          dsimp only [Pt.U, Pt.locs, Pt.cells, Pt.slots] at X185 l185 y185 z185 st185 hQ185
          subst l185 y185 z185
          obtain ⟨z185, rfl, hz185, Nq185, hh185⟩ := hQ185
          have N185 := Fr.app N168 Nq185
          refine Dn.tr st185 ?_
          show Dn p e below s _ _ _ (T185.setTop (mkF m 188 #[.val (.long p0), .second, .val (.long p1), .second, .val (.long p2), .second, .val (.long p3), .second, .val (.int v1), .val (.int v8), .val (.int v12), .val (.int v19), .val (.int v24), .val (.int v32), .val (.int v37), .val (.int v45), .val (.int z52), .val (.int z61), .val (.int z70), .val (.int z79), .val (.ref b84), .val (.ref b105), .val (.int (1 : Int32))] [(.int z185)]))
          refine Dn.st (fun _ kk => XS.iload X185.here hx rfl (hb hby at_188) rfl  (kk)) ?_
          show Dn p e below s _ _ _ (T185.setTop (mkF m 190 #[.val (.long p0), .second, .val (.long p1), .second, .val (.long p2), .second, .val (.long p3), .second, .val (.int v1), .val (.int v8), .val (.int v12), .val (.int v19), .val (.int v24), .val (.int v32), .val (.int v37), .val (.int v45), .val (.int z52), .val (.int z61), .val (.int z70), .val (.int z79), .val (.ref b84), .val (.ref b105), .val (.int (1 : Int32))] [(.int (1 : Int32)), (.int z185)]))
          by_cases hc190 : z185 = (1 : Int32)
          · have hi190 : z185.toInt = 1 := congrArg Int32.toInt hc190
            refine Dn.st (fun _ kk => XS.icmpNo X185.here hx rfl (hb hby at_190) rfl (teq hc190).2 (XS.iconst X185.here hx rfl (hb hby at_193) (XS.goto X185.here hx rfl (pc0 := 194) (pc' := 198) rfl (hb hby at_194) (by decide) (by decide) (kk)))) ?_
            show Dn p e below s _ _ _ (T185.setTop (mkF m 198 #[.val (.long p0), .second, .val (.long p1), .second, .val (.long p2), .second, .val (.long p3), .second, .val (.int v1), .val (.int v8), .val (.int v12), .val (.int v19), .val (.int v24), .val (.int v32), .val (.int v37), .val (.int v45), .val (.int z52), .val (.int z61), .val (.int z70), .val (.int z79), .val (.ref b84), .val (.ref b105), .val (.int (1 : Int32))] [(.int (1 : Int32))]))
            exact Dn.ret X185 hlk hx hret rfl (Or.inl ⟨rfl, Or.inr (Or.inl rfl), _, rfl⟩) (hb hby at_198) (by rw [hh185]; exact ⟨rfl, N185⟩) (by decide) (by decide)
          · have hi190 : ¬ z185.toInt = 1 := fun qq => hc190 (Int32.toInt_inj.mp qq)
            refine Dn.st (fun _ kk => XS.icmpYes X185.here hx rfl (pc0 := 190) (pc' := 197) rfl (hb hby at_190) rfl (feq hc190).2 (by decide) (by decide) (kk)) ?_
            show Dn p e below s _ _ _ (T185.setTop (mkF m 197 #[.val (.long p0), .second, .val (.long p1), .second, .val (.long p2), .second, .val (.long p3), .second, .val (.int v1), .val (.int v8), .val (.int v12), .val (.int v19), .val (.int v24), .val (.int v32), .val (.int v37), .val (.int v45), .val (.int z52), .val (.int z61), .val (.int z70), .val (.int z79), .val (.ref b84), .val (.ref b105), .val (.int (1 : Int32))] []))
            exfalso
            simp only [← Int32.toInt_inj] at *
            have e0 : (0 : Int32).toInt = 0 := rfl
            have e1 : (1 : Int32).toInt = 1 := rfl
            omega

set_option maxRecDepth 65536 in
set_option maxHeartbeats 40000000 in
theorem comes_1 {Post : Tables → Env → Array Value → State → Outcome → State → Prop} (hpost : ∀ tb e args s v u, (limb_1_1.after args s (.returned v) u = true ∧ limb_1_2.after args s (.returned v) u = true ∧ True) → FrameEnd s (.returned v) u (Jvm.fieldLocs frame_1_writes args s ++ Jvm.arrayLocs frame_1_arrays args s ++ Jvm.staticLocs frame_1_statics s) 16 128 → Post tb e args s (.returned v) u) :
    ArmFor flags0 classFile x code maxLocals ret World_1 tables_1 room_1 Calls_1 rest_1 Pre_1 Post := by
  intro l hfl _ _ p e ha hc hk s m args below hf hA hF happ hP
  obtain ⟨hcalls, hrest, hpre⟩ := hP
  obtain ⟨-, -, -, hnamed, -, -, -, hat⟩ := (Spec.applies_iff hf).mp happ
  obtain ⟨hg, hn⟩ := and_e (Cond.before_iff.mp (show (Jvm.Cond.and given_1 narrow_1).before args s = true from hpre))
  obtain ⟨g1a, g1b⟩ := and_e hg
  obtain ⟨g2a, g2b⟩ := and_e g1b
  obtain ⟨g3a, g3b⟩ := and_e g2b
  obtain ⟨g4a, g4b⟩ := and_e g3b
  obtain ⟨w0, w1, w2, w3, rfl⟩ : ∃ w0 w1 w2 w3 : Value, args = #[w0, w1, w2, w3] := by
    have hs : args.size = 4 := by simpa [Cond.value, given_1] using g1a
    obtain ⟨L⟩ := args
    match L, hs with
    | [w0, w1, w2, w3], _ => exact ⟨w0, w1, w2, w3, rfl⟩
  have hw := fun d (hd : d ∈ tables_1) => atoms_spec (ws := Jvm.Cond.code x code maxLocals ret :: tables_1) hat d (List.mem_cons_of_mem _ hd)
  have hfit : Fit s := fun {y c} hc i hi => by
    obtain ⟨ha, rfl⟩ := Array.getElem?_eq_some_iff.mp hc
    have q := List.all_eq_true.mp ((Array.all_eq_true_iff_forall_mem.mp hF) _ (Array.getElem_mem ha)) i (List.mem_range.mpr hi)
    simpa [Array.getElem?_eq_getElem hi] using q
  obtain ⟨i0, ei0⟩ := isL_v g2a
  obtain rfl : w0 = (.long i0) := Option.some.inj ei0
  obtain ⟨i1, ei1⟩ := isL_v g3a
  obtain rfl : w1 = (.long i1) := Option.some.inj ei1
  obtain ⟨i2, ei2⟩ := isL_v g4a
  obtain rfl : w2 = (.long i2) := Option.some.inj ei2
  obtain ⟨i3, ei3⟩ := isL_v g4b
  obtain rfl : w3 = (.long i3) := Option.some.inj ei3
  obtain ⟨n, o, h1, h2, h3, _, L, rfl, ⟨rfl, N⟩, hq⟩ := rm0 l s _ hw tables_1 i0 i1 i2 i3  s.heap s.heap.size (Nat.le_refl _)  p e ha hc hk s m _ below hf ((Spec.applies_iff_loose hf).mp happ).1 ⟨rfl, State.Warmed39.refl s, rfl⟩ trivial
  refine ⟨n, _, h1, h2, h3, hpost _ _ _ _ _ _ ⟨Cond.after_iff.mpr rfl, Cond.after_iff.mpr (eq_i res_at (Term.int_eval (1)) rfl), trivial⟩ ⟨hq.1, hq.2.1, (hq.2.2.sift fun y hy => Or.inr (N y hy)).mono (by decide) (by decide)⟩⟩
theorem main_1_1 : Claimed_1_1 := comes_1 fun _ _ _ _ _ _ h hF => ⟨h.1, hF⟩
theorem main_1_2 : Claimed_1_2 := comes_1 fun _ _ _ _ _ _ h hF => ⟨h.2.1, hF⟩
end Jvm.Pilot.@@N@@
namespace Jvm.Pilot.@@N@@
open Jvm Jvm.ClassFile Sem Op Lib Jvm.Free Jvm.Stand Jvm.Pilot.@@N@@.Jvm.D
/-! MADE BY PROGRAM (witnessworld.py) out of the Statement's table words and the real class files: 10 classes; the members and pool entries that the words name. The judged class is class 1, her method 1. -/
namespace start1
open Jvm.ClassFile
def u (s : String) : CpInfo := .utf8 (stringToUtf16 s)
/-- a pool by its gaps: so many unusable entries, then the entry; so many at the end -/
def gap : Nat → List CpInfo → List CpInfo
  | 0, r => r
  | n + 1, r => .unusable :: gap n r
def poolList (es : List (Nat × CpInfo)) (last : Nat) : List CpInfo := es.foldr (fun e r => gap e.1 (e.2 :: r)) (gap last [])
def pool (es : List (Nat × CpInfo)) (last : Nat) : Array CpInfo := ⟨poolList es last⟩
def fileOf (pool : Array CpInfo) (this : Nat) (attrs : Array Attribute := #[]) (ms : Array MethodInfo := #[]) (fl : Nat := 33) (sup : Nat := 0) (ifs : Array Nat := #[]) (fds : Array FieldInfo := #[]) : ClassFile where
  minorVersion := 0
  majorVersion := 65
  constantPool := pool
  accessFlags := fl
  thisClass := this
  superClass := sup
  interfaces := ifs
  fields := fds
  methods := ms
  attributes := attrs
def plain (name : String) (sup : Option ClassId) : Class where
  name := name
  kind := .ordinary
  loader := none
  accessFlags := 33
  super := sup
  interfaces := #[]
  cf := none
  fields := #[]
  methods := #[]
  instanceTypes := #[]
  staticTypes := #[]
  resolved := #[]
  callSites := []
  init := .initialized
  statics := none
  mirror := none

def pool0 : Array CpInfo := pool [(5, u "<init>"), (0, u "()V"), (1, .class_ 10), (1, u "java/lang/Object")] 113

def k0c0 : Code := { maxStack := 0, maxLocals := 1, code := object_method_1_code, exceptionTable := #[], attributes := #[] }
def k0m0 : Method := { name := "<init>", desc := "()V", sig := { parameters := [], returnType := none }, accessFlags := 1, code := some k0c0 }
/-- java/lang/Object -/
def k0 : Class := { plain "java/lang/Object" none with
  accessFlags := 33
  interfaces := #[]
  cf := some (fileOf pool0 8 #[] #[{ accessFlags := 1, nameIndex := 5, descriptorIndex := 6, attributes := #[] }] 33 0 #[] #[])
  fields := #[]
  methods := #[k0m0]
  instanceTypes := #[]
  staticTypes := #[]
  resolved := Array.replicate 124 none
  statics := none }

def pool1 : Array CpInfo := pool [(2, .class_ 4), (1, u "java/lang/Object"), (0, u "<init>"), (0, u "()V"), (0, .methodref 8 9), (0, .class_ 10), (0, .nameAndType 11 12), (0, u "java/lang/Math"), (0, u "min"), (0, u "(II)I"), (0, .methodref 8 14), (0, .nameAndType 15 12), (0, u "max"), (0, .class_ 17), (0, u "com/example/vias_for_diagrams/viasfordiagrams/Rect"), (0, .methodref 16 19), (0, .nameAndType 5 20), (0, u "(DDDD)V"), (0, .methodref 22 23), (0, .class_ 24), (0, .nameAndType 25 26), (0, u "com/example/vias_for_diagrams/viasfordiagrams/RectHoldsPinLaw"), (0, u "between"), (0, u "(III)Z"), (0, .methodref 16 28), (0, .nameAndType 29 30), (0, u "holds"), (0, u "(Lcom/example/vias_for_diagrams/viasfordiagrams/Rect;)Z"), (2, u "law"), (0, u "(JJJJ)Z")] 3

def k1m0 : Method := { name := "<init>", desc := "()V", sig := { parameters := [], returnType := none }, accessFlags := 1, code := none }
def k1c1 : Code := { maxStack := 10, maxLocals := 23, code := code, exceptionTable := #[], attributes := #[] }
def k1m1 : Method := { name := "law", desc := "(JJJJ)Z", sig := { parameters := [.long, .long, .long, .long], returnType := some .boolean }, accessFlags := 9, code := some k1c1 }
def k1c2 : Code := { maxStack := 2, maxLocals := 3, code := method_3_code, exceptionTable := #[], attributes := #[] }
def k1m2 : Method := { name := "between", desc := "(III)Z", sig := { parameters := [.int, .int, .int], returnType := some .boolean }, accessFlags := 10, code := some k1c2 }
/-- com/example/vias_for_diagrams/viasfordiagrams/RectHoldsPinLaw -/
def k1 : Class := { plain "com/example/vias_for_diagrams/viasfordiagrams/RectHoldsPinLaw" (some 0) with
  accessFlags := 49
  interfaces := #[]
  cf := some (fileOf pool1 22 #[] #[{ accessFlags := 1, nameIndex := 5, descriptorIndex := 6, attributes := #[] }, { accessFlags := 9, nameIndex := 33, descriptorIndex := 34, attributes := #[] }, { accessFlags := 10, nameIndex := 25, descriptorIndex := 26, attributes := #[] }] 49 2 #[] #[])
  fields := #[]
  methods := #[k1m0, k1m1, k1m2]
  instanceTypes := #[]
  staticTypes := #[]
  resolved := Array.replicate 38 none
  statics := none }

def pool2 : Array CpInfo := pool [(1, .class_ 2), (0, u "java/lang/Math"), (1, .class_ 6), (1, u "java/lang/Object"), (0, u "<init>"), (0, u "()V"), (89, .class_ 100), (1, u "java/lang/Math$RandomNumberGeneratorHolder"), (71, u "negativeZeroFloatBits"), (0, u "J"), (2, u "negativeZeroDoubleBits"), (21, u "max"), (2, u "min"), (43, u "$assertionsDisabled"), (0, u "Z"), (88, u "(II)I"), (2, u "twoToTheDoubleScaleDown"), (0, u "D"), (4, u "twoToTheDoubleScaleUp"), (9, u "E"), (3, u "PI"), (2, u "TAU"), (2, u "DEGREES_TO_RADIANS"), (0, u "RADIANS_TO_DEGREES")] 94

def k2m0 : Method := { name := "<init>", desc := "()V", sig := { parameters := [], returnType := none }, accessFlags := 2, code := none }
def k2c1 : Code := { maxStack := 2, maxLocals := 2, code := jdk_29_method_65_code, exceptionTable := #[], attributes := #[] }
def k2m1 : Method := { name := "max", desc := "(II)I", sig := { parameters := [.int, .int], returnType := some .int }, accessFlags := 9, code := some k2c1 }
def k2c2 : Code := { maxStack := 2, maxLocals := 2, code := jdk_29_method_69_code, exceptionTable := #[], attributes := #[] }
def k2m2 : Method := { name := "min", desc := "(II)I", sig := { parameters := [.int, .int], returnType := some .int }, accessFlags := 9, code := some k2c2 }
/-- java/lang/Math -/
def k2 : Class := { plain "java/lang/Math" (some 0) with
  accessFlags := 49
  interfaces := #[]
  cf := some (fileOf pool2 1 #[.nestMembers #[98]] #[{ accessFlags := 2, nameIndex := 7, descriptorIndex := 8, attributes := #[] }, { accessFlags := 9, nameIndex := 198, descriptorIndex := 335, attributes := #[] }, { accessFlags := 9, nameIndex := 201, descriptorIndex := 335, attributes := #[] }] 49 4 #[] #[{ accessFlags := 25, nameIndex := 354, descriptorIndex := 339, attributes := #[] }, { accessFlags := 25, nameIndex := 358, descriptorIndex := 339, attributes := #[] }, { accessFlags := 25, nameIndex := 361, descriptorIndex := 339, attributes := #[] }, { accessFlags := 26, nameIndex := 364, descriptorIndex := 339, attributes := #[] }, { accessFlags := 26, nameIndex := 365, descriptorIndex := 339, attributes := #[] }, { accessFlags := 26, nameIndex := 172, descriptorIndex := 173, attributes := #[] }, { accessFlags := 26, nameIndex := 176, descriptorIndex := 173, attributes := #[] }, { accessFlags := 8, nameIndex := 344, descriptorIndex := 339, attributes := #[] }, { accessFlags := 8, nameIndex := 338, descriptorIndex := 339, attributes := #[] }, { accessFlags := 4120, nameIndex := 245, descriptorIndex := 246, attributes := #[] }])
  fields := #[{ name := "E", type := .double, accessFlags := 25, slot := 0, constantValue := 0 }, { name := "PI", type := .double, accessFlags := 25, slot := 1, constantValue := 0 }, { name := "TAU", type := .double, accessFlags := 25, slot := 2, constantValue := 0 }, { name := "DEGREES_TO_RADIANS", type := .double, accessFlags := 26, slot := 3, constantValue := 0 }, { name := "RADIANS_TO_DEGREES", type := .double, accessFlags := 26, slot := 4, constantValue := 0 }, { name := "negativeZeroFloatBits", type := .long, accessFlags := 26, slot := 5, constantValue := 0 }, { name := "negativeZeroDoubleBits", type := .long, accessFlags := 26, slot := 6, constantValue := 0 }, { name := "twoToTheDoubleScaleUp", type := .double, accessFlags := 8, slot := 7, constantValue := 0 }, { name := "twoToTheDoubleScaleDown", type := .double, accessFlags := 8, slot := 8, constantValue := 0 }, { name := "$assertionsDisabled", type := .boolean, accessFlags := 4120, slot := 9, constantValue := 0 }]
  methods := #[k2m0, k2m1, k2m2]
  instanceTypes := #[]
  staticTypes := #[.double, .double, .double, .double, .double, .long, .long, .double, .double, .boolean]
  resolved := Array.replicate 460 none
  statics := none }

def pool3 : Array CpInfo := pool [(1, .methodref 2 3), (0, .class_ 4), (0, .nameAndType 5 6), (0, u "java/lang/Object"), (0, u "<init>"), (0, u "()V"), (0, .fieldref 8 9), (0, .class_ 10), (0, .nameAndType 11 12), (0, u "com/example/vias_for_diagrams/viasfordiagrams/Rect"), (0, u "left"), (0, u "D"), (0, .fieldref 8 14), (0, .nameAndType 15 12), (0, u "top"), (0, .fieldref 8 17), (0, .nameAndType 18 12), (0, u "right"), (0, .fieldref 8 20), (0, .nameAndType 21 12), (0, u "bottom"), (2, u "(DDDD)V"), (49, u "holds"), (0, u "(Lcom/example/vias_for_diagrams/viasfordiagrams/Rect;)Z")] 8

def k3c0 : Code := { maxStack := 3, maxLocals := 9, code := prog_30_method_1_code, exceptionTable := #[], attributes := #[] }
def k3m0 : Method := { name := "<init>", desc := "(DDDD)V", sig := { parameters := [.double, .double, .double, .double], returnType := none }, accessFlags := 0, code := some k3c0 }
def k3c1 : Code := { maxStack := 4, maxLocals := 2, code := prog_30_method_13_code, exceptionTable := #[], attributes := #[] }
def k3m1 : Method := { name := "holds", desc := "(Lcom/example/vias_for_diagrams/viasfordiagrams/Rect;)Z", sig := { parameters := [(.object "com/example/vias_for_diagrams/viasfordiagrams/Rect")], returnType := some .boolean }, accessFlags := 0, code := some k3c1 }
/-- com/example/vias_for_diagrams/viasfordiagrams/Rect -/
def k3 : Class := { plain "com/example/vias_for_diagrams/viasfordiagrams/Rect" (some 0) with
  accessFlags := 32
  interfaces := #[]
  cf := some (fileOf pool3 8 #[] #[{ accessFlags := 0, nameIndex := 5, descriptorIndex := 24, attributes := #[] }, { accessFlags := 0, nameIndex := 74, descriptorIndex := 75, attributes := #[] }] 32 2 #[] #[{ accessFlags := 18, nameIndex := 11, descriptorIndex := 12, attributes := #[] }, { accessFlags := 18, nameIndex := 15, descriptorIndex := 12, attributes := #[] }, { accessFlags := 18, nameIndex := 18, descriptorIndex := 12, attributes := #[] }, { accessFlags := 18, nameIndex := 21, descriptorIndex := 12, attributes := #[] }])
  fields := #[{ name := "left", type := .double, accessFlags := 18, slot := 0, constantValue := 0 }, { name := "top", type := .double, accessFlags := 18, slot := 1, constantValue := 0 }, { name := "right", type := .double, accessFlags := 18, slot := 2, constantValue := 0 }, { name := "bottom", type := .double, accessFlags := 18, slot := 3, constantValue := 0 }]
  methods := #[k3m0, k3m1]
  instanceTypes := #[.double, .double, .double, .double]
  staticTypes := #[]
  resolved := Array.replicate 84 none
  statics := none }

def pool4 : Array CpInfo := pool [(1, u "java/lang/Cloneable"), (0, .class_ 1), (0, u "java/lang/Object"), (0, .class_ 3)] 3

/-- java/lang/Cloneable -/
def k4 : Class := { plain "java/lang/Cloneable" (some 0) with
  accessFlags := 1537
  interfaces := #[]
  cf := some (fileOf pool4 2 #[] #[] 1537 4 #[] #[])
  fields := #[]
  methods := #[]
  instanceTypes := #[]
  staticTypes := #[]
  resolved := Array.replicate 8 none
  statics := none }

def pool5 : Array CpInfo := pool [(1, u "java/io/Serializable"), (0, .class_ 1), (0, u "java/lang/Object"), (0, .class_ 3)] 3

/-- java/io/Serializable -/
def k5 : Class := { plain "java/io/Serializable" (some 0) with
  accessFlags := 1537
  interfaces := #[]
  cf := some (fileOf pool5 2 #[] #[] 1537 4 #[] #[])
  fields := #[]
  methods := #[]
  instanceTypes := #[]
  staticTypes := #[]
  resolved := Array.replicate 8 none
  statics := none }

/-- the primitive byte -/
def k6 : Class := { plain "byte" none with kind := .primitive 'B', accessFlags := 0x411 }
/-- [B -/
def k7 : Class := { plain "[B" (some 0) with kind := .array 6 .byte, interfaces := #[4, 5], accessFlags := 1041 }

/-- the primitive int -/
def k8 : Class := { plain "int" none with kind := .primitive 'I', accessFlags := 0x411 }
/-- [I -/
def k9 : Class := { plain "[I" (some 0) with kind := .array 8 .int, interfaces := #[4, 5], accessFlags := 1041 }

def heap : Heap := #[]
def classes : Array Class := #[k0, k1, k2, k3, k4, k5, k6, k7, k8, k9]
def interned : List (Array UInt16 × Addr) := []
def slotsUsed : Nat := 0
def theMethod : MethodId := ⟨1, 1⟩
def args0 : Array Value := #[.long 5, .long 7, .long 6, .long 8]
def aboutOver (below : List Frame) : State where
  vm := { classes := classes, interned := interned.toArray }
  heap := heap
  slotsUsed := slotsUsed
  threads := #[{ frames := .invoking theMethod args0 :: below }]
def below0 : List Frame := [.native { method := ⟨0, 0⟩, args := #[] }]
def about1 : State := aboutOver below0
def p0 : Program := .bare "" "" ""
def e0 : Env := launch0.env 0 0 0
theorem w_frames : about1.frames = Frame.invoking theMethod args0 :: below0 := rfl
set_option maxRecDepth 65536 in
theorem w_args : argsFit about1.vm theMethod args0 = true := by decide +kernel
set_option maxRecDepth 65536 in
theorem w_heap : heapFits about1 = true := by decide +kernel
set_option maxRecDepth 65536 in
theorem w_runnable : about1.curStatus? = some .runnable := by decide +kernel
set_option maxRecDepth 65536 in
theorem w_alone : about1.alone = true := by decide +kernel
set_option maxRecDepth 65536 in
theorem w_named : about1.methodNamed? x = some theMethod := by decide +kernel
set_option maxRecDepth 65536 in
theorem w_hears : about1.hears theMethod below0 = true := by decide +kernel
set_option maxRecDepth 65536 in
theorem w_ripe : about1.ripe theMethod args0 below0 = true := by decide +kernel
theorem w_running : about1.status = .running := rfl
set_option maxRecDepth 65536 in
theorem w_room : about1.hasRoom e0.platform room_1 = true :=
  launch0.hasRoom_least _ room_1 (by decide +kernel) (by decide +kernel) (by decide +kernel) (by decide +kernel) (by decide +kernel) (by decide +kernel)
theorem allAtoms_all (ts : List Jvm.Cond) (a : Array Jvm.Value) (st : Jvm.State) : (allAtoms ts).before a st = ts.all (fun c => c.before a st) := by
  induction ts with
  | nil => rfl
  | cons c t ih =>
    show (Jvm.Cond.and c (allAtoms t)).before a st = _
    rw [Jvm.Cond.before_and, ih, List.all_cons]
def words1 : List Jvm.Cond := Jvm.Cond.code x code maxLocals ret :: tables_1
/-- a 'code' word, met by the world's own term for the bytes: nothing is compared byte by byte -/
theorem code_word {y : MethodName} {bytes : ByteArray} {mx : Nat} {rt : Option FieldType} {a : Array Value} {s : State} {m : MethodId} {meth : Method} {c : Code} (h1 : s.methodNamed? y = some m) (h2 : s.vm.method? m = some meth) (h3 : meth.code = some c) (h4 : c.code = bytes)
    (h5 : (c.maxLocals == mx && c.exceptionTable.isEmpty && decide (c.maxStack ≤ mostOperands) && decide (meth.sig.returnType = rt) && !meth.locks && decide (parseMethodDescriptor y.desc = some meth.sig)) = true) : (Jvm.Cond.code y bytes mx rt).before a s = true := by
  simp only [Bool.and_eq_true, beq_iff_eq, Bool.not_eq_true', decide_eq_true_eq] at h5
  obtain ⟨⟨⟨⟨⟨g1, g2⟩, g3⟩, g4⟩, g5⟩, g6⟩ := h5
  simp [Cond.before, Cond.holds, Cond.value, h1, h2, h3, h4, g1, g2, g3, g4, g5, g6]
def isCode : Jvm.Cond → Bool
  | .code _ _ _ _ => true
  | _ => false
theorem all_split {L : List Jvm.Cond} {P : Jvm.Cond → Bool} (h1 : L.all (fun c => isCode c || P c) = true) (h2 : ∀ c ∈ L.filter isCode, P c = true) : L.all P = true := by
  refine List.all_eq_true.mpr fun c hc => ?_
  have h := List.all_eq_true.mp h1 c hc
  rcases Bool.eq_false_or_eq_true (isCode c) with hi | hi
  · exact h2 c (List.mem_filter.mpr ⟨hc, hi⟩)
  · simpa [hi] using h
set_option maxRecDepth 65536 in
theorem w_c0 : (Jvm.Cond.code x code maxLocals ret).before args0 about1 = true := code_word (m := ⟨1, 1⟩) (meth := k1m1) (c := k1c1) (by decide +kernel) rfl rfl rfl (by decide +kernel)
set_option maxRecDepth 65536 in
theorem w_c1 : (Jvm.Cond.code ({ cls := "java/lang/Math", name := "min", desc := "(II)I" } : Jvm.MethodName) jdk_29_method_69_code (2 : Nat) (Option.some Jvm.ClassFile.FieldType.int)).before args0 about1 = true := code_word (m := ⟨2, 2⟩) (meth := k2m2) (c := k2c2) (by decide +kernel) rfl rfl rfl (by decide +kernel)
set_option maxRecDepth 65536 in
theorem w_c2 : (Jvm.Cond.code ({ cls := "java/lang/Math", name := "max", desc := "(II)I" } : Jvm.MethodName) jdk_29_method_65_code (2 : Nat) (Option.some Jvm.ClassFile.FieldType.int)).before args0 about1 = true := code_word (m := ⟨2, 1⟩) (meth := k2m1) (c := k2c1) (by decide +kernel) rfl rfl rfl (by decide +kernel)
set_option maxRecDepth 65536 in
theorem w_c3 : (Jvm.Cond.code ({ cls := "com/example/vias_for_diagrams/viasfordiagrams/Rect", name := "<init>", desc := "(DDDD)V" } : Jvm.MethodName) prog_30_method_1_code (9 : Nat) (Option.none : Option Jvm.ClassFile.FieldType)).before args0 about1 = true := code_word (m := ⟨3, 0⟩) (meth := k3m0) (c := k3c0) (by decide +kernel) rfl rfl rfl (by decide +kernel)
set_option maxRecDepth 65536 in
theorem w_c4 : (Jvm.Cond.code ({ cls := "java/lang/Object", name := "<init>", desc := "()V" } : Jvm.MethodName) object_method_1_code (1 : Nat) (Option.none : Option Jvm.ClassFile.FieldType)).before args0 about1 = true := code_word (m := ⟨0, 0⟩) (meth := k0m0) (c := k0c0) (by decide +kernel) rfl rfl rfl (by decide +kernel)
set_option maxRecDepth 65536 in
theorem w_c5 : (Jvm.Cond.code ({ cls := "com/example/vias_for_diagrams/viasfordiagrams/RectHoldsPinLaw", name := "between", desc := "(III)Z" } : Jvm.MethodName) method_3_code (3 : Nat) (Option.some Jvm.ClassFile.FieldType.boolean)).before args0 about1 = true := code_word (m := ⟨1, 2⟩) (meth := k1m2) (c := k1c2) (by decide +kernel) rfl rfl rfl (by decide +kernel)
set_option maxRecDepth 65536 in
theorem w_c6 : (Jvm.Cond.code ({ cls := "com/example/vias_for_diagrams/viasfordiagrams/Rect", name := "holds", desc := "(Lcom/example/vias_for_diagrams/viasfordiagrams/Rect;)Z" } : Jvm.MethodName) prog_30_method_13_code (2 : Nat) (Option.some Jvm.ClassFile.FieldType.boolean)).before args0 about1 = true := code_word (m := ⟨3, 1⟩) (meth := k3m1) (c := k3c1) (by decide +kernel) rfl rfl rfl (by decide +kernel)
def codes1 : List Jvm.Cond := [Jvm.Cond.code x code maxLocals ret, Jvm.Cond.code ({ cls := "java/lang/Math", name := "min", desc := "(II)I" } : Jvm.MethodName) jdk_29_method_69_code (2 : Nat) (Option.some Jvm.ClassFile.FieldType.int), Jvm.Cond.code ({ cls := "java/lang/Math", name := "max", desc := "(II)I" } : Jvm.MethodName) jdk_29_method_65_code (2 : Nat) (Option.some Jvm.ClassFile.FieldType.int), Jvm.Cond.code ({ cls := "com/example/vias_for_diagrams/viasfordiagrams/Rect", name := "<init>", desc := "(DDDD)V" } : Jvm.MethodName) prog_30_method_1_code (9 : Nat) (Option.none : Option Jvm.ClassFile.FieldType), Jvm.Cond.code ({ cls := "java/lang/Object", name := "<init>", desc := "()V" } : Jvm.MethodName) object_method_1_code (1 : Nat) (Option.none : Option Jvm.ClassFile.FieldType), Jvm.Cond.code ({ cls := "com/example/vias_for_diagrams/viasfordiagrams/RectHoldsPinLaw", name := "between", desc := "(III)Z" } : Jvm.MethodName) method_3_code (3 : Nat) (Option.some Jvm.ClassFile.FieldType.boolean), Jvm.Cond.code ({ cls := "com/example/vias_for_diagrams/viasfordiagrams/Rect", name := "holds", desc := "(Lcom/example/vias_for_diagrams/viasfordiagrams/Rect;)Z" } : Jvm.MethodName) prog_30_method_13_code (2 : Nat) (Option.some Jvm.ClassFile.FieldType.boolean)]
set_option maxRecDepth 65536 in
theorem codes_eq : words1.filter isCode = codes1 := rfl
theorem w_codes : ∀ c ∈ words1.filter isCode, c.before args0 about1 = true := by
  rw [codes_eq]
  intro c hc
  simp only [codes1, List.mem_cons, List.not_mem_nil, or_false] at hc
  rcases hc with rfl | rfl | rfl | rfl | rfl | rfl | rfl
  · exact w_c0
  · exact w_c1
  · exact w_c2
  · exact w_c3
  · exact w_c4
  · exact w_c5
  · exact w_c6
set_option maxRecDepth 65536 in
theorem w_t1 : (words1.take 24).all (fun c => isCode c || c.before args0 about1) = true := by decide +kernel
set_option maxRecDepth 65536 in
theorem w_t2 : (words1.drop 24).all (fun c => isCode c || c.before args0 about1) = true := by decide +kernel
theorem w_tables : (allAtoms (Jvm.Cond.code x code maxLocals ret :: tables_1)).before args0 about1 = true := by
  rw [allAtoms_all]
  show words1.all (fun c => c.before args0 about1) = true
  refine all_split ?_ w_codes
  rw [← List.take_append_drop 24 words1, List.all_append, w_t1, w_t2]
  rfl
set_option maxRecDepth 65536 in
theorem w_case : (Jvm.Cond.and given_1 narrow_1).before args0 about1 = true := by decide +kernel
theorem w_applies : (headSpec (Jvm.Cond.code x code maxLocals ret :: tables_1) room_1).applies x e0.platform about1 = true :=
  (Spec.applies_iff w_frames).mpr ⟨w_running, w_runnable, w_alone, w_named, w_hears, w_ripe, w_room, w_tables⟩
theorem atStart : AtStart classFile x code maxLocals ret World_1 tables_1 room_1 Calls_1 rest_1 Pre_1 launch0 p0 e0 about1 theMethod args0 below0 :=
  ⟨lists_1, trivial, launch0.admits_env _ _ _, launch0.least_env, fairChoices_fair.cas, fairChoices_fair.clock, w_frames, w_args, w_heap, w_applies, trivial, trivial, w_case⟩
end start1
theorem witness_1 : WitnessClaimed_1 := ⟨start1.p0, start1.e0, start1.about1, start1.theMethod, start1.args0, start1.below0, start1.atStart⟩
end Jvm.Pilot.@@N@@
