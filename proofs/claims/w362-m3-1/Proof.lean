import JvmDerived
import JvmDerived.Pilot.@@N@@Statement
import JvmDerived.Pilot.@@N@@Code
set_option linter.unusedVariables false
set_option linter.unusedSimpArgs false
namespace Jvm.Pilot.@@N@@
open Jvm Jvm.ClassFile Sem Op Lib Jvm.Free Jvm.Stand Jvm.LawKit Jvm.RoadKit Bundle Jvm.Pilot.@@N@@.Jvm.D
section Own
variable {p : Program} {l : Launch} {e : Env} {R : Room} {s : State} {m : MethodId} {args : Array Value} {below : List Frame} {meth : Method} {c : Code} {T : State} {locs : List Loc} {cells slots : Nat}
/-- the run from A ends, returns what Q says, and has made and written no more than told -/
def Dn (p : Program) (e : Env) (below : List Frame) (s : State) (Q : Option Value → Heap → List Loc → Prop) (rc rs : Nat) (A : State) : Prop :=
  ∃ s₂ o, Steps p.tables e below A s₂ ∧ s₂.status = .running ∧ Ended s₂ below o ∧ ∃ v L, o = .returned v ∧ Q v s₂.heap L ∧ FrameEnd s o s₂ L rc rs
theorem Dn.st {Q : Option Value → Heap → List Loc → Prop} {rc rs : Nat} {A B : State} (h : ∀ t, Steps p.tables e below B t → Steps p.tables e below A t) (k : Dn p e below s Q rc rs B) : Dn p e below s Q rc rs A := by
  obtain ⟨s2, o, h1, h2⟩ := k; exact ⟨s2, o, h _ h1, h2⟩
theorem Dn.tr {Q : Option Value → Heap → List Loc → Prop} {rc rs : Nat} {A B : State} (h : Steps p.tables e below A B) (k : Dn p e below s Q rc rs B) : Dn p e below s Q rc rs A := by
  obtain ⟨s2, o, h1, h2⟩ := k; exact ⟨s2, o, h.trans h1, h2⟩
theorem Dn.ret (X : Stand p l e R s m args below meth c T locs cells slots) (hlk : meth.locks = false) (hx : p.tables.exec = Jvm.exec) {pc : Nat} {Ls : Array Slot} {w : Value} {t : FieldType} {i : Instr} {rest : List Value} (hret : meth.sig.returnType = some t) (hn : narrow t w = w)
    (hi : (i = .ireturn ∧ (t = .int ∨ t = .boolean ∨ t = .byte ∨ t = .char ∨ t = .short) ∧ ∃ z, w = .int z) ∨ (i = .lreturn ∧ t = .long ∧ ∃ z, w = .long z) ∨ (i = .dreturn ∧ t = .double ∧ ∃ z, w = .double z) ∨ (i = .freturn ∧ t = .float ∧ ∃ z, w = .float z) ∨ (i = .areturn ∧ t.isReference = true ∧ w.isRef = true))
    (hd : decode c.code pc = .ok (i, 1)) {Q : Option Value → Heap → List Loc → Prop} {rc rs : Nat} (hq : Q (some w) T.heap locs) (hc : cells ≤ rc) (hs : slots ≤ rs) : Dn p e below s Q rc rs (T.setTop (mkF m pc Ls (w :: rest))) := by
  obtain ⟨fs, hr, hrun, hended, hW, hsame⟩ := X.leave (v := some w) (fun h => by rw [hret] at h; cases h) hlk
  exact ⟨_, _, retOut X hx hret hn hi hd hr, hrun, hended, _, _, rfl, hq, ⟨_, rfl⟩, hW, hsame.mono hc hs⟩
theorem Dn.ret0 (X : Stand p l e R s m args below meth c T locs cells slots) (hlk : meth.locks = false) (hx : p.tables.exec = Jvm.exec) {pc : Nat} {Ls : Array Slot} (hret : meth.sig.returnType = none)
    (hd : decode c.code pc = .ok (.return_, 1)) {Q : Option Value → Heap → List Loc → Prop} {rc rs : Nat} (hq : Q none T.heap locs) (hc : cells ≤ rc) (hs : slots ≤ rs) : Dn p e below s Q rc rs (T.setTop (mkF m pc Ls [])) := by
  obtain ⟨fs, hr, hrun, hended, hW, hsame⟩ := X.leave (v := none) (fun _ => rfl) hlk
  exact ⟨_, _, X.returnOut hx hret hd hr, hrun, hended, _, _, rfl, hq, ⟨_, rfl⟩, hW, hsame.mono hc hs⟩
theorem own_iincW {tb : Tables} [Ours tb] {target : State} {g : JFrame} (h : At T m c below) (hx : tb.exec = Jvm.exec) (hg : g.method = m) {k : Nat} {cst : Int} {x : Int32} {l' : Array Slot} (hd : decode c.code g.pc = .ok (.iinc k cst, 6)) (hl : g.locals[k]? = some (.val (.int x))) (hl' : storeLocals g.locals k (.int (x + Int32.ofInt cst)) = some l')
    (hr : Steps tb e below (T.setTop { g with pc := g.pc + 6, locals := l' }) target) : Steps tb e below (T.setTop g) target := by
  subst hg
  jvm_step h [h.top, hx, hd, hl, hl']
  exact hr
theorem own_dremS {tb : Tables} [Ours tb] {target : State} {g : JFrame} (h : At T m c below) (hx : tb.exec = Jvm.exec) (hg : g.method = m) {x y v : UInt64} {rest : List Value} (hd : decode c.code g.pc = .ok (.drem, 1)) (hs : g.stack = .double y :: .double x :: rest) (hn : Jvm.Free.Fl.NoNaN64 (FP.drem x y)) (hv : FP.drem x y = v)
    (hr : Steps tb e below (T.setTop { g with pc := g.pc + 1, stack := .double v :: rest }) target) : Steps tb e below (T.setTop g) target := by
  subst hg; subst hv
  obtain ⟨gm, gp, gl, gs, gk, ge, gr⟩ := g
  simp only at hs hd
  subst hs
  jvm_step h [h.top, hx, hd, Op.drem.at_number h.top hn]
  exact hr
end Own
section Dyad
open Jvm.FP Jvm.FP.Core Jvm.Free.Fl
/-- the datum with its exponent moved by k -/
def sft (k : Nat) : Datum → Datum
  | .nan => .nan
  | .inf s => .inf s
  | .fin s c q => .fin s c (q + (k : Int))
/-- x is the number i / 2^k -/
def DS (k : Nat) (i : Int) (x : UInt64) : Prop := Whole i (sft k (val64 x))
theorem sft_zero (d : Datum) : sft 0 d = d := by
  cases d with
  | nan => rfl
  | inf s => rfl
  | fin s c q => show Datum.fin s c (q + ((0 : Nat) : Int)) = _; rw [Int.natCast_zero, Int.add_zero]
theorem sft_sum (k : Nat) (x y : Datum) : exactSum (sft k x) (sft k y) = sft k (exactSum x y) := by
  cases x with
  | nan => rfl
  | inf s =>
    cases y with
    | nan => rfl
    | inf t => show (if s = t then Datum.inf s else .nan) = sft k (if s = t then Datum.inf s else .nan); split <;> rfl
    | fin t d r => rfl
  | fin s c q =>
    cases y with
    | nan => rfl
    | inf t => rfl
    | fin t d r =>
      have h : min (q + (k : Int)) (r + k) = min q r + k := by omega
      have h1 : q + (k : Int) - (min q r + k) = q - min q r := by omega
      have h2 : r + (k : Int) - (min q r + k) = r - min q r := by omega
      have hu : sumUnits s c (q + k) t d (r + k) (min (q + k) (r + k)) = sumUnits s c q t d r (min q r) := by
        show signed s (c * 2 ^ (q + (k : Int) - min (q + k) (r + k)).toNat) + signed t (d * 2 ^ (r + (k : Int) - min (q + k) (r + k)).toNat) = signed s (c * 2 ^ (q - min q r).toNat) + signed t (d * 2 ^ (r - min q r).toNat)
        rw [h, h1, h2]
      show Datum.fin (sumSign s t (sumUnits s c (q + k) t d (r + k) (min (q + k) (r + k)))) (sumUnits s c (q + k) t d (r + k) (min (q + k) (r + k))).natAbs (min (q + k) (r + k)) = Datum.fin (sumSign s t (sumUnits s c q t d r (min q r))) (sumUnits s c q t d r (min q r)).natAbs (min q r + k)
      rw [hu, h]
theorem sft_negate (k : Nat) (x : Datum) : negate (sft k x) = sft k (negate x) := by cases x <;> rfl
theorem sft_product (k m : Nat) (x y : Datum) : exactProduct (sft k x) (sft m y) = sft (k + m) (exactProduct x y) := by
  cases x with
  | nan => rfl
  | inf s =>
    cases y with
    | nan => rfl
    | inf t => rfl
    | fin t d r => show (if d = 0 then Datum.nan else .inf (s != t)) = sft (k + m) (if d = 0 then Datum.nan else .inf (s != t)); split <;> rfl
  | fin s c q =>
    cases y with
    | nan => rfl
    | inf t => show (if c = 0 then Datum.nan else .inf (s != t)) = sft (k + m) (if c = 0 then Datum.nan else .inf (s != t)); split <;> rfl
    | fin t d r =>
      show Datum.fin (s != t) (c * d) (q + k + (r + m)) = Datum.fin (s != t) (c * d) (q + r + ((k + m : Nat) : Int))
      congr 1; omega
theorem sft_order (k : Nat) (x y : Datum) : order (sft k x) (sft k y) = order x y := by
  cases x with
  | nan => rfl
  | inf s => cases y <;> rfl
  | fin s c q =>
    cases y with
    | nan => rfl
    | inf t => rfl
    | fin t d r =>
      have h : min (q + (k : Int)) (r + k) = min q r + k := by omega
      have h1 : q + (k : Int) - (min q r + k) = q - min q r := by omega
      have h2 : r + (k : Int) - (min q r + k) = r - min q r := by omega
      show some (compare (signed s (c * 2 ^ (q + (k : Int) - min (q + k) (r + k)).toNat)) (signed t (d * 2 ^ (r + (k : Int) - min (q + k) (r + k)).toNat))) = some (compare (signed s (c * 2 ^ (q - min q r).toNat)) (signed t (d * 2 ^ (r - min q r).toNat)))
      rw [h, h1, h2]
theorem b64_qmin : b64.qmin = -1074 := by decide +kernel
theorem b64_qmax : b64.qmax = 971 := by decide +kernel
theorem b64_tails : b64.tails = 4503599627370496 := by decide +kernel
theorem fits64 (s : Bool) (c : Nat) (q : Int) : Core.fits b64 (.fin s c q) ↔ c < 2 ^ 53 ∧ -1074 ≤ q ∧ q ≤ 971 ∧ (q = -1074 ∨ 4503599627370496 ≤ c) := by
  show (c < 2 ^ 53 ∧ b64.qmin ≤ q ∧ q ≤ b64.qmax ∧ (q = b64.qmin ∨ b64.tails ≤ c)) ↔ _
  rw [b64_qmin, b64_qmax, b64_tails]
/-- n / 2^k is a double, for n up to 2^53 and k up to 1022 -/
theorem natFitS (s : Bool) {n k : Nat} (hk : k ≤ 1022) (hn : n ≤ 2 ^ 53) :
    ∃ c q, Core.fits b64 (.fin s c q) ∧ n * 2 ^ (-(k : Int) - q).toNat = c * 1 * 2 ^ (q - -(k : Int)).toNat := by
  by_cases h0 : n = 0
  · subst h0
    exact ⟨0, b64.qmin, zero_fits good_b64 s, by simp⟩
  · obtain ⟨c, q, hf, hv⟩ := natFit good_b64 wide_b64 s (show n ≤ 2 ^ b64.p from hn)
    rw [fits64] at hf
    have hq : -52 ≤ q := by
      refine Int.not_lt.mp fun hlt => ?_
      have e1 : (q - 0).toNat = 0 := by omega
      have e2 : (0 - q).toNat = 53 + ((0 - q).toNat - 53) := by omega
      rw [e1, e2, Nat.pow_add] at hv
      have p := Nat.two_pow_pos ((0 - q).toNat - 53)
      have : 2 ^ 53 * 1 ≤ 2 ^ 53 * 2 ^ ((0 - q).toNat - 53) := Nat.mul_le_mul_left _ p
      have : 1 * (2 ^ 53 * 2 ^ ((0 - q).toNat - 53)) ≤ n * (2 ^ 53 * 2 ^ ((0 - q).toNat - 53)) := Nat.mul_le_mul_right _ (by omega)
      omega
    refine ⟨c, q - k, (fits64 _ _ _).mpr ⟨hf.1, by omega, by omega, Or.inr (hf.2.2.2.resolve_left (by omega))⟩, ?_⟩
    rw [show -(k : Int) - (q - k) = 0 - q by omega, show q - k - -(k : Int) = q - 0 by omega]
    exact hv
theorem whole_signed {i : Int} {s : Bool} {c : Nat} {q : Int} (h : Whole i (.fin s c q)) : signed s i.natAbs = i := by
  by_cases hi : i = 0
  · rw [hi]; exact signed_zero s
  · rw [whole_sign h hi]; unfold signed
    by_cases h : i < 0 <;> simp [h] <;> omega
theorem ds_round {k : Nat} {i : Int} {d : Datum} (hk : k ≤ 1022) (hi : i.natAbs ≤ 2 ^ 53) (h : Whole i (sft k d)) : Whole i (sft k (Core.round b64 d)) := by
  cases d with
  | nan => exact h.elim
  | inf s => exact h.elim
  | fin s c q =>
    have hs := whole_signed h
    have h1 := whole_natAbs h
    obtain ⟨c', q', hfit, hv⟩ := natFitS s hk hi
    have e1 : Core.round b64 (.fin s c q) = roundRatio b64 s i.natAbs 1 (-(k : Int)) := by
      refine roundRatio_congr (by decide) (by decide) ?_
      rw [show q - -(k : Int) = q + k by omega, show -(k : Int) - q = -(q + k) by omega]
      simpa using h1
    rw [e1, roundRatio_exact good_b64 (by decide) hfit hv]
    show signed s (c' * 2 ^ (q' + (k : Int)).toNat) = i * _
    rw [show -(k : Int) - q' = -(q' + k) by omega, show q' - -(k : Int) = q' + k by omega, Nat.mul_one] at hv
    rw [← hv, signed_mul, hs]
theorem DS.nn {k : Nat} {i : Int} {x : UInt64} (h : DS k i x) : NoNaN64 x := val64_no.mpr fun q => by
  unfold DS at h; rw [q] at h; exact h.elim
theorem DS.fin {k : Nat} {i : Int} {x : UInt64} (h : DS k i x) : ∃ s c q, val64 x = .fin s c q ∧ Whole i (.fin s c (q + (k : Int))) := by
  unfold DS at h
  cases e : val64 x with
  | nan => rw [e] at h; exact h.elim
  | inf s => rw [e] at h; exact h.elim
  | fin s c q => rw [e] at h; exact ⟨s, c, q, rfl, h⟩
theorem DS.lit {k : Nat} {i : Int} {x : UInt64} {s : Bool} {c : Nat} {q : Int} (hv : val64 x = .fin s c q) (he : signed s (c * 2 ^ (q + (k : Int)).toNat) = i * ((2 ^ (-(q + (k : Int))).toNat : Nat) : Int)) : DS k i x := by
  unfold DS; rw [hv]; exact he
theorem DS.i2d (v : Int32) : DS 0 v.toInt (FP.i2d v) := by unfold DS; rw [sft_zero]; exact i2d_int v
theorem DS.l2d {v : Int64} (h : v.toInt.natAbs ≤ 2 ^ 53) : DS 0 v.toInt (FP.l2d v) := by unfold DS; rw [sft_zero]; exact l2d_int h
theorem DS.dint {i : Int} {x : UInt64} (h : DS 0 i x) : DInt i x := by unfold DS at h; rw [sft_zero] at h; exact h
theorem DS.zero (k : Nat) : DS k 0 0 := DS.lit (s := false) (c := 0) (q := -1074) (by decide +kernel) (by rw [Nat.zero_mul, Int.zero_mul]; rfl)
theorem DS.add {k : Nat} {i j : Int} {x y : UInt64} (hx : DS k i x) (hy : DS k j y) (hb : (i + j).natAbs ≤ 2 ^ 53) (hk : k ≤ 1022) : DS k (i + j) (FP.dadd x y) := by
  show Whole _ (sft k (val64 (Core.dadd x y)))
  rw [val64_dadd]; refine ds_round hk hb ?_; rw [← sft_sum]; exact whole_sum hx hy
theorem DS.sub {k : Nat} {i j : Int} {x y : UInt64} (hx : DS k i x) (hy : DS k j y) (hb : (i - j).natAbs ≤ 2 ^ 53) (hk : k ≤ 1022) : DS k (i - j) (FP.dsub x y) := by
  show Whole _ (sft k (val64 (Core.dsub x y)))
  rw [val64_dsub]; refine ds_round hk hb ?_; rw [← sft_sum, ← sft_negate, Int.sub_eq_add_neg]; exact whole_sum hx (whole_negate hy)
theorem DS.mul {k m : Nat} {i j : Int} {x y : UInt64} (hx : DS k i x) (hy : DS m j y) (hb : (i * j).natAbs ≤ 2 ^ 53) (hk : k + m ≤ 1022) : DS (k + m) (i * j) (FP.dmul x y) := by
  show Whole _ (sft (k + m) (val64 (Core.dmul x y)))
  rw [val64_dmul]; refine ds_round hk hb ?_; rw [← sft_product]; exact whole_product hx hy
theorem DS.cmp {k : Nat} {i j : Int} {x y : UInt64} (hx : DS k i x) (hy : DS k j y) : FP.dcmp x y = some (compare i j) := by
  show order (val64 x) (val64 y) = _
  rw [← sft_order k]; exact order_whole hx hy
/-- what dcmp pushes -/
def c3 (i j : Int) : Int32 := if i < j then -1 else if i = j then 0 else 1
theorem c3_lt (i j : Int) : c3 i j < 0 ↔ i < j := by unfold c3; split <;> (try split) <;> simp_all <;> first | decide | omega
theorem c3_gt (i j : Int) : 0 < c3 i j ↔ j < i := by unfold c3; split <;> (try split) <;> simp_all <;> first | decide | omega
theorem c3_eq (i j : Int) : c3 i j = 0 ↔ i = j := by unfold c3; split <;> (try split) <;> simp_all <;> first | decide | omega
theorem cmpV_int (i j : Int) (o : CmpOp) : cmpValue (some (compare i j)) o = c3 i j := by
  unfold c3
  by_cases h1 : i < j
  · have : compare i j = .lt := by simp [compare, compareOfLessAndEq, h1]
    rw [this, if_pos h1]; cases o <;> rfl
  · by_cases h2 : i = j
    · have : compare i j = .eq := by simp [compare, compareOfLessAndEq, h2]
      rw [this, if_neg h1, if_pos h2]; cases o <;> rfl
    · have : compare i j = .gt := by simp [compare, compareOfLessAndEq, h1, h2]
      rw [this, if_neg h1, if_neg h2]; cases o <;> rfl
theorem DS.cmpV {k : Nat} {i j : Int} {x y : UInt64} (hx : DS k i x) (hy : DS k j y) (o : CmpOp) : cmpValue (FP.dcmp x y) o = c3 i j := by rw [hx.cmp hy]; exact cmpV_int i j o
theorem whole_iff {i : Int} {s : Bool} {c : Nat} {q : Int} {N : Nat} (h : 0 ≤ q + N) : Whole i (.fin s c q) ↔ signed s c * ((2 ^ (q + N).toNat : Nat) : Int) = i * ((2 ^ N : Nat) : Int) := by
  show signed s (c * 2 ^ q.toNat) = i * ((2 ^ (-q).toNat : Nat) : Int) ↔ _
  rw [signed_mul]
  have e : q.toNat + N = (q + N).toNat + (-q).toNat := by omega
  have p1 : ((2 ^ N : Nat) : Int) ≠ 0 := by have := Nat.two_pow_pos N; omega
  have p2 : ((2 ^ (-q).toNat : Nat) : Int) ≠ 0 := by have := Nat.two_pow_pos (-q).toNat; omega
  have e1 : signed s c * ((2 ^ q.toNat : Nat) : Int) * ((2 ^ N : Nat) : Int) = signed s c * ((2 ^ (q + N).toNat : Nat) : Int) * ((2 ^ (-q).toNat : Nat) : Int) := by
    rw [Int.mul_assoc, Int.mul_assoc, ← Int.natCast_mul, ← Int.natCast_mul, ← Nat.pow_add, ← Nat.pow_add, e]
  constructor
  · intro hh
    refine Int.eq_of_mul_eq_mul_right p2 ?_
    rw [← e1, hh]; ac_rfl
  · intro hh
    refine Int.eq_of_mul_eq_mul_right p1 ?_
    rw [e1, hh]; ac_rfl
theorem DS.up {k : Nat} {i : Int} {x : UInt64} (h : DS k i x) (m : Nat) : DS (k + m) (i * ((2 ^ m : Nat) : Int)) x := by
  obtain ⟨s, c, q, e, hw⟩ := h.fin
  unfold DS; rw [e]
  show Whole _ (.fin s c (q + ((k + m : Nat) : Int)))
  rw [whole_iff (N := (-q).toNat) (by omega)]
  rw [whole_iff (N := (-q).toNat + m) (by omega)] at hw
  rw [show q + (k : Int) + (((-q).toNat + m : Nat) : Int) = q + ((k + m : Nat) : Int) + ((-q).toNat : Nat) by omega] at hw
  rw [hw, Nat.pow_add, Int.natCast_mul]; ac_rfl
theorem DS.cast {k k' : Nat} {i i' : Int} {x : UInt64} (h : DS k i x) (e1 : k = k') (e2 : i = i') : DS k' i' x := e1 ▸ e2 ▸ h
/-- the quotient, as the rounding of a ratio of whole numbers -/
theorem ds_quot {k m : Nat} {i j : Int} {x y : UInt64} (hx : DS k i x) (hy : DS m j y) (hj : j ≠ 0) :
    ∃ s t, signed s i.natAbs = i ∧ signed t j.natAbs = j ∧ val64 (FP.ddiv x y) = roundRatio b64 (s != t) i.natAbs j.natAbs ((m : Int) - k) := by
  obtain ⟨s, c, q, e, hw⟩ := hx.fin
  obtain ⟨t, d, r, e', hw'⟩ := hy.fin
  have hd : d ≠ 0 := fun z => hj ((whole_zero hw').mp z)
  have h1 := whole_natAbs hw
  have h2 := whole_natAbs hw'
  refine ⟨s, t, whole_signed hw, whole_signed hw', ?_⟩
  show val64 (Core.ddiv x y) = _
  rw [val64_ddiv, e, e']
  show (if d = 0 then _ else roundRatio b64 (s != t) c d (q - r)) = _
  rw [if_neg hd]
  have hj' : 0 < j.natAbs := by omega
  rw [roundRatio_congr (A' := i.natAbs) (B' := d) (e' := -(k : Int) - r) (by omega) (by omega) (by
    rw [show q - r - (-(k : Int) - r) = q + k by omega, show -(k : Int) - r - (q - r) = -(q + k) by omega, Nat.mul_right_comm, h1]; ac_rfl)]
  refine roundRatio_congr (by omega) hj' ?_
  rw [show -(k : Int) - r - ((m : Int) - k) = -(r + m) by omega, show (m : Int) - k - (-(k : Int) - r) = r + m by omega, Nat.mul_assoc, ← h2]; ac_rfl
theorem DS.div {k m n : Nat} {i j Q : Int} {x y : UInt64} (hx : DS k i x) (hy : DS m j y) (hj : j ≠ 0) (hQ : i * ((2 ^ (m + n) : Nat) : Int) = Q * j * ((2 ^ k : Nat) : Int)) (hb : Q.natAbs ≤ 2 ^ 53) (hn : n ≤ 1022) : DS n Q (FP.ddiv x y) := by
  obtain ⟨s, t, hs, ht, hv⟩ := ds_quot hx hy hj
  obtain ⟨c', q', hfit, hf⟩ := natFitS (s != t) hn hb
  have hj' : 0 < j.natAbs := by omega
  have hQn : i.natAbs * 2 ^ (m + n) = Q.natAbs * j.natAbs * 2 ^ k := by
    have := congrArg Int.natAbs hQ
    rwa [Int.natAbs_mul, Int.natAbs_mul, Int.natAbs_mul, Int.natAbs_natCast, Int.natAbs_natCast] at this
  have e1 : roundRatio b64 (s != t) i.natAbs j.natAbs ((m : Int) - k) = roundRatio b64 (s != t) Q.natAbs 1 (-(n : Int)) := by
    refine roundRatio_congr hj' (by decide) ?_
    rw [Nat.mul_one]
    have ea : m + n = ((m : Int) - k - -(n : Int)).toNat + min (m + n) k := by omega
    have eb : k = (-(n : Int) - ((m : Int) - k)).toNat + min (m + n) k := by omega
    generalize ((m : Int) - k - -(n : Int)).toNat = u at ea ⊢
    generalize (-(n : Int) - ((m : Int) - k)).toNat = w at eb ⊢
    have hQ2 : i.natAbs * 2 ^ (u + min (m + n) k) = Q.natAbs * j.natAbs * 2 ^ (w + min (m + n) k) := by rw [← ea, ← eb]; exact hQn
    rw [Nat.pow_add, Nat.pow_add, ← Nat.mul_assoc, ← Nat.mul_assoc] at hQ2
    exact Nat.eq_of_mul_eq_mul_right (Nat.two_pow_pos _) hQ2
  rw [e1, roundRatio_exact good_b64 (by decide) hfit hf] at hv
  unfold DS; rw [hv]
  show signed (s != t) (c' * 2 ^ (q' + (n : Int)).toNat) = Q * _
  rw [show -(n : Int) - q' = -(q' + n) by omega, show q' - -(n : Int) = q' + n by omega, Nat.mul_one] at hf
  rw [← hf, signed_mul]
  congr 1
  have hp : (0 : Int) < ((2 ^ (m + n) : Nat) : Int) := by have := Nat.two_pow_pos (m + n); omega
  have hp2 : (0 : Int) < ((2 ^ k : Nat) : Int) := by have := Nat.two_pow_pos k; omega
  generalize ((2 ^ (m + n) : Nat) : Int) = P1 at hQ hp
  generalize ((2 ^ k : Nat) : Int) = P2 at hQ hp2
  -- the sign of the quotient
  have key : signed (s != t) (Q.natAbs * (j.natAbs * j.natAbs)) = Q * (j.natAbs * j.natAbs : Nat) := by
    have e2 : signed (s != t) (i.natAbs * j.natAbs) = i * j := by rw [signed_xor, hs, ht]
    have e3 : i.natAbs * P1.natAbs = Q.natAbs * j.natAbs * P2.natAbs := by
      have := congrArg Int.natAbs hQ
      rwa [Int.natAbs_mul, Int.natAbs_mul, Int.natAbs_mul] at this
    have e4 : signed (s != t) (Q.natAbs * (j.natAbs * j.natAbs)) * P2 = Q * (j.natAbs * j.natAbs : Nat) * P2 := by
      have p2 : P2 = (P2.natAbs : Int) := by omega
      have p1 : P1 = (P1.natAbs : Int) := by omega
      calc signed (s != t) (Q.natAbs * (j.natAbs * j.natAbs)) * P2
          = signed (s != t) (Q.natAbs * (j.natAbs * j.natAbs) * P2.natAbs) := by rw [signed_mul _ (Q.natAbs * (j.natAbs * j.natAbs)), ← p2]
        _ = signed (s != t) (i.natAbs * j.natAbs * P1.natAbs) := by
            congr 1
            calc Q.natAbs * (j.natAbs * j.natAbs) * P2.natAbs = (Q.natAbs * j.natAbs * P2.natAbs) * j.natAbs := by ac_rfl
              _ = i.natAbs * j.natAbs * P1.natAbs := by rw [← e3]; ac_rfl
        _ = i * j * P1 := by rw [signed_mul, e2, ← p1]
        _ = (i * P1) * j := by ac_rfl
        _ = Q * (j * j) * P2 := by rw [hQ]; ac_rfl
        _ = Q * (j.natAbs * j.natAbs : Nat) * P2 := by rw [Int.natCast_mul, Int.natAbs_mul_self' j]
    exact Int.eq_of_mul_eq_mul_right (by omega) e4
  rw [signed_mul] at key
  exact Int.eq_of_mul_eq_mul_right (by have : 0 < j.natAbs * j.natAbs := Nat.mul_pos hj' hj'; omega) key
/-- by a power of two -/
theorem DS.divp {k t : Nat} {i : Int} {x y : UInt64} (hx : DS k i x) (hy : DS 0 ((2 ^ t : Nat) : Int) y) (hb : i.natAbs ≤ 2 ^ 53) (hn : k + t ≤ 1022) : DS (k + t) i (FP.ddiv x y) :=
  DS.div hx hy (by have := Nat.two_pow_pos t; omega) (by rw [Nat.zero_add, Nat.pow_add, Int.natCast_mul]; ac_rfl) hb hn
theorem sft_rem (k : Nat) (x y : Datum) : exactRemainder (sft k x) (sft k y) = sft k (exactRemainder x y) := by
  cases x with
  | nan => rfl
  | inf s => rfl
  | fin s c q =>
    cases y with
    | nan => rfl
    | inf t => rfl
    | fin t d r =>
      have h : min (q + (k : Int)) (r + k) = min q r + k := by omega
      have h1 : q + (k : Int) - (min q r + k) = q - min q r := by omega
      have h2 : r + (k : Int) - (min q r + k) = r - min q r := by omega
      show (if d = 0 then Datum.nan else .fin s (c * 2 ^ (q + (k : Int) - min (q + k) (r + k)).toNat % (d * 2 ^ (r + (k : Int) - min (q + k) (r + k)).toNat)) (min (q + k) (r + k))) = sft k (if d = 0 then Datum.nan else .fin s (c * 2 ^ (q - min q r).toNat % (d * 2 ^ (r - min q r).toNat)) (min q r))
      rw [h, h1, h2]; split <;> rfl
theorem signed_tmod {s : Bool} {i : Int} (hs : signed s i.natAbs = i) (j : Int) : signed s (i.natAbs % j.natAbs) = i.tmod j := by
  cases i with
  | ofNat a =>
    have e : Int.tmod (Int.ofNat a) j = ((a % j.natAbs : Nat) : Int) := by cases j <;> rfl
    rw [e]; show signed s (a % j.natAbs) = _
    have hs' : signed s a = (a : Int) := hs
    cases s with
    | false => rfl
    | true =>
      have h0 : a = 0 := by
        have : -(a : Int) = (a : Int) := hs'
        omega
      subst h0; rw [Nat.zero_mod]; rfl
  | negSucc a =>
    have e : Int.tmod (Int.negSucc a) j = -(((a + 1) % j.natAbs : Nat) : Int) := by cases j <;> rfl
    rw [e]; show signed s ((a + 1) % j.natAbs) = _
    cases s with
    | true => rfl
    | false =>
      have : ((a + 1 : Nat) : Int) = Int.negSucc a := hs
      omega
theorem whole_rem {i j : Int} {x y : Datum} (hx : Whole i x) (hy : Whole j y) (hj : j ≠ 0) : Whole (i.tmod j) (exactRemainder x y) := by
  cases x with
  | nan => exact hx.elim
  | inf => exact hx.elim
  | fin s c q =>
  cases y with
  | nan => exact hy.elim
  | inf => exact hy.elim
  | fin t d r =>
    have hd : d ≠ 0 := fun z => hj ((whole_zero hy).mp z)
    have h1 := congrArg Int.natAbs (whole_units hx (e := min q r) (by omega))
    have h2 := congrArg Int.natAbs (whole_units hy (e := min q r) (by omega))
    rw [Int.natAbs_mul, Int.natAbs_mul, Int.natAbs_natCast, Int.natAbs_natCast, natAbs_signed] at h1 h2
    show Whole _ (if d = 0 then _ else Datum.fin s (inUnits c q (min q r) % inUnits d r (min q r)) (min q r))
    rw [if_neg hd]
    show signed s (inUnits c q (min q r) % inUnits d r (min q r) * 2 ^ (min q r).toNat) = i.tmod j * ((2 ^ (-(min q r)).toNat : Nat) : Int)
    rw [← Nat.mul_mod_mul_right, h1, h2, Nat.mul_mod_mul_right, signed_mul, signed_tmod (whole_signed hx)]
theorem DS.rem {k : Nat} {i j : Int} {x y : UInt64} (hx : DS k i x) (hy : DS k j y) (hj : j ≠ 0) (hb : (i.tmod j).natAbs ≤ 2 ^ 53) (hk : k ≤ 1022) : DS k (i.tmod j) (FP.drem x y) := by
  show Whole _ (sft k (val64 (Core.drem x y)))
  rw [val64_drem]; refine ds_round hk hb ?_; rw [← sft_rem]; exact whole_rem hx hy hj
end Dyad
def own_buy (k : Int) (w : Int64) : Int := if w = 0 then 512 else if 0 < w then k else 1024 - k

theorem d2_0 : decode jdk_30_method_1_code 0 = .ok (.aload_n 0, 1) := by decide +kernel
theorem d2_1 : decode jdk_30_method_1_code 1 = .ok (.invokespecial 1, 3) := by decide +kernel
theorem d2_4 : decode jdk_30_method_1_code 4 = .ok (.return_, 1) := by decide +kernel
theorem pn0 : plainName "java/lang/Record" = true := by first | (simp [plainName, overriddenIn]; done) | decide +kernel
theorem ef2_rm2 (m : MethodId) (x0 : Addr) : entryFrame m #[(.ref x0)] 1 = mkF m 0 #[.val (.ref x0)] [] := by first | (simp [entryFrame, mkF, argsToLocals, Value.category]; done) | rfl
def Q2 (Z : State) (a : Addr) (h0 : Heap) (n0 : Nat) (v : Option Value) (h : Heap) (L : List Loc) : Prop := v = none ∧ Fr n0 L ∧ h = h0
set_option maxRecDepth 65536 in
set_option maxHeartbeats 40000000 in
theorem rm2 (l : Launch) (Z : State) (a0 : Array Value) (hw : ∀ d ∈ tables_1, d.before a0 Z = true) (ws : List Jvm.Cond) (a : Addr) (h0 : Heap) (n0 : Nat) (Z0 : n0 ≤ h0.size) :
    MetFree l (⟨"java/lang/Record", "<init>", "()V"⟩ : MethodName) (head1 (Jvm.Cond.code (⟨"java/lang/Record", "<init>", "()V"⟩ : MethodName) jdk_30_method_1_code 1 none :: ws) ({ frames := 1, cells := 0, slots := 0, locals := 12 } : Room)) (fun aa UU => aa = #[(.ref a)] ∧ Z.Warmed39 UU.vm ∧ UU.heap = h0) (fun _ _ _ _ _ => True) (fun _ UU oo UU' => ∃ vv LL, oo = .returned vv ∧ Q2 Z a h0 n0 vv UU'.heap LL ∧ FrameEnd UU oo UU' LL ({ frames := 1, cells := 0, slots := 0, locals := 12 } : Room).cells ({ frames := 1, cells := 0, slots := 0, locals := 12 } : Room).slots) := by
  refine MetFree.of_bodySF (plainFor_of_name pn0) hisR ?_
  intro p e s m args below meth c s₁ Bd hml0 hP hK
  obtain ⟨rfl, hZ, hh⟩ := hP
  have hx := Bd.exec
  have hby := Bd.bytes
  have hlk : meth.locks = false := BodyLoose.notSynchronized Bd
  have hret := Bd.returns
  have hml : c.maxLocals = 1 := hml0
  have hown : s.vm.findClass "java/lang/Record" = some m.cls := findClass_of_methodNamed Bd.named
  have hnm := (name_of_methodNamed Bd.named Bd.method).1
  have X0 : Stand p l e ({ frames := 1, cells := 0, slots := 0, locals := 12 } : Room) s m #[(.ref a)] below meth c s₁ [] 0 0 := Stand.of_body Bd
  have e0 : s₁.heap = h0 := by rw [← hh, Bd.state]; rfl
  have N0 := Fr.nil n0
  show Dn p e below s (Q2 Z a h0 n0) ({ frames := 1, cells := 0, slots := 0, locals := 12 } : Room).cells ({ frames := 1, cells := 0, slots := 0, locals := 12 } : Room).slots (s₁.setTop (entryFrame m #[(.ref a)] 1))
  refine Dn.st (fun _ kk => castTop (ef2_rm2 m a) kk) ?_
  show Dn p e below s _ _ _ (s₁.setTop (mkF m 0 #[.val (.ref a)] []))
  refine Dn.st (fun _ kk => XS.aloadN X0.here hx rfl (hb hby d2_0) rfl rfl (kk)) ?_
  show Dn p e below s _ _ _ (s₁.setTop (mkF m 1 #[.val (.ref a)] [(.ref a)]))
  obtain ⟨T1, X1, e1, st1⟩ := initO X0 hx hZ hown (hw _ (List.mem_of_getElem? (i := 13) rfl)) (hw _ (List.mem_of_getElem? (i := 14) rfl)) (hw _ (List.mem_of_getElem? (i := 15) rfl)) e0 (g := (mkF m 1 #[.val (.ref a)] [(.ref a)])) rfl (by rw [hml]; rfl) rfl (hb hby d2_1) (by decide) (W := 0) (by show 2 * 0 + _ ≤ _; exact Nat.le_of_eq rfl) (by decide)
  refine Dn.st st1 ?_
  show Dn p e below s _ _ _ (T1.setTop (mkF m 4 #[.val (.ref a)] []))
  exact Dn.ret0 X1 hlk hx hret (hb hby d2_4) (by rw [e1]; exact ⟨rfl, N0, rfl⟩) (by decide) (by decide)

theorem d1_0 : decode prog_31_method_1_code 0 = .ok (.aload_n 0, 1) := by decide +kernel
theorem d1_1 : decode prog_31_method_1_code 1 = .ok (.invokespecial 1, 3) := by decide +kernel
theorem d1_4 : decode prog_31_method_1_code 4 = .ok (.aload_n 0, 1) := by decide +kernel
theorem d1_5 : decode prog_31_method_1_code 5 = .ok (.dload_n 1, 1) := by decide +kernel
theorem d1_6 : decode prog_31_method_1_code 6 = .ok (.putfield 7, 3) := by decide +kernel
theorem d1_9 : decode prog_31_method_1_code 9 = .ok (.return_, 1) := by decide +kernel
theorem pd0 : parseMethodDescriptor "()V" = some ⟨[], none⟩ := by decide +kernel
theorem pn1 : plainName "com/example/listino/listino/market/Imitation" = true := by first | (simp [plainName, overriddenIn]; done) | decide +kernel
theorem ef1_rm1 (m : MethodId) (x0 : Addr) (x1 : UInt64) : entryFrame m #[(.ref x0), (.double x1)] 3 = mkF m 0 #[.val (.ref x0), .val (.double x1), .second] [] := by first | (simp [entryFrame, mkF, argsToLocals, Value.category]; done) | rfl
def Q1 (Z : State) (a : Addr) (pr : UInt64) (h0 : Heap) (n0 : Nat) (v : Option Value) (h : Heap) (L : List Loc) : Prop := v = none ∧ Fr n0 L ∧ Keep h0 h [a] ∧ Exa Z h a "com/example/listino/listino/market/Imitation" ∧ (Fld Z h a "com/example/listino/listino/market/Imitation" "probability" "D" (.double pr))
set_option maxRecDepth 65536 in
set_option maxHeartbeats 40000000 in
theorem rm1 (l : Launch) (Z : State) (a0 : Array Value) (hw : ∀ d ∈ tables_1, d.before a0 Z = true) (ws : List Jvm.Cond) (a : Addr) (pr : UInt64) (h0 : Heap) (n0 : Nat) (Z0 : n0 ≤ h0.size) (ga : n0 ≤ a) (Ea : Exa Z h0 a "com/example/listino/listino/market/Imitation") (F0 : Fld Z h0 a "com/example/listino/listino/market/Imitation" "probability" "D" (.double 0)) :
    MetFree l (⟨"com/example/listino/listino/market/Imitation", "<init>", "(D)V"⟩ : MethodName) (head1 (Jvm.Cond.code (⟨"com/example/listino/listino/market/Imitation", "<init>", "(D)V"⟩ : MethodName) prog_31_method_1_code 3 none :: ws) ({ frames := 2, cells := 0, slots := 0, locals := 24 } : Room)) (fun aa UU => aa = #[(.ref a), (.double pr)] ∧ Z.Warmed39 UU.vm ∧ UU.heap = h0) (fun _ _ _ _ _ => True) (fun _ UU oo UU' => ∃ vv LL, oo = .returned vv ∧ Q1 Z a pr h0 n0 vv UU'.heap LL ∧ FrameEnd UU oo UU' LL ({ frames := 2, cells := 0, slots := 0, locals := 24 } : Room).cells ({ frames := 2, cells := 0, slots := 0, locals := 24 } : Room).slots) := by
  refine MetFree.of_bodySF (plainFor_of_name pn1) hisR ?_
  intro p e s m args below meth c s₁ Bd hml0 hP hK
  obtain ⟨rfl, hZ, hh⟩ := hP
  have hx := Bd.exec
  have hby := Bd.bytes
  have hlk : meth.locks = false := BodyLoose.notSynchronized Bd
  have hret := Bd.returns
  have hml : c.maxLocals = 3 := hml0
  have hown : s.vm.findClass "com/example/listino/listino/market/Imitation" = some m.cls := findClass_of_methodNamed Bd.named
  have hnm := (name_of_methodNamed Bd.named Bd.method).1
  have X0 : Stand p l e ({ frames := 2, cells := 0, slots := 0, locals := 24 } : Room) s m #[(.ref a), (.double pr)] below meth c s₁ [] 0 0 := Stand.of_body Bd
  have e0 : s₁.heap = h0 := by rw [← hh, Bd.state]; rfl
  have N0 := Fr.nil n0
  show Dn p e below s (Q1 Z a pr h0 n0) ({ frames := 2, cells := 0, slots := 0, locals := 24 } : Room).cells ({ frames := 2, cells := 0, slots := 0, locals := 24 } : Room).slots (s₁.setTop (entryFrame m #[(.ref a), (.double pr)] 3))
  refine Dn.st (fun _ kk => castTop (ef1_rm1 m a pr) kk) ?_
  show Dn p e below s _ _ _ (s₁.setTop (mkF m 0 #[.val (.ref a), .val (.double pr), .second] []))
  refine Dn.st (fun _ kk => XS.aloadN X0.here hx rfl (hb hby d1_0) rfl rfl (kk)) ?_
  show Dn p e below s _ _ _ (s₁.setTop (mkF m 1 #[.val (.ref a), .val (.double pr), .second] [(.ref a)]))
  obtain ⟨_, _, ⟨T1, L1, k1, n1⟩, -, X1, ⟨Lc1, hQ1, l1, y1, z1⟩, st1⟩ := X0.specialBack hx (y := (⟨"java/lang/Record", "<init>", "()V"⟩ : MethodName)) rfl hown (mvT hZ (hw _ (List.mem_of_getElem? (i := 8) rfl))) (mvT hZ (hw _ (List.mem_of_getElem? (i := 9) rfl))) (mvT hZ (hw _ (List.mem_of_getElem? (i := 12) rfl))) (by decide) (backOf (W := 0) (rm2 l Z a0 hw [] a  h0 n0 Z0 ) hZ (hw _ (List.mem_of_getElem? (i := 12) rfl)) (hw _ (List.mem_of_getElem? (i := 11) rfl)) (by decide) (by decide)) (g := (mkF m 1 #[.val (.ref a), .val (.double pr), .second] [(.ref a)])) rfl (by rw [hml]; rfl) (Steps.refl _) (a := a) (argsL := []) (rest := []) (lenOf pd0 rfl) rfl (by show 2 * 0 + _ ≤ _; exact Nat.le_of_eq rfl) (hb hby d1_1) (fun _ _ => ⟨rfl, e0, (by decide : 0 + 0 ≤ _), (by decide : 0 + 0 ≤ _)⟩)
  dsimp only [Pt.U, Pt.locs, Pt.cells, Pt.slots] at X1 l1 y1 z1 st1 hQ1
  subst l1 y1 z1
  obtain ⟨rfl, Nq1, hh1⟩ := hQ1
  have N1 := Fr.app N0 Nq1
  refine Dn.tr st1 ?_
  show Dn p e below s _ _ _ (T1.setTop (mkF m 4 #[.val (.ref a), .val (.double pr), .second] []))
  refine Dn.st (fun _ kk => XS.aloadN X1.here hx rfl (hb hby d1_4) rfl rfl (XS.dloadN X1.here hx rfl (hb hby d1_5) rfl  (kk))) ?_
  show Dn p e below s _ _ _ (T1.setTop (mkF m 6 #[.val (.ref a), .val (.double pr), .second] [(.double pr), (.ref a)]))
  obtain ⟨T6, h6, X6, e6, W6, st6⟩ := putF X1 hx hZ hown (host := "") (Or.inl (hw _ (List.mem_of_getElem? (i := 16) rfl))) Via.refl hh1 F0 Ea (Or.inr ⟨(hw _ (List.mem_of_getElem? (i := 17) rfl)), rfl, hnm⟩) (hw _ (List.mem_of_getElem? (i := 3) rfl)) (ty := .double) (by decide) rfl rfl (g := (mkF m 6 #[.val (.ref a), .val (.double pr), .second] [(.double pr), (.ref a)])) rfl rfl (hb hby d1_6)
  have E_a_6 := Ea.wr W6
  have F_a_probability_6 := F0.same W6
  have K6 := (Keep.refl h0 [a]).wr W6 (Or.inl (List.mem_of_getElem? (i := 0) rfl))
  have N6 := Fr.snoc X6 N1 ga
  have Z6 : n0 ≤ h6.size := Nat.le_trans Z0 (Keep.of_wr W6).1
  refine Dn.st st6 ?_
  show Dn p e below s _ _ _ (T6.setTop (mkF m 9 #[.val (.ref a), .val (.double pr), .second] []))
  exact Dn.ret0 X6 hlk hx hret (hb hby d1_9) (by rw [e6]; exact ⟨rfl, N6, K6, E_a_6, F_a_probability_6⟩) (by decide) (by decide)

theorem d4_0 : decode prog_31_method_3_code 0 = .ok (.lload_n 1, 1) := by decide +kernel
theorem d4_1 : decode prog_31_method_3_code 1 = .ok (.lconst 0, 1) := by decide +kernel
theorem d4_2 : decode prog_31_method_3_code 2 = .ok (.lcmp, 1) := by decide +kernel
theorem d4_3 : decode prog_31_method_3_code 3 = .ok (.ifCond .ne 7, 3) := by decide +kernel
theorem d4_6 : decode prog_31_method_3_code 6 = .ok (.ldc2_w 38, 3) := by decide +kernel
theorem d4_9 : decode prog_31_method_3_code 9 = .ok (.dreturn, 1) := by decide +kernel
theorem d4_10 : decode prog_31_method_3_code 10 = .ok (.lload_n 1, 1) := by decide +kernel
theorem d4_11 : decode prog_31_method_3_code 11 = .ok (.lconst 0, 1) := by decide +kernel
theorem d4_12 : decode prog_31_method_3_code 12 = .ok (.lcmp, 1) := by decide +kernel
theorem d4_13 : decode prog_31_method_3_code 13 = .ok (.ifCond .le 10, 3) := by decide +kernel
theorem d4_16 : decode prog_31_method_3_code 16 = .ok (.aload_n 0, 1) := by decide +kernel
theorem d4_17 : decode prog_31_method_3_code 17 = .ok (.getfield 7, 3) := by decide +kernel
theorem d4_20 : decode prog_31_method_3_code 20 = .ok (.goto 9, 3) := by decide +kernel
theorem d4_23 : decode prog_31_method_3_code 23 = .ok (.dconst 1, 1) := by decide +kernel
theorem d4_24 : decode prog_31_method_3_code 24 = .ok (.aload_n 0, 1) := by decide +kernel
theorem d4_25 : decode prog_31_method_3_code 25 = .ok (.getfield 7, 3) := by decide +kernel
theorem d4_28 : decode prog_31_method_3_code 28 = .ok (.dsub, 1) := by decide +kernel
theorem d4_29 : decode prog_31_method_3_code 29 = .ok (.dreturn, 1) := by decide +kernel
theorem dc_4602678819172646912 : DS 1 1 (4602678819172646912 : UInt64) := DS.lit (s := false) (c := 4503599627370496) (q := -53) (by decide +kernel) (by decide +kernel)
theorem dc_4607182418800017408 : DS 0 1 (4607182418800017408 : UInt64) := DS.lit (s := false) (c := 4503599627370496) (q := -52) (by decide +kernel) (by decide +kernel)
theorem ef4_rm4 (m : MethodId) (x0 : Addr) (x1 : Int64) : entryFrame m #[(.ref x0), (.long x1)] 3 = mkF m 0 #[.val (.ref x0), .val (.long x1), .second] [] := by first | (simp [entryFrame, mkF, argsToLocals, Value.category]; done) | rfl
def Q4 (Z : State) (a : Addr) (w1 : Int64) (pr : UInt64) (kk : Int) (h0 : Heap) (n0 : Nat) (v : Option Value) (h : Heap) (L : List Loc) : Prop := ∃ z, v = some (.double z) ∧ DS 10 (own_buy kk w1) z ∧ Fr n0 L ∧ h = h0
set_option maxRecDepth 65536 in
set_option maxHeartbeats 40000000 in
theorem rm4 (l : Launch) (Z : State) (a0 : Array Value) (hw : ∀ d ∈ tables_1, d.before a0 Z = true) (ws : List Jvm.Cond) (a : Addr) (w1 : Int64) (pr : UInt64) (kk : Int) (h0 : Heap) (n0 : Nat) (Z0 : n0 ≤ h0.size) (F0 : Fld Z h0 a "com/example/listino/listino/market/Imitation" "probability" "D" (.double pr)) (dp : DS 10 kk pr) (hk : 0 ≤ kk ∧ kk ≤ 1024) :
    MetFree l (⟨"com/example/listino/listino/market/Imitation", "buyProbability", "(J)D"⟩ : MethodName) (head1 (Jvm.Cond.code (⟨"com/example/listino/listino/market/Imitation", "buyProbability", "(J)D"⟩ : MethodName) prog_31_method_3_code 3 (some .double) :: ws) ({ frames := 0, cells := 0, slots := 0, locals := 0 } : Room)) (fun aa UU => aa = #[(.ref a), (.long w1)] ∧ Z.Warmed39 UU.vm ∧ UU.heap = h0) (fun _ _ _ _ _ => True) (fun _ UU oo UU' => ∃ vv LL, oo = .returned vv ∧ Q4 Z a w1 pr kk h0 n0 vv UU'.heap LL ∧ FrameEnd UU oo UU' LL ({ frames := 0, cells := 0, slots := 0, locals := 0 } : Room).cells ({ frames := 0, cells := 0, slots := 0, locals := 0 } : Room).slots) := by
  refine MetFree.of_bodySF (plainFor_of_name pn1) hisR ?_
  intro p e s m args below meth c s₁ Bd hml0 hP hK
  obtain ⟨rfl, hZ, hh⟩ := hP
  have hx := Bd.exec
  have hby := Bd.bytes
  have hlk : meth.locks = false := BodyLoose.notSynchronized Bd
  have hret := Bd.returns
  have hml : c.maxLocals = 3 := hml0
  have hown : s.vm.findClass "com/example/listino/listino/market/Imitation" = some m.cls := findClass_of_methodNamed Bd.named
  have hnm := (name_of_methodNamed Bd.named Bd.method).1
  have X0 : Stand p l e ({ frames := 0, cells := 0, slots := 0, locals := 0 } : Room) s m #[(.ref a), (.long w1)] below meth c s₁ [] 0 0 := Stand.of_body Bd
  have e0 : s₁.heap = h0 := by rw [← hh, Bd.state]; rfl
  have N0 := Fr.nil n0
  have r_w1 := rng64 w1
  show Dn p e below s (Q4 Z a w1 pr kk h0 n0) ({ frames := 0, cells := 0, slots := 0, locals := 0 } : Room).cells ({ frames := 0, cells := 0, slots := 0, locals := 0 } : Room).slots (s₁.setTop (entryFrame m #[(.ref a), (.long w1)] 3))
  refine Dn.st (fun _ kk => castTop (ef4_rm4 m a w1) kk) ?_
  show Dn p e below s _ _ _ (s₁.setTop (mkF m 0 #[.val (.ref a), .val (.long w1), .second] []))
  refine Dn.st (fun _ kk => XS.lloadN X0.here hx rfl (hb hby d4_0) rfl  (XS.lconst X0.here hx rfl (hb hby d4_1) (XS.lcmp X0.here hx rfl (hb hby d4_2) rfl (kk)))) ?_
  show Dn p e below s _ _ _ (s₁.setTop (mkF m 3 #[.val (.ref a), .val (.long w1), .second] [(.int (lcmpW w1 (0 : Int64)))]))
  by_cases hc3 : (lcmpW w1 (0 : Int64)) = (0 : Int32)
  · have hj3 := (lw_eq _ _).mp hc3
    have hi3 : w1.toInt = 0 := congrArg Int64.toInt hj3
    refine Dn.st (fun _ kk => XS.ifNo X0.here hx rfl (hb hby d4_3) rfl ((if0 _ _).trans (teq hc3).2) (X0.ldc2DoubleC hx hown (mvT hZ (hw _ (List.mem_of_getElem? (i := 23) rfl))) (g := (mkF m 6 #[.val (.ref a), .val (.long w1), .second] [])) rfl (hb hby d4_6) _ (kk))) ?_
    show Dn p e below s _ _ _ (s₁.setTop (mkF m 9 #[.val (.ref a), .val (.long w1), .second] [(.double (4602678819172646912 : UInt64))]))
    exact Dn.ret X0 hlk hx hret rfl (Or.inr (Or.inr (Or.inl ⟨rfl, rfl, _, rfl⟩))) (hb hby d4_9) (by rw [e0]; exact ⟨_, rfl, (((dc_4602678819172646912).up 9)).cast rfl (by unfold own_buy; first | (rw [if_pos hj3] <;> first | rfl | decide) | (rw [if_neg hj3, if_pos hj13]) | (rw [if_neg hj3, if_neg hj13] <;> omega)), N0, rfl⟩) (by decide) (by decide)
  · have hj3 := mt (lw_eq _ _).mpr hc3
    have hi3 : ¬ w1.toInt = 0 := fun qq => hj3 (Int64.toInt_inj.mp qq)
    refine Dn.st (fun _ kk => XS.ifYes X0.here hx rfl (pc0 := 3) (pc' := 10) rfl (hb hby d4_3) rfl ((if0 _ _).trans (feq hc3).2) (by decide) (by decide) (XS.lloadN X0.here hx rfl (hb hby d4_10) rfl  (XS.lconst X0.here hx rfl (hb hby d4_11) (XS.lcmp X0.here hx rfl (hb hby d4_12) rfl (kk))))) ?_
    show Dn p e below s _ _ _ (s₁.setTop (mkF m 13 #[.val (.ref a), .val (.long w1), .second] [(.int (lcmpW w1 (0 : Int64)))]))
    by_cases hc13 : (0 : Int32) < (lcmpW w1 (0 : Int64))
    · have hj13 := (lw_gt _ _).mp hc13
      have hi13 : 0 < w1.toInt := Int64.lt_iff_toInt_lt.mp hj13
      refine Dn.st (fun _ kk => XS.ifNo X0.here hx rfl (hb hby d4_13) rfl ((if0 _ _).trans (tlt hc13).2.2.2) (XS.aloadN X0.here hx rfl (hb hby d4_16) rfl rfl (kk))) ?_
      show Dn p e below s _ _ _ (s₁.setTop (mkF m 17 #[.val (.ref a), .val (.long w1), .second] [(.ref a)]))
      obtain ⟨T17, X17, e17, st17⟩ := getF X0 hx hZ hown (host := "") (Or.inl (hw _ (List.mem_of_getElem? (i := 16) rfl))) Via.refl e0 F0 (g := (mkF m 17 #[.val (.ref a), .val (.long w1), .second] [(.ref a)])) rfl rfl (hb hby d4_17)
      refine Dn.st st17 ?_
      show Dn p e below s _ _ _ (T17.setTop (mkF m 20 #[.val (.ref a), .val (.long w1), .second] [(.double pr)]))
      refine Dn.st (fun _ kk => XS.goto X17.here hx rfl (pc0 := 20) (pc' := 29) rfl (hb hby d4_20) (by decide) (by decide) (kk)) ?_
      show Dn p e below s _ _ _ (T17.setTop (mkF m 29 #[.val (.ref a), .val (.long w1), .second] [(.double pr)]))
      exact Dn.ret X17 hlk hx hret rfl (Or.inr (Or.inr (Or.inl ⟨rfl, rfl, _, rfl⟩))) (hb hby d4_29) (by rw [e17]; exact ⟨_, rfl, (dp).cast rfl (by unfold own_buy; first | (rw [if_pos hj3] <;> first | rfl | decide) | (rw [if_neg hj3, if_pos hj13]) | (rw [if_neg hj3, if_neg hj13] <;> omega)), N0, rfl⟩) (by decide) (by decide)
    · have hj13 := mt (lw_gt _ _).mpr hc13
      have hi13 : ¬ 0 < w1.toInt := fun qq => hj13 (Int64.lt_iff_toInt_lt.mpr qq)
      refine Dn.st (fun _ kk => XS.ifYes X0.here hx rfl (pc0 := 13) (pc' := 23) rfl (hb hby d4_13) rfl ((if0 _ _).trans (flt hc13).2.2.2) (by decide) (by decide) (XS.dconst1 X0.here hx rfl (hb hby d4_23) rfl (XS.aloadN X0.here hx rfl (hb hby d4_24) rfl rfl (kk)))) ?_
      show Dn p e below s _ _ _ (s₁.setTop (mkF m 25 #[.val (.ref a), .val (.long w1), .second] [(.ref a), (.double FP.dconst1)]))
      obtain ⟨T25, X25, e25, st25⟩ := getF X0 hx hZ hown (host := "") (Or.inl (hw _ (List.mem_of_getElem? (i := 16) rfl))) Via.refl e0 F0 (g := (mkF m 25 #[.val (.ref a), .val (.long w1), .second] [(.ref a), (.double FP.dconst1)])) rfl rfl (hb hby d4_25)
      refine Dn.st st25 ?_
      show Dn p e below s _ _ _ (T25.setTop (mkF m 28 #[.val (.ref a), .val (.long w1), .second] [(.double pr), (.double FP.dconst1)]))
      have d28 : DS 10 (1024 - kk) (FP.dsub FP.dconst1 pr) := DS.sub (DS.cast (k' := 10) (i' := 1024) ((dc_4607182418800017408).up 10) rfl (by decide)) dp (by first | omega | decide) (by decide)
      refine Dn.st (fun _ kk => XS.dsubS X25.here hx rfl (hb hby d4_28) rfl d28.nn rfl (kk)) ?_
      show Dn p e below s _ _ _ (T25.setTop (mkF m 29 #[.val (.ref a), .val (.long w1), .second] [(.double (FP.dsub FP.dconst1 pr))]))
      generalize hv28 : ((FP.dsub FP.dconst1 pr) : UInt64) = v28 at d28 ⊢
      generalize hi28 : ((1024 - kk) : Int) = i28 at d28
      show Dn p e below s _ _ _ (T25.setTop (mkF m 29 #[.val (.ref a), .val (.long w1), .second] [(.double v28)]))
      exact Dn.ret X25 hlk hx hret rfl (Or.inr (Or.inr (Or.inl ⟨rfl, rfl, _, rfl⟩))) (hb hby d4_29) (by rw [e25]; exact ⟨_, rfl, (d28).cast rfl (by unfold own_buy; first | (rw [if_pos hj3] <;> first | rfl | decide) | (rw [if_neg hj3, if_pos hj13]) | (rw [if_neg hj3, if_neg hj13] <;> omega)), N0, rfl⟩) (by decide) (by decide)

theorem dc_4652218415073722368 : DS 0 1024 (4652218415073722368 : UInt64) := DS.lit (s := false) (c := 4503599627370496) (q := -42) (by decide +kernel) (by decide +kernel)
theorem pd1 : parseMethodDescriptor "(D)V" = some ⟨[.double], none⟩ := by decide +kernel
theorem pd2 : parseMethodDescriptor "(J)D" = some ⟨[.long], some .double⟩ := by decide +kernel
theorem pn2 : plainName "com/example/listino/listino/market/ImitationBuyProbabilityPinLaw" = true := by first | (simp [plainName, overriddenIn]; done) | decide +kernel
theorem ef0_rm0 (m : MethodId) (x0 : Int32) (x1 : Int64) : entryFrame m #[(.int x0), (.long x1)] maxLocals = mkF m 0 #[.val (.int x0), .val (.long x1), .second, .unset, .unset, .unset, .unset, .unset, .unset, .unset, .unset, .unset] [] := by first | (simp [entryFrame, mkF, argsToLocals, Value.category, maxLocals]; done) | rfl
def Q0 (Z : State) (p0 : Int32) (p1 : Int64) (h0 : Heap) (n0 : Nat) (v : Option Value) (h : Heap) (L : List Loc) : Prop := v = some (.int 1) ∧ Fr n0 L
set_option maxRecDepth 65536 in
set_option maxHeartbeats 40000000 in
theorem rm0 (l : Launch) (Z : State) (a0 : Array Value) (hw : ∀ d ∈ tables_1, d.before a0 Z = true) (ws : List Jvm.Cond) (p0 : Int32) (p1 : Int64) (h0 : Heap) (n0 : Nat) (Z0 : n0 ≤ h0.size) :
    MetFree l x (head1 (Jvm.Cond.code x code maxLocals ret :: ws) room_1) (fun aa UU => aa = #[(.int p0), (.long p1)] ∧ Z.Warmed39 UU.vm ∧ UU.heap = h0) (fun _ _ _ _ _ => True) (fun _ UU oo UU' => ∃ vv LL, oo = .returned vv ∧ Q0 Z p0 p1 h0 n0 vv UU'.heap LL ∧ FrameEnd UU oo UU' LL 16 128) := by
  refine MetFree.of_bodySF (plainFor_of_name pn2) hisR ?_
  intro p e s m args below meth c s₁ Bd hml0 hP hK
  obtain ⟨rfl, hZ, hh⟩ := hP
  have hx := Bd.exec
  have hby := Bd.bytes
  have hlk : meth.locks = false := BodyLoose.notSynchronized Bd
  have hret := Bd.returns
  have hml : c.maxLocals = 12 := hml0
  have hown : s.vm.findClass "com/example/listino/listino/market/ImitationBuyProbabilityPinLaw" = some m.cls := findClass_of_methodNamed Bd.named
  have hnm := (name_of_methodNamed Bd.named Bd.method).1
  have X0 : Stand p l e room_1 s m #[(.int p0), (.long p1)] below meth c s₁ [] 0 0 := Stand.of_body Bd
  have e0 : s₁.heap = h0 := by rw [← hh, Bd.state]; rfl
  have N0 := Fr.nil n0
  have r_p0 := rng32 p0
  have r_p1 := rng64 p1
  show Dn p e below s (Q0 Z p0 p1 h0 n0) 16 128 (s₁.setTop (entryFrame m #[(.int p0), (.long p1)] maxLocals))
  refine Dn.st (fun _ kk => castTop (ef0_rm0 m p0 p1) kk) ?_
  show Dn p e below s _ _ _ (s₁.setTop (mkF m 0 #[.val (.int p0), .val (.long p1), .second, .unset, .unset, .unset, .unset, .unset, .unset, .unset, .unset, .unset] []))
  refine Dn.st (fun _ kk => XS.iloadN X0.here hx rfl (hb hby at_0) rfl  (X0.ldcInt hx hown (mvT hZ (hw _ (List.mem_of_getElem? (i := 0) rfl))) (g := (mkF m 1 #[.val (.int p0), .val (.long p1), .second, .unset, .unset, .unset, .unset, .unset, .unset, .unset, .unset, .unset] [(.int p0)])) rfl (hb hby at_1) _ (XS.iand X0.here hx rfl (hb hby at_3) rfl (kk)))) ?_
  show Dn p e below s _ _ _ (s₁.setTop (mkF m 4 #[.val (.int p0), .val (.long p1), .second, .unset, .unset, .unset, .unset, .unset, .unset, .unset, .unset, .unset] [(.int (p0 &&& (2147483647 : Int32)))]))
  generalize hv3 : ((p0 &&& (2147483647 : Int32)) : Int32) = v3
  have q3 : v3.toInt = p0.toInt % 2147483648 := by have qq := c_mask p0 (2147483647 : Int32) 31 (by decide) (by decide); rw [hv3] at qq; exact qq
  have r3 := rng32 v3
  show Dn p e below s _ _ _ (s₁.setTop (mkF m 4 #[.val (.int p0), .val (.long p1), .second, .unset, .unset, .unset, .unset, .unset, .unset, .unset, .unset, .unset] [(.int v3)]))
  refine Dn.st (fun _ kk => XS.sipush X0.here hx rfl (hb hby at_4) (iremM X0 hx rfl (hb hby at_7) rfl (by decide) (kk))) ?_
  show Dn p e below s _ _ _ (s₁.setTop (mkF m 8 #[.val (.int p0), .val (.long p1), .second, .unset, .unset, .unset, .unset, .unset, .unset, .unset, .unset, .unset] [(.int (v3 % (1025 : Int32)))]))
  generalize hv7 : ((v3 % (1025 : Int32)) : Int32) = v7
  have q7 : (0 ≤ v3.toInt → v7.toInt = v3.toInt % 1025) ∧ (v3.toInt < 0 → v7.toInt = -((-v3.toInt) % 1025)) := by have qq := c_irem v3 (1025 : Int32) 1025 rfl; rw [hv7] at qq; exact qq
  have r7 := rng32 v7
  show Dn p e below s _ _ _ (s₁.setTop (mkF m 8 #[.val (.int p0), .val (.long p1), .second, .unset, .unset, .unset, .unset, .unset, .unset, .unset, .unset, .unset] [(.int v7)]))
  refine Dn.st (fun _ kk => XS.istoreN X0.here hx rfl (hb hby at_8) rfl (l' := #[.val (.int p0), .val (.long p1), .second, .val (.int v7), .unset, .unset, .unset, .unset, .unset, .unset, .unset, .unset]) rfl (XS.iloadN X0.here hx rfl (hb hby at_9) rfl  (kk))) ?_
  show Dn p e below s _ _ _ (s₁.setTop (mkF m 10 #[.val (.int p0), .val (.long p1), .second, .val (.int v7), .unset, .unset, .unset, .unset, .unset, .unset, .unset, .unset] [(.int v7)]))
  have d10 := DS.i2d v7
  refine Dn.st (fun _ kk => XS.i2dS X0.here hx rfl (hb hby at_10) rfl rfl (kk)) ?_
  show Dn p e below s _ _ _ (s₁.setTop (mkF m 11 #[.val (.int p0), .val (.long p1), .second, .val (.int v7), .unset, .unset, .unset, .unset, .unset, .unset, .unset, .unset] [(.double (FP.i2d v7))]))
  generalize hv10 : ((FP.i2d v7) : UInt64) = v10 at d10 ⊢
  show Dn p e below s _ _ _ (s₁.setTop (mkF m 11 #[.val (.int p0), .val (.long p1), .second, .val (.int v7), .unset, .unset, .unset, .unset, .unset, .unset, .unset, .unset] [(.double v10)]))
  refine Dn.st (fun _ kk => X0.ldc2DoubleC hx hown (mvT hZ (hw _ (List.mem_of_getElem? (i := 1) rfl))) (g := (mkF m 11 #[.val (.int p0), .val (.long p1), .second, .val (.int v7), .unset, .unset, .unset, .unset, .unset, .unset, .unset, .unset] [(.double v10)])) rfl (hb hby at_11) _ (kk)) ?_
  show Dn p e below s _ _ _ (s₁.setTop (mkF m 14 #[.val (.int p0), .val (.long p1), .second, .val (.int v7), .unset, .unset, .unset, .unset, .unset, .unset, .unset, .unset] [(.double (4652218415073722368 : UInt64)), (.double v10)]))
  have d14 : DS 10 v7.toInt (FP.ddiv v10 (4652218415073722368 : UInt64)) := DS.divp (t := 10) d10 dc_4652218415073722368 (by first | omega | decide) (by decide)
  refine Dn.st (fun _ kk => XS.ddivS X0.here hx rfl (hb hby at_14) rfl d14.nn rfl (kk)) ?_
  show Dn p e below s _ _ _ (s₁.setTop (mkF m 15 #[.val (.int p0), .val (.long p1), .second, .val (.int v7), .unset, .unset, .unset, .unset, .unset, .unset, .unset, .unset] [(.double (FP.ddiv v10 (4652218415073722368 : UInt64)))]))
  generalize hv14 : ((FP.ddiv v10 (4652218415073722368 : UInt64)) : UInt64) = v14 at d14 ⊢
  show Dn p e below s _ _ _ (s₁.setTop (mkF m 15 #[.val (.int p0), .val (.long p1), .second, .val (.int v7), .unset, .unset, .unset, .unset, .unset, .unset, .unset, .unset] [(.double v14)]))
  refine Dn.st (fun _ kk => XS.dstore X0.here hx rfl (hb hby at_15) rfl (l' := #[.val (.int p0), .val (.long p1), .second, .val (.int v7), .val (.double v14), .second, .unset, .unset, .unset, .unset, .unset, .unset]) rfl (kk)) ?_
  show Dn p e below s _ _ _ (s₁.setTop (mkF m 17 #[.val (.int p0), .val (.long p1), .second, .val (.int v7), .val (.double v14), .second, .unset, .unset, .unset, .unset, .unset, .unset] []))
  obtain ⟨T17, h17, X17, e17, E17, A17, D17, -, st17⟩ := newO X0 hx hZ hown (hw _ (List.mem_of_getElem? (i := 2) rfl)) (hw _ (List.mem_of_getElem? (i := 3) rfl)) (hw _ (List.mem_of_getElem? (i := 4) rfl)) e0 (g := (mkF m 17 #[.val (.int p0), .val (.long p1), .second, .val (.int v7), .val (.double v14), .second, .unset, .unset, .unset, .unset, .unset, .unset] [])) rfl (hb hby at_17) (by decide) (by decide)
  obtain ⟨b17, g17⟩ : ∃ z, z = h0.size := ⟨_, rfl⟩
  rw [← g17] at A17 D17 st17
  have gn_b17 : n0 ≤ b17 := Nat.le_trans Z0 (Nat.le_of_eq g17.symm)
  have Z17 : n0 ≤ h17.size := Nat.le_trans Z0 E17.1
  have F_b17_probability : Fld Z h17 b17 "com/example/listino/listino/market/Imitation" "probability" "D" (.double (0 : UInt64)) := D17 (Or.inr (hw _ (List.mem_of_getElem? (i := 17) rfl))) (ty := .double) (by decide)
  refine Dn.st st17 ?_
  show Dn p e below s _ _ _ (T17.setTop (mkF m 20 #[.val (.int p0), .val (.long p1), .second, .val (.int v7), .val (.double v14), .second, .unset, .unset, .unset, .unset, .unset, .unset] [(.ref b17)]))
  refine Dn.st (fun _ kk => XS.dup X17.here hx rfl (hb hby at_20) rfl rfl (XS.dload X17.here hx rfl (hb hby at_21) rfl  (kk))) ?_
  show Dn p e below s _ _ _ (T17.setTop (mkF m 23 #[.val (.int p0), .val (.long p1), .second, .val (.int v7), .val (.double v14), .second, .unset, .unset, .unset, .unset, .unset, .unset] [(.double v14), (.ref b17), (.ref b17)]))
  obtain ⟨_, _, ⟨T23, L23, k23, n23⟩, -, X23, ⟨Lc23, hQ23, l23, y23, z23⟩, st23⟩ := X17.specialBack hx (y := (⟨"com/example/listino/listino/market/Imitation", "<init>", "(D)V"⟩ : MethodName)) rfl hown (mvT hZ (hw _ (List.mem_of_getElem? (i := 5) rfl))) (mvT hZ (hw _ (List.mem_of_getElem? (i := 6) rfl))) (mvT hZ (hw _ (List.mem_of_getElem? (i := 7) rfl))) (by decide) (backOf (W := 1) (rm1 l Z a0 hw [] b17 v14  h17 n0 Z17 gn_b17 A17 F_b17_probability ) hZ (hw _ (List.mem_of_getElem? (i := 7) rfl)) (hw _ (List.mem_of_getElem? (i := 4) rfl)) (by decide) (by decide)) (g := (mkF m 23 #[.val (.int p0), .val (.long p1), .second, .val (.int v7), .val (.double v14), .second, .unset, .unset, .unset, .unset, .unset, .unset] [(.double v14), (.ref b17), (.ref b17)])) rfl (by rw [hml]; rfl) (Steps.refl _) (a := b17) (argsL := [(.double v14)]) (rest := [(.ref b17)]) (lenOf pd1 rfl) rfl (by show 2 * 0 + _ ≤ _; exact Nat.le_of_eq rfl) (hb hby at_23) (fun _ _ => ⟨rfl, e17, (by decide : 1 + 0 ≤ _), (by decide : 1 + 0 ≤ _)⟩)
  dsimp only [Pt.U, Pt.locs, Pt.cells, Pt.slots] at X23 l23 y23 z23 st23 hQ23
  subst l23 y23 z23
  obtain ⟨rfl, Nq23, K23, E_b17_23, F_b17_probability_23⟩ := hQ23
  have N23 := Fr.app N0 Nq23
  refine Dn.tr st23 ?_
  have Z23 : n0 ≤ T23.heap.size := Nat.le_trans Z17 K23.1
  show Dn p e below s _ _ _ (T23.setTop (mkF m 26 #[.val (.int p0), .val (.long p1), .second, .val (.int v7), .val (.double v14), .second, .unset, .unset, .unset, .unset, .unset, .unset] [(.ref b17)]))
  refine Dn.st (fun _ kk => XS.astore X23.here hx rfl (hb hby at_26) rfl rfl (l' := #[.val (.int p0), .val (.long p1), .second, .val (.int v7), .val (.double v14), .second, .val (.ref b17), .unset, .unset, .unset, .unset, .unset]) rfl (XS.lloadN X23.here hx rfl (hb hby at_28) rfl  (XS.lconst X23.here hx rfl (hb hby at_29) (XS.lcmp X23.here hx rfl (hb hby at_30) rfl (kk))))) ?_
  show Dn p e below s _ _ _ (T23.setTop (mkF m 31 #[.val (.int p0), .val (.long p1), .second, .val (.int v7), .val (.double v14), .second, .val (.ref b17), .unset, .unset, .unset, .unset, .unset] [(.int (lcmpW p1 (0 : Int64)))]))
  by_cases hc31 : (lcmpW p1 (0 : Int64)) = (0 : Int32)
  · have hj31 := (lw_eq _ _).mp hc31
    have hi31 : p1.toInt = 0 := congrArg Int64.toInt hj31
    refine Dn.st (fun _ kk => XS.ifNo X23.here hx rfl (hb hby at_31) rfl ((if0 _ _).trans (teq hc31).2) (XS.sipush X23.here hx rfl (hb hby at_34) (XS.istore X23.here hx rfl (hb hby at_37) rfl (l' := #[.val (.int p0), .val (.long p1), .second, .val (.int v7), .val (.double v14), .second, .val (.ref b17), .val (.int (512 : Int32)), .unset, .unset, .unset, .unset]) rfl (XS.goto X23.here hx rfl (pc0 := 39) (pc' := 61) rfl (hb hby at_39) (by decide) (by decide) (XS.aload X23.here hx rfl (hb hby at_61) rfl rfl (XS.lloadN X23.here hx rfl (hb hby at_63) rfl  (kk))))))) ?_
    show Dn p e below s _ _ _ (T23.setTop (mkF m 64 #[.val (.int p0), .val (.long p1), .second, .val (.int v7), .val (.double v14), .second, .val (.ref b17), .val (.int (512 : Int32)), .unset, .unset, .unset, .unset] [(.long p1), (.ref b17)]))
    obtain ⟨cq64, kq64, q64a, q64b, q64c⟩ := isOf hZ rfl E_b17_23
    obtain ⟨_, _, ⟨T64, L64, k64, n64⟩, -, X64, ⟨Lc64, hQ64, l64, y64, z64⟩, st64⟩ := X23.virtualBack hx (y := (⟨"com/example/listino/listino/market/Imitation", "buyProbability", "(J)D"⟩ : MethodName)) (z := (⟨"com/example/listino/listino/market/Imitation", "buyProbability", "(J)D"⟩ : MethodName)) hown (mvT hZ (hw _ (List.mem_of_getElem? (i := 18) rfl))) (mvT hZ (hw _ (List.mem_of_getElem? (i := 19) rfl))) (notFace_of_selects (args := #[]) (mvT hZ (hw _ (List.mem_of_getElem? (i := 21) rfl)))) (mvT hZ (hw _ (List.mem_of_getElem? (i := 21) rfl))) (mvT hZ (hw _ (List.mem_of_getElem? (i := 20) rfl))) (by decide) (backOf (W := 0) (rm4 l Z a0 hw [] b17 p1 v14 v7.toInt T23.heap n0 Z23 F_b17_probability_23 d14 (by omega)) hZ (hw _ (List.mem_of_getElem? (i := 22) rfl)) (hw _ (List.mem_of_getElem? (i := 4) rfl)) (by decide) (by decide)) q64a q64c (g := (mkF m 64 #[.val (.int p0), .val (.long p1), .second, .val (.int v7), .val (.double v14), .second, .val (.ref b17), .val (.int (512 : Int32)), .unset, .unset, .unset, .unset] [(.long p1), (.ref b17)])) rfl (by rw [hml]; rfl) (Steps.refl _) (argsL := [(.long p1)]) (rest := []) (lenOf pd2 rfl) rfl (by show 2 * 0 + _ ≤ _; exact Nat.le_of_eq rfl) (hb hby at_64) (fun _ _ => ⟨rfl, rfl, (by decide : 1 + 0 ≤ _), (by decide : 1 + 0 ≤ _)⟩)
    dsimp only [Pt.U, Pt.locs, Pt.cells, Pt.slots] at X64 l64 y64 z64 st64 hQ64
    subst l64 y64 z64
    obtain ⟨z64, rfl, d64, Nq64, hh64⟩ := hQ64
    have N64 := Fr.app N23 Nq64
    refine Dn.tr st64 ?_
    show Dn p e below s _ _ _ (T64.setTop (mkF m 67 #[.val (.int p0), .val (.long p1), .second, .val (.int v7), .val (.double v14), .second, .val (.ref b17), .val (.int (512 : Int32)), .unset, .unset, .unset, .unset] [(.double z64)]))
    refine Dn.st (fun _ kk => XS.iload X64.here hx rfl (hb hby at_67) rfl  (kk)) ?_
    show Dn p e below s _ _ _ (T64.setTop (mkF m 69 #[.val (.int p0), .val (.long p1), .second, .val (.int v7), .val (.double v14), .second, .val (.ref b17), .val (.int (512 : Int32)), .unset, .unset, .unset, .unset] [(.int (512 : Int32)), (.double z64)]))
    have d69 := DS.i2d (512 : Int32)
    refine Dn.st (fun _ kk => XS.i2dS X64.here hx rfl (hb hby at_69) rfl rfl (kk)) ?_
    show Dn p e below s _ _ _ (T64.setTop (mkF m 70 #[.val (.int p0), .val (.long p1), .second, .val (.int v7), .val (.double v14), .second, .val (.ref b17), .val (.int (512 : Int32)), .unset, .unset, .unset, .unset] [(.double (FP.i2d (512 : Int32))), (.double z64)]))
    generalize hv69 : ((FP.i2d (512 : Int32)) : UInt64) = v69 at d69 ⊢
    show Dn p e below s _ _ _ (T64.setTop (mkF m 70 #[.val (.int p0), .val (.long p1), .second, .val (.int v7), .val (.double v14), .second, .val (.ref b17), .val (.int (512 : Int32)), .unset, .unset, .unset, .unset] [(.double v69), (.double z64)]))
    refine Dn.st (fun _ kk => X64.ldc2DoubleC hx hown (mvT hZ (hw _ (List.mem_of_getElem? (i := 1) rfl))) (g := (mkF m 70 #[.val (.int p0), .val (.long p1), .second, .val (.int v7), .val (.double v14), .second, .val (.ref b17), .val (.int (512 : Int32)), .unset, .unset, .unset, .unset] [(.double v69), (.double z64)])) rfl (hb hby at_70) _ (kk)) ?_
    show Dn p e below s _ _ _ (T64.setTop (mkF m 73 #[.val (.int p0), .val (.long p1), .second, .val (.int v7), .val (.double v14), .second, .val (.ref b17), .val (.int (512 : Int32)), .unset, .unset, .unset, .unset] [(.double (4652218415073722368 : UInt64)), (.double v69), (.double z64)]))
    have d73 : DS 10 (512 : Int32).toInt (FP.ddiv v69 (4652218415073722368 : UInt64)) := DS.divp (t := 10) d69 dc_4652218415073722368 (by first | omega | decide) (by decide)
    refine Dn.st (fun _ kk => XS.ddivS X64.here hx rfl (hb hby at_73) rfl d73.nn rfl (kk)) ?_
    show Dn p e below s _ _ _ (T64.setTop (mkF m 74 #[.val (.int p0), .val (.long p1), .second, .val (.int v7), .val (.double v14), .second, .val (.ref b17), .val (.int (512 : Int32)), .unset, .unset, .unset, .unset] [(.double (FP.ddiv v69 (4652218415073722368 : UInt64))), (.double z64)]))
    generalize hv73 : ((FP.ddiv v69 (4652218415073722368 : UInt64)) : UInt64) = v73 at d73 ⊢
    show Dn p e below s _ _ _ (T64.setTop (mkF m 74 #[.val (.int p0), .val (.long p1), .second, .val (.int v7), .val (.double v14), .second, .val (.ref b17), .val (.int (512 : Int32)), .unset, .unset, .unset, .unset] [(.double v73), (.double z64)]))
    refine Dn.st (fun _ kk => XS.dcmpS X64.here hx rfl (hb hby at_74) rfl (DS.cmpV d64 d73 _) (kk)) ?_
    show Dn p e below s _ _ _ (T64.setTop (mkF m 75 #[.val (.int p0), .val (.long p1), .second, .val (.int v7), .val (.double v14), .second, .val (.ref b17), .val (.int (512 : Int32)), .unset, .unset, .unset, .unset] [(.int (c3 (own_buy v7.toInt p1) (512 : Int32).toInt))]))
    have hc75 : (c3 (own_buy v7.toInt p1) (512 : Int32).toInt) = (0 : Int32) := (c3_eq _ _).mpr (by unfold own_buy; first | (rw [if_pos hj31] <;> first | omega | decide) | (rw [if_neg hj31, if_pos hj45] <;> omega) | (rw [if_neg hj31, if_neg hj45] <;> omega))
    refine Dn.st (fun _ kk => XS.ifNo X64.here hx rfl (hb hby at_75) rfl ((if0 _ _).trans (teq hc75).2) (XS.iconst X64.here hx rfl (hb hby at_78) (XS.goto X64.here hx rfl (pc0 := 79) (pc' := 83) rfl (hb hby at_79) (by decide) (by decide) (XS.istore X64.here hx rfl (hb hby at_83) rfl (l' := #[.val (.int p0), .val (.long p1), .second, .val (.int v7), .val (.double v14), .second, .val (.ref b17), .val (.int (512 : Int32)), .val (.int (1 : Int32)), .unset, .unset, .unset]) rfl (XS.aload X64.here hx rfl (hb hby at_85) rfl rfl (XS.lconst X64.here hx rfl (hb hby at_87) (kk))))))) ?_
    show Dn p e below s _ _ _ (T64.setTop (mkF m 88 #[.val (.int p0), .val (.long p1), .second, .val (.int v7), .val (.double v14), .second, .val (.ref b17), .val (.int (512 : Int32)), .val (.int (1 : Int32)), .unset, .unset, .unset] [(.long (0 : Int64)), (.ref b17)]))
    obtain ⟨cq88, kq88, q88a, q88b, q88c⟩ := isOf hZ hh64 E_b17_23
    obtain ⟨_, _, ⟨T88, L88, k88, n88⟩, -, X88, ⟨Lc88, hQ88, l88, y88, z88⟩, st88⟩ := X64.virtualBack hx (y := (⟨"com/example/listino/listino/market/Imitation", "buyProbability", "(J)D"⟩ : MethodName)) (z := (⟨"com/example/listino/listino/market/Imitation", "buyProbability", "(J)D"⟩ : MethodName)) hown (mvT hZ (hw _ (List.mem_of_getElem? (i := 18) rfl))) (mvT hZ (hw _ (List.mem_of_getElem? (i := 19) rfl))) (notFace_of_selects (args := #[]) (mvT hZ (hw _ (List.mem_of_getElem? (i := 21) rfl)))) (mvT hZ (hw _ (List.mem_of_getElem? (i := 21) rfl))) (mvT hZ (hw _ (List.mem_of_getElem? (i := 20) rfl))) (by decide) (backOf (W := 0) (rm4 l Z a0 hw [] b17 (0 : Int64) v14 v7.toInt T23.heap n0 Z23 F_b17_probability_23 d14 (by omega)) hZ (hw _ (List.mem_of_getElem? (i := 22) rfl)) (hw _ (List.mem_of_getElem? (i := 4) rfl)) (by decide) (by decide)) q88a q88c (g := (mkF m 88 #[.val (.int p0), .val (.long p1), .second, .val (.int v7), .val (.double v14), .second, .val (.ref b17), .val (.int (512 : Int32)), .val (.int (1 : Int32)), .unset, .unset, .unset] [(.long (0 : Int64)), (.ref b17)])) rfl (by rw [hml]; rfl) (Steps.refl _) (argsL := [(.long (0 : Int64))]) (rest := []) (lenOf pd2 rfl) rfl (by show 2 * 0 + _ ≤ _; exact Nat.le_of_eq rfl) (hb hby at_88) (fun _ _ => ⟨rfl, hh64, (by decide : 1 + 0 ≤ _), (by decide : 1 + 0 ≤ _)⟩)
    dsimp only [Pt.U, Pt.locs, Pt.cells, Pt.slots] at X88 l88 y88 z88 st88 hQ88
    subst l88 y88 z88
    obtain ⟨z88, rfl, d88, Nq88, hh88⟩ := hQ88
    have N88 := Fr.app N64 Nq88
    refine Dn.tr st88 ?_
    show Dn p e below s _ _ _ (T88.setTop (mkF m 91 #[.val (.int p0), .val (.long p1), .second, .val (.int v7), .val (.double v14), .second, .val (.ref b17), .val (.int (512 : Int32)), .val (.int (1 : Int32)), .unset, .unset, .unset] [(.double z88)]))
    refine Dn.st (fun _ kk => X88.ldc2DoubleC hx hown (mvT hZ (hw _ (List.mem_of_getElem? (i := 24) rfl))) (g := (mkF m 91 #[.val (.int p0), .val (.long p1), .second, .val (.int v7), .val (.double v14), .second, .val (.ref b17), .val (.int (512 : Int32)), .val (.int (1 : Int32)), .unset, .unset, .unset] [(.double z88)])) rfl (hb hby at_91) _ (XS.dcmpS X88.here hx rfl (hb hby at_94) rfl (DS.cmpV d88 (DS.cast (k' := 10) (i' := 512) ((dc_4602678819172646912).up 9) rfl (by decide)) _) (kk))) ?_
    show Dn p e below s _ _ _ (T88.setTop (mkF m 95 #[.val (.int p0), .val (.long p1), .second, .val (.int v7), .val (.double v14), .second, .val (.ref b17), .val (.int (512 : Int32)), .val (.int (1 : Int32)), .unset, .unset, .unset] [(.int (c3 (own_buy v7.toInt (0 : Int64)) 512))]))
    have hc95 : (c3 (own_buy v7.toInt (0 : Int64)) 512) = (0 : Int32) := (c3_eq _ _).mpr (by unfold own_buy; rw [if_pos rfl])
    refine Dn.st (fun _ kk => XS.ifNo X88.here hx rfl (hb hby at_95) rfl ((if0 _ _).trans (teq hc95).2) (XS.iconst X88.here hx rfl (hb hby at_98) (XS.goto X88.here hx rfl (pc0 := 99) (pc' := 103) rfl (hb hby at_99) (by decide) (by decide) (XS.istore X88.here hx rfl (hb hby at_103) rfl (l' := #[.val (.int p0), .val (.long p1), .second, .val (.int v7), .val (.double v14), .second, .val (.ref b17), .val (.int (512 : Int32)), .val (.int (1 : Int32)), .val (.int (1 : Int32)), .unset, .unset]) rfl (XS.aload X88.here hx rfl (hb hby at_105) rfl rfl (X88.ldc2Long hx hown (mvT hZ (hw _ (List.mem_of_getElem? (i := 25) rfl))) (g := (mkF m 107 #[.val (.int p0), .val (.long p1), .second, .val (.int v7), .val (.double v14), .second, .val (.ref b17), .val (.int (512 : Int32)), .val (.int (1 : Int32)), .val (.int (1 : Int32)), .unset, .unset] [(.ref b17)])) rfl (hb hby at_107) _ (kk))))))) ?_
    show Dn p e below s _ _ _ (T88.setTop (mkF m 110 #[.val (.int p0), .val (.long p1), .second, .val (.int v7), .val (.double v14), .second, .val (.ref b17), .val (.int (512 : Int32)), .val (.int (1 : Int32)), .val (.int (1 : Int32)), .unset, .unset] [(.long (9223372036854775807 : Int64)), (.ref b17)]))
    obtain ⟨cq110, kq110, q110a, q110b, q110c⟩ := isOf hZ hh88 E_b17_23
    obtain ⟨_, _, ⟨T110, L110, k110, n110⟩, -, X110, ⟨Lc110, hQ110, l110, y110, z110⟩, st110⟩ := X88.virtualBack hx (y := (⟨"com/example/listino/listino/market/Imitation", "buyProbability", "(J)D"⟩ : MethodName)) (z := (⟨"com/example/listino/listino/market/Imitation", "buyProbability", "(J)D"⟩ : MethodName)) hown (mvT hZ (hw _ (List.mem_of_getElem? (i := 18) rfl))) (mvT hZ (hw _ (List.mem_of_getElem? (i := 19) rfl))) (notFace_of_selects (args := #[]) (mvT hZ (hw _ (List.mem_of_getElem? (i := 21) rfl)))) (mvT hZ (hw _ (List.mem_of_getElem? (i := 21) rfl))) (mvT hZ (hw _ (List.mem_of_getElem? (i := 20) rfl))) (by decide) (backOf (W := 0) (rm4 l Z a0 hw [] b17 (9223372036854775807 : Int64) v14 v7.toInt T23.heap n0 Z23 F_b17_probability_23 d14 (by omega)) hZ (hw _ (List.mem_of_getElem? (i := 22) rfl)) (hw _ (List.mem_of_getElem? (i := 4) rfl)) (by decide) (by decide)) q110a q110c (g := (mkF m 110 #[.val (.int p0), .val (.long p1), .second, .val (.int v7), .val (.double v14), .second, .val (.ref b17), .val (.int (512 : Int32)), .val (.int (1 : Int32)), .val (.int (1 : Int32)), .unset, .unset] [(.long (9223372036854775807 : Int64)), (.ref b17)])) rfl (by rw [hml]; rfl) (Steps.refl _) (argsL := [(.long (9223372036854775807 : Int64))]) (rest := []) (lenOf pd2 rfl) rfl (by show 2 * 0 + _ ≤ _; exact Nat.le_of_eq rfl) (hb hby at_110) (fun _ _ => ⟨rfl, hh88, (by decide : 1 + 0 ≤ _), (by decide : 1 + 0 ≤ _)⟩)
    dsimp only [Pt.U, Pt.locs, Pt.cells, Pt.slots] at X110 l110 y110 z110 st110 hQ110
    subst l110 y110 z110
    obtain ⟨z110, rfl, d110, Nq110, hh110⟩ := hQ110
    have N110 := Fr.app N88 Nq110
    refine Dn.tr st110 ?_
    show Dn p e below s _ _ _ (T110.setTop (mkF m 113 #[.val (.int p0), .val (.long p1), .second, .val (.int v7), .val (.double v14), .second, .val (.ref b17), .val (.int (512 : Int32)), .val (.int (1 : Int32)), .val (.int (1 : Int32)), .unset, .unset] [(.double z110)]))
    refine Dn.st (fun _ kk => XS.iloadN X110.here hx rfl (hb hby at_113) rfl  (kk)) ?_
    show Dn p e below s _ _ _ (T110.setTop (mkF m 114 #[.val (.int p0), .val (.long p1), .second, .val (.int v7), .val (.double v14), .second, .val (.ref b17), .val (.int (512 : Int32)), .val (.int (1 : Int32)), .val (.int (1 : Int32)), .unset, .unset] [(.int v7), (.double z110)]))
    have d114 := DS.i2d v7
    refine Dn.st (fun _ kk => XS.i2dS X110.here hx rfl (hb hby at_114) rfl rfl (kk)) ?_
    show Dn p e below s _ _ _ (T110.setTop (mkF m 115 #[.val (.int p0), .val (.long p1), .second, .val (.int v7), .val (.double v14), .second, .val (.ref b17), .val (.int (512 : Int32)), .val (.int (1 : Int32)), .val (.int (1 : Int32)), .unset, .unset] [(.double (FP.i2d v7)), (.double z110)]))
    generalize hv114 : ((FP.i2d v7) : UInt64) = v114 at d114 ⊢
    show Dn p e below s _ _ _ (T110.setTop (mkF m 115 #[.val (.int p0), .val (.long p1), .second, .val (.int v7), .val (.double v14), .second, .val (.ref b17), .val (.int (512 : Int32)), .val (.int (1 : Int32)), .val (.int (1 : Int32)), .unset, .unset] [(.double v114), (.double z110)]))
    refine Dn.st (fun _ kk => X110.ldc2DoubleC hx hown (mvT hZ (hw _ (List.mem_of_getElem? (i := 1) rfl))) (g := (mkF m 115 #[.val (.int p0), .val (.long p1), .second, .val (.int v7), .val (.double v14), .second, .val (.ref b17), .val (.int (512 : Int32)), .val (.int (1 : Int32)), .val (.int (1 : Int32)), .unset, .unset] [(.double v114), (.double z110)])) rfl (hb hby at_115) _ (kk)) ?_
    show Dn p e below s _ _ _ (T110.setTop (mkF m 118 #[.val (.int p0), .val (.long p1), .second, .val (.int v7), .val (.double v14), .second, .val (.ref b17), .val (.int (512 : Int32)), .val (.int (1 : Int32)), .val (.int (1 : Int32)), .unset, .unset] [(.double (4652218415073722368 : UInt64)), (.double v114), (.double z110)]))
    have d118 : DS 10 v7.toInt (FP.ddiv v114 (4652218415073722368 : UInt64)) := DS.divp (t := 10) d114 dc_4652218415073722368 (by first | omega | decide) (by decide)
    refine Dn.st (fun _ kk => XS.ddivS X110.here hx rfl (hb hby at_118) rfl d118.nn rfl (kk)) ?_
    show Dn p e below s _ _ _ (T110.setTop (mkF m 119 #[.val (.int p0), .val (.long p1), .second, .val (.int v7), .val (.double v14), .second, .val (.ref b17), .val (.int (512 : Int32)), .val (.int (1 : Int32)), .val (.int (1 : Int32)), .unset, .unset] [(.double (FP.ddiv v114 (4652218415073722368 : UInt64))), (.double z110)]))
    generalize hv118 : ((FP.ddiv v114 (4652218415073722368 : UInt64)) : UInt64) = v118 at d118 ⊢
    show Dn p e below s _ _ _ (T110.setTop (mkF m 119 #[.val (.int p0), .val (.long p1), .second, .val (.int v7), .val (.double v14), .second, .val (.ref b17), .val (.int (512 : Int32)), .val (.int (1 : Int32)), .val (.int (1 : Int32)), .unset, .unset] [(.double v118), (.double z110)]))
    refine Dn.st (fun _ kk => XS.dcmpS X110.here hx rfl (hb hby at_119) rfl (DS.cmpV d110 d118 _) (kk)) ?_
    show Dn p e below s _ _ _ (T110.setTop (mkF m 120 #[.val (.int p0), .val (.long p1), .second, .val (.int v7), .val (.double v14), .second, .val (.ref b17), .val (.int (512 : Int32)), .val (.int (1 : Int32)), .val (.int (1 : Int32)), .unset, .unset] [(.int (c3 (own_buy v7.toInt (9223372036854775807 : Int64)) v7.toInt))]))
    have hc120 : (c3 (own_buy v7.toInt (9223372036854775807 : Int64)) v7.toInt) = (0 : Int32) := (c3_eq _ _).mpr (by unfold own_buy; rw [if_neg (by decide), if_pos (by decide)])
    refine Dn.st (fun _ kk => XS.ifNo X110.here hx rfl (hb hby at_120) rfl ((if0 _ _).trans (teq hc120).2) (XS.iconst X110.here hx rfl (hb hby at_123) (XS.goto X110.here hx rfl (pc0 := 124) (pc' := 128) rfl (hb hby at_124) (by decide) (by decide) (XS.istore X110.here hx rfl (hb hby at_128) rfl (l' := #[.val (.int p0), .val (.long p1), .second, .val (.int v7), .val (.double v14), .second, .val (.ref b17), .val (.int (512 : Int32)), .val (.int (1 : Int32)), .val (.int (1 : Int32)), .val (.int (1 : Int32)), .unset]) rfl (XS.aload X110.here hx rfl (hb hby at_130) rfl rfl (X110.ldc2Long hx hown (mvT hZ (hw _ (List.mem_of_getElem? (i := 26) rfl))) (g := (mkF m 132 #[.val (.int p0), .val (.long p1), .second, .val (.int v7), .val (.double v14), .second, .val (.ref b17), .val (.int (512 : Int32)), .val (.int (1 : Int32)), .val (.int (1 : Int32)), .val (.int (1 : Int32)), .unset] [(.ref b17)])) rfl (hb hby at_132) _ (kk))))))) ?_
    show Dn p e below s _ _ _ (T110.setTop (mkF m 135 #[.val (.int p0), .val (.long p1), .second, .val (.int v7), .val (.double v14), .second, .val (.ref b17), .val (.int (512 : Int32)), .val (.int (1 : Int32)), .val (.int (1 : Int32)), .val (.int (1 : Int32)), .unset] [(.long (-9223372036854775808 : Int64)), (.ref b17)]))
    obtain ⟨cq135, kq135, q135a, q135b, q135c⟩ := isOf hZ hh110 E_b17_23
    obtain ⟨_, _, ⟨T135, L135, k135, n135⟩, -, X135, ⟨Lc135, hQ135, l135, y135, z135⟩, st135⟩ := X110.virtualBack hx (y := (⟨"com/example/listino/listino/market/Imitation", "buyProbability", "(J)D"⟩ : MethodName)) (z := (⟨"com/example/listino/listino/market/Imitation", "buyProbability", "(J)D"⟩ : MethodName)) hown (mvT hZ (hw _ (List.mem_of_getElem? (i := 18) rfl))) (mvT hZ (hw _ (List.mem_of_getElem? (i := 19) rfl))) (notFace_of_selects (args := #[]) (mvT hZ (hw _ (List.mem_of_getElem? (i := 21) rfl)))) (mvT hZ (hw _ (List.mem_of_getElem? (i := 21) rfl))) (mvT hZ (hw _ (List.mem_of_getElem? (i := 20) rfl))) (by decide) (backOf (W := 0) (rm4 l Z a0 hw [] b17 (-9223372036854775808 : Int64) v14 v7.toInt T23.heap n0 Z23 F_b17_probability_23 d14 (by omega)) hZ (hw _ (List.mem_of_getElem? (i := 22) rfl)) (hw _ (List.mem_of_getElem? (i := 4) rfl)) (by decide) (by decide)) q135a q135c (g := (mkF m 135 #[.val (.int p0), .val (.long p1), .second, .val (.int v7), .val (.double v14), .second, .val (.ref b17), .val (.int (512 : Int32)), .val (.int (1 : Int32)), .val (.int (1 : Int32)), .val (.int (1 : Int32)), .unset] [(.long (-9223372036854775808 : Int64)), (.ref b17)])) rfl (by rw [hml]; rfl) (Steps.refl _) (argsL := [(.long (-9223372036854775808 : Int64))]) (rest := []) (lenOf pd2 rfl) rfl (by show 2 * 0 + _ ≤ _; exact Nat.le_of_eq rfl) (hb hby at_135) (fun _ _ => ⟨rfl, hh110, (by decide : 1 + 0 ≤ _), (by decide : 1 + 0 ≤ _)⟩)
    dsimp only [Pt.U, Pt.locs, Pt.cells, Pt.slots] at X135 l135 y135 z135 st135 hQ135
    subst l135 y135 z135
    obtain ⟨z135, rfl, d135, Nq135, hh135⟩ := hQ135
    have N135 := Fr.app N110 Nq135
    refine Dn.tr st135 ?_
    show Dn p e below s _ _ _ (T135.setTop (mkF m 138 #[.val (.int p0), .val (.long p1), .second, .val (.int v7), .val (.double v14), .second, .val (.ref b17), .val (.int (512 : Int32)), .val (.int (1 : Int32)), .val (.int (1 : Int32)), .val (.int (1 : Int32)), .unset] [(.double z135)]))
    refine Dn.st (fun _ kk => XS.sipush X135.here hx rfl (hb hby at_138) (XS.iloadN X135.here hx rfl (hb hby at_141) rfl  (XS.isub X135.here hx rfl (hb hby at_142) rfl (kk)))) ?_
    show Dn p e below s _ _ _ (T135.setTop (mkF m 143 #[.val (.int p0), .val (.long p1), .second, .val (.int v7), .val (.double v14), .second, .val (.ref b17), .val (.int (512 : Int32)), .val (.int (1 : Int32)), .val (.int (1 : Int32)), .val (.int (1 : Int32)), .unset] [(.int ((1024 : Int32) - v7)), (.double z135)]))
    generalize hv142 : (((1024 : Int32) - v7) : Int32) = v142
    have q142 : (v142.toInt - (1024 - v7.toInt)) % 4294967296 = 0 := by have qq := c_isub (1024 : Int32) v7; rw [hv142] at qq; exact qq
    have r142 := rng32 v142
    show Dn p e below s _ _ _ (T135.setTop (mkF m 143 #[.val (.int p0), .val (.long p1), .second, .val (.int v7), .val (.double v14), .second, .val (.ref b17), .val (.int (512 : Int32)), .val (.int (1 : Int32)), .val (.int (1 : Int32)), .val (.int (1 : Int32)), .unset] [(.int v142), (.double z135)]))
    have d143 := DS.i2d v142
    refine Dn.st (fun _ kk => XS.i2dS X135.here hx rfl (hb hby at_143) rfl rfl (kk)) ?_
    show Dn p e below s _ _ _ (T135.setTop (mkF m 144 #[.val (.int p0), .val (.long p1), .second, .val (.int v7), .val (.double v14), .second, .val (.ref b17), .val (.int (512 : Int32)), .val (.int (1 : Int32)), .val (.int (1 : Int32)), .val (.int (1 : Int32)), .unset] [(.double (FP.i2d v142)), (.double z135)]))
    generalize hv143 : ((FP.i2d v142) : UInt64) = v143 at d143 ⊢
    show Dn p e below s _ _ _ (T135.setTop (mkF m 144 #[.val (.int p0), .val (.long p1), .second, .val (.int v7), .val (.double v14), .second, .val (.ref b17), .val (.int (512 : Int32)), .val (.int (1 : Int32)), .val (.int (1 : Int32)), .val (.int (1 : Int32)), .unset] [(.double v143), (.double z135)]))
    refine Dn.st (fun _ kk => X135.ldc2DoubleC hx hown (mvT hZ (hw _ (List.mem_of_getElem? (i := 1) rfl))) (g := (mkF m 144 #[.val (.int p0), .val (.long p1), .second, .val (.int v7), .val (.double v14), .second, .val (.ref b17), .val (.int (512 : Int32)), .val (.int (1 : Int32)), .val (.int (1 : Int32)), .val (.int (1 : Int32)), .unset] [(.double v143), (.double z135)])) rfl (hb hby at_144) _ (kk)) ?_
    show Dn p e below s _ _ _ (T135.setTop (mkF m 147 #[.val (.int p0), .val (.long p1), .second, .val (.int v7), .val (.double v14), .second, .val (.ref b17), .val (.int (512 : Int32)), .val (.int (1 : Int32)), .val (.int (1 : Int32)), .val (.int (1 : Int32)), .unset] [(.double (4652218415073722368 : UInt64)), (.double v143), (.double z135)]))
    have d147 : DS 10 v142.toInt (FP.ddiv v143 (4652218415073722368 : UInt64)) := DS.divp (t := 10) d143 dc_4652218415073722368 (by first | omega | decide) (by decide)
    refine Dn.st (fun _ kk => XS.ddivS X135.here hx rfl (hb hby at_147) rfl d147.nn rfl (kk)) ?_
    show Dn p e below s _ _ _ (T135.setTop (mkF m 148 #[.val (.int p0), .val (.long p1), .second, .val (.int v7), .val (.double v14), .second, .val (.ref b17), .val (.int (512 : Int32)), .val (.int (1 : Int32)), .val (.int (1 : Int32)), .val (.int (1 : Int32)), .unset] [(.double (FP.ddiv v143 (4652218415073722368 : UInt64))), (.double z135)]))
    generalize hv147 : ((FP.ddiv v143 (4652218415073722368 : UInt64)) : UInt64) = v147 at d147 ⊢
    show Dn p e below s _ _ _ (T135.setTop (mkF m 148 #[.val (.int p0), .val (.long p1), .second, .val (.int v7), .val (.double v14), .second, .val (.ref b17), .val (.int (512 : Int32)), .val (.int (1 : Int32)), .val (.int (1 : Int32)), .val (.int (1 : Int32)), .unset] [(.double v147), (.double z135)]))
    refine Dn.st (fun _ kk => XS.dcmpS X135.here hx rfl (hb hby at_148) rfl (DS.cmpV d135 d147 _) (kk)) ?_
    show Dn p e below s _ _ _ (T135.setTop (mkF m 149 #[.val (.int p0), .val (.long p1), .second, .val (.int v7), .val (.double v14), .second, .val (.ref b17), .val (.int (512 : Int32)), .val (.int (1 : Int32)), .val (.int (1 : Int32)), .val (.int (1 : Int32)), .unset] [(.int (c3 (own_buy v7.toInt (-9223372036854775808 : Int64)) v142.toInt))]))
    have hc149 : (c3 (own_buy v7.toInt (-9223372036854775808 : Int64)) v142.toInt) = (0 : Int32) := (c3_eq _ _).mpr (by unfold own_buy; rw [if_neg (by decide), if_neg (by decide)] <;> omega)
    refine Dn.st (fun _ kk => XS.ifNo X135.here hx rfl (hb hby at_149) rfl ((if0 _ _).trans (teq hc149).2) (XS.iconst X135.here hx rfl (hb hby at_152) (XS.goto X135.here hx rfl (pc0 := 153) (pc' := 157) rfl (hb hby at_153) (by decide) (by decide) (XS.istore X135.here hx rfl (hb hby at_157) rfl (l' := #[.val (.int p0), .val (.long p1), .second, .val (.int v7), .val (.double v14), .second, .val (.ref b17), .val (.int (512 : Int32)), .val (.int (1 : Int32)), .val (.int (1 : Int32)), .val (.int (1 : Int32)), .val (.int (1 : Int32))]) rfl (XS.iload X135.here hx rfl (hb hby at_159) rfl  (kk)))))) ?_
    show Dn p e below s _ _ _ (T135.setTop (mkF m 161 #[.val (.int p0), .val (.long p1), .second, .val (.int v7), .val (.double v14), .second, .val (.ref b17), .val (.int (512 : Int32)), .val (.int (1 : Int32)), .val (.int (1 : Int32)), .val (.int (1 : Int32)), .val (.int (1 : Int32))] [(.int (1 : Int32))]))
    have hc161 : ¬ ((1 : Int32) = (0 : Int32)) := by decide
    refine Dn.st (fun _ kk => XS.ifNo X135.here hx rfl (hb hby at_161) rfl ((if0 _ _).trans (feq hc161).1) (XS.iload X135.here hx rfl (hb hby at_164) rfl  (kk))) ?_
    show Dn p e below s _ _ _ (T135.setTop (mkF m 166 #[.val (.int p0), .val (.long p1), .second, .val (.int v7), .val (.double v14), .second, .val (.ref b17), .val (.int (512 : Int32)), .val (.int (1 : Int32)), .val (.int (1 : Int32)), .val (.int (1 : Int32)), .val (.int (1 : Int32))] [(.int (1 : Int32))]))
    have hc166 : ¬ ((1 : Int32) = (0 : Int32)) := by decide
    refine Dn.st (fun _ kk => XS.ifNo X135.here hx rfl (hb hby at_166) rfl ((if0 _ _).trans (feq hc166).1) (XS.iload X135.here hx rfl (hb hby at_169) rfl  (kk))) ?_
    show Dn p e below s _ _ _ (T135.setTop (mkF m 171 #[.val (.int p0), .val (.long p1), .second, .val (.int v7), .val (.double v14), .second, .val (.ref b17), .val (.int (512 : Int32)), .val (.int (1 : Int32)), .val (.int (1 : Int32)), .val (.int (1 : Int32)), .val (.int (1 : Int32))] [(.int (1 : Int32))]))
    have hc171 : ¬ ((1 : Int32) = (0 : Int32)) := by decide
    refine Dn.st (fun _ kk => XS.ifNo X135.here hx rfl (hb hby at_171) rfl ((if0 _ _).trans (feq hc171).1) (XS.iload X135.here hx rfl (hb hby at_174) rfl  (kk))) ?_
    show Dn p e below s _ _ _ (T135.setTop (mkF m 176 #[.val (.int p0), .val (.long p1), .second, .val (.int v7), .val (.double v14), .second, .val (.ref b17), .val (.int (512 : Int32)), .val (.int (1 : Int32)), .val (.int (1 : Int32)), .val (.int (1 : Int32)), .val (.int (1 : Int32))] [(.int (1 : Int32))]))
    have hc176 : ¬ ((1 : Int32) = (0 : Int32)) := by decide
    refine Dn.st (fun _ kk => XS.ifNo X135.here hx rfl (hb hby at_176) rfl ((if0 _ _).trans (feq hc176).1) (XS.iconst X135.here hx rfl (hb hby at_179) (XS.goto X135.here hx rfl (pc0 := 180) (pc' := 184) rfl (hb hby at_180) (by decide) (by decide) (kk)))) ?_
    show Dn p e below s _ _ _ (T135.setTop (mkF m 184 #[.val (.int p0), .val (.long p1), .second, .val (.int v7), .val (.double v14), .second, .val (.ref b17), .val (.int (512 : Int32)), .val (.int (1 : Int32)), .val (.int (1 : Int32)), .val (.int (1 : Int32)), .val (.int (1 : Int32))] [(.int (1 : Int32))]))
    exact Dn.ret X135 hlk hx hret rfl (Or.inl ⟨rfl, Or.inr (Or.inl rfl), _, rfl⟩) (hb hby at_184) (by rw [hh135]; exact ⟨rfl, N135⟩) (by decide) (by decide)
  · have hj31 := mt (lw_eq _ _).mpr hc31
    have hi31 : ¬ p1.toInt = 0 := fun qq => hj31 (Int64.toInt_inj.mp qq)
    refine Dn.st (fun _ kk => XS.ifYes X23.here hx rfl (pc0 := 31) (pc' := 42) rfl (hb hby at_31) rfl ((if0 _ _).trans (feq hc31).2) (by decide) (by decide) (XS.lloadN X23.here hx rfl (hb hby at_42) rfl  (XS.lconst X23.here hx rfl (hb hby at_43) (XS.lcmp X23.here hx rfl (hb hby at_44) rfl (kk))))) ?_
    show Dn p e below s _ _ _ (T23.setTop (mkF m 45 #[.val (.int p0), .val (.long p1), .second, .val (.int v7), .val (.double v14), .second, .val (.ref b17), .unset, .unset, .unset, .unset, .unset] [(.int (lcmpW p1 (0 : Int64)))]))
    by_cases hc45 : (0 : Int32) < (lcmpW p1 (0 : Int64))
    · have hj45 := (lw_gt _ _).mp hc45
      have hi45 : 0 < p1.toInt := Int64.lt_iff_toInt_lt.mp hj45
      refine Dn.st (fun _ kk => XS.ifNo X23.here hx rfl (hb hby at_45) rfl ((if0 _ _).trans (tlt hc45).2.2.2) (XS.iloadN X23.here hx rfl (hb hby at_48) rfl  (XS.istore X23.here hx rfl (hb hby at_49) rfl (l' := #[.val (.int p0), .val (.long p1), .second, .val (.int v7), .val (.double v14), .second, .val (.ref b17), .val (.int v7), .unset, .unset, .unset, .unset]) rfl (XS.goto X23.here hx rfl (pc0 := 51) (pc' := 61) rfl (hb hby at_51) (by decide) (by decide) (XS.aload X23.here hx rfl (hb hby at_61) rfl rfl (XS.lloadN X23.here hx rfl (hb hby at_63) rfl  (kk))))))) ?_
      show Dn p e below s _ _ _ (T23.setTop (mkF m 64 #[.val (.int p0), .val (.long p1), .second, .val (.int v7), .val (.double v14), .second, .val (.ref b17), .val (.int v7), .unset, .unset, .unset, .unset] [(.long p1), (.ref b17)]))
      obtain ⟨cq64, kq64, q64a, q64b, q64c⟩ := isOf hZ rfl E_b17_23
      obtain ⟨_, _, ⟨T64, L64, k64, n64⟩, -, X64, ⟨Lc64, hQ64, l64, y64, z64⟩, st64⟩ := X23.virtualBack hx (y := (⟨"com/example/listino/listino/market/Imitation", "buyProbability", "(J)D"⟩ : MethodName)) (z := (⟨"com/example/listino/listino/market/Imitation", "buyProbability", "(J)D"⟩ : MethodName)) hown (mvT hZ (hw _ (List.mem_of_getElem? (i := 18) rfl))) (mvT hZ (hw _ (List.mem_of_getElem? (i := 19) rfl))) (notFace_of_selects (args := #[]) (mvT hZ (hw _ (List.mem_of_getElem? (i := 21) rfl)))) (mvT hZ (hw _ (List.mem_of_getElem? (i := 21) rfl))) (mvT hZ (hw _ (List.mem_of_getElem? (i := 20) rfl))) (by decide) (backOf (W := 0) (rm4 l Z a0 hw [] b17 p1 v14 v7.toInt T23.heap n0 Z23 F_b17_probability_23 d14 (by omega)) hZ (hw _ (List.mem_of_getElem? (i := 22) rfl)) (hw _ (List.mem_of_getElem? (i := 4) rfl)) (by decide) (by decide)) q64a q64c (g := (mkF m 64 #[.val (.int p0), .val (.long p1), .second, .val (.int v7), .val (.double v14), .second, .val (.ref b17), .val (.int v7), .unset, .unset, .unset, .unset] [(.long p1), (.ref b17)])) rfl (by rw [hml]; rfl) (Steps.refl _) (argsL := [(.long p1)]) (rest := []) (lenOf pd2 rfl) rfl (by show 2 * 0 + _ ≤ _; exact Nat.le_of_eq rfl) (hb hby at_64) (fun _ _ => ⟨rfl, rfl, (by decide : 1 + 0 ≤ _), (by decide : 1 + 0 ≤ _)⟩)
      dsimp only [Pt.U, Pt.locs, Pt.cells, Pt.slots] at X64 l64 y64 z64 st64 hQ64
      subst l64 y64 z64
      obtain ⟨z64, rfl, d64, Nq64, hh64⟩ := hQ64
      have N64 := Fr.app N23 Nq64
      refine Dn.tr st64 ?_
      show Dn p e below s _ _ _ (T64.setTop (mkF m 67 #[.val (.int p0), .val (.long p1), .second, .val (.int v7), .val (.double v14), .second, .val (.ref b17), .val (.int v7), .unset, .unset, .unset, .unset] [(.double z64)]))
      refine Dn.st (fun _ kk => XS.iload X64.here hx rfl (hb hby at_67) rfl  (kk)) ?_
      show Dn p e below s _ _ _ (T64.setTop (mkF m 69 #[.val (.int p0), .val (.long p1), .second, .val (.int v7), .val (.double v14), .second, .val (.ref b17), .val (.int v7), .unset, .unset, .unset, .unset] [(.int v7), (.double z64)]))
      have d69 := DS.i2d v7
      refine Dn.st (fun _ kk => XS.i2dS X64.here hx rfl (hb hby at_69) rfl rfl (kk)) ?_
      show Dn p e below s _ _ _ (T64.setTop (mkF m 70 #[.val (.int p0), .val (.long p1), .second, .val (.int v7), .val (.double v14), .second, .val (.ref b17), .val (.int v7), .unset, .unset, .unset, .unset] [(.double (FP.i2d v7)), (.double z64)]))
      generalize hv69 : ((FP.i2d v7) : UInt64) = v69 at d69 ⊢
      show Dn p e below s _ _ _ (T64.setTop (mkF m 70 #[.val (.int p0), .val (.long p1), .second, .val (.int v7), .val (.double v14), .second, .val (.ref b17), .val (.int v7), .unset, .unset, .unset, .unset] [(.double v69), (.double z64)]))
      refine Dn.st (fun _ kk => X64.ldc2DoubleC hx hown (mvT hZ (hw _ (List.mem_of_getElem? (i := 1) rfl))) (g := (mkF m 70 #[.val (.int p0), .val (.long p1), .second, .val (.int v7), .val (.double v14), .second, .val (.ref b17), .val (.int v7), .unset, .unset, .unset, .unset] [(.double v69), (.double z64)])) rfl (hb hby at_70) _ (kk)) ?_
      show Dn p e below s _ _ _ (T64.setTop (mkF m 73 #[.val (.int p0), .val (.long p1), .second, .val (.int v7), .val (.double v14), .second, .val (.ref b17), .val (.int v7), .unset, .unset, .unset, .unset] [(.double (4652218415073722368 : UInt64)), (.double v69), (.double z64)]))
      have d73 : DS 10 v7.toInt (FP.ddiv v69 (4652218415073722368 : UInt64)) := DS.divp (t := 10) d69 dc_4652218415073722368 (by first | omega | decide) (by decide)
      refine Dn.st (fun _ kk => XS.ddivS X64.here hx rfl (hb hby at_73) rfl d73.nn rfl (kk)) ?_
      show Dn p e below s _ _ _ (T64.setTop (mkF m 74 #[.val (.int p0), .val (.long p1), .second, .val (.int v7), .val (.double v14), .second, .val (.ref b17), .val (.int v7), .unset, .unset, .unset, .unset] [(.double (FP.ddiv v69 (4652218415073722368 : UInt64))), (.double z64)]))
      generalize hv73 : ((FP.ddiv v69 (4652218415073722368 : UInt64)) : UInt64) = v73 at d73 ⊢
      show Dn p e below s _ _ _ (T64.setTop (mkF m 74 #[.val (.int p0), .val (.long p1), .second, .val (.int v7), .val (.double v14), .second, .val (.ref b17), .val (.int v7), .unset, .unset, .unset, .unset] [(.double v73), (.double z64)]))
      refine Dn.st (fun _ kk => XS.dcmpS X64.here hx rfl (hb hby at_74) rfl (DS.cmpV d64 d73 _) (kk)) ?_
      show Dn p e below s _ _ _ (T64.setTop (mkF m 75 #[.val (.int p0), .val (.long p1), .second, .val (.int v7), .val (.double v14), .second, .val (.ref b17), .val (.int v7), .unset, .unset, .unset, .unset] [(.int (c3 (own_buy v7.toInt p1) v7.toInt))]))
      have hc75 : (c3 (own_buy v7.toInt p1) v7.toInt) = (0 : Int32) := (c3_eq _ _).mpr (by unfold own_buy; first | (rw [if_pos hj31] <;> first | omega | decide) | (rw [if_neg hj31, if_pos hj45] <;> omega) | (rw [if_neg hj31, if_neg hj45] <;> omega))
      refine Dn.st (fun _ kk => XS.ifNo X64.here hx rfl (hb hby at_75) rfl ((if0 _ _).trans (teq hc75).2) (XS.iconst X64.here hx rfl (hb hby at_78) (XS.goto X64.here hx rfl (pc0 := 79) (pc' := 83) rfl (hb hby at_79) (by decide) (by decide) (XS.istore X64.here hx rfl (hb hby at_83) rfl (l' := #[.val (.int p0), .val (.long p1), .second, .val (.int v7), .val (.double v14), .second, .val (.ref b17), .val (.int v7), .val (.int (1 : Int32)), .unset, .unset, .unset]) rfl (XS.aload X64.here hx rfl (hb hby at_85) rfl rfl (XS.lconst X64.here hx rfl (hb hby at_87) (kk))))))) ?_
      show Dn p e below s _ _ _ (T64.setTop (mkF m 88 #[.val (.int p0), .val (.long p1), .second, .val (.int v7), .val (.double v14), .second, .val (.ref b17), .val (.int v7), .val (.int (1 : Int32)), .unset, .unset, .unset] [(.long (0 : Int64)), (.ref b17)]))
      obtain ⟨cq88, kq88, q88a, q88b, q88c⟩ := isOf hZ hh64 E_b17_23
      obtain ⟨_, _, ⟨T88, L88, k88, n88⟩, -, X88, ⟨Lc88, hQ88, l88, y88, z88⟩, st88⟩ := X64.virtualBack hx (y := (⟨"com/example/listino/listino/market/Imitation", "buyProbability", "(J)D"⟩ : MethodName)) (z := (⟨"com/example/listino/listino/market/Imitation", "buyProbability", "(J)D"⟩ : MethodName)) hown (mvT hZ (hw _ (List.mem_of_getElem? (i := 18) rfl))) (mvT hZ (hw _ (List.mem_of_getElem? (i := 19) rfl))) (notFace_of_selects (args := #[]) (mvT hZ (hw _ (List.mem_of_getElem? (i := 21) rfl)))) (mvT hZ (hw _ (List.mem_of_getElem? (i := 21) rfl))) (mvT hZ (hw _ (List.mem_of_getElem? (i := 20) rfl))) (by decide) (backOf (W := 0) (rm4 l Z a0 hw [] b17 (0 : Int64) v14 v7.toInt T23.heap n0 Z23 F_b17_probability_23 d14 (by omega)) hZ (hw _ (List.mem_of_getElem? (i := 22) rfl)) (hw _ (List.mem_of_getElem? (i := 4) rfl)) (by decide) (by decide)) q88a q88c (g := (mkF m 88 #[.val (.int p0), .val (.long p1), .second, .val (.int v7), .val (.double v14), .second, .val (.ref b17), .val (.int v7), .val (.int (1 : Int32)), .unset, .unset, .unset] [(.long (0 : Int64)), (.ref b17)])) rfl (by rw [hml]; rfl) (Steps.refl _) (argsL := [(.long (0 : Int64))]) (rest := []) (lenOf pd2 rfl) rfl (by show 2 * 0 + _ ≤ _; exact Nat.le_of_eq rfl) (hb hby at_88) (fun _ _ => ⟨rfl, hh64, (by decide : 1 + 0 ≤ _), (by decide : 1 + 0 ≤ _)⟩)
      dsimp only [Pt.U, Pt.locs, Pt.cells, Pt.slots] at X88 l88 y88 z88 st88 hQ88
      subst l88 y88 z88
      obtain ⟨z88, rfl, d88, Nq88, hh88⟩ := hQ88
      have N88 := Fr.app N64 Nq88
      refine Dn.tr st88 ?_
      show Dn p e below s _ _ _ (T88.setTop (mkF m 91 #[.val (.int p0), .val (.long p1), .second, .val (.int v7), .val (.double v14), .second, .val (.ref b17), .val (.int v7), .val (.int (1 : Int32)), .unset, .unset, .unset] [(.double z88)]))
      refine Dn.st (fun _ kk => X88.ldc2DoubleC hx hown (mvT hZ (hw _ (List.mem_of_getElem? (i := 24) rfl))) (g := (mkF m 91 #[.val (.int p0), .val (.long p1), .second, .val (.int v7), .val (.double v14), .second, .val (.ref b17), .val (.int v7), .val (.int (1 : Int32)), .unset, .unset, .unset] [(.double z88)])) rfl (hb hby at_91) _ (XS.dcmpS X88.here hx rfl (hb hby at_94) rfl (DS.cmpV d88 (DS.cast (k' := 10) (i' := 512) ((dc_4602678819172646912).up 9) rfl (by decide)) _) (kk))) ?_
      show Dn p e below s _ _ _ (T88.setTop (mkF m 95 #[.val (.int p0), .val (.long p1), .second, .val (.int v7), .val (.double v14), .second, .val (.ref b17), .val (.int v7), .val (.int (1 : Int32)), .unset, .unset, .unset] [(.int (c3 (own_buy v7.toInt (0 : Int64)) 512))]))
      have hc95 : (c3 (own_buy v7.toInt (0 : Int64)) 512) = (0 : Int32) := (c3_eq _ _).mpr (by unfold own_buy; rw [if_pos rfl])
      refine Dn.st (fun _ kk => XS.ifNo X88.here hx rfl (hb hby at_95) rfl ((if0 _ _).trans (teq hc95).2) (XS.iconst X88.here hx rfl (hb hby at_98) (XS.goto X88.here hx rfl (pc0 := 99) (pc' := 103) rfl (hb hby at_99) (by decide) (by decide) (XS.istore X88.here hx rfl (hb hby at_103) rfl (l' := #[.val (.int p0), .val (.long p1), .second, .val (.int v7), .val (.double v14), .second, .val (.ref b17), .val (.int v7), .val (.int (1 : Int32)), .val (.int (1 : Int32)), .unset, .unset]) rfl (XS.aload X88.here hx rfl (hb hby at_105) rfl rfl (X88.ldc2Long hx hown (mvT hZ (hw _ (List.mem_of_getElem? (i := 25) rfl))) (g := (mkF m 107 #[.val (.int p0), .val (.long p1), .second, .val (.int v7), .val (.double v14), .second, .val (.ref b17), .val (.int v7), .val (.int (1 : Int32)), .val (.int (1 : Int32)), .unset, .unset] [(.ref b17)])) rfl (hb hby at_107) _ (kk))))))) ?_
      show Dn p e below s _ _ _ (T88.setTop (mkF m 110 #[.val (.int p0), .val (.long p1), .second, .val (.int v7), .val (.double v14), .second, .val (.ref b17), .val (.int v7), .val (.int (1 : Int32)), .val (.int (1 : Int32)), .unset, .unset] [(.long (9223372036854775807 : Int64)), (.ref b17)]))
      obtain ⟨cq110, kq110, q110a, q110b, q110c⟩ := isOf hZ hh88 E_b17_23
      obtain ⟨_, _, ⟨T110, L110, k110, n110⟩, -, X110, ⟨Lc110, hQ110, l110, y110, z110⟩, st110⟩ := X88.virtualBack hx (y := (⟨"com/example/listino/listino/market/Imitation", "buyProbability", "(J)D"⟩ : MethodName)) (z := (⟨"com/example/listino/listino/market/Imitation", "buyProbability", "(J)D"⟩ : MethodName)) hown (mvT hZ (hw _ (List.mem_of_getElem? (i := 18) rfl))) (mvT hZ (hw _ (List.mem_of_getElem? (i := 19) rfl))) (notFace_of_selects (args := #[]) (mvT hZ (hw _ (List.mem_of_getElem? (i := 21) rfl)))) (mvT hZ (hw _ (List.mem_of_getElem? (i := 21) rfl))) (mvT hZ (hw _ (List.mem_of_getElem? (i := 20) rfl))) (by decide) (backOf (W := 0) (rm4 l Z a0 hw [] b17 (9223372036854775807 : Int64) v14 v7.toInt T23.heap n0 Z23 F_b17_probability_23 d14 (by omega)) hZ (hw _ (List.mem_of_getElem? (i := 22) rfl)) (hw _ (List.mem_of_getElem? (i := 4) rfl)) (by decide) (by decide)) q110a q110c (g := (mkF m 110 #[.val (.int p0), .val (.long p1), .second, .val (.int v7), .val (.double v14), .second, .val (.ref b17), .val (.int v7), .val (.int (1 : Int32)), .val (.int (1 : Int32)), .unset, .unset] [(.long (9223372036854775807 : Int64)), (.ref b17)])) rfl (by rw [hml]; rfl) (Steps.refl _) (argsL := [(.long (9223372036854775807 : Int64))]) (rest := []) (lenOf pd2 rfl) rfl (by show 2 * 0 + _ ≤ _; exact Nat.le_of_eq rfl) (hb hby at_110) (fun _ _ => ⟨rfl, hh88, (by decide : 1 + 0 ≤ _), (by decide : 1 + 0 ≤ _)⟩)
      dsimp only [Pt.U, Pt.locs, Pt.cells, Pt.slots] at X110 l110 y110 z110 st110 hQ110
      subst l110 y110 z110
      obtain ⟨z110, rfl, d110, Nq110, hh110⟩ := hQ110
      have N110 := Fr.app N88 Nq110
      refine Dn.tr st110 ?_
      show Dn p e below s _ _ _ (T110.setTop (mkF m 113 #[.val (.int p0), .val (.long p1), .second, .val (.int v7), .val (.double v14), .second, .val (.ref b17), .val (.int v7), .val (.int (1 : Int32)), .val (.int (1 : Int32)), .unset, .unset] [(.double z110)]))
      refine Dn.st (fun _ kk => XS.iloadN X110.here hx rfl (hb hby at_113) rfl  (kk)) ?_
      show Dn p e below s _ _ _ (T110.setTop (mkF m 114 #[.val (.int p0), .val (.long p1), .second, .val (.int v7), .val (.double v14), .second, .val (.ref b17), .val (.int v7), .val (.int (1 : Int32)), .val (.int (1 : Int32)), .unset, .unset] [(.int v7), (.double z110)]))
      have d114 := DS.i2d v7
      refine Dn.st (fun _ kk => XS.i2dS X110.here hx rfl (hb hby at_114) rfl rfl (kk)) ?_
      show Dn p e below s _ _ _ (T110.setTop (mkF m 115 #[.val (.int p0), .val (.long p1), .second, .val (.int v7), .val (.double v14), .second, .val (.ref b17), .val (.int v7), .val (.int (1 : Int32)), .val (.int (1 : Int32)), .unset, .unset] [(.double (FP.i2d v7)), (.double z110)]))
      generalize hv114 : ((FP.i2d v7) : UInt64) = v114 at d114 ⊢
      show Dn p e below s _ _ _ (T110.setTop (mkF m 115 #[.val (.int p0), .val (.long p1), .second, .val (.int v7), .val (.double v14), .second, .val (.ref b17), .val (.int v7), .val (.int (1 : Int32)), .val (.int (1 : Int32)), .unset, .unset] [(.double v114), (.double z110)]))
      refine Dn.st (fun _ kk => X110.ldc2DoubleC hx hown (mvT hZ (hw _ (List.mem_of_getElem? (i := 1) rfl))) (g := (mkF m 115 #[.val (.int p0), .val (.long p1), .second, .val (.int v7), .val (.double v14), .second, .val (.ref b17), .val (.int v7), .val (.int (1 : Int32)), .val (.int (1 : Int32)), .unset, .unset] [(.double v114), (.double z110)])) rfl (hb hby at_115) _ (kk)) ?_
      show Dn p e below s _ _ _ (T110.setTop (mkF m 118 #[.val (.int p0), .val (.long p1), .second, .val (.int v7), .val (.double v14), .second, .val (.ref b17), .val (.int v7), .val (.int (1 : Int32)), .val (.int (1 : Int32)), .unset, .unset] [(.double (4652218415073722368 : UInt64)), (.double v114), (.double z110)]))
      have d118 : DS 10 v7.toInt (FP.ddiv v114 (4652218415073722368 : UInt64)) := DS.divp (t := 10) d114 dc_4652218415073722368 (by first | omega | decide) (by decide)
      refine Dn.st (fun _ kk => XS.ddivS X110.here hx rfl (hb hby at_118) rfl d118.nn rfl (kk)) ?_
      show Dn p e below s _ _ _ (T110.setTop (mkF m 119 #[.val (.int p0), .val (.long p1), .second, .val (.int v7), .val (.double v14), .second, .val (.ref b17), .val (.int v7), .val (.int (1 : Int32)), .val (.int (1 : Int32)), .unset, .unset] [(.double (FP.ddiv v114 (4652218415073722368 : UInt64))), (.double z110)]))
      generalize hv118 : ((FP.ddiv v114 (4652218415073722368 : UInt64)) : UInt64) = v118 at d118 ⊢
      show Dn p e below s _ _ _ (T110.setTop (mkF m 119 #[.val (.int p0), .val (.long p1), .second, .val (.int v7), .val (.double v14), .second, .val (.ref b17), .val (.int v7), .val (.int (1 : Int32)), .val (.int (1 : Int32)), .unset, .unset] [(.double v118), (.double z110)]))
      refine Dn.st (fun _ kk => XS.dcmpS X110.here hx rfl (hb hby at_119) rfl (DS.cmpV d110 d118 _) (kk)) ?_
      show Dn p e below s _ _ _ (T110.setTop (mkF m 120 #[.val (.int p0), .val (.long p1), .second, .val (.int v7), .val (.double v14), .second, .val (.ref b17), .val (.int v7), .val (.int (1 : Int32)), .val (.int (1 : Int32)), .unset, .unset] [(.int (c3 (own_buy v7.toInt (9223372036854775807 : Int64)) v7.toInt))]))
      have hc120 : (c3 (own_buy v7.toInt (9223372036854775807 : Int64)) v7.toInt) = (0 : Int32) := (c3_eq _ _).mpr (by unfold own_buy; rw [if_neg (by decide), if_pos (by decide)])
      refine Dn.st (fun _ kk => XS.ifNo X110.here hx rfl (hb hby at_120) rfl ((if0 _ _).trans (teq hc120).2) (XS.iconst X110.here hx rfl (hb hby at_123) (XS.goto X110.here hx rfl (pc0 := 124) (pc' := 128) rfl (hb hby at_124) (by decide) (by decide) (XS.istore X110.here hx rfl (hb hby at_128) rfl (l' := #[.val (.int p0), .val (.long p1), .second, .val (.int v7), .val (.double v14), .second, .val (.ref b17), .val (.int v7), .val (.int (1 : Int32)), .val (.int (1 : Int32)), .val (.int (1 : Int32)), .unset]) rfl (XS.aload X110.here hx rfl (hb hby at_130) rfl rfl (X110.ldc2Long hx hown (mvT hZ (hw _ (List.mem_of_getElem? (i := 26) rfl))) (g := (mkF m 132 #[.val (.int p0), .val (.long p1), .second, .val (.int v7), .val (.double v14), .second, .val (.ref b17), .val (.int v7), .val (.int (1 : Int32)), .val (.int (1 : Int32)), .val (.int (1 : Int32)), .unset] [(.ref b17)])) rfl (hb hby at_132) _ (kk))))))) ?_
      show Dn p e below s _ _ _ (T110.setTop (mkF m 135 #[.val (.int p0), .val (.long p1), .second, .val (.int v7), .val (.double v14), .second, .val (.ref b17), .val (.int v7), .val (.int (1 : Int32)), .val (.int (1 : Int32)), .val (.int (1 : Int32)), .unset] [(.long (-9223372036854775808 : Int64)), (.ref b17)]))
      obtain ⟨cq135, kq135, q135a, q135b, q135c⟩ := isOf hZ hh110 E_b17_23
      obtain ⟨_, _, ⟨T135, L135, k135, n135⟩, -, X135, ⟨Lc135, hQ135, l135, y135, z135⟩, st135⟩ := X110.virtualBack hx (y := (⟨"com/example/listino/listino/market/Imitation", "buyProbability", "(J)D"⟩ : MethodName)) (z := (⟨"com/example/listino/listino/market/Imitation", "buyProbability", "(J)D"⟩ : MethodName)) hown (mvT hZ (hw _ (List.mem_of_getElem? (i := 18) rfl))) (mvT hZ (hw _ (List.mem_of_getElem? (i := 19) rfl))) (notFace_of_selects (args := #[]) (mvT hZ (hw _ (List.mem_of_getElem? (i := 21) rfl)))) (mvT hZ (hw _ (List.mem_of_getElem? (i := 21) rfl))) (mvT hZ (hw _ (List.mem_of_getElem? (i := 20) rfl))) (by decide) (backOf (W := 0) (rm4 l Z a0 hw [] b17 (-9223372036854775808 : Int64) v14 v7.toInt T23.heap n0 Z23 F_b17_probability_23 d14 (by omega)) hZ (hw _ (List.mem_of_getElem? (i := 22) rfl)) (hw _ (List.mem_of_getElem? (i := 4) rfl)) (by decide) (by decide)) q135a q135c (g := (mkF m 135 #[.val (.int p0), .val (.long p1), .second, .val (.int v7), .val (.double v14), .second, .val (.ref b17), .val (.int v7), .val (.int (1 : Int32)), .val (.int (1 : Int32)), .val (.int (1 : Int32)), .unset] [(.long (-9223372036854775808 : Int64)), (.ref b17)])) rfl (by rw [hml]; rfl) (Steps.refl _) (argsL := [(.long (-9223372036854775808 : Int64))]) (rest := []) (lenOf pd2 rfl) rfl (by show 2 * 0 + _ ≤ _; exact Nat.le_of_eq rfl) (hb hby at_135) (fun _ _ => ⟨rfl, hh110, (by decide : 1 + 0 ≤ _), (by decide : 1 + 0 ≤ _)⟩)
      dsimp only [Pt.U, Pt.locs, Pt.cells, Pt.slots] at X135 l135 y135 z135 st135 hQ135
      subst l135 y135 z135
      obtain ⟨z135, rfl, d135, Nq135, hh135⟩ := hQ135
      have N135 := Fr.app N110 Nq135
      refine Dn.tr st135 ?_
      show Dn p e below s _ _ _ (T135.setTop (mkF m 138 #[.val (.int p0), .val (.long p1), .second, .val (.int v7), .val (.double v14), .second, .val (.ref b17), .val (.int v7), .val (.int (1 : Int32)), .val (.int (1 : Int32)), .val (.int (1 : Int32)), .unset] [(.double z135)]))
      refine Dn.st (fun _ kk => XS.sipush X135.here hx rfl (hb hby at_138) (XS.iloadN X135.here hx rfl (hb hby at_141) rfl  (XS.isub X135.here hx rfl (hb hby at_142) rfl (kk)))) ?_
      show Dn p e below s _ _ _ (T135.setTop (mkF m 143 #[.val (.int p0), .val (.long p1), .second, .val (.int v7), .val (.double v14), .second, .val (.ref b17), .val (.int v7), .val (.int (1 : Int32)), .val (.int (1 : Int32)), .val (.int (1 : Int32)), .unset] [(.int ((1024 : Int32) - v7)), (.double z135)]))
      generalize hv142 : (((1024 : Int32) - v7) : Int32) = v142
      have q142 : (v142.toInt - (1024 - v7.toInt)) % 4294967296 = 0 := by have qq := c_isub (1024 : Int32) v7; rw [hv142] at qq; exact qq
      have r142 := rng32 v142
      show Dn p e below s _ _ _ (T135.setTop (mkF m 143 #[.val (.int p0), .val (.long p1), .second, .val (.int v7), .val (.double v14), .second, .val (.ref b17), .val (.int v7), .val (.int (1 : Int32)), .val (.int (1 : Int32)), .val (.int (1 : Int32)), .unset] [(.int v142), (.double z135)]))
      have d143 := DS.i2d v142
      refine Dn.st (fun _ kk => XS.i2dS X135.here hx rfl (hb hby at_143) rfl rfl (kk)) ?_
      show Dn p e below s _ _ _ (T135.setTop (mkF m 144 #[.val (.int p0), .val (.long p1), .second, .val (.int v7), .val (.double v14), .second, .val (.ref b17), .val (.int v7), .val (.int (1 : Int32)), .val (.int (1 : Int32)), .val (.int (1 : Int32)), .unset] [(.double (FP.i2d v142)), (.double z135)]))
      generalize hv143 : ((FP.i2d v142) : UInt64) = v143 at d143 ⊢
      show Dn p e below s _ _ _ (T135.setTop (mkF m 144 #[.val (.int p0), .val (.long p1), .second, .val (.int v7), .val (.double v14), .second, .val (.ref b17), .val (.int v7), .val (.int (1 : Int32)), .val (.int (1 : Int32)), .val (.int (1 : Int32)), .unset] [(.double v143), (.double z135)]))
      refine Dn.st (fun _ kk => X135.ldc2DoubleC hx hown (mvT hZ (hw _ (List.mem_of_getElem? (i := 1) rfl))) (g := (mkF m 144 #[.val (.int p0), .val (.long p1), .second, .val (.int v7), .val (.double v14), .second, .val (.ref b17), .val (.int v7), .val (.int (1 : Int32)), .val (.int (1 : Int32)), .val (.int (1 : Int32)), .unset] [(.double v143), (.double z135)])) rfl (hb hby at_144) _ (kk)) ?_
      show Dn p e below s _ _ _ (T135.setTop (mkF m 147 #[.val (.int p0), .val (.long p1), .second, .val (.int v7), .val (.double v14), .second, .val (.ref b17), .val (.int v7), .val (.int (1 : Int32)), .val (.int (1 : Int32)), .val (.int (1 : Int32)), .unset] [(.double (4652218415073722368 : UInt64)), (.double v143), (.double z135)]))
      have d147 : DS 10 v142.toInt (FP.ddiv v143 (4652218415073722368 : UInt64)) := DS.divp (t := 10) d143 dc_4652218415073722368 (by first | omega | decide) (by decide)
      refine Dn.st (fun _ kk => XS.ddivS X135.here hx rfl (hb hby at_147) rfl d147.nn rfl (kk)) ?_
      show Dn p e below s _ _ _ (T135.setTop (mkF m 148 #[.val (.int p0), .val (.long p1), .second, .val (.int v7), .val (.double v14), .second, .val (.ref b17), .val (.int v7), .val (.int (1 : Int32)), .val (.int (1 : Int32)), .val (.int (1 : Int32)), .unset] [(.double (FP.ddiv v143 (4652218415073722368 : UInt64))), (.double z135)]))
      generalize hv147 : ((FP.ddiv v143 (4652218415073722368 : UInt64)) : UInt64) = v147 at d147 ⊢
      show Dn p e below s _ _ _ (T135.setTop (mkF m 148 #[.val (.int p0), .val (.long p1), .second, .val (.int v7), .val (.double v14), .second, .val (.ref b17), .val (.int v7), .val (.int (1 : Int32)), .val (.int (1 : Int32)), .val (.int (1 : Int32)), .unset] [(.double v147), (.double z135)]))
      refine Dn.st (fun _ kk => XS.dcmpS X135.here hx rfl (hb hby at_148) rfl (DS.cmpV d135 d147 _) (kk)) ?_
      show Dn p e below s _ _ _ (T135.setTop (mkF m 149 #[.val (.int p0), .val (.long p1), .second, .val (.int v7), .val (.double v14), .second, .val (.ref b17), .val (.int v7), .val (.int (1 : Int32)), .val (.int (1 : Int32)), .val (.int (1 : Int32)), .unset] [(.int (c3 (own_buy v7.toInt (-9223372036854775808 : Int64)) v142.toInt))]))
      have hc149 : (c3 (own_buy v7.toInt (-9223372036854775808 : Int64)) v142.toInt) = (0 : Int32) := (c3_eq _ _).mpr (by unfold own_buy; rw [if_neg (by decide), if_neg (by decide)] <;> omega)
      refine Dn.st (fun _ kk => XS.ifNo X135.here hx rfl (hb hby at_149) rfl ((if0 _ _).trans (teq hc149).2) (XS.iconst X135.here hx rfl (hb hby at_152) (XS.goto X135.here hx rfl (pc0 := 153) (pc' := 157) rfl (hb hby at_153) (by decide) (by decide) (XS.istore X135.here hx rfl (hb hby at_157) rfl (l' := #[.val (.int p0), .val (.long p1), .second, .val (.int v7), .val (.double v14), .second, .val (.ref b17), .val (.int v7), .val (.int (1 : Int32)), .val (.int (1 : Int32)), .val (.int (1 : Int32)), .val (.int (1 : Int32))]) rfl (XS.iload X135.here hx rfl (hb hby at_159) rfl  (kk)))))) ?_
      show Dn p e below s _ _ _ (T135.setTop (mkF m 161 #[.val (.int p0), .val (.long p1), .second, .val (.int v7), .val (.double v14), .second, .val (.ref b17), .val (.int v7), .val (.int (1 : Int32)), .val (.int (1 : Int32)), .val (.int (1 : Int32)), .val (.int (1 : Int32))] [(.int (1 : Int32))]))
      have hc161 : ¬ ((1 : Int32) = (0 : Int32)) := by decide
      refine Dn.st (fun _ kk => XS.ifNo X135.here hx rfl (hb hby at_161) rfl ((if0 _ _).trans (feq hc161).1) (XS.iload X135.here hx rfl (hb hby at_164) rfl  (kk))) ?_
      show Dn p e below s _ _ _ (T135.setTop (mkF m 166 #[.val (.int p0), .val (.long p1), .second, .val (.int v7), .val (.double v14), .second, .val (.ref b17), .val (.int v7), .val (.int (1 : Int32)), .val (.int (1 : Int32)), .val (.int (1 : Int32)), .val (.int (1 : Int32))] [(.int (1 : Int32))]))
      have hc166 : ¬ ((1 : Int32) = (0 : Int32)) := by decide
      refine Dn.st (fun _ kk => XS.ifNo X135.here hx rfl (hb hby at_166) rfl ((if0 _ _).trans (feq hc166).1) (XS.iload X135.here hx rfl (hb hby at_169) rfl  (kk))) ?_
      show Dn p e below s _ _ _ (T135.setTop (mkF m 171 #[.val (.int p0), .val (.long p1), .second, .val (.int v7), .val (.double v14), .second, .val (.ref b17), .val (.int v7), .val (.int (1 : Int32)), .val (.int (1 : Int32)), .val (.int (1 : Int32)), .val (.int (1 : Int32))] [(.int (1 : Int32))]))
      have hc171 : ¬ ((1 : Int32) = (0 : Int32)) := by decide
      refine Dn.st (fun _ kk => XS.ifNo X135.here hx rfl (hb hby at_171) rfl ((if0 _ _).trans (feq hc171).1) (XS.iload X135.here hx rfl (hb hby at_174) rfl  (kk))) ?_
      show Dn p e below s _ _ _ (T135.setTop (mkF m 176 #[.val (.int p0), .val (.long p1), .second, .val (.int v7), .val (.double v14), .second, .val (.ref b17), .val (.int v7), .val (.int (1 : Int32)), .val (.int (1 : Int32)), .val (.int (1 : Int32)), .val (.int (1 : Int32))] [(.int (1 : Int32))]))
      have hc176 : ¬ ((1 : Int32) = (0 : Int32)) := by decide
      refine Dn.st (fun _ kk => XS.ifNo X135.here hx rfl (hb hby at_176) rfl ((if0 _ _).trans (feq hc176).1) (XS.iconst X135.here hx rfl (hb hby at_179) (XS.goto X135.here hx rfl (pc0 := 180) (pc' := 184) rfl (hb hby at_180) (by decide) (by decide) (kk)))) ?_
      show Dn p e below s _ _ _ (T135.setTop (mkF m 184 #[.val (.int p0), .val (.long p1), .second, .val (.int v7), .val (.double v14), .second, .val (.ref b17), .val (.int v7), .val (.int (1 : Int32)), .val (.int (1 : Int32)), .val (.int (1 : Int32)), .val (.int (1 : Int32))] [(.int (1 : Int32))]))
      exact Dn.ret X135 hlk hx hret rfl (Or.inl ⟨rfl, Or.inr (Or.inl rfl), _, rfl⟩) (hb hby at_184) (by rw [hh135]; exact ⟨rfl, N135⟩) (by decide) (by decide)
    · have hj45 := mt (lw_gt _ _).mpr hc45
      have hi45 : ¬ 0 < p1.toInt := fun qq => hj45 (Int64.lt_iff_toInt_lt.mpr qq)
      refine Dn.st (fun _ kk => XS.ifYes X23.here hx rfl (pc0 := 45) (pc' := 54) rfl (hb hby at_45) rfl ((if0 _ _).trans (flt hc45).2.2.2) (by decide) (by decide) (XS.sipush X23.here hx rfl (hb hby at_54) (XS.iloadN X23.here hx rfl (hb hby at_57) rfl  (XS.isub X23.here hx rfl (hb hby at_58) rfl (kk))))) ?_
      show Dn p e below s _ _ _ (T23.setTop (mkF m 59 #[.val (.int p0), .val (.long p1), .second, .val (.int v7), .val (.double v14), .second, .val (.ref b17), .unset, .unset, .unset, .unset, .unset] [(.int ((1024 : Int32) - v7))]))
      generalize hv58 : (((1024 : Int32) - v7) : Int32) = v58
      have q58 : (v58.toInt - (1024 - v7.toInt)) % 4294967296 = 0 := by have qq := c_isub (1024 : Int32) v7; rw [hv58] at qq; exact qq
      have r58 := rng32 v58
      show Dn p e below s _ _ _ (T23.setTop (mkF m 59 #[.val (.int p0), .val (.long p1), .second, .val (.int v7), .val (.double v14), .second, .val (.ref b17), .unset, .unset, .unset, .unset, .unset] [(.int v58)]))
      refine Dn.st (fun _ kk => XS.istore X23.here hx rfl (hb hby at_59) rfl (l' := #[.val (.int p0), .val (.long p1), .second, .val (.int v7), .val (.double v14), .second, .val (.ref b17), .val (.int v58), .unset, .unset, .unset, .unset]) rfl (XS.aload X23.here hx rfl (hb hby at_61) rfl rfl (XS.lloadN X23.here hx rfl (hb hby at_63) rfl  (kk)))) ?_
      show Dn p e below s _ _ _ (T23.setTop (mkF m 64 #[.val (.int p0), .val (.long p1), .second, .val (.int v7), .val (.double v14), .second, .val (.ref b17), .val (.int v58), .unset, .unset, .unset, .unset] [(.long p1), (.ref b17)]))
      obtain ⟨cq64, kq64, q64a, q64b, q64c⟩ := isOf hZ rfl E_b17_23
      obtain ⟨_, _, ⟨T64, L64, k64, n64⟩, -, X64, ⟨Lc64, hQ64, l64, y64, z64⟩, st64⟩ := X23.virtualBack hx (y := (⟨"com/example/listino/listino/market/Imitation", "buyProbability", "(J)D"⟩ : MethodName)) (z := (⟨"com/example/listino/listino/market/Imitation", "buyProbability", "(J)D"⟩ : MethodName)) hown (mvT hZ (hw _ (List.mem_of_getElem? (i := 18) rfl))) (mvT hZ (hw _ (List.mem_of_getElem? (i := 19) rfl))) (notFace_of_selects (args := #[]) (mvT hZ (hw _ (List.mem_of_getElem? (i := 21) rfl)))) (mvT hZ (hw _ (List.mem_of_getElem? (i := 21) rfl))) (mvT hZ (hw _ (List.mem_of_getElem? (i := 20) rfl))) (by decide) (backOf (W := 0) (rm4 l Z a0 hw [] b17 p1 v14 v7.toInt T23.heap n0 Z23 F_b17_probability_23 d14 (by omega)) hZ (hw _ (List.mem_of_getElem? (i := 22) rfl)) (hw _ (List.mem_of_getElem? (i := 4) rfl)) (by decide) (by decide)) q64a q64c (g := (mkF m 64 #[.val (.int p0), .val (.long p1), .second, .val (.int v7), .val (.double v14), .second, .val (.ref b17), .val (.int v58), .unset, .unset, .unset, .unset] [(.long p1), (.ref b17)])) rfl (by rw [hml]; rfl) (Steps.refl _) (argsL := [(.long p1)]) (rest := []) (lenOf pd2 rfl) rfl (by show 2 * 0 + _ ≤ _; exact Nat.le_of_eq rfl) (hb hby at_64) (fun _ _ => ⟨rfl, rfl, (by decide : 1 + 0 ≤ _), (by decide : 1 + 0 ≤ _)⟩)
      dsimp only [Pt.U, Pt.locs, Pt.cells, Pt.slots] at X64 l64 y64 z64 st64 hQ64
      subst l64 y64 z64
      obtain ⟨z64, rfl, d64, Nq64, hh64⟩ := hQ64
      have N64 := Fr.app N23 Nq64
      refine Dn.tr st64 ?_
      show Dn p e below s _ _ _ (T64.setTop (mkF m 67 #[.val (.int p0), .val (.long p1), .second, .val (.int v7), .val (.double v14), .second, .val (.ref b17), .val (.int v58), .unset, .unset, .unset, .unset] [(.double z64)]))
      refine Dn.st (fun _ kk => XS.iload X64.here hx rfl (hb hby at_67) rfl  (kk)) ?_
      show Dn p e below s _ _ _ (T64.setTop (mkF m 69 #[.val (.int p0), .val (.long p1), .second, .val (.int v7), .val (.double v14), .second, .val (.ref b17), .val (.int v58), .unset, .unset, .unset, .unset] [(.int v58), (.double z64)]))
      have d69 := DS.i2d v58
      refine Dn.st (fun _ kk => XS.i2dS X64.here hx rfl (hb hby at_69) rfl rfl (kk)) ?_
      show Dn p e below s _ _ _ (T64.setTop (mkF m 70 #[.val (.int p0), .val (.long p1), .second, .val (.int v7), .val (.double v14), .second, .val (.ref b17), .val (.int v58), .unset, .unset, .unset, .unset] [(.double (FP.i2d v58)), (.double z64)]))
      generalize hv69 : ((FP.i2d v58) : UInt64) = v69 at d69 ⊢
      show Dn p e below s _ _ _ (T64.setTop (mkF m 70 #[.val (.int p0), .val (.long p1), .second, .val (.int v7), .val (.double v14), .second, .val (.ref b17), .val (.int v58), .unset, .unset, .unset, .unset] [(.double v69), (.double z64)]))
      refine Dn.st (fun _ kk => X64.ldc2DoubleC hx hown (mvT hZ (hw _ (List.mem_of_getElem? (i := 1) rfl))) (g := (mkF m 70 #[.val (.int p0), .val (.long p1), .second, .val (.int v7), .val (.double v14), .second, .val (.ref b17), .val (.int v58), .unset, .unset, .unset, .unset] [(.double v69), (.double z64)])) rfl (hb hby at_70) _ (kk)) ?_
      show Dn p e below s _ _ _ (T64.setTop (mkF m 73 #[.val (.int p0), .val (.long p1), .second, .val (.int v7), .val (.double v14), .second, .val (.ref b17), .val (.int v58), .unset, .unset, .unset, .unset] [(.double (4652218415073722368 : UInt64)), (.double v69), (.double z64)]))
      have d73 : DS 10 v58.toInt (FP.ddiv v69 (4652218415073722368 : UInt64)) := DS.divp (t := 10) d69 dc_4652218415073722368 (by first | omega | decide) (by decide)
      refine Dn.st (fun _ kk => XS.ddivS X64.here hx rfl (hb hby at_73) rfl d73.nn rfl (kk)) ?_
      show Dn p e below s _ _ _ (T64.setTop (mkF m 74 #[.val (.int p0), .val (.long p1), .second, .val (.int v7), .val (.double v14), .second, .val (.ref b17), .val (.int v58), .unset, .unset, .unset, .unset] [(.double (FP.ddiv v69 (4652218415073722368 : UInt64))), (.double z64)]))
      generalize hv73 : ((FP.ddiv v69 (4652218415073722368 : UInt64)) : UInt64) = v73 at d73 ⊢
      show Dn p e below s _ _ _ (T64.setTop (mkF m 74 #[.val (.int p0), .val (.long p1), .second, .val (.int v7), .val (.double v14), .second, .val (.ref b17), .val (.int v58), .unset, .unset, .unset, .unset] [(.double v73), (.double z64)]))
      refine Dn.st (fun _ kk => XS.dcmpS X64.here hx rfl (hb hby at_74) rfl (DS.cmpV d64 d73 _) (kk)) ?_
      show Dn p e below s _ _ _ (T64.setTop (mkF m 75 #[.val (.int p0), .val (.long p1), .second, .val (.int v7), .val (.double v14), .second, .val (.ref b17), .val (.int v58), .unset, .unset, .unset, .unset] [(.int (c3 (own_buy v7.toInt p1) v58.toInt))]))
      have hc75 : (c3 (own_buy v7.toInt p1) v58.toInt) = (0 : Int32) := (c3_eq _ _).mpr (by unfold own_buy; first | (rw [if_pos hj31] <;> first | omega | decide) | (rw [if_neg hj31, if_pos hj45] <;> omega) | (rw [if_neg hj31, if_neg hj45] <;> omega))
      refine Dn.st (fun _ kk => XS.ifNo X64.here hx rfl (hb hby at_75) rfl ((if0 _ _).trans (teq hc75).2) (XS.iconst X64.here hx rfl (hb hby at_78) (XS.goto X64.here hx rfl (pc0 := 79) (pc' := 83) rfl (hb hby at_79) (by decide) (by decide) (XS.istore X64.here hx rfl (hb hby at_83) rfl (l' := #[.val (.int p0), .val (.long p1), .second, .val (.int v7), .val (.double v14), .second, .val (.ref b17), .val (.int v58), .val (.int (1 : Int32)), .unset, .unset, .unset]) rfl (XS.aload X64.here hx rfl (hb hby at_85) rfl rfl (XS.lconst X64.here hx rfl (hb hby at_87) (kk))))))) ?_
      show Dn p e below s _ _ _ (T64.setTop (mkF m 88 #[.val (.int p0), .val (.long p1), .second, .val (.int v7), .val (.double v14), .second, .val (.ref b17), .val (.int v58), .val (.int (1 : Int32)), .unset, .unset, .unset] [(.long (0 : Int64)), (.ref b17)]))
      obtain ⟨cq88, kq88, q88a, q88b, q88c⟩ := isOf hZ hh64 E_b17_23
      obtain ⟨_, _, ⟨T88, L88, k88, n88⟩, -, X88, ⟨Lc88, hQ88, l88, y88, z88⟩, st88⟩ := X64.virtualBack hx (y := (⟨"com/example/listino/listino/market/Imitation", "buyProbability", "(J)D"⟩ : MethodName)) (z := (⟨"com/example/listino/listino/market/Imitation", "buyProbability", "(J)D"⟩ : MethodName)) hown (mvT hZ (hw _ (List.mem_of_getElem? (i := 18) rfl))) (mvT hZ (hw _ (List.mem_of_getElem? (i := 19) rfl))) (notFace_of_selects (args := #[]) (mvT hZ (hw _ (List.mem_of_getElem? (i := 21) rfl)))) (mvT hZ (hw _ (List.mem_of_getElem? (i := 21) rfl))) (mvT hZ (hw _ (List.mem_of_getElem? (i := 20) rfl))) (by decide) (backOf (W := 0) (rm4 l Z a0 hw [] b17 (0 : Int64) v14 v7.toInt T23.heap n0 Z23 F_b17_probability_23 d14 (by omega)) hZ (hw _ (List.mem_of_getElem? (i := 22) rfl)) (hw _ (List.mem_of_getElem? (i := 4) rfl)) (by decide) (by decide)) q88a q88c (g := (mkF m 88 #[.val (.int p0), .val (.long p1), .second, .val (.int v7), .val (.double v14), .second, .val (.ref b17), .val (.int v58), .val (.int (1 : Int32)), .unset, .unset, .unset] [(.long (0 : Int64)), (.ref b17)])) rfl (by rw [hml]; rfl) (Steps.refl _) (argsL := [(.long (0 : Int64))]) (rest := []) (lenOf pd2 rfl) rfl (by show 2 * 0 + _ ≤ _; exact Nat.le_of_eq rfl) (hb hby at_88) (fun _ _ => ⟨rfl, hh64, (by decide : 1 + 0 ≤ _), (by decide : 1 + 0 ≤ _)⟩)
      dsimp only [Pt.U, Pt.locs, Pt.cells, Pt.slots] at X88 l88 y88 z88 st88 hQ88
      subst l88 y88 z88
      obtain ⟨z88, rfl, d88, Nq88, hh88⟩ := hQ88
      have N88 := Fr.app N64 Nq88
      refine Dn.tr st88 ?_
      show Dn p e below s _ _ _ (T88.setTop (mkF m 91 #[.val (.int p0), .val (.long p1), .second, .val (.int v7), .val (.double v14), .second, .val (.ref b17), .val (.int v58), .val (.int (1 : Int32)), .unset, .unset, .unset] [(.double z88)]))
      refine Dn.st (fun _ kk => X88.ldc2DoubleC hx hown (mvT hZ (hw _ (List.mem_of_getElem? (i := 24) rfl))) (g := (mkF m 91 #[.val (.int p0), .val (.long p1), .second, .val (.int v7), .val (.double v14), .second, .val (.ref b17), .val (.int v58), .val (.int (1 : Int32)), .unset, .unset, .unset] [(.double z88)])) rfl (hb hby at_91) _ (XS.dcmpS X88.here hx rfl (hb hby at_94) rfl (DS.cmpV d88 (DS.cast (k' := 10) (i' := 512) ((dc_4602678819172646912).up 9) rfl (by decide)) _) (kk))) ?_
      show Dn p e below s _ _ _ (T88.setTop (mkF m 95 #[.val (.int p0), .val (.long p1), .second, .val (.int v7), .val (.double v14), .second, .val (.ref b17), .val (.int v58), .val (.int (1 : Int32)), .unset, .unset, .unset] [(.int (c3 (own_buy v7.toInt (0 : Int64)) 512))]))
      have hc95 : (c3 (own_buy v7.toInt (0 : Int64)) 512) = (0 : Int32) := (c3_eq _ _).mpr (by unfold own_buy; rw [if_pos rfl])
      refine Dn.st (fun _ kk => XS.ifNo X88.here hx rfl (hb hby at_95) rfl ((if0 _ _).trans (teq hc95).2) (XS.iconst X88.here hx rfl (hb hby at_98) (XS.goto X88.here hx rfl (pc0 := 99) (pc' := 103) rfl (hb hby at_99) (by decide) (by decide) (XS.istore X88.here hx rfl (hb hby at_103) rfl (l' := #[.val (.int p0), .val (.long p1), .second, .val (.int v7), .val (.double v14), .second, .val (.ref b17), .val (.int v58), .val (.int (1 : Int32)), .val (.int (1 : Int32)), .unset, .unset]) rfl (XS.aload X88.here hx rfl (hb hby at_105) rfl rfl (X88.ldc2Long hx hown (mvT hZ (hw _ (List.mem_of_getElem? (i := 25) rfl))) (g := (mkF m 107 #[.val (.int p0), .val (.long p1), .second, .val (.int v7), .val (.double v14), .second, .val (.ref b17), .val (.int v58), .val (.int (1 : Int32)), .val (.int (1 : Int32)), .unset, .unset] [(.ref b17)])) rfl (hb hby at_107) _ (kk))))))) ?_
      show Dn p e below s _ _ _ (T88.setTop (mkF m 110 #[.val (.int p0), .val (.long p1), .second, .val (.int v7), .val (.double v14), .second, .val (.ref b17), .val (.int v58), .val (.int (1 : Int32)), .val (.int (1 : Int32)), .unset, .unset] [(.long (9223372036854775807 : Int64)), (.ref b17)]))
      obtain ⟨cq110, kq110, q110a, q110b, q110c⟩ := isOf hZ hh88 E_b17_23
      obtain ⟨_, _, ⟨T110, L110, k110, n110⟩, -, X110, ⟨Lc110, hQ110, l110, y110, z110⟩, st110⟩ := X88.virtualBack hx (y := (⟨"com/example/listino/listino/market/Imitation", "buyProbability", "(J)D"⟩ : MethodName)) (z := (⟨"com/example/listino/listino/market/Imitation", "buyProbability", "(J)D"⟩ : MethodName)) hown (mvT hZ (hw _ (List.mem_of_getElem? (i := 18) rfl))) (mvT hZ (hw _ (List.mem_of_getElem? (i := 19) rfl))) (notFace_of_selects (args := #[]) (mvT hZ (hw _ (List.mem_of_getElem? (i := 21) rfl)))) (mvT hZ (hw _ (List.mem_of_getElem? (i := 21) rfl))) (mvT hZ (hw _ (List.mem_of_getElem? (i := 20) rfl))) (by decide) (backOf (W := 0) (rm4 l Z a0 hw [] b17 (9223372036854775807 : Int64) v14 v7.toInt T23.heap n0 Z23 F_b17_probability_23 d14 (by omega)) hZ (hw _ (List.mem_of_getElem? (i := 22) rfl)) (hw _ (List.mem_of_getElem? (i := 4) rfl)) (by decide) (by decide)) q110a q110c (g := (mkF m 110 #[.val (.int p0), .val (.long p1), .second, .val (.int v7), .val (.double v14), .second, .val (.ref b17), .val (.int v58), .val (.int (1 : Int32)), .val (.int (1 : Int32)), .unset, .unset] [(.long (9223372036854775807 : Int64)), (.ref b17)])) rfl (by rw [hml]; rfl) (Steps.refl _) (argsL := [(.long (9223372036854775807 : Int64))]) (rest := []) (lenOf pd2 rfl) rfl (by show 2 * 0 + _ ≤ _; exact Nat.le_of_eq rfl) (hb hby at_110) (fun _ _ => ⟨rfl, hh88, (by decide : 1 + 0 ≤ _), (by decide : 1 + 0 ≤ _)⟩)
      dsimp only [Pt.U, Pt.locs, Pt.cells, Pt.slots] at X110 l110 y110 z110 st110 hQ110
      subst l110 y110 z110
      obtain ⟨z110, rfl, d110, Nq110, hh110⟩ := hQ110
      have N110 := Fr.app N88 Nq110
      refine Dn.tr st110 ?_
      show Dn p e below s _ _ _ (T110.setTop (mkF m 113 #[.val (.int p0), .val (.long p1), .second, .val (.int v7), .val (.double v14), .second, .val (.ref b17), .val (.int v58), .val (.int (1 : Int32)), .val (.int (1 : Int32)), .unset, .unset] [(.double z110)]))
      refine Dn.st (fun _ kk => XS.iloadN X110.here hx rfl (hb hby at_113) rfl  (kk)) ?_
      show Dn p e below s _ _ _ (T110.setTop (mkF m 114 #[.val (.int p0), .val (.long p1), .second, .val (.int v7), .val (.double v14), .second, .val (.ref b17), .val (.int v58), .val (.int (1 : Int32)), .val (.int (1 : Int32)), .unset, .unset] [(.int v7), (.double z110)]))
      have d114 := DS.i2d v7
      refine Dn.st (fun _ kk => XS.i2dS X110.here hx rfl (hb hby at_114) rfl rfl (kk)) ?_
      show Dn p e below s _ _ _ (T110.setTop (mkF m 115 #[.val (.int p0), .val (.long p1), .second, .val (.int v7), .val (.double v14), .second, .val (.ref b17), .val (.int v58), .val (.int (1 : Int32)), .val (.int (1 : Int32)), .unset, .unset] [(.double (FP.i2d v7)), (.double z110)]))
      generalize hv114 : ((FP.i2d v7) : UInt64) = v114 at d114 ⊢
      show Dn p e below s _ _ _ (T110.setTop (mkF m 115 #[.val (.int p0), .val (.long p1), .second, .val (.int v7), .val (.double v14), .second, .val (.ref b17), .val (.int v58), .val (.int (1 : Int32)), .val (.int (1 : Int32)), .unset, .unset] [(.double v114), (.double z110)]))
      refine Dn.st (fun _ kk => X110.ldc2DoubleC hx hown (mvT hZ (hw _ (List.mem_of_getElem? (i := 1) rfl))) (g := (mkF m 115 #[.val (.int p0), .val (.long p1), .second, .val (.int v7), .val (.double v14), .second, .val (.ref b17), .val (.int v58), .val (.int (1 : Int32)), .val (.int (1 : Int32)), .unset, .unset] [(.double v114), (.double z110)])) rfl (hb hby at_115) _ (kk)) ?_
      show Dn p e below s _ _ _ (T110.setTop (mkF m 118 #[.val (.int p0), .val (.long p1), .second, .val (.int v7), .val (.double v14), .second, .val (.ref b17), .val (.int v58), .val (.int (1 : Int32)), .val (.int (1 : Int32)), .unset, .unset] [(.double (4652218415073722368 : UInt64)), (.double v114), (.double z110)]))
      have d118 : DS 10 v7.toInt (FP.ddiv v114 (4652218415073722368 : UInt64)) := DS.divp (t := 10) d114 dc_4652218415073722368 (by first | omega | decide) (by decide)
      refine Dn.st (fun _ kk => XS.ddivS X110.here hx rfl (hb hby at_118) rfl d118.nn rfl (kk)) ?_
      show Dn p e below s _ _ _ (T110.setTop (mkF m 119 #[.val (.int p0), .val (.long p1), .second, .val (.int v7), .val (.double v14), .second, .val (.ref b17), .val (.int v58), .val (.int (1 : Int32)), .val (.int (1 : Int32)), .unset, .unset] [(.double (FP.ddiv v114 (4652218415073722368 : UInt64))), (.double z110)]))
      generalize hv118 : ((FP.ddiv v114 (4652218415073722368 : UInt64)) : UInt64) = v118 at d118 ⊢
      show Dn p e below s _ _ _ (T110.setTop (mkF m 119 #[.val (.int p0), .val (.long p1), .second, .val (.int v7), .val (.double v14), .second, .val (.ref b17), .val (.int v58), .val (.int (1 : Int32)), .val (.int (1 : Int32)), .unset, .unset] [(.double v118), (.double z110)]))
      refine Dn.st (fun _ kk => XS.dcmpS X110.here hx rfl (hb hby at_119) rfl (DS.cmpV d110 d118 _) (kk)) ?_
      show Dn p e below s _ _ _ (T110.setTop (mkF m 120 #[.val (.int p0), .val (.long p1), .second, .val (.int v7), .val (.double v14), .second, .val (.ref b17), .val (.int v58), .val (.int (1 : Int32)), .val (.int (1 : Int32)), .unset, .unset] [(.int (c3 (own_buy v7.toInt (9223372036854775807 : Int64)) v7.toInt))]))
      have hc120 : (c3 (own_buy v7.toInt (9223372036854775807 : Int64)) v7.toInt) = (0 : Int32) := (c3_eq _ _).mpr (by unfold own_buy; rw [if_neg (by decide), if_pos (by decide)])
      refine Dn.st (fun _ kk => XS.ifNo X110.here hx rfl (hb hby at_120) rfl ((if0 _ _).trans (teq hc120).2) (XS.iconst X110.here hx rfl (hb hby at_123) (XS.goto X110.here hx rfl (pc0 := 124) (pc' := 128) rfl (hb hby at_124) (by decide) (by decide) (XS.istore X110.here hx rfl (hb hby at_128) rfl (l' := #[.val (.int p0), .val (.long p1), .second, .val (.int v7), .val (.double v14), .second, .val (.ref b17), .val (.int v58), .val (.int (1 : Int32)), .val (.int (1 : Int32)), .val (.int (1 : Int32)), .unset]) rfl (XS.aload X110.here hx rfl (hb hby at_130) rfl rfl (X110.ldc2Long hx hown (mvT hZ (hw _ (List.mem_of_getElem? (i := 26) rfl))) (g := (mkF m 132 #[.val (.int p0), .val (.long p1), .second, .val (.int v7), .val (.double v14), .second, .val (.ref b17), .val (.int v58), .val (.int (1 : Int32)), .val (.int (1 : Int32)), .val (.int (1 : Int32)), .unset] [(.ref b17)])) rfl (hb hby at_132) _ (kk))))))) ?_
      show Dn p e below s _ _ _ (T110.setTop (mkF m 135 #[.val (.int p0), .val (.long p1), .second, .val (.int v7), .val (.double v14), .second, .val (.ref b17), .val (.int v58), .val (.int (1 : Int32)), .val (.int (1 : Int32)), .val (.int (1 : Int32)), .unset] [(.long (-9223372036854775808 : Int64)), (.ref b17)]))
      obtain ⟨cq135, kq135, q135a, q135b, q135c⟩ := isOf hZ hh110 E_b17_23
      obtain ⟨_, _, ⟨T135, L135, k135, n135⟩, -, X135, ⟨Lc135, hQ135, l135, y135, z135⟩, st135⟩ := X110.virtualBack hx (y := (⟨"com/example/listino/listino/market/Imitation", "buyProbability", "(J)D"⟩ : MethodName)) (z := (⟨"com/example/listino/listino/market/Imitation", "buyProbability", "(J)D"⟩ : MethodName)) hown (mvT hZ (hw _ (List.mem_of_getElem? (i := 18) rfl))) (mvT hZ (hw _ (List.mem_of_getElem? (i := 19) rfl))) (notFace_of_selects (args := #[]) (mvT hZ (hw _ (List.mem_of_getElem? (i := 21) rfl)))) (mvT hZ (hw _ (List.mem_of_getElem? (i := 21) rfl))) (mvT hZ (hw _ (List.mem_of_getElem? (i := 20) rfl))) (by decide) (backOf (W := 0) (rm4 l Z a0 hw [] b17 (-9223372036854775808 : Int64) v14 v7.toInt T23.heap n0 Z23 F_b17_probability_23 d14 (by omega)) hZ (hw _ (List.mem_of_getElem? (i := 22) rfl)) (hw _ (List.mem_of_getElem? (i := 4) rfl)) (by decide) (by decide)) q135a q135c (g := (mkF m 135 #[.val (.int p0), .val (.long p1), .second, .val (.int v7), .val (.double v14), .second, .val (.ref b17), .val (.int v58), .val (.int (1 : Int32)), .val (.int (1 : Int32)), .val (.int (1 : Int32)), .unset] [(.long (-9223372036854775808 : Int64)), (.ref b17)])) rfl (by rw [hml]; rfl) (Steps.refl _) (argsL := [(.long (-9223372036854775808 : Int64))]) (rest := []) (lenOf pd2 rfl) rfl (by show 2 * 0 + _ ≤ _; exact Nat.le_of_eq rfl) (hb hby at_135) (fun _ _ => ⟨rfl, hh110, (by decide : 1 + 0 ≤ _), (by decide : 1 + 0 ≤ _)⟩)
      dsimp only [Pt.U, Pt.locs, Pt.cells, Pt.slots] at X135 l135 y135 z135 st135 hQ135
      subst l135 y135 z135
      obtain ⟨z135, rfl, d135, Nq135, hh135⟩ := hQ135
      have N135 := Fr.app N110 Nq135
      refine Dn.tr st135 ?_
      show Dn p e below s _ _ _ (T135.setTop (mkF m 138 #[.val (.int p0), .val (.long p1), .second, .val (.int v7), .val (.double v14), .second, .val (.ref b17), .val (.int v58), .val (.int (1 : Int32)), .val (.int (1 : Int32)), .val (.int (1 : Int32)), .unset] [(.double z135)]))
      refine Dn.st (fun _ kk => XS.sipush X135.here hx rfl (hb hby at_138) (XS.iloadN X135.here hx rfl (hb hby at_141) rfl  (XS.isub X135.here hx rfl (hb hby at_142) rfl (kk)))) ?_
      show Dn p e below s _ _ _ (T135.setTop (mkF m 143 #[.val (.int p0), .val (.long p1), .second, .val (.int v7), .val (.double v14), .second, .val (.ref b17), .val (.int v58), .val (.int (1 : Int32)), .val (.int (1 : Int32)), .val (.int (1 : Int32)), .unset] [(.int ((1024 : Int32) - v7)), (.double z135)]))
      generalize hv142 : (((1024 : Int32) - v7) : Int32) = v142
      have q142 : (v142.toInt - (1024 - v7.toInt)) % 4294967296 = 0 := by have qq := c_isub (1024 : Int32) v7; rw [hv142] at qq; exact qq
      have r142 := rng32 v142
      show Dn p e below s _ _ _ (T135.setTop (mkF m 143 #[.val (.int p0), .val (.long p1), .second, .val (.int v7), .val (.double v14), .second, .val (.ref b17), .val (.int v58), .val (.int (1 : Int32)), .val (.int (1 : Int32)), .val (.int (1 : Int32)), .unset] [(.int v142), (.double z135)]))
      have d143 := DS.i2d v142
      refine Dn.st (fun _ kk => XS.i2dS X135.here hx rfl (hb hby at_143) rfl rfl (kk)) ?_
      show Dn p e below s _ _ _ (T135.setTop (mkF m 144 #[.val (.int p0), .val (.long p1), .second, .val (.int v7), .val (.double v14), .second, .val (.ref b17), .val (.int v58), .val (.int (1 : Int32)), .val (.int (1 : Int32)), .val (.int (1 : Int32)), .unset] [(.double (FP.i2d v142)), (.double z135)]))
      generalize hv143 : ((FP.i2d v142) : UInt64) = v143 at d143 ⊢
      show Dn p e below s _ _ _ (T135.setTop (mkF m 144 #[.val (.int p0), .val (.long p1), .second, .val (.int v7), .val (.double v14), .second, .val (.ref b17), .val (.int v58), .val (.int (1 : Int32)), .val (.int (1 : Int32)), .val (.int (1 : Int32)), .unset] [(.double v143), (.double z135)]))
      refine Dn.st (fun _ kk => X135.ldc2DoubleC hx hown (mvT hZ (hw _ (List.mem_of_getElem? (i := 1) rfl))) (g := (mkF m 144 #[.val (.int p0), .val (.long p1), .second, .val (.int v7), .val (.double v14), .second, .val (.ref b17), .val (.int v58), .val (.int (1 : Int32)), .val (.int (1 : Int32)), .val (.int (1 : Int32)), .unset] [(.double v143), (.double z135)])) rfl (hb hby at_144) _ (kk)) ?_
      show Dn p e below s _ _ _ (T135.setTop (mkF m 147 #[.val (.int p0), .val (.long p1), .second, .val (.int v7), .val (.double v14), .second, .val (.ref b17), .val (.int v58), .val (.int (1 : Int32)), .val (.int (1 : Int32)), .val (.int (1 : Int32)), .unset] [(.double (4652218415073722368 : UInt64)), (.double v143), (.double z135)]))
      have d147 : DS 10 v142.toInt (FP.ddiv v143 (4652218415073722368 : UInt64)) := DS.divp (t := 10) d143 dc_4652218415073722368 (by first | omega | decide) (by decide)
      refine Dn.st (fun _ kk => XS.ddivS X135.here hx rfl (hb hby at_147) rfl d147.nn rfl (kk)) ?_
      show Dn p e below s _ _ _ (T135.setTop (mkF m 148 #[.val (.int p0), .val (.long p1), .second, .val (.int v7), .val (.double v14), .second, .val (.ref b17), .val (.int v58), .val (.int (1 : Int32)), .val (.int (1 : Int32)), .val (.int (1 : Int32)), .unset] [(.double (FP.ddiv v143 (4652218415073722368 : UInt64))), (.double z135)]))
      generalize hv147 : ((FP.ddiv v143 (4652218415073722368 : UInt64)) : UInt64) = v147 at d147 ⊢
      show Dn p e below s _ _ _ (T135.setTop (mkF m 148 #[.val (.int p0), .val (.long p1), .second, .val (.int v7), .val (.double v14), .second, .val (.ref b17), .val (.int v58), .val (.int (1 : Int32)), .val (.int (1 : Int32)), .val (.int (1 : Int32)), .unset] [(.double v147), (.double z135)]))
      refine Dn.st (fun _ kk => XS.dcmpS X135.here hx rfl (hb hby at_148) rfl (DS.cmpV d135 d147 _) (kk)) ?_
      show Dn p e below s _ _ _ (T135.setTop (mkF m 149 #[.val (.int p0), .val (.long p1), .second, .val (.int v7), .val (.double v14), .second, .val (.ref b17), .val (.int v58), .val (.int (1 : Int32)), .val (.int (1 : Int32)), .val (.int (1 : Int32)), .unset] [(.int (c3 (own_buy v7.toInt (-9223372036854775808 : Int64)) v142.toInt))]))
      have hc149 : (c3 (own_buy v7.toInt (-9223372036854775808 : Int64)) v142.toInt) = (0 : Int32) := (c3_eq _ _).mpr (by unfold own_buy; rw [if_neg (by decide), if_neg (by decide)] <;> omega)
      refine Dn.st (fun _ kk => XS.ifNo X135.here hx rfl (hb hby at_149) rfl ((if0 _ _).trans (teq hc149).2) (XS.iconst X135.here hx rfl (hb hby at_152) (XS.goto X135.here hx rfl (pc0 := 153) (pc' := 157) rfl (hb hby at_153) (by decide) (by decide) (XS.istore X135.here hx rfl (hb hby at_157) rfl (l' := #[.val (.int p0), .val (.long p1), .second, .val (.int v7), .val (.double v14), .second, .val (.ref b17), .val (.int v58), .val (.int (1 : Int32)), .val (.int (1 : Int32)), .val (.int (1 : Int32)), .val (.int (1 : Int32))]) rfl (XS.iload X135.here hx rfl (hb hby at_159) rfl  (kk)))))) ?_
      show Dn p e below s _ _ _ (T135.setTop (mkF m 161 #[.val (.int p0), .val (.long p1), .second, .val (.int v7), .val (.double v14), .second, .val (.ref b17), .val (.int v58), .val (.int (1 : Int32)), .val (.int (1 : Int32)), .val (.int (1 : Int32)), .val (.int (1 : Int32))] [(.int (1 : Int32))]))
      have hc161 : ¬ ((1 : Int32) = (0 : Int32)) := by decide
      refine Dn.st (fun _ kk => XS.ifNo X135.here hx rfl (hb hby at_161) rfl ((if0 _ _).trans (feq hc161).1) (XS.iload X135.here hx rfl (hb hby at_164) rfl  (kk))) ?_
      show Dn p e below s _ _ _ (T135.setTop (mkF m 166 #[.val (.int p0), .val (.long p1), .second, .val (.int v7), .val (.double v14), .second, .val (.ref b17), .val (.int v58), .val (.int (1 : Int32)), .val (.int (1 : Int32)), .val (.int (1 : Int32)), .val (.int (1 : Int32))] [(.int (1 : Int32))]))
      have hc166 : ¬ ((1 : Int32) = (0 : Int32)) := by decide
      refine Dn.st (fun _ kk => XS.ifNo X135.here hx rfl (hb hby at_166) rfl ((if0 _ _).trans (feq hc166).1) (XS.iload X135.here hx rfl (hb hby at_169) rfl  (kk))) ?_
      show Dn p e below s _ _ _ (T135.setTop (mkF m 171 #[.val (.int p0), .val (.long p1), .second, .val (.int v7), .val (.double v14), .second, .val (.ref b17), .val (.int v58), .val (.int (1 : Int32)), .val (.int (1 : Int32)), .val (.int (1 : Int32)), .val (.int (1 : Int32))] [(.int (1 : Int32))]))
      have hc171 : ¬ ((1 : Int32) = (0 : Int32)) := by decide
      refine Dn.st (fun _ kk => XS.ifNo X135.here hx rfl (hb hby at_171) rfl ((if0 _ _).trans (feq hc171).1) (XS.iload X135.here hx rfl (hb hby at_174) rfl  (kk))) ?_
      show Dn p e below s _ _ _ (T135.setTop (mkF m 176 #[.val (.int p0), .val (.long p1), .second, .val (.int v7), .val (.double v14), .second, .val (.ref b17), .val (.int v58), .val (.int (1 : Int32)), .val (.int (1 : Int32)), .val (.int (1 : Int32)), .val (.int (1 : Int32))] [(.int (1 : Int32))]))
      have hc176 : ¬ ((1 : Int32) = (0 : Int32)) := by decide
      refine Dn.st (fun _ kk => XS.ifNo X135.here hx rfl (hb hby at_176) rfl ((if0 _ _).trans (feq hc176).1) (XS.iconst X135.here hx rfl (hb hby at_179) (XS.goto X135.here hx rfl (pc0 := 180) (pc' := 184) rfl (hb hby at_180) (by decide) (by decide) (kk)))) ?_
      show Dn p e below s _ _ _ (T135.setTop (mkF m 184 #[.val (.int p0), .val (.long p1), .second, .val (.int v7), .val (.double v14), .second, .val (.ref b17), .val (.int v58), .val (.int (1 : Int32)), .val (.int (1 : Int32)), .val (.int (1 : Int32)), .val (.int (1 : Int32))] [(.int (1 : Int32))]))
      exact Dn.ret X135 hlk hx hret rfl (Or.inl ⟨rfl, Or.inr (Or.inl rfl), _, rfl⟩) (hb hby at_184) (by rw [hh135]; exact ⟨rfl, N135⟩) (by decide) (by decide)

set_option maxRecDepth 65536 in
set_option maxHeartbeats 40000000 in
theorem comes_1 {Post : Tables → Env → Array Value → State → Outcome → State → Prop} (hpost : ∀ tb e args s v u, (limb_1_1.after args s (.returned v) u = true ∧ limb_1_2.after args s (.returned v) u = true ∧ True) → FrameEnd s (.returned v) u (Jvm.fieldLocs frame_1_writes args s ++ Jvm.arrayLocs frame_1_arrays args s ++ Jvm.staticLocs frame_1_statics s) 16 128 → Post tb e args s (.returned v) u) :
    ArmFor flags0 classFile x code maxLocals ret World_1 tables_1 room_1 Calls_1 rest_1 Pre_1 Post := by
  intro l hfl _ _ p e ha hc hk s m args below hf hA hF happ hP
  obtain ⟨hcalls, hrest, hpre⟩ := hP
  obtain ⟨-, -, -, hnamed, -, -, -, hat⟩ := (Spec.applies_iff hf).mp happ
  obtain ⟨hg, hn⟩ := and_e (Cond.before_iff.mp (show (Jvm.Cond.and given_1 narrow_1).before args s = true from hpre))
  obtain ⟨g1a, g1b⟩ := and_e hg
  obtain ⟨g2a, g2b⟩ := and_e g1b
  obtain ⟨w0, w1, rfl⟩ : ∃ w0 w1 : Value, args = #[w0, w1] := by
    have hs : args.size = 2 := by simpa [Cond.value, given_1] using g1a
    obtain ⟨L⟩ := args
    match L, hs with
    | [w0, w1], _ => exact ⟨w0, w1, rfl⟩
  have hw := fun d (hd : d ∈ tables_1) => atoms_spec (ws := Jvm.Cond.code x code maxLocals ret :: tables_1) hat d (List.mem_cons_of_mem _ hd)
  have hfit : Fit s := fun {y c} hc i hi => by
    obtain ⟨ha, rfl⟩ := Array.getElem?_eq_some_iff.mp hc
    have q := List.all_eq_true.mp ((Array.all_eq_true_iff_forall_mem.mp hF) _ (Array.getElem_mem ha)) i (List.mem_range.mpr hi)
    simpa [Array.getElem?_eq_getElem hi] using q
  obtain ⟨i0, ei0⟩ := is_v g2a
  obtain rfl : w0 = (.int i0) := Option.some.inj ei0
  obtain ⟨i1, ei1⟩ := isL_v g2b
  obtain rfl : w1 = (.long i1) := Option.some.inj ei1
  obtain ⟨n, o, h1, h2, h3, _, L, rfl, ⟨rfl, N⟩, hq⟩ := rm0 l s _ hw tables_1 i0 i1  s.heap s.heap.size (Nat.le_refl _)  p e ha hc hk s m _ below hf ((Spec.applies_iff_loose hf).mp happ).1 ⟨rfl, State.Warmed39.refl s, rfl⟩ trivial
  refine ⟨n, _, h1, h2, h3, hpost _ _ _ _ _ _ ⟨Cond.after_iff.mpr rfl, Cond.after_iff.mpr (eq_i res_at (Term.int_eval (1)) rfl), trivial⟩ ⟨hq.1, hq.2.1, (hq.2.2.sift fun y hy => Or.inr (N y hy)).mono (by decide) (by decide)⟩⟩
theorem main_1_1 : Claimed_1_1 := comes_1 fun _ _ _ _ _ _ h hF => ⟨h.1, hF⟩
theorem main_1_2 : Claimed_1_2 := comes_1 fun _ _ _ _ _ _ h hF => ⟨h.2.1, hF⟩
end Jvm.Pilot.@@N@@
namespace Jvm.Pilot.@@N@@
open Jvm Jvm.ClassFile Sem Op Lib Jvm.Free Jvm.Stand Jvm.Pilot.@@N@@.Jvm.D
/-! MADE BY PROGRAM (witnessworld.py) out of the Statement's table words and the real class files: 10 classes; the members and pool entries that the words name. The judged class is class 1, her method 1. -/
namespace start1
open Jvm.ClassFile
def u (s : String) : CpInfo := .utf8 (stringToUtf16 s)
/-- a pool by its gaps: so many unusable entries, then the entry; so many at the end -/
def gap : Nat → List CpInfo → List CpInfo
  | 0, r => r
  | n + 1, r => .unusable :: gap n r
def poolList (es : List (Nat × CpInfo)) (last : Nat) : List CpInfo := es.foldr (fun e r => gap e.1 (e.2 :: r)) (gap last [])
def pool (es : List (Nat × CpInfo)) (last : Nat) : Array CpInfo := ⟨poolList es last⟩
def fileOf (pool : Array CpInfo) (this : Nat) (attrs : Array Attribute := #[]) (ms : Array MethodInfo := #[]) (fl : Nat := 33) (sup : Nat := 0) (ifs : Array Nat := #[]) (fds : Array FieldInfo := #[]) : ClassFile where
  minorVersion := 0
  majorVersion := 65
  constantPool := pool
  accessFlags := fl
  thisClass := this
  superClass := sup
  interfaces := ifs
  fields := fds
  methods := ms
  attributes := attrs
def plain (name : String) (sup : Option ClassId) : Class where
  name := name
  kind := .ordinary
  loader := none
  accessFlags := 33
  super := sup
  interfaces := #[]
  cf := none
  fields := #[]
  methods := #[]
  instanceTypes := #[]
  staticTypes := #[]
  resolved := #[]
  callSites := []
  init := .initialized
  statics := none
  mirror := none

def pool0 : Array CpInfo := pool [(5, u "<init>"), (0, u "()V"), (1, .class_ 10), (1, u "java/lang/Object")] 113

def k0c0 : Code := { maxStack := 0, maxLocals := 1, code := object_method_1_code, exceptionTable := #[], attributes := #[] }
def k0m0 : Method := { name := "<init>", desc := "()V", sig := { parameters := [], returnType := none }, accessFlags := 1, code := some k0c0 }
/-- java/lang/Object -/
def k0 : Class := { plain "java/lang/Object" none with
  accessFlags := 33
  interfaces := #[]
  cf := some (fileOf pool0 8 #[] #[{ accessFlags := 1, nameIndex := 5, descriptorIndex := 6, attributes := #[] }] 33 0 #[] #[])
  fields := #[]
  methods := #[k0m0]
  instanceTypes := #[]
  staticTypes := #[]
  resolved := Array.replicate 124 none
  statics := none }

def pool1 : Array CpInfo := pool [(2, .class_ 4), (1, u "java/lang/Object"), (0, u "<init>"), (0, u "()V"), (0, .integer 2147483647), (0, .double 4652218415073722368), (1, .class_ 11), (0, u "com/example/listino/listino/market/Imitation"), (0, .methodref 10 13), (0, .nameAndType 5 14), (0, u "(D)V"), (0, .methodref 10 16), (0, .nameAndType 17 18), (0, u "buyProbability"), (0, u "(J)D"), (0, .double 4602678819172646912), (3, .long 9223372036854775807), (1, .long 9223372036854775808), (1, .class_ 28), (0, u "com/example/listino/listino/market/ImitationBuyProbabilityPinLaw"), (2, u "law"), (0, u "(IJ)Z")] 3

def k1m0 : Method := { name := "<init>", desc := "()V", sig := { parameters := [], returnType := none }, accessFlags := 1, code := none }
def k1c1 : Code := { maxStack := 6, maxLocals := 12, code := code, exceptionTable := #[], attributes := #[] }
def k1m1 : Method := { name := "law", desc := "(IJ)Z", sig := { parameters := [.int, .long], returnType := some .boolean }, accessFlags := 9, code := some k1c1 }
/-- com/example/listino/listino/market/ImitationBuyProbabilityPinLaw -/
def k1 : Class := { plain "com/example/listino/listino/market/ImitationBuyProbabilityPinLaw" (some 0) with
  accessFlags := 49
  interfaces := #[]
  cf := some (fileOf pool1 27 #[] #[{ accessFlags := 1, nameIndex := 5, descriptorIndex := 6, attributes := #[] }, { accessFlags := 9, nameIndex := 31, descriptorIndex := 32, attributes := #[] }] 49 2 #[] #[])
  fields := #[]
  methods := #[k1m0, k1m1]
  instanceTypes := #[]
  staticTypes := #[]
  resolved := Array.replicate 36 none
  statics := none }

def pool2 : Array CpInfo := pool [(1, .methodref 2 3), (0, .class_ 4), (0, .nameAndType 5 6), (0, u "java/lang/Object"), (0, u "<init>"), (0, u "()V"), (0, .class_ 8), (0, u "java/lang/Record")] 13

def k2c0 : Code := { maxStack := 1, maxLocals := 1, code := jdk_30_method_1_code, exceptionTable := #[], attributes := #[] }
def k2m0 : Method := { name := "<init>", desc := "()V", sig := { parameters := [], returnType := none }, accessFlags := 4, code := some k2c0 }
/-- java/lang/Record -/
def k2 : Class := { plain "java/lang/Record" (some 0) with
  accessFlags := 1057
  interfaces := #[]
  cf := some (fileOf pool2 7 #[] #[{ accessFlags := 4, nameIndex := 5, descriptorIndex := 6, attributes := #[] }] 1057 2 #[] #[])
  fields := #[]
  methods := #[k2m0]
  instanceTypes := #[]
  staticTypes := #[]
  resolved := Array.replicate 22 none
  statics := none }

def pool3 : Array CpInfo := pool [(1, .methodref 2 3), (0, .class_ 4), (0, .nameAndType 5 6), (0, u "java/lang/Record"), (0, u "<init>"), (0, u "()V"), (0, .fieldref 8 9), (0, .class_ 10), (0, .nameAndType 11 12), (0, u "com/example/listino/listino/market/Imitation"), (0, u "probability"), (0, u "D"), (14, u "buyProbability"), (0, u "(J)D"), (9, .double 4602678819172646912), (13, u "(D)V")] 28

def k3c0 : Code := { maxStack := 3, maxLocals := 3, code := prog_31_method_1_code, exceptionTable := #[], attributes := #[] }
def k3m0 : Method := { name := "<init>", desc := "(D)V", sig := { parameters := [.double], returnType := none }, accessFlags := 1, code := some k3c0 }
def k3c1 : Code := { maxStack := 4, maxLocals := 3, code := prog_31_method_3_code, exceptionTable := #[], attributes := #[] }
def k3m1 : Method := { name := "buyProbability", desc := "(J)D", sig := { parameters := [.long], returnType := some .double }, accessFlags := 0, code := some k3c1 }
/-- com/example/listino/listino/market/Imitation -/
def k3 : Class := { plain "com/example/listino/listino/market/Imitation" (some 2) with
  accessFlags := 49
  interfaces := #[]
  cf := some (fileOf pool3 8 #[] #[{ accessFlags := 1, nameIndex := 5, descriptorIndex := 52, attributes := #[] }, { accessFlags := 0, nameIndex := 27, descriptorIndex := 28, attributes := #[] }] 49 2 #[] #[{ accessFlags := 18, nameIndex := 11, descriptorIndex := 12, attributes := #[] }])
  fields := #[{ name := "probability", type := .double, accessFlags := 18, slot := 0, constantValue := 0 }]
  methods := #[k3m0, k3m1]
  instanceTypes := #[.double]
  staticTypes := #[]
  resolved := Array.replicate 81 none
  statics := none }

def pool4 : Array CpInfo := pool [(1, u "java/lang/Cloneable"), (0, .class_ 1), (0, u "java/lang/Object"), (0, .class_ 3)] 3

/-- java/lang/Cloneable -/
def k4 : Class := { plain "java/lang/Cloneable" (some 0) with
  accessFlags := 1537
  interfaces := #[]
  cf := some (fileOf pool4 2 #[] #[] 1537 4 #[] #[])
  fields := #[]
  methods := #[]
  instanceTypes := #[]
  staticTypes := #[]
  resolved := Array.replicate 8 none
  statics := none }

def pool5 : Array CpInfo := pool [(1, u "java/io/Serializable"), (0, .class_ 1), (0, u "java/lang/Object"), (0, .class_ 3)] 3

/-- java/io/Serializable -/
def k5 : Class := { plain "java/io/Serializable" (some 0) with
  accessFlags := 1537
  interfaces := #[]
  cf := some (fileOf pool5 2 #[] #[] 1537 4 #[] #[])
  fields := #[]
  methods := #[]
  instanceTypes := #[]
  staticTypes := #[]
  resolved := Array.replicate 8 none
  statics := none }

/-- the primitive byte -/
def k6 : Class := { plain "byte" none with kind := .primitive 'B', accessFlags := 0x411 }
/-- [B -/
def k7 : Class := { plain "[B" (some 0) with kind := .array 6 .byte, interfaces := #[4, 5], accessFlags := 1041 }

/-- the primitive int -/
def k8 : Class := { plain "int" none with kind := .primitive 'I', accessFlags := 0x411 }
/-- [I -/
def k9 : Class := { plain "[I" (some 0) with kind := .array 8 .int, interfaces := #[4, 5], accessFlags := 1041 }

def heap : Heap := #[]
def classes : Array Class := #[k0, k1, k2, k3, k4, k5, k6, k7, k8, k9]
def interned : List (Array UInt16 × Addr) := []
def slotsUsed : Nat := 0
def theMethod : MethodId := ⟨1, 1⟩
def args0 : Array Value := #[.int 5, .long 7]
def aboutOver (below : List Frame) : State where
  vm := { classes := classes, interned := interned.toArray }
  heap := heap
  slotsUsed := slotsUsed
  threads := #[{ frames := .invoking theMethod args0 :: below }]
def below0 : List Frame := [.native { method := ⟨0, 0⟩, args := #[] }]
def about1 : State := aboutOver below0
def p0 : Program := .bare "" "" ""
def e0 : Env := launch0.env 0 0 0
theorem w_frames : about1.frames = Frame.invoking theMethod args0 :: below0 := rfl
set_option maxRecDepth 65536 in
theorem w_args : argsFit about1.vm theMethod args0 = true := by decide +kernel
set_option maxRecDepth 65536 in
theorem w_heap : heapFits about1 = true := by decide +kernel
set_option maxRecDepth 65536 in
theorem w_runnable : about1.curStatus? = some .runnable := by decide +kernel
set_option maxRecDepth 65536 in
theorem w_alone : about1.alone = true := by decide +kernel
set_option maxRecDepth 65536 in
theorem w_named : about1.methodNamed? x = some theMethod := by decide +kernel
set_option maxRecDepth 65536 in
theorem w_hears : about1.hears theMethod below0 = true := by decide +kernel
set_option maxRecDepth 65536 in
theorem w_ripe : about1.ripe theMethod args0 below0 = true := by decide +kernel
theorem w_running : about1.status = .running := rfl
set_option maxRecDepth 65536 in
theorem w_room : about1.hasRoom e0.platform room_1 = true :=
  launch0.hasRoom_least _ room_1 (by decide +kernel) (by decide +kernel) (by decide +kernel) (by decide +kernel) (by decide +kernel) (by decide +kernel)
theorem allAtoms_all (ts : List Jvm.Cond) (a : Array Jvm.Value) (st : Jvm.State) : (allAtoms ts).before a st = ts.all (fun c => c.before a st) := by
  induction ts with
  | nil => rfl
  | cons c t ih =>
    show (Jvm.Cond.and c (allAtoms t)).before a st = _
    rw [Jvm.Cond.before_and, ih, List.all_cons]
def words1 : List Jvm.Cond := Jvm.Cond.code x code maxLocals ret :: tables_1
/-- a 'code' word, met by the world's own term for the bytes: nothing is compared byte by byte -/
theorem code_word {y : MethodName} {bytes : ByteArray} {mx : Nat} {rt : Option FieldType} {a : Array Value} {s : State} {m : MethodId} {meth : Method} {c : Code} (h1 : s.methodNamed? y = some m) (h2 : s.vm.method? m = some meth) (h3 : meth.code = some c) (h4 : c.code = bytes)
    (h5 : (c.maxLocals == mx && c.exceptionTable.isEmpty && decide (c.maxStack ≤ mostOperands) && decide (meth.sig.returnType = rt) && !meth.locks && decide (parseMethodDescriptor y.desc = some meth.sig)) = true) : (Jvm.Cond.code y bytes mx rt).before a s = true := by
  simp only [Bool.and_eq_true, beq_iff_eq, Bool.not_eq_true', decide_eq_true_eq] at h5
  obtain ⟨⟨⟨⟨⟨g1, g2⟩, g3⟩, g4⟩, g5⟩, g6⟩ := h5
  simp [Cond.before, Cond.holds, Cond.value, h1, h2, h3, h4, g1, g2, g3, g4, g5, g6]
def isCode : Jvm.Cond → Bool
  | .code _ _ _ _ => true
  | _ => false
theorem all_split {L : List Jvm.Cond} {P : Jvm.Cond → Bool} (h1 : L.all (fun c => isCode c || P c) = true) (h2 : ∀ c ∈ L.filter isCode, P c = true) : L.all P = true := by
  refine List.all_eq_true.mpr fun c hc => ?_
  have h := List.all_eq_true.mp h1 c hc
  rcases Bool.eq_false_or_eq_true (isCode c) with hi | hi
  · exact h2 c (List.mem_filter.mpr ⟨hc, hi⟩)
  · simpa [hi] using h
set_option maxRecDepth 65536 in
theorem w_c0 : (Jvm.Cond.code x code maxLocals ret).before args0 about1 = true := code_word (m := ⟨1, 1⟩) (meth := k1m1) (c := k1c1) (by decide +kernel) rfl rfl rfl (by decide +kernel)
set_option maxRecDepth 65536 in
theorem w_c1 : (Jvm.Cond.code ({ cls := "com/example/listino/listino/market/Imitation", name := "<init>", desc := "(D)V" } : Jvm.MethodName) prog_31_method_1_code (3 : Nat) (Option.none : Option Jvm.ClassFile.FieldType)).before args0 about1 = true := code_word (m := ⟨3, 0⟩) (meth := k3m0) (c := k3c0) (by decide +kernel) rfl rfl rfl (by decide +kernel)
set_option maxRecDepth 65536 in
theorem w_c2 : (Jvm.Cond.code ({ cls := "java/lang/Record", name := "<init>", desc := "()V" } : Jvm.MethodName) jdk_30_method_1_code (1 : Nat) (Option.none : Option Jvm.ClassFile.FieldType)).before args0 about1 = true := code_word (m := ⟨2, 0⟩) (meth := k2m0) (c := k2c0) (by decide +kernel) rfl rfl rfl (by decide +kernel)
set_option maxRecDepth 65536 in
theorem w_c3 : (Jvm.Cond.code ({ cls := "java/lang/Object", name := "<init>", desc := "()V" } : Jvm.MethodName) object_method_1_code (1 : Nat) (Option.none : Option Jvm.ClassFile.FieldType)).before args0 about1 = true := code_word (m := ⟨0, 0⟩) (meth := k0m0) (c := k0c0) (by decide +kernel) rfl rfl rfl (by decide +kernel)
set_option maxRecDepth 65536 in
theorem w_c4 : (Jvm.Cond.code ({ cls := "com/example/listino/listino/market/Imitation", name := "buyProbability", desc := "(J)D" } : Jvm.MethodName) prog_31_method_3_code (3 : Nat) (Option.some Jvm.ClassFile.FieldType.double)).before args0 about1 = true := code_word (m := ⟨3, 1⟩) (meth := k3m1) (c := k3c1) (by decide +kernel) rfl rfl rfl (by decide +kernel)
def codes1 : List Jvm.Cond := [Jvm.Cond.code x code maxLocals ret, Jvm.Cond.code ({ cls := "com/example/listino/listino/market/Imitation", name := "<init>", desc := "(D)V" } : Jvm.MethodName) prog_31_method_1_code (3 : Nat) (Option.none : Option Jvm.ClassFile.FieldType), Jvm.Cond.code ({ cls := "java/lang/Record", name := "<init>", desc := "()V" } : Jvm.MethodName) jdk_30_method_1_code (1 : Nat) (Option.none : Option Jvm.ClassFile.FieldType), Jvm.Cond.code ({ cls := "java/lang/Object", name := "<init>", desc := "()V" } : Jvm.MethodName) object_method_1_code (1 : Nat) (Option.none : Option Jvm.ClassFile.FieldType), Jvm.Cond.code ({ cls := "com/example/listino/listino/market/Imitation", name := "buyProbability", desc := "(J)D" } : Jvm.MethodName) prog_31_method_3_code (3 : Nat) (Option.some Jvm.ClassFile.FieldType.double)]
set_option maxRecDepth 65536 in
theorem codes_eq : words1.filter isCode = codes1 := rfl
theorem w_codes : ∀ c ∈ words1.filter isCode, c.before args0 about1 = true := by
  rw [codes_eq]
  intro c hc
  simp only [codes1, List.mem_cons, List.not_mem_nil, or_false] at hc
  rcases hc with rfl | rfl | rfl | rfl | rfl
  · exact w_c0
  · exact w_c1
  · exact w_c2
  · exact w_c3
  · exact w_c4
set_option maxRecDepth 65536 in
theorem w_t1 : (words1.take 24).all (fun c => isCode c || c.before args0 about1) = true := by decide +kernel
set_option maxRecDepth 65536 in
theorem w_t2 : (words1.drop 24).all (fun c => isCode c || c.before args0 about1) = true := by decide +kernel
theorem w_tables : (allAtoms (Jvm.Cond.code x code maxLocals ret :: tables_1)).before args0 about1 = true := by
  rw [allAtoms_all]
  show words1.all (fun c => c.before args0 about1) = true
  refine all_split ?_ w_codes
  rw [← List.take_append_drop 24 words1, List.all_append, w_t1, w_t2]
  rfl
set_option maxRecDepth 65536 in
theorem w_case : (Jvm.Cond.and given_1 narrow_1).before args0 about1 = true := by decide +kernel
theorem w_applies : (headSpec (Jvm.Cond.code x code maxLocals ret :: tables_1) room_1).applies x e0.platform about1 = true :=
  (Spec.applies_iff w_frames).mpr ⟨w_running, w_runnable, w_alone, w_named, w_hears, w_ripe, w_room, w_tables⟩
theorem atStart : AtStart classFile x code maxLocals ret World_1 tables_1 room_1 Calls_1 rest_1 Pre_1 launch0 p0 e0 about1 theMethod args0 below0 :=
  ⟨lists_1, trivial, launch0.admits_env _ _ _, launch0.least_env, fairChoices_fair.cas, fairChoices_fair.clock, w_frames, w_args, w_heap, w_applies, trivial, trivial, w_case⟩
end start1
theorem witness_1 : WitnessClaimed_1 := ⟨start1.p0, start1.e0, start1.about1, start1.theMethod, start1.args0, start1.below0, start1.atStart⟩
end Jvm.Pilot.@@N@@
